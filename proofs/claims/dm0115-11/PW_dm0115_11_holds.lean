import PyProof.Rows.All
import Wide.All
import OpenK.AllK
import Wide.FinOn
import PySem.Challenge.RW_dm0115_11
open PySem PySem.W PySem.Calls PyProof.Rows
set_option Elab.async false
set_option maxRecDepth 100000
set_option linter.unusedVariables false
set_option linter.unusedSectionVars false
set_option linter.unusedSimpArgs false
namespace Mine

/-- data -/
inductive D where
  | int (i : Int)
  | str (x : Str)
  | val (v : Value)
  | tuple (ds : List D)
  | list (ds : List D)
  | range (a b : Int)
  | flt (b : UInt64)
  | obj (p : Obj → Prop)
  | abs (p : Value → List (Addr × Obj) → Prop)

/-- the kind of an iterator's object -/
def IterObj (o : Obj) : Prop := ∃ nm vs, o.cls = .type nm ∧ o.data = .fields vs ∧ nm ≠ "range" ∧ nm ≠ "code" ∧ nm ≠ "member_descriptor"

abbrev D.bool (b : Bool) : D := .val (.bool b)
abbrev D.none : D := .val .none

def byVal : Value → Bool
  | .none | .ellipsis | .notImplemented | .bool _ | .type _ | .builtin _ => true
  | _ => false

mutual
inductive Rp (h : Heap) (X : Addr → Prop) : Value → D → Prop
  | int (i t) : Rp h X (.int i t) (.int i)
  | str (x t) : Rp h X (.str x t) (.str x)
  | val (v) : byVal v = true → Rp h X v (.val v)
  | fn (a o f) : h.get? a = some o → o.data = .func f → ¬ X a → Rp h X (.ref a) (.val (.ref a))
  | tuple {a vs ds} : IsTup h a vs.toArray → ¬ X a → RpAll h X vs ds → Rp h X (.ref a) (.tuple ds)
  | list {a vs ds} : h.IsList a vs.toArray → ¬ X a → RpAll h X vs ds → Rp h X (.ref a) (.list ds)
  | range {r a b t u v} : IsRange h r a b 1 t u v → ¬ X r → Rp h X (.ref r) (.range a b)
  | flt (b t) : Rp h X (.float b t) (.flt b)
  | obj {a o p} : h.get? a = some o → p o → ¬ IterObj o → ¬ X a → Rp h X (.ref a) (.obj p)
  | abs {v p} (F : List (Addr × Obj)) : p v F → (∀ q ∈ F, h.get? q.1 = some q.2 ∧ ¬ IterObj q.2 ∧ ¬ X q.1) → Rp h X v (.abs p)
inductive RpAll (h : Heap) (X : Addr → Prop) : List Value → List D → Prop
  | nil : RpAll h X [] []
  | cons {v vs d ds} : Rp h X v d → RpAll h X vs ds → RpAll h X (v :: vs) (d :: ds)
end

theorem IsTup.at' {h h' : Heap} {a : Addr} {its} (x : IsTup h a its) (e : ∀ o, h.get? a = some o → h'.get? a = some o) : IsTup h' a its :=
  let ⟨o, ho, r⟩ := x; ⟨o, e o ho, r⟩

mutual
theorem Rp.mono {h h' : Heap} {X X' : Addr → Prop} (hk : ∀ a o, ¬ X a → h.get? a = some o → h'.get? a = some o) (hx : ∀ a o, ¬ X a → h.get? a = some o → ¬ X' a) :
    ∀ {v d}, Rp h X v d → Rp h' X' v d
  | _, _, .int i t => .int i t
  | _, _, .str x t => .str x t
  | _, _, .val v e => .val v e
  | _, _, .fn a o f ho hd hn => .fn a o f (hk _ _ hn ho) hd (hx _ _ hn ho)
  | _, _, .tuple ht hn hr => .tuple (IsTup.at' ht fun o e => hk _ o hn e) (let ⟨_, ho, _⟩ := ht; hx _ _ hn ho) (RpAll.mono hk hx hr)
  | _, _, .list ht hn hr => .list (ht.at fun o e => hk _ o hn e) (let ⟨_, ho, _⟩ := ht; hx _ _ hn ho) (RpAll.mono hk hx hr)
  | _, _, .range ht hn => .range (hk _ _ hn ht) (hx _ _ hn ht)
  | _, _, .flt b t => .flt b t
  | _, _, .obj ho hp hi hn => .obj (hk _ _ hn ho) hp hi (hx _ _ hn ho)
  | _, _, .abs F hp hq => .abs F hp fun q m => let ⟨a, b, c⟩ := hq q m; ⟨hk _ _ c a, b, hx _ _ c a⟩
theorem RpAll.mono {h h' : Heap} {X X' : Addr → Prop} (hk : ∀ a o, ¬ X a → h.get? a = some o → h'.get? a = some o) (hx : ∀ a o, ¬ X a → h.get? a = some o → ¬ X' a) :
    ∀ {vs ds}, RpAll h X vs ds → RpAll h' X' vs ds
  | _, _, .nil => .nil
  | _, _, .cons a r => .cons (Rp.mono hk hx a) (RpAll.mono hk hx r)
end

section
variable {h h' : Heap} {X X' : Addr → Prop} {v : Value} {d : D} {vs ws : List Value} {ds es : List D}
theorem Rp.keeps (hk : ∀ a o, h.get? a = some o → h'.get? a = some o) (x : Rp h X v d) : Rp h' X v d := x.mono (fun a o _ e => hk a o e) fun _ _ n _ => n
theorem RpAll.keeps (hk : ∀ a o, h.get? a = some o → h'.get? a = some o) (x : RpAll h X vs ds) : RpAll h' X vs ds := x.mono (fun a o _ e => hk a o e) fun _ _ n _ => n
theorem Rp.sub (hs : ∀ a, X' a → X a) (x : Rp h X v d) : Rp h X' v d := x.mono (fun _ _ _ e => e) fun a _ n _ q => n (hs a q)
theorem RpAll.sub (hs : ∀ a, X' a → X a) (x : RpAll h X vs ds) : RpAll h X' vs ds := x.mono (fun _ _ _ e => e) fun a _ n _ q => n (hs a q)
theorem RpAll.length (x : RpAll h X vs ds) : vs.length = ds.length := by
  induction vs generalizing ds with
  | nil => cases x; rfl
  | cons v vs ih => cases x with | cons _ r => simp [ih r]
theorem RpAll.append (x : RpAll h X vs ds) (y : RpAll h X ws es) : RpAll h X (vs ++ ws) (ds ++ es) := by
  induction vs generalizing ds with
  | nil => cases x; exact y
  | cons v vs ih => cases x with | cons a r => exact .cons a (ih r)
theorem RpAll.get (x : RpAll h X vs ds) {k : Nat} {v : Value} (hv : vs[k]? = some v) : ∃ d, ds[k]? = some d ∧ Rp h X v d := by
  induction vs generalizing ds k with
  | nil => simp at hv
  | cons w vs ih =>
    cases x with
    | cons a r =>
      cases k with
      | zero => simp at hv; subst hv; exact ⟨_, rfl, a⟩
      | succ k => simp at hv; simpa using ih r hv
theorem RpAll.get' (x : RpAll h X vs ds) {k : Nat} {d : D} (hd : ds[k]? = some d) : ∃ v, vs[k]? = some v ∧ Rp h X v d := by
  induction vs generalizing ds k with
  | nil => cases x; simp at hd
  | cons w vs ih =>
    cases x with
    | cons a r =>
      cases k with
      | zero => simp at hd; subst hd; exact ⟨_, rfl, a⟩
      | succ k => simp at hd; simpa using ih r hd
theorem RpAll.take (x : RpAll h X vs ds) (k : Nat) : RpAll h X (vs.take k) (ds.take k) := by
  induction vs generalizing ds k with
  | nil => cases x; simp; exact .nil
  | cons w vs ih => cases x with | cons a r => cases k with
    | zero => exact .nil
    | succ k => exact .cons a (ih r k)
theorem RpAll.drop (x : RpAll h X vs ds) (k : Nat) : RpAll h X (vs.drop k) (ds.drop k) := by
  induction vs generalizing ds k with
  | nil => cases x; simp; exact .nil
  | cons w vs ih => cases x with | cons a r => cases k with
    | zero => exact .cons a r
    | succ k => exact ih r k
theorem RpAll.one (x : Rp h X v d) : RpAll h X [v] [d] := .cons x .nil
end

/-- what a name of the frame holds -/
def VarIs (env : Env) (h : Heap) (x : Str) (v : Value) : Prop :=
  (env.kindOf x = some .local ∧ ∃ m, h.Ns env.locals m ∧ m x = some v) ∨
  ((env.kindOf x = some .cell ∨ env.kindOf x = some .free) ∧ ∃ c, env.cells.lookup x = some c ∧ h.IsCell c (some v))

theorem VarIs.keeps {env h h' x v} (y : VarIs env h x v) (hk : ∀ a o, h.get? a = some o → h'.get? a = some o) : VarIs env h' x v := by
  rcases y with ⟨k, m, n, e⟩ | ⟨k, c, l, e⟩
  · exact .inl ⟨k, m, n.keeps hk, e⟩
  · exact .inr ⟨k, c, l, e.keeps hk⟩

inductive Bnd where
  | val (d : D)
  | own (ds : List D)

abbrev Sto := List (String × Bnd)
def Sto.get : Sto → String → Option Bnd
  | [], _ => none
  | (y, b) :: r, x => if y = x then some b else Sto.get r x
def Sto.put : Sto → String → Bnd → Sto
  | [], x, b => [(x, b)]
  | (y, c) :: r, x, b => if y = x then (x, b) :: r else (y, c) :: Sto.put r x b
def Sto.del : Sto → String → Sto
  | [], _ => []
  | (y, c) :: r, x => if y = x then Sto.del r x else (y, c) :: Sto.del r x

theorem Sto.get_put (σ : Sto) (x : String) (b : Bnd) (y : String) : (σ.put x b).get y = if x = y then some b else σ.get y := by
  induction σ with
  | nil => simp [Sto.put, Sto.get]
  | cons p r ih =>
    obtain ⟨z, c⟩ := p
    unfold Sto.put
    by_cases hz : z = x
    · subst hz; simp only [if_true, Sto.get]; split <;> rfl
    · simp only [hz, if_false, Sto.get, ih]
      by_cases h1 : z = y
      · subst h1; simp [Ne.symm hz]
      · simp [h1]

abbrev S (x : String) : Str := Str.ofString x

theorem S_inj {x y : String} (h : S x = S y) : x = y := by
  have hx : ∀ s : String, S s = Str.ofStringByList s := fun s => by unfold S; rw [Str.ofString_eq_byList]
  rw [hx, hx] at h
  unfold Str.ofStringByList at h
  injection h with h
  have h' : x.toList.map Char.toNat = y.toList.map Char.toNat := by simpa using h
  have inj : ∀ (a b : List Char), a.map Char.toNat = b.map Char.toNat → a = b := by
    intro a
    induction a with
    | nil => intro b hb; cases b <;> simp at hb ⊢
    | cons c r ih =>
      intro b hb
      cases b with
      | nil => simp at hb
      | cons e t =>
        simp only [List.map_cons, List.cons.injEq] at hb
        rw [ih t hb.2]
        congr 1
        apply Char.ext
        apply UInt32.toNat_inj.mp
        exact hb.1
  exact String.ext (inj _ _ h') 

/-- the base: what the text's top has left -/
structure Bas where
  prog : Program
  w : World
  hB : Heap
  mg : Str → Option Value
  mb : Str → Option Value

structure Bas.Ok (B : Bas) : Prop where
  g : B.hB.Ns mainGlobals B.mg
  b : B.hB.Ns builtinsNs B.mb
  builtins : ∀ x : Str, x ≠ "__name__" → B.mb x = bootBuiltins x
  nolimit : B.hB.NoLimit

/-- room for n calls more -/
structure AOk (n : Nat) (A : Around) : Prop where
  handled : A.handled = none
  depth : A.depth + n < recursionLimit
  units : A.units + 5 * n + 100 < cLine

structure EnvOk (env : Env) : Prop where
  kind : env.scope.kind = .function
  globals : env.globals = mainGlobals
  builtins : env.builtins = builtinsNs
  apart : ∀ x y c, env.cells.lookup x = some c → env.cells.lookup y = some c → x = y

def BndIs (env : Env) (h : Heap) (X O : Addr → Prop) (x : String) : Bnd → Prop
  | .val d => ∃ v, VarIs env h (S x) v ∧ Rp h X v d
  | .own ds => ∃ a vs, VarIs env h (S x) (.ref a) ∧ O a ∧ a ≠ env.locals ∧ h.PlainList a vs.toArray ∧ RpAll h X vs ds

structure St (B : Bas) (h₀ : Heap) (P : Addr → Prop) (env : Env) (σ : Sto) (O : Addr → Prop) (h : Heap) : Prop where
  base : ∀ b o, B.hB.get? b = some o → h₀.get? b = some o
  keep : ∀ b o, h₀.get? b = some o → h.get? b = some o
  plive : ∀ a, P a → (∃ o, h₀.get? a = some o) ∧ B.hB.get? a = none
  live : ∀ a, O a → ∃ o, h.get? a = some o
  new : ∀ a, O a → h₀.get? a = none
  ok : EnvOk env
  loc : O env.locals
  ns : ∃ m, h.Ns env.locals m
  cells : ∀ x c, env.cells.lookup x = some c → (∃ v, h.IsCell c v) ∧ (env.func.isSome = true → O c)
  vars : ∀ x b, σ.get x = some b → BndIs env h (fun a => P a ∨ O a) O x b
  apart : ∀ x y ds es a, x ≠ y → σ.get x = some (.own ds) → σ.get y = some (.own es) → VarIs env h (S x) (.ref a) → VarIs env h (S y) (.ref a) → False

/-- what may change is none of the text's own -/
theorem St.xlive {B h₀ P env σ O h} (T : St B h₀ P env σ O h) {b : Addr} (q : P b ∨ O b) : (∃ o, h.get? b = some o) ∧ B.hB.get? b = none := by
  rcases q with q | q
  · obtain ⟨⟨o, e⟩, z⟩ := T.plive b q; exact ⟨⟨o, T.keep b o e⟩, z⟩
  · refine ⟨T.live b q, ?_⟩
    cases e : B.hB.get? b with
    | none => rfl
    | some o => have := T.new b q; rw [T.base b o e] at this; cases this

def Mov (O : Addr → Prop) (s s' : Shared) : Prop := ∃ h' tk, s' = { s with heap := h', toks := tk } ∧ ∀ b o, ¬ O b → s.heap.get? b = some o → h'.get? b = some o

theorem Mov.refl (O s) : Mov O s s := ⟨s.heap, s.toks, rfl, fun _ _ _ e => e⟩
theorem Mov.of_keeps {O s s'} (k : Keeps s s') : Mov O s s' := let ⟨h', tk, e, k⟩ := k; ⟨h', tk, e, fun b o _ x => k b o x⟩
theorem Mov.trans {O O' : Addr → Prop} {s s' s'' : Shared} (a : Mov O s s') (b : Mov O' s' s'') (hs : ∀ b, O' b → O b ∨ s.heap.get? b = none) : Mov O s s'' := by
  obtain ⟨h', tk, rfl, k⟩ := a
  obtain ⟨h'', tk', rfl, k'⟩ := b
  exact ⟨h'', tk', rfl, fun b o n e => k' b o (fun q => by rcases hs b q with q | q; exact n q; rw [q] at e; cases e) (k b o n e)⟩
theorem krefl (s : Shared) : Keeps s s := ⟨s.heap, s.toks, rfl, fun _ _ e => e⟩
theorem ktok (s : Shared) (t : Nat) : Keeps s { s with toks := t } := ⟨s.heap, t, rfl, fun _ _ e => e⟩
theorem ktrans {s s' s'' : Shared} (a : Keeps s s') (b : Keeps s' s'') : Keeps s s'' := by
  obtain ⟨h', tk, rfl, k⟩ := a
  obtain ⟨h'', tk', rfl, k'⟩ := b
  exact ⟨h'', tk', rfl, fun b o e => k' b o (k b o e)⟩
theorem kpush (s : Shared) (o : Obj) (t : Nat) : Keeps s { s with heap := s.heap.push o, toks := t } := ⟨_, t, rfl, fun _ _ e => Heap.get?_push_of_some _ e⟩
theorem kpush' (s : Shared) (o : Obj) : Keeps s { s with heap := s.heap.push o } := ⟨_, s.toks, rfl, fun _ _ e => Heap.get?_push_of_some _ e⟩
theorem kheap {s s' : Shared} (a : Keeps s s') : ∀ b o, s.heap.get? b = some o → s'.heap.get? b = some o := by obtain ⟨h', tk, rfl, k⟩ := a; exact k
theorem fresh_of {h : Heap} {a : Addr} (ha : h.objs.size ≤ a) : h.get? a = none := by
  cases e : h.get? a with
  | none => rfl
  | some o => exact absurd (Heap.lt_size e) (Nat.not_lt.mpr ha)

section
variable {B : Bas} {h₀ h h' : Heap} {P O : Addr → Prop} {env : Env} {σ : Sto}
theorem VarIs.fn {x : Str} {v w : Value} (a : VarIs env h x v) (b : VarIs env h x w) : v = w := by
  rcases a with ⟨k, m, n, e⟩ | ⟨k, c, l, e⟩ <;> rcases b with ⟨k', m', n', e'⟩ | ⟨k', c', l', e'⟩
  · rw [n.eq_nsMap] at e; rw [n'.eq_nsMap] at e'; rw [e] at e'; exact Option.some.inj e'
  · rcases k' with k' | k' <;> rw [k] at k' <;> cases k'
  · rcases k with k | k <;> rw [k] at k' <;> cases k'
  · rw [l] at l'; cases l'
    obtain ⟨o, ho, hd⟩ := e; obtain ⟨o', ho', hd'⟩ := e'
    rw [ho] at ho'; cases ho'; rw [hd] at hd'; cases hd'; rfl
theorem VarIs.back {x : Str} {v w : Value} (hk : ∀ a o, h.get? a = some o → h'.get? a = some o) (a : VarIs env h x v) (b : VarIs env h' x w) : w = v := (b.fn (a.keeps hk))
theorem BndIs.keeps {X : Addr → Prop} {x : String} {b : Bnd} (hk : ∀ a o, h.get? a = some o → h'.get? a = some o) (y : BndIs env h X O x b) : BndIs env h' X O x b := by
  cases b with
  | val d => obtain ⟨v, a, r⟩ := y; exact ⟨v, a.keeps hk, r.keeps hk⟩
  | own ds => obtain ⟨a, vs, hv, ho, hl, hp, r⟩ := y; exact ⟨a, vs, hv.keeps hk, ho, hl, hp.at fun o e => hk _ o e, r.keeps hk⟩
theorem BndIs.var {X : Addr → Prop} {x : String} {b : Bnd} (y : BndIs env h X O x b) : ∃ v, VarIs env h (S x) v := by
  cases b with
  | val d => obtain ⟨v, a, _⟩ := y; exact ⟨v, a⟩
  | own ds => obtain ⟨a, vs, hv, _⟩ := y; exact ⟨_, hv⟩
theorem St.keeps (T : St B h₀ P env σ O h) (hk : ∀ a o, h.get? a = some o → h'.get? a = some o) : St B h₀ P env σ O h' where
  base := T.base
  keep := fun b o e => hk b o (T.keep b o e)
  plive := T.plive
  live := fun a q => let ⟨o, e⟩ := T.live a q; ⟨o, hk a o e⟩
  new := T.new
  ok := T.ok
  loc := T.loc
  ns := let ⟨m, n⟩ := T.ns; ⟨m, n.keeps hk⟩
  cells := fun x c l => let ⟨⟨v, e⟩, f⟩ := T.cells x c l; ⟨⟨v, e.keeps hk⟩, f⟩
  vars := fun x b e => (T.vars x b e).keeps hk
  apart := fun x y ds es a ne hx hy vx vy => by
    obtain ⟨v, a1⟩ := (T.vars x _ hx).var
    obtain ⟨v', a2⟩ := (T.vars y _ hy).var
    have e1 := a1.back hk vx; have e2 := a2.back hk vy
    subst e1; subst e2
    exact T.apart x y ds es a ne hx hy a1 a2
theorem St.kp {s s' : Shared} (T : St B h₀ P env σ O s.heap) (k : Keeps s s') : St B h₀ P env σ O s'.heap := T.keeps (kheap k)
/-- a new address is not among those that may change -/
theorem St.notX (T : St B h₀ P env σ O h) {a : Addr} (ha : h.get? a = none) : ¬ (P a ∨ O a) := by
  rintro (q | q)
  · obtain ⟨⟨o, e⟩, _⟩ := T.plive a q; rw [T.keep _ _ e] at ha; cases ha
  · obtain ⟨o, e⟩ := T.live a q; rw [e] at ha; cases ha
theorem St.notX' (T : St B h₀ P env σ O h) {a : Addr} (ha : h.objs.size ≤ a) : ¬ (P a ∨ O a) := T.notX (fresh_of ha)
end

/-- an expression's value, its parts never to change -/
def Ev (B : Bas) (n : Nat) (env : Env) (σ : Sto) (e : Expr) (d : D) : Prop :=
  ∀ (h₀ : Heap) (P O : Addr → Prop) (A : Around) (s : Shared) (E : Value → Shared → Prop) (Q : Value → Shared → Prop), B.Ok → AOk n A → St B h₀ P env σ O s.heap →
    (∀ v s', Keeps s s' → Rp s'.heap (fun a => P a ∨ O a) v d → Q v s') → wpAny (model B.prog B.w) A (eval e env) Q E s
/-- an expression's value, as it stands now -/
def EvW (B : Bas) (n : Nat) (env : Env) (σ : Sto) (e : Expr) (d : D) : Prop :=
  ∀ (h₀ : Heap) (P O : Addr → Prop) (A : Around) (s : Shared) (E : Value → Shared → Prop) (Q : Value → Shared → Prop), B.Ok → AOk n A → St B h₀ P env σ O s.heap →
    (∀ v s', Keeps s s' → Rp s'.heap (fun _ => False) v d → Q v s') → wpAny (model B.prog B.w) A (eval e env) Q E s
/-- a new list, no one else's -/
def EvN (B : Bas) (n : Nat) (env : Env) (σ : Sto) (e : Expr) (ds : List D) : Prop :=
  ∀ (h₀ : Heap) (P O : Addr → Prop) (A : Around) (s : Shared) (E : Value → Shared → Prop) (Q : Value → Shared → Prop), B.Ok → AOk n A → St B h₀ P env σ O s.heap →
    (∀ a vs s', Keeps s s' → s.heap.get? a = none → s'.heap.PlainList a vs.toArray → RpAll s'.heap (fun b => P b ∨ O b ∨ b = a) vs ds → Q (.ref a) s') → wpAny (model B.prog B.w) A (eval e env) Q E s
/-- what may be handed back -/
def EvR (B : Bas) (n : Nat) (env : Env) (σ : Sto) (e : Expr) (d : D) : Prop :=
  ∀ (h₀ : Heap) (P O : Addr → Prop) (A : Around) (s : Shared) (E : Value → Shared → Prop) (Q : Value → Shared → Prop), B.Ok → AOk n A → St B h₀ P env σ O s.heap →
    (∀ v s', Keeps s s' → Rp s'.heap P v d → Q v s') → wpAny (model B.prog B.w) A (eval e env) Q E s

section
variable {B : Bas} {n : Nat} {env : Env} {σ : Sto} {e : Expr} {d : D} {ds : List D}
theorem Ev.weak (x : Ev B n env σ e d) : EvW B n env σ e d := fun h₀ P O A s E Q b a T k => x h₀ P O A s E Q b a T fun v s' ks r => k v s' ks (r.sub fun _ q => q.elim)
theorem Ev.ret (x : Ev B n env σ e d) : EvR B n env σ e d := fun h₀ P O A s E Q b a T k => x h₀ P O A s E Q b a T fun v s' ks r => k v s' ks (r.sub fun _ q => .inl q)
theorem EvN.ev (x : EvN B n env σ e ds) : Ev B n env σ e (.list ds) := fun h₀ P O A s E Q b a T k => x h₀ P O A s E Q b a T fun a vs s' ks hn hp r =>
  k _ s' ks (.list hp.isList (T.notX hn) (r.sub fun b q => q.elim .inl fun q => .inr (.inl q)))
end

/-- a name read -/
theorem wp_name {B : Bas} {h₀ : Heap} {P O : Addr → Prop} {env : Env} {σ : Sto} {A : Around} {s : Shared} {E : Value → Shared → Prop} {Q : Value → Shared → Prop} {x : String} {p : Pos} {v : Value}
    (T : St B h₀ P env σ O s.heap) (hv : VarIs env s.heap (S x) v) (h : Q v s) (hd : (S x == ("__debug__" : Str)) = false) (hc : (S x == ("__classdict__" : Str)) = false) : wpAny (model B.prog B.w) A (eval (.Name (S x) p) env) Q E s := by
  refine wpAny_Name ?_ hd
  rcases hv with ⟨k, m, n, e⟩ | ⟨k | k, c, l, e⟩
  · exact wpAny_loadName_local T.ok.kind k n e h
  · exact wpAny_loadName_cell T.ok.kind k l e h
  · exact wpAny_loadName_free T.ok.kind k l e h hc

theorem plainName {x y : String} (h : x ≠ y) : (S x == S y) = false := by
  rw [beq_eq_false_iff_ne]; exact fun e => h (S_inj e)

section
variable {B : Bas} {n : Nat} {env : Env} {σ : Sto} {x : String} {p : Pos} {d : D} {ds : List D}
theorem ev_name (h : σ.get x = some (.val d)) (h1 : x ≠ "__debug__" := by decide) (h2 : x ≠ "__classdict__" := by decide) : Ev B n env σ (.Name (S x) p) d := by
  intro h₀ P O A s E Q _ _ T k
  obtain ⟨v, hv, r⟩ := T.vars x _ h
  exact wp_name T hv (k v s (krefl s) r) (plainName h1) (plainName h2)
theorem evw_own (h : σ.get x = some (.own ds)) (h1 : x ≠ "__debug__" := by decide) (h2 : x ≠ "__classdict__" := by decide) : EvW B n env σ (.Name (S x) p) (.list ds) := by
  intro h₀ P O A s E Q _ _ T k
  obtain ⟨a, vs, hv, ho, hl, hp, r⟩ := T.vars x _ h
  exact wp_name T hv (k _ s (krefl s) (.list hp.isList id (r.sub fun _ q => q.elim))) (plainName h1) (plainName h2)
end

def Storable (env : Env) (x : String) : Prop :=
  env.kindOf (S x) = some .local ∨ (env.kindOf (S x) = some .cell ∧ env.func.isSome = true ∧ (env.cells.lookup (S x)).isSome = true)

def NewB (env : Env) (h : Heap) (X O : Addr → Prop) (σ : Sto) (x : String) (v : Value) : Bnd → Prop
  | .val d => Rp h X v d
  | .own ds => ∃ a vs, v = .ref a ∧ O a ∧ a ≠ env.locals ∧ h.PlainList a vs.toArray ∧ RpAll h X vs ds ∧ ∀ y es, y ≠ x → σ.get y = some (.own es) → ¬ VarIs env h (S y) (.ref a)

section
variable {B : Bas} {h₀ h h' : Heap} {P O : Addr → Prop} {env : Env} {σ : Sto}

theorem plain_ne_ns {h : Heap} {a b : Addr} {its m} (p : h.IsList a its) (n : h.Ns b m) : a ≠ b := by
  rintro rfl
  obtain ⟨k, e, _, _, d'⟩ := p; obtain ⟨o, es, ep, e', d, _⟩ := n
  rw [e] at e'; cases e'; rw [d'] at d; cases d
theorem plain_ne_cell {h : Heap} {a b : Addr} {its v} (p : h.IsList a its) (n : h.IsCell b v) : a ≠ b := by
  rintro rfl
  obtain ⟨k, e, _, _, d'⟩ := p; obtain ⟨o, e', d⟩ := n
  rw [e] at e'; cases e'; rw [d'] at d; cases d
theorem ns_ne_cell {h : Heap} {a b : Addr} {m v} (n : h.Ns a m) (c : h.IsCell b v) : a ≠ b := by
  rintro rfl
  obtain ⟨o, es, ep, e, d, _⟩ := n; obtain ⟨o', e', d'⟩ := c
  rw [e] at e'; cases e'; rw [d] at d'; cases d'

/-- one address of the frame's own is changed; the name x is bound anew -/
theorem St.put (T : St B h₀ P env σ O h) {c : Addr} (hc : O c) (hs : Heap.SameBut c h h') {x : String} {v : Value} {b : Bnd} (hlc : ∃ o, h'.get? c = some o)
    (hx : VarIs env h' (S x) v) (ho : ∀ y w, y ≠ x → VarIs env h (S y) w → VarIs env h' (S y) w) (hl : ∃ m, h'.Ns env.locals m) (hcell : ∀ y k v, env.cells.lookup y = some k → h.IsCell k v → ∃ v, h'.IsCell k v)
    (hp : ∀ a its, h.PlainList a its → a ≠ c) (hb : NewB env h (fun a => P a ∨ O a) O σ x v b) : St B h₀ P env (σ.put x b) O h' := by
  have hk : ∀ a o, ¬ (P a ∨ O a) → h.get? a = some o → h'.get? a = some o := fun a o n e => (hs.2 a (fun q => n (.inr (q ▸ hc)))).trans e
  have old : ∀ y w, y ≠ x → (∃ b, σ.get y = some b) → VarIs env h' (S y) w → VarIs env h (S y) w := by
    rintro y w ne ⟨b, hb⟩ hv
    obtain ⟨w', hw'⟩ := (T.vars y b hb).var
    rw [hv.fn (ho y w' ne hw')]; exact hw'
  have mv : ∀ {v d}, Rp h (fun a => P a ∨ O a) v d → Rp h' (fun a => P a ∨ O a) v d := fun r => r.mono hk fun _ _ n _ => n
  have mva : ∀ {v d}, RpAll h (fun a => P a ∨ O a) v d → RpAll h' (fun a => P a ∨ O a) v d := fun r => r.mono hk fun _ _ n _ => n
  have pl : ∀ {a its}, h.PlainList a its → h'.PlainList a its := fun q => by obtain ⟨k, e⟩ := id q; exact ⟨k, (hs.2 _ (hp _ _ q)).trans e⟩
  refine ⟨T.base, fun b o e => ?_, T.plive, fun a q => ?_, T.new, T.ok, T.loc, hl, fun y k e => ?_, fun y b' e => ?_, fun y z ds es a ne hy hz vy vz => ?_⟩
  · exact (hs.2 b (fun q => by subst q; rw [T.new _ hc] at e; cases e)).trans (T.keep b o e)
  · by_cases q' : a = c
    · subst q'; exact hlc
    · obtain ⟨o, e⟩ := T.live a q; exact ⟨o, (hs.2 a q').trans e⟩
  · obtain ⟨⟨v, q⟩, f⟩ := T.cells y k e
    exact ⟨hcell y k v e q, f⟩
  · rw [Sto.get_put] at e
    by_cases q : x = y
    · subst q
      simp only [if_true] at e; cases e
      cases b with
      | val d => exact ⟨v, hx, mv hb⟩
      | own ds =>
        obtain ⟨a, vs, rfl, h1, h2, h3, h4, _⟩ := hb
        exact ⟨a, vs, hx, h1, h2, pl h3, mva h4⟩
    · simp only [q, if_false] at e
      have := T.vars y b' e
      cases b' with
      | val d => obtain ⟨w, hw, r⟩ := this; exact ⟨w, ho y w (fun e => q e.symm) hw, mv r⟩
      | own ds => obtain ⟨a, vs, hv, h1, h2, h3, h4⟩ := this; exact ⟨a, vs, ho y _ (fun e => q e.symm) hv, h1, h2, pl h3, mva h4⟩
  · rw [Sto.get_put] at hy hz
    by_cases q : x = y
    · subst q
      simp only [if_true] at hy; cases hy
      rw [if_neg ne] at hz
      obtain ⟨a', vs, rfl, h1, h2, h3, h4, h5⟩ := hb
      have := hx.fn vy; cases this
      exact h5 z es (Ne.symm ne) hz (old z _ (Ne.symm ne) ⟨_, hz⟩ vz)
    · rw [if_neg q] at hy
      by_cases q' : x = z
      · subst q'
        simp only [if_true] at hz; cases hz
        obtain ⟨a', vs, rfl, h1, h2, h3, h4, h5⟩ := hb
        have := hx.fn vz; cases this
        exact h5 y ds ne hy (old y _ ne ⟨_, hy⟩ vy)
      · rw [if_neg q'] at hz
        exact T.apart y z ds es a ne hy hz (old y _ (fun e => q e.symm) ⟨_, hy⟩ vy) (old z _ (fun e => q' e.symm) ⟨_, hz⟩ vz)

/-- where the names of a frame lie -/
def Names (env : Env) (b : Addr) : Prop := b = env.locals ∨ (env.func.isSome = true ∧ ∃ x, env.cells.lookup x = some b)
theorem Mov.names {s s' : Shared} (m : Mov (Names env) s s') (T : St B h₀ P env σ O s.heap) : Mov O s s' := by
  obtain ⟨h', tk, e, k⟩ := m
  refine ⟨h', tk, e, fun b o nb => k b o ?_⟩
  rintro (q | ⟨f, x, q⟩)
  · subst q; exact nb T.loc
  · exact nb ((T.cells x b q).2 f)

theorem wp_store {A : Around} {s : Shared} {E : Value → Shared → Prop} {Q : Unit → Shared → Prop} (T : St B h₀ P env σ O s.heap) {x : String} {v : Value} {b : Bnd} (hx : Storable env x) (hb : NewB env s.heap (fun a => P a ∨ O a) O σ x v b)
    (h : ∀ s', Mov (Names env) s s' → St B h₀ P env (σ.put x b) O s'.heap → Q () s') : wpAny (model B.prog B.w) A (storeName env (S x) v) Q E s := by
  obtain ⟨m, n⟩ := T.ns
  rcases hx with hx | ⟨hx, hf, hs⟩
  · refine wpAny_storeName_local hx n (fun h' hn hs => h _ ⟨h', _, rfl, fun b o nb e => (hs.2 b (fun q => nb (.inl q))).trans e⟩ ?_) (by rw [T.ok.kind]; rfl)
    refine T.put T.loc hs (let ⟨o, _, _, e, _⟩ := hn; ⟨o, e⟩) (.inl ⟨hx, _, hn, by simp⟩) ?_ ⟨_, hn⟩ ?_ (fun a its p => plain_ne_ns p.isList n) hb
    · rintro y w ne (⟨k, m', n', e⟩ | ⟨k, c, l, e⟩)
      · refine .inl ⟨k, _, hn, ?_⟩
        rw [n'.eq_nsMap, ← n.eq_nsMap] at e
        rw [if_neg (fun q => ne (S_inj q))]; exact e
      · exact .inr ⟨k, c, l, e.sameBut hs (Ne.symm (ns_ne_cell n e))⟩
    · exact fun y k v _ e => ⟨v, e.sameBut hs (Ne.symm (ns_ne_cell n e))⟩
  · obtain ⟨c, hc⟩ := Option.isSome_iff_exists.mp hs
    obtain ⟨⟨v₀, e₀⟩, ho⟩ := T.cells _ _ hc
    refine wpAny_storeName_cell T.ok.kind hx hc e₀ fun h' hv hs => h _ ⟨h', _, rfl, fun b o nb e => (hs.2 b (fun q => nb (.inr ⟨hf, _, q ▸ hc⟩))).trans e⟩ ?_
    have hL : env.locals ≠ c := ns_ne_cell n e₀
    refine T.put (ho hf) hs (let ⟨o, e, _⟩ := hv; ⟨o, e⟩) (.inr ⟨.inl hx, c, hc, hv⟩) ?_ ⟨m, n.sameBut hs hL⟩ ?_ (fun a its p => plain_ne_cell p.isList e₀) hb
    · rintro y w ne (⟨k, m', n', e⟩ | ⟨k, c', l, e⟩)
      · exact .inl ⟨k, m', n'.sameBut hs hL, e⟩
      · exact .inr ⟨k, c', l, e.sameBut hs (fun q => ne (S_inj (T.ok.apart _ _ c (q ▸ l) hc)))⟩
    · intro y k v l e
      by_cases q : k = c
      · subst q; exact ⟨_, hv⟩
      · exact ⟨v, e.sameBut hs q⟩

/-- a new list becomes the frame's own -/
theorem St.grow (T : St B h₀ P env σ O h) (hk : ∀ a o, h.get? a = some o → h'.get? a = some o) {a : Addr} (hn : h.get? a = none) (hl : ∃ o, h'.get? a = some o) : St B h₀ P env σ (fun b => O b ∨ b = a) h' := by
  have T' := T.keeps hk
  have mvx : ∀ b o, ¬ (P b ∨ O b) → h.get? b = some o → ¬ (P b ∨ (O b ∨ b = a)) := by
    rintro b o n e (q | q | q)
    · exact n (.inl q)
    · exact n (.inr q)
    · subst q; rw [hn] at e; cases e
  refine ⟨T.base, T'.keep, T.plive, ?_, ?_, T.ok, .inl T.loc, T'.ns, fun x c l => ⟨(T'.cells x c l).1, fun f => .inl ((T'.cells x c l).2 f)⟩, ?_, T'.apart⟩
  · rintro b (q | q)
    · exact T'.live b q
    · subst q; exact hl
  · rintro b (q | q)
    · exact T.new b q
    · subst q
      cases e : h₀.get? b with
      | none => rfl
      | some o => rw [T.keep _ _ e] at hn; cases hn
  · intro x b e
    have := T.vars x b e
    cases b with
    | val d => obtain ⟨v, hv, r⟩ := this; exact ⟨v, hv.keeps hk, r.mono (fun b o _ e => hk b o e) mvx⟩
    | own ds => obtain ⟨a', vs, hv, h1, h2, h3, h4⟩ := this; exact ⟨a', vs, hv.keeps hk, .inl h1, h2, h3.at fun o e => hk _ o e, h4.mono (fun b o _ e => hk b o e) mvx⟩
end

/-- how a block ends -/
inductive Fl where
  | next | brk | cont
  | ret (d : D)

def FlIs (h : Heap) (P : Addr → Prop) : Flow → Fl → Prop
  | .next, .next => True
  | .brk, .brk => True
  | .cont, .cont => True
  | .ret v, .ret d => Rp h P v d
  | _, _ => False

def Post (B : Bas) (h₀ : Heap) (P : Addr → Prop) (env : Env) (O : Addr → Prop) (s : Shared) (R : Fl → Sto → Prop) (f : Flow) (s' : Shared) : Prop :=
  ∃ fl σ' O', Mov O s s' ∧ FlIs s'.heap P f fl ∧ R fl σ' ∧ (∀ b, O' b → O b ∨ s.heap.get? b = none) ∧ St B h₀ P env σ' O' s'.heap

def Ex (B : Bas) (n : Nat) (env : Env) (σ : Sto) (ss : List Stmt) (R : Fl → Sto → Prop) : Prop :=
  ∀ (h₀ : Heap) (P O : Addr → Prop) (A : Around) (s : Shared) (E : Value → Shared → Prop), B.Ok → AOk n A → St B h₀ P env σ O s.heap →
    wpAny (model B.prog B.w) A (execs ss env) (Post B h₀ P env O s R) E s
def Ex1 (B : Bas) (n : Nat) (env : Env) (σ : Sto) (st : Stmt) (R : Fl → Sto → Prop) : Prop :=
  ∀ (h₀ : Heap) (P O : Addr → Prop) (A : Around) (s : Shared) (E : Value → Shared → Prop), B.Ok → AOk n A → St B h₀ P env σ O s.heap →
    wpAny (model B.prog B.w) A (exec st env) (Post B h₀ P env O s R) E s

section
variable {B : Bas} {n : Nat} {env : Env} {σ : Sto} {R : Fl → Sto → Prop}
theorem Post.mono {h₀ P O s f s'} {R' : Fl → Sto → Prop} (x : Post B h₀ P env O s R f s') (h : ∀ fl σ, R fl σ → R' fl σ) : Post B h₀ P env O s R' f s' :=
  let ⟨fl, σ', O', a, b, c, d⟩ := x; ⟨fl, σ', O', a, b, h _ _ c, d⟩
theorem Post.trans {h₀ P O O' s s₁ f s'} (m : Mov O s s₁) (ho : ∀ b, O' b → O b ∨ s.heap.get? b = none) (x : Post B h₀ P env O' s₁ R f s') : Post B h₀ P env O s R f s' := by
  obtain ⟨fl, σ', O'', a, b, c, d, e⟩ := x
  refine ⟨fl, σ', O'', m.trans a ho, b, c, fun q hq => ?_, e⟩
  rcases d q hq with z | z
  · exact ho q z
  · by_cases hO : O q
    · exact .inl hO
    · refine .inr ?_
      cases w : s.heap.get? q with
      | none => rfl
      | some o =>
        obtain ⟨h', tk, rfl, k⟩ := m
        have := k q o hO w
        rw [z] at this; cases this
theorem Ex.mono {ss} {R' : Fl → Sto → Prop} (x : Ex B n env σ ss R) (h : ∀ fl σ, R fl σ → R' fl σ) : Ex B n env σ ss R' :=
  fun h₀ P O A s E b a T => wpAny_mono (x h₀ P O A s E b a T) (fun _ _ q => q.mono h) fun _ _ q => q
theorem ex_nil (h : R .next σ) : Ex B n env σ [] R := fun h₀ P O A s E b a T =>
  wpAny_execs_nil ⟨.next, σ, O, Mov.refl _ _, trivial, h, fun _ q => .inl q, T⟩
theorem ex_cons {st rest} (x : Ex1 B n env σ st fun fl σ' => match fl with | .next => Ex B n env σ' rest R | f => R f σ') : Ex B n env σ (st :: rest) R := by
  intro h₀ P O A s E b a T
  refine wpAny_execs_cons (wpAny_mono (x h₀ P O A s E b a T) (fun f s' q => ?_) fun _ _ q => q)
  obtain ⟨fl, σ', O', m, hf, hr, ho, T'⟩ := q
  cases f with
  | next =>
    cases fl <;> try exact hf.elim
    exact wpAny_mono (hr h₀ P O' A s' E b a T') (fun _ _ q => q.trans m ho) fun _ _ q => q
  | brk => cases fl <;> first | exact hf.elim | exact ⟨_, σ', O', m, hf, hr, ho, T'⟩
  | cont => cases fl <;> first | exact hf.elim | exact ⟨_, σ', O', m, hf, hr, ho, T'⟩
  | ret v => cases fl <;> first | exact hf.elim | exact ⟨_, σ', O', m, hf, hr, ho, T'⟩

theorem ex_return {e : Expr} {d : D} {p : Pos} (x : EvR B n env σ e d) (h : R (.ret d) σ) : Ex1 B n env σ (.Return (some e) p) R := by
  intro h₀ P O A s E b a T
  exact wpAny_Return_some (x h₀ P O A s E _ b a T fun v s' k r => ⟨.ret d, σ, O, Mov.of_keeps k, r, h, fun _ q => .inl q, T.kp k⟩)
theorem ex_assign {x : String} {p p' : Pos} {e : Expr} {d : D} (hx : Storable env x) (v : Ev B n env σ e d) (h : R .next (σ.put x (.val d)))
    (hs : swapsWith e (some (.Name (S x) p')) p.line env = pure false) : Ex1 B n env σ (.Assign [.Name (S x) p'] e p) R := by
  intro h₀ P O A s E b a T
  refine wpAny_Assign_Name (v h₀ P O A s E _ b a T fun v s' k r => ?_) hs
  refine wp_store (b := .val d) (T.kp k) hx r fun s'' m T' => ?_
  exact ⟨.next, _, O, (Mov.of_keeps k).trans (m.names (T.kp k)) (fun _ q => .inl q), trivial, h, fun _ q => .inl q, T'⟩
end

abbrev NoX : Addr → Prop := fun _ => False

theorem Rp.now {h X v d} (r : Rp h X v d) : Rp h NoX v d := r.sub fun _ q => q.elim
theorem RpAll.now {h X v d} (r : RpAll h X v d) : RpAll h NoX v d := r.sub fun _ q => q.elim
theorem rp_int {h X v i} (r : Rp h X v (.int i)) : ∃ t, v = .int i t := by cases r; exact ⟨_, rfl⟩
theorem rp_str {h X v i} (r : Rp h X v (.str i)) : ∃ t, v = .str i t := by cases r; exact ⟨_, rfl⟩
theorem rp_val {h X v w} (r : Rp h X v (.val w)) : v = w := by cases r <;> rfl
theorem rp_list {h X v ds} (r : Rp h X v (.list ds)) : ∃ a vs, v = .ref a ∧ h.IsList a vs.toArray ∧ ¬ X a ∧ RpAll h X vs ds := by cases r with | list a b c => exact ⟨_, _, rfl, a, b, c⟩
theorem rp_tuple {h X v ds} (r : Rp h X v (.tuple ds)) : ∃ a vs, v = .ref a ∧ IsTup h a vs.toArray ∧ ¬ X a ∧ RpAll h X vs ds := by cases r with | tuple a b c => exact ⟨_, _, rfl, a, b, c⟩
theorem rp_range {h X v a b} (r : Rp h X v (.range a b)) : ∃ r t u w, v = .ref r ∧ IsRange h r a b 1 t u w ∧ ¬ X r := by cases r with | range a b => exact ⟨_, _, _, _, rfl, a, b⟩

def Bas.Here (B : Bas) (h : Heap) : Prop := ∀ b o, B.hB.get? b = some o → h.get? b = some o
theorem Bas.Here.kp {B : Bas} {s s' : Shared} (x : B.Here s.heap) (k : Keeps s s') : B.Here s'.heap := fun b o e => kheap k b o (x b o e)
theorem St.here {B h₀ P env σ O h} (T : St B h₀ P env σ O h) : B.Here h := fun b o e => T.keep b o (T.base b o e)

/-- a test -/
def Tst (B : Bas) (n : Nat) (env : Env) (σ : Sto) (e : Expr) (p : Bool) : Prop :=
  ∀ (h₀ : Heap) (P O : Addr → Prop) (A : Around) (s : Shared) (E : Value → Shared → Prop) (Q : Bool → Shared → Prop), B.Ok → AOk n A → St B h₀ P env σ O s.heap →
    (∀ s', Keeps s s' → Q p s') → wpAny (model B.prog B.w) A (isTrue e env (eval e env)) Q E s
/-- a comparison of data -/
def Cmp (B : Bas) (n : Nat) (op : CmpOp) (a b : D) (p : Bool) : Prop :=
  ∀ (A : Around) (s : Shared) (E : Value → Shared → Prop) (Q : Value → Shared → Prop) (va vb : Value), B.Ok → AOk n A → B.Here s.heap → Rp s.heap NoX va a → Rp s.heap NoX vb b →
    (∀ s', Keeps s s' → Q (.bool p) s') → wpAny (model B.prog B.w) A (compareOp op va vb) Q E s
/-- an operator on data whose value is no object -/
def Bin (B : Bas) (n : Nat) (op : Operator) (a b c : D) : Prop :=
  ∀ (A : Around) (s : Shared) (E : Value → Shared → Prop) (Q : Value → Shared → Prop) (va vb : Value), B.Ok → AOk n A → B.Here s.heap → Rp s.heap NoX va a → Rp s.heap NoX vb b →
    (∀ v s', Keeps s s' → (∀ h X, Rp h X v c) → Q v s') → wpAny (model B.prog B.w) A (binaryOp op va vb) Q E s
/-- truth of a datum -/
def Tru (B : Bas) (n : Nat) (a : D) (p : Bool) : Prop :=
  ∀ (A : Around) (s : Shared) (E : Value → Shared → Prop) (Q : Bool → Shared → Prop) (va : Value), B.Ok → AOk n A → B.Here s.heap → Rp s.heap NoX va a →
    (∀ s', Keeps s s' → Q p s') → wpAny (model B.prog B.w) A (truthy va) Q E s
/-- arguments -/
def EvAs (B : Bas) (n : Nat) (env : Env) (σ : Sto) (es : List Expr) (ds : List D) : Prop :=
  ∀ (h₀ : Heap) (P O : Addr → Prop) (A : Around) (s : Shared) (E : Value → Shared → Prop) (Q : List Value → Shared → Prop) (pos : Pos), B.Ok → AOk n A → St B h₀ P env σ O s.heap →
    (∀ vs s', Keeps s s' → RpAll s'.heap (fun a => P a ∨ O a) vs ds → Q vs s') → wpAny (model B.prog B.w) A (spliced (backTo pos (starEach es env))) Q E s
def EvAsW (B : Bas) (n : Nat) (env : Env) (σ : Sto) (es : List Expr) (ds : List D) : Prop :=
  ∀ (h₀ : Heap) (P O : Addr → Prop) (A : Around) (s : Shared) (E : Value → Shared → Prop) (Q : List Value → Shared → Prop) (pos : Pos), B.Ok → AOk n A → St B h₀ P env σ O s.heap →
    (∀ vs s', Keeps s s' → RpAll s'.heap NoX vs ds → Q vs s') → wpAny (model B.prog B.w) A (spliced (backTo pos (starEach es env))) Q E s

section
variable {B : Bas} {n : Nat} {env : Env} {σ : Sto} {e l r : Expr} {d a b c : D} {p p' : Pos}

theorem ev_int {i : Int} {k : Nat} : Ev B n env σ (.Constant (.int i) k p) (.int i) := fun h₀ P O A s E Q _ _ T q => wpAny_Constant_int (q _ _ (ktok s _) (.int _ _))
theorem ev_bool {i : Bool} {k : Nat} : Ev B n env σ (.Constant (.bool i) k p) (.bool i) := fun h₀ P O A s E Q _ _ T q => by
  rw [eval_Constant]; exact wpAny_pure (q _ _ (krefl s) (.val _ rfl))
theorem ev_none {k : Nat} : Ev B n env σ (.Constant .none k p) .none := fun h₀ P O A s E Q _ _ T q => by
  rw [eval_Constant]; exact wpAny_pure (q _ _ (krefl s) (.val _ rfl))
theorem ev_str {x : Str} {k : Nat} : Ev B n env σ (.Constant (.str x) k p) (.str x) := fun h₀ P O A s E Q _ _ T q => by
  rw [eval_Constant]; exact wpAny_mkText (q _ _ (ktok s _) (.str _ _))

theorem evas_nil : EvAs B n env σ [] [] := fun h₀ P O A s E Q pos _ _ T q => args_nil (q _ _ (krefl s) .nil)
theorem evas_cons {es : List Expr} {ds : List D} (x : Ev B n env σ e d) (xs : EvAs B n env σ es ds) (he : starEach (e :: es) env = (false, eval e env) :: starEach es env := by rfl) : EvAs B n env σ (e :: es) (d :: ds) :=
  fun h₀ P O A s E Q pos b a T q => args_cons (x h₀ P O A s E _ b a T fun v s₁ k r => xs h₀ P O A s₁ E _ pos b a (T.kp k) fun vs s₂ k₂ rs => q _ _ (ktrans k k₂) (.cons (r.keeps (kheap k₂)) rs)) he
theorem evasw_nil : EvAsW B n env σ [] [] := fun h₀ P O A s E Q pos _ _ T q => args_nil (q _ _ (krefl s) .nil)
theorem evasw_cons {es : List Expr} {ds : List D} (x : EvW B n env σ e d) (xs : EvAsW B n env σ es ds) (he : starEach (e :: es) env = (false, eval e env) :: starEach es env := by rfl) : EvAsW B n env σ (e :: es) (d :: ds) :=
  fun h₀ P O A s E Q pos b a T q => args_cons (x h₀ P O A s E _ b a T fun v s₁ k r => xs h₀ P O A s₁ E _ pos b a (T.kp k) fun vs s₂ k₂ rs => q _ _ (ktrans k k₂) (.cons (r.keeps (kheap k₂)) rs)) he

theorem ev_bin {op : Operator} (x : EvW B n env σ l a) (y : EvW B n env σ r b) (z : Bin B n op a b c) : Ev B n env σ (.BinOp l op r p) c :=
  fun h₀ P O A s E Q bo ao T q => wpAny_BinOp (x h₀ P O A s E _ bo ao T fun va s₁ k₁ r₁ => y h₀ P O A s₁ E _ bo ao (T.kp k₁) fun vb s₂ k₂ r₂ =>
    z A s₂ E Q va vb bo ao ((T.kp k₁).kp k₂).here (r₁.keeps (kheap k₂)) r₂ fun v s₃ k₃ r₃ => q v s₃ (ktrans (ktrans k₁ k₂) k₃) (r₃ _ _))
theorem ev_cmp {op : CmpOp} {t : Bool} (x : EvW B n env σ l a) (y : EvW B n env σ r b) (z : Cmp B n op a b t) (hm : behindInMarks op r = false := by with_unfolding_all rfl) : Ev B n env σ (.Compare l [op] [r] p) (.bool t) :=
  fun h₀ P O A s E Q bo ao T q => wpAny_Compare1 (x h₀ P O A s E _ bo ao T fun va s₁ k₁ r₁ => y h₀ P O A s₁ E _ bo ao (T.kp k₁) fun vb s₂ k₂ r₂ =>
    z A s₂ E Q va vb bo ao ((T.kp k₁).kp k₂).here (r₁.keeps (kheap k₂)) r₂ fun s₃ k₃ => q _ s₃ (ktrans (ktrans k₁ k₂) k₃) (.val _ rfl)) hm
theorem tst_cmp {op : CmpOp} {t : Bool} (x : EvW B n env σ l a) (y : EvW B n env σ r b) (z : Cmp B n op a b t) (hm : behindInMarks op r = false := by with_unfolding_all rfl) : Tst B n env σ (.Compare l [op] [r] p) t :=
  fun h₀ P O A s E Q bo ao T q => wpAny_isTrue_Compare1 (x h₀ P O A s E _ bo ao T fun va s₁ k₁ r₁ => y h₀ P O A s₁ E _ bo ao (T.kp k₁) fun vb s₂ k₂ r₂ =>
    z A s₂ E _ va vb bo ao ((T.kp k₁).kp k₂).here (r₁.keeps (kheap k₂)) r₂ fun s₃ k₃ => wpAny_truthy_bool (q s₃ (ktrans (ktrans k₁ k₂) k₃))) hm
theorem tst_ev {t : Bool} (x : EvW B n env σ e d) (y : Tru B n d t) (he : ∀ whole, isTrue e env whole = (do let v ← whole; standAt e.pos; holding [v] (truthy v)) := by intro _; rfl) : Tst B n env σ e t :=
  fun h₀ P O A s E Q bo ao T q => isTrue_plain (x h₀ P O A s E _ bo ao T fun va s₁ k₁ r₁ => y A s₁ E _ va bo ao (T.kp k₁).here r₁ fun s₂ k₂ => q s₂ (ktrans k₁ k₂)) (he _)
theorem tst_not {t : Bool} (x : Tst B n env σ e t) : Tst B n env σ (.UnaryOp .Not e p) (!t) :=
  fun h₀ P O A s E Q bo ao T q => isTrue_not (x h₀ P O A s E _ bo ao T fun s' k => q s' k)
theorem tst_or {e₁ e₂ : Expr} {t u : Bool} (x : Tst B n env σ e₁ t) (y : t = false → Tst B n env σ e₂ u) : Tst B n env σ (.BoolOp .Or [e₁, e₂] p) (t || u) :=
  fun h₀ P O A s E Q bo ao T q => isTrue_or (x h₀ P O A s E _ bo ao T fun s' k => by
    cases t with
    | true => exact q s' k
    | false => exact isTrue_or (y rfl h₀ P O A s' E _ bo ao (T.kp k) fun s'' k' => by
        cases u with
        | true => exact q s'' (ktrans k k')
        | false => exact isTrue_or_nil (q s'' (ktrans k k'))))
theorem tst_eq {t u : Bool} (x : Tst B n env σ e t) (h : t = u) : Tst B n env σ e u := h ▸ x
theorem ev_eq {d'} (x : Ev B n env σ e d) (h : d = d') : Ev B n env σ e d' := h ▸ x

theorem ev_ifexp {t : Bool} {e₁ e₂ : Expr} (x : Tst B n env σ e t) (y : t = true → Ev B n env σ e₁ d) (z : t = false → Ev B n env σ e₂ d) : Ev B n env σ (.IfExp e e₁ e₂ p) d :=
  fun h₀ P O A s E Q bo ao T q => IfExp_ (x h₀ P O A s E _ bo ao T fun s' k => by
    cases t with
    | false => exact z rfl h₀ P O A s' E _ bo ao (T.kp k) fun v s'' k' r => q v s'' (ktrans k k') r
    | true => exact y rfl h₀ P O A s' E _ bo ao (T.kp k) fun v s'' k' r => q v s'' (ktrans k k') r)
/-- and, or of bools -/
theorem ev_and {e₁ e₂ : Expr} {t u : Bool} (x : Ev B n env σ e₁ (.bool t)) (y : t = true → Ev B n env σ e₂ (.bool u)) : Ev B n env σ (.BoolOp .And [e₁, e₂] p) (.bool (t && u)) :=
  fun h₀ P O A s E Q bo ao T q => BoolOp_and (x h₀ P O A s E _ bo ao T fun v s' k r => by
    cases rp_val r
    refine wpAny_truthy_bool ?_
    cases t with
    | false => exact q _ s' k (.val _ rfl)
    | true => exact BoolOp_one (y rfl h₀ P O A s' E _ bo ao (T.kp k) fun v s'' k' r' => q v s'' (ktrans k k') r'))
theorem ev_or {e₁ e₂ : Expr} {t u : Bool} (x : Ev B n env σ e₁ (.bool t)) (y : t = false → Ev B n env σ e₂ (.bool u)) : Ev B n env σ (.BoolOp .Or [e₁, e₂] p) (.bool (t || u)) :=
  fun h₀ P O A s E Q bo ao T q => BoolOp_or (x h₀ P O A s E _ bo ao T fun v s' k r => by
    cases rp_val r
    refine wpAny_truthy_bool ?_
    cases t with
    | true => exact q _ s' k (.val _ rfl)
    | false => exact BoolOp_one (y rfl h₀ P O A s' E _ bo ao (T.kp k) fun v s'' k' r' => q v s'' (ktrans k k') r'))
theorem ev_not {t : Bool} (x : EvW B n env σ e d) (y : Tru B n d t) : Ev B n env σ (.UnaryOp .Not e p) (.bool (!t)) :=
  fun h₀ P O A s E Q bo ao T q => UnaryOp_ (x h₀ P O A s E _ bo ao T fun v s' k r => not_of (y A s' E _ v bo ao (T.kp k).here r fun s'' k' => q _ s'' (ktrans k k') (.val _ rfl)))
theorem ev_neg {i : Int} (x : EvW B n env σ e (.int i)) : Ev B n env σ (.UnaryOp .USub e p) (.int (-i)) :=
  fun h₀ P O A s E Q bo ao T q => UnaryOp_ (x h₀ P O A s E _ bo ao T fun v s' k r => by
    obtain ⟨t, rfl⟩ := rp_int r
    exact neg_int (q _ _ (ktrans k (ktok _ _)) (.int _ _)))
theorem ev_inv {i : Int} (x : EvW B n env σ e (.int i)) : Ev B n env σ (.UnaryOp .Invert e p) (.int (Builtin.bitNot i)) :=
  fun h₀ P O A s E Q bo ao T q => UnaryOp_ (x h₀ P O A s E _ bo ao T fun v s' k r => by
    obtain ⟨t, rfl⟩ := rp_int r
    exact invert_int (q _ _ (ktrans k (ktok _ _)) (.int _ _)))
end

section
variable {B : Bas} {n : Nat} {i j : Int}
theorem tru_bool {b : Bool} : Tru B n (.bool b) b := fun A s E Q va bo ao hh r q => by cases rp_val r; exact wpAny_truthy_bool (q s (krefl s))
theorem tru_int : Tru B n (.int i) (i != 0) := fun A s E Q va bo ao hh r q => by obtain ⟨t, rfl⟩ := rp_int r; exact truthy_int (q s (krefl s))
theorem bin_add : Bin B n .Add (.int i) (.int j) (.int (i + j)) := fun A s E Q va vb bo ao hh r r' q => by
  obtain ⟨t, rfl⟩ := rp_int r; obtain ⟨u, rfl⟩ := rp_int r'; exact add_int (q _ _ (ktok _ _) fun _ _ => .int _ _)
theorem bin_sub : Bin B n .Sub (.int i) (.int j) (.int (i - j)) := fun A s E Q va vb bo ao hh r r' q => by
  obtain ⟨t, rfl⟩ := rp_int r; obtain ⟨u, rfl⟩ := rp_int r'; exact sub_int (q _ _ (ktok _ _) fun _ _ => .int _ _)
theorem bin_mod (hj : j ≠ 0) : Bin B n .Mod (.int i) (.int j) (.int (i.fmod j)) := fun A s E Q va vb bo ao hh r r' q => by
  obtain ⟨t, rfl⟩ := rp_int r; obtain ⟨u, rfl⟩ := rp_int r'; exact mod_int' hj (q _ _ (ktok _ _) fun _ _ => .int _ _)
theorem noPylong {x y : Int} (h : y.natAbs < 2 ^ 64) : Builtin.divisionGoesByPylong x y = false := by
  unfold Builtin.divisionGoesByPylong
  have h2 : y.natAbs.log2 < 64 := by
    by_cases hz : y.natAbs = 0
    · rw [hz]; decide
    · exact (Nat.log2_lt hz).mpr h
  have : ¬ ((if (y == 0) = true then 0 else y.natAbs.log2 / 30 + 1) > 300) := by
    split
    · omega
    · omega
  simp only [this, decide_false, Bool.false_and]
theorem bin_div (hj : j ≠ 0) (hs : j.natAbs < 2 ^ 64) : Bin B n .FloorDiv (.int i) (.int j) (.int (i.fdiv j)) := fun A s E Q va vb bo ao hh r r' q => by
  obtain ⟨t, rfl⟩ := rp_int r; obtain ⟨u, rfl⟩ := rp_int r'; exact floordiv_int hj (q _ _ (ktok _ _) fun _ _ => .int _ _) (.inl (noPylong hs))
theorem bin_shr (hj : 0 ≤ j) : Bin B n .RShift (.int i) (.int j) (.int (i.fdiv (2 ^ j.toNat))) := fun A s E Q va vb bo ao hh r r' q => by
  obtain ⟨t, rfl⟩ := rp_int r; obtain ⟨u, rfl⟩ := rp_int r'; exact rshift_int hj (q _ _ (ktok _ _) fun _ _ => .int _ _)
theorem bin_and : Bin B n .BitAnd (.int i) (.int j) (.int (Builtin.bitAnd i j)) := fun A s E Q va vb bo ao hh r r' q => by
  obtain ⟨t, rfl⟩ := rp_int r; obtain ⟨u, rfl⟩ := rp_int r'; exact and_int (q _ _ (ktok _ _) fun _ _ => .int _ _)
theorem bin_pow (hj : 0 ≤ j) (h2 : j ≤ 1000000) (ha : i.natAbs < 2 ^ 64) : Bin B n .Pow (.int i) (.int j) (.int (i ^ j.toNat)) := fun A s E Q va vb bo ao hh r r' q => by
  obtain ⟨t, rfl⟩ := rp_int r; obtain ⟨u, rfl⟩ := rp_int r'; exact pow_int_small hj h2 ha (q _ _ (ktok _ _) fun _ _ => .int _ _)
theorem cmp_eq : Cmp B n .Eq (.int i) (.int j) (i == j) := fun A s E Q va vb bo ao hh r r' q => by
  obtain ⟨t, rfl⟩ := rp_int r; obtain ⟨u, rfl⟩ := rp_int r'; exact eq_int (q _ (krefl _))
theorem cmp_ne : Cmp B n .NotEq (.int i) (.int j) (i != j) := fun A s E Q va vb bo ao hh r r' q => by
  obtain ⟨t, rfl⟩ := rp_int r; obtain ⟨u, rfl⟩ := rp_int r'; exact ne_int (q _ (krefl _))
theorem cmp_lt : Cmp B n .Lt (.int i) (.int j) (decide (i < j)) := fun A s E Q va vb bo ao hh r r' q => by
  obtain ⟨t, rfl⟩ := rp_int r; obtain ⟨u, rfl⟩ := rp_int r'; exact lt_int (q _ (krefl _))
theorem cmp_le : Cmp B n .LtE (.int i) (.int j) (decide (i ≤ j)) := fun A s E Q va vb bo ao hh r r' q => by
  obtain ⟨t, rfl⟩ := rp_int r; obtain ⟨u, rfl⟩ := rp_int r'; exact le_int (q _ (krefl _))
theorem cmp_gt : Cmp B n .Gt (.int i) (.int j) (decide (j < i)) := fun A s E Q va vb bo ao hh r r' q => by
  obtain ⟨t, rfl⟩ := rp_int r; obtain ⟨u, rfl⟩ := rp_int r'; exact gt_int (q _ (krefl _))
theorem cmp_ge : Cmp B n .GtE (.int i) (.int j) (decide (j ≤ i)) := fun A s E Q va vb bo ao hh r r' q => by
  obtain ⟨t, rfl⟩ := rp_int r; obtain ⟨u, rfl⟩ := rp_int r'; exact ge_int (q _ (krefl _))
end

section
variable {B : Bas} {n : Nat} {env : Env} {σ : Sto} {e l r : Expr} {R : Fl → Sto → Prop} {p : Pos}
theorem ex_if {t : Bool} {body orelse : List Stmt} (x : Tst B n env σ e t) (y : t = true → Ex B n env σ body R) (z : t = false → Ex B n env σ orelse R) : Ex1 B n env σ (.If e body orelse p) R := by
  intro h₀ P O A s E bo ao T
  refine wpAny_If (x h₀ P O A s E _ bo ao T fun s' k => ?_)
  cases t with
  | false => exact wpAny_mono (z rfl h₀ P O A s' E bo ao (T.kp k)) (fun _ _ q => q.trans (Mov.of_keeps k) fun _ q => .inl q) fun _ _ q => q
  | true => exact wpAny_mono (y rfl h₀ P O A s' E bo ao (T.kp k)) (fun _ _ q => q.trans (Mov.of_keeps k) fun _ q => .inl q) fun _ _ q => q

/-- list and tuple displays -/
theorem fresh_kp {s s' : Shared} (k : Keeps s s') : s.heap.get? s'.heap.objs.size = none := by
  cases e : s.heap.get? s'.heap.objs.size with
  | none => rfl
  | some o => exact absurd (Heap.lt_size (kheap k _ _ e)) (Nat.lt_irrefl _)
theorem szLine {k : Nat} (h : k ≤ 1000000) : k ≤ sizeLine := Nat.le_trans h (by decide)
/-- what was known of the parts holds of them beside a new address -/
theorem RpAll.beside {h : Heap} {P O : Addr → Prop} {vs ds} (r : RpAll h (fun a => P a ∨ O a) vs ds) (o : Obj) : RpAll (h.push o) (fun b => P b ∨ O b ∨ b = h.objs.size) vs ds :=
  r.mono (fun a o _ e => Heap.get?_push_of_some _ e) fun a o n e q => by
    rcases q with q | q | q
    · exact n (.inl q)
    · exact n (.inr q)
    · subst q; exact absurd (Heap.lt_size e) (Nat.lt_irrefl _)
theorem wp_newList {B : Bas} {n : Nat} {h₀ : Heap} {P O : Addr → Prop} {env : Env} {σ : Sto} {A : Around} {s s' : Shared} {E : Value → Shared → Prop} {Q : Value → Shared → Prop} {vs : List Value} {ds : List D}
    (k : Keeps s s') (r : RpAll s'.heap (fun a => P a ∨ O a) vs ds) (hsz : ds.length ≤ 1000000)
    (q : ∀ a vs s', Keeps s s' → s.heap.get? a = none → s'.heap.PlainList a vs.toArray → RpAll s'.heap (fun b => P b ∨ O b ∨ b = a) vs ds → Q (.ref a) s') : wpAny (model B.prog B.w) A (newList vs) Q E s' :=
  wpAny_newObj_type (q _ vs _ (ktrans k (kpush' _ _)) (fresh_kp k) ⟨_, Heap.get?_push_size _ rfl⟩ (r.beside _)) (by show vs.toArray.size ≤ sizeLine; rw [List.size_toArray, r.length]; exact szLine hsz)
theorem evn_list {es : List Expr} {ds : List D} (x : EvAs B n env σ es ds) (hsz : ds.length ≤ 1000000) : EvN B n env σ (.List es p) ds :=
  fun h₀ P O A s E Q bo ao T q => List_ (x h₀ P O A s E _ p bo ao T fun vs s' k r => wp_newList (n := n) (h₀ := h₀) (env := env) (σ := σ) k r hsz q)
theorem ev_tuple {es : List Expr} {ds : List D} {i : Nat} (x : EvAs B n env σ es ds) (hsz : ds.length ≤ 1000000) : Ev B n env σ (.Tuple es i p) (.tuple ds) :=
  fun h₀ P O A s E Q bo ao T q => Tuple_ (x h₀ P O A s E _ p bo ao T fun vs s' k r => wpAny_newObj_type
    (q _ _ (ktrans k (kpush' _ _)) (.tuple ⟨_, Heap.get?_push_size _ rfl, rfl, 0, rfl⟩ ((T.kp k).notX' (Nat.le_refl _)) (r.keeps fun a o e => Heap.get?_push_of_some _ e)))
    (by show vs.toArray.size ≤ sizeLine; rw [List.size_toArray, r.length]; exact szLine hsz))
end

section
variable {B : Bas} {n : Nat} {env : Env} {σ : Sto} {e l r i : Expr} {p : Pos}
/-- the place k of a sequence of m items -/
def place (k : Int) (m : Nat) : Nat := if k < 0 then (k + m).toNat else k.toNat
/-- an item of a list, of a tuple -/
theorem wp_item {A : Around} {s : Shared} {E : Value → Shared → Prop} {Q : Value → Shared → Prop} {a : Addr} {vs : List Value} {k : Int} {t : Tok} {v : Value} (hl : s.heap.IsList a vs.toArray)
    (h1 : -(vs.length : Int) ≤ k) (h2 : k < vs.length) (hsz : vs.length ≤ 1000000) (hv : vs[place k vs.length]? = some v) (q : Q v s) : wpAny (model B.prog B.w) A (getItem (.ref a) (.int k t)) Q E s := by
  unfold place at hv
  by_cases h0 : k < 0
  · rw [if_pos h0] at hv
    exact wpAny_getItem_list_neg hl h0 (by simpa using h1) (by omega) (by simpa using hv) q
  · rw [if_neg h0] at hv
    exact wpAny_getItem_list hl (by omega) (by omega) (by simpa using hv) q

theorem ev_item {ds : List D} {k : Int} {d : D} (x : Ev B n env σ l (.list ds)) (y : EvW B n env σ i (.int k)) (h1 : -(ds.length : Int) ≤ k) (h2 : k < ds.length) (hsz : ds.length ≤ 1000000) (hd : ds[place k ds.length]? = some d)
    (hs : ∀ a u, subscripted i false (.ref a) (.int k u) = operate [.ref a, .int k u] (getItem (.ref a) (.int k u)) := by intro _ _; with_unfolding_all rfl) : Ev B n env σ (.Subscript l i p) d :=
  fun h₀ P O A s E Q bo ao T q => Subscript_ (x h₀ P O A s E _ bo ao T fun v s₁ k₁ r₁ => y h₀ P O A s₁ E _ bo ao (T.kp k₁) fun w s₂ k₂ r₂ => by
    obtain ⟨t, rfl⟩ := rp_int r₂
    obtain ⟨a, vs, rfl, hl, ha, rs⟩ := rp_list (r₁.keeps (kheap k₂))
    have hlen := rs.length
    obtain ⟨v, hv, rv⟩ := rs.get' hd
    exact tail_any hl.typeIs slot_list_getitem.lookup (wp_item hl (by omega) (by omega) (by omega) (by rw [hlen]; exact hv) (q v s₂ (ktrans k₁ k₂) rv)) (hs _ _))
/-- names of the top, of the built-ins -/
theorem wp_glob {h₀ : Heap} {P O : Addr → Prop} {A : Around} {s : Shared} {E : Value → Shared → Prop} {Q : Value → Shared → Prop} {x : String} {v : Value} (bo : B.Ok) (T : St B h₀ P env σ O s.heap) (hx : env.kindOf (S x) = some .globalImplicit)
    (hv : B.mg (S x) = some v) (h : Q v s) (hd : x ≠ "__debug__") : wpAny (model B.prog B.w) A (eval (.Name (S x) p) env) Q E s :=
  Name_function_global T.ok.kind hx (loadGlobal_global (by rw [T.ok.globals]; exact bo.g.keeps T.here) hv h) (plainName hd)
theorem wp_boot {h₀ : Heap} {P O : Addr → Prop} {A : Around} {s : Shared} {E : Value → Shared → Prop} {Q : Value → Shared → Prop} {x : String} {v : Value} (bo : B.Ok) (T : St B h₀ P env σ O s.heap) (hx : env.kindOf (S x) = some .globalImplicit)
    (hm : B.mg (S x) = none) (hv : bootBuiltins (S x) = some v) (h : Q v s) (hd : x ≠ "__debug__") (hn : x ≠ "__name__") : wpAny (model B.prog B.w) A (eval (.Name (S x) p) env) Q E s :=
  Name_function_global T.ok.kind hx (loadGlobal_builtin (by rw [T.ok.globals]; exact bo.g.keeps T.here) hm (by rw [T.ok.builtins]; exact bo.b.keeps T.here) ((bo.builtins _ (fun q => hn (S_inj q))).trans hv) h) (plainName hd)

structure BootName (B : Bas) (env : Env) (x : String) (v : Value) : Prop where
  kind : env.kindOf (S x) = some .globalImplicit
  miss : B.mg (S x) = none
  boot : bootBuiltins (S x) = some v
  d : x ≠ "__debug__"
  n : x ≠ "__name__"
theorem ev_boot {x : String} {v : Value} (hx : BootName B env x v) (hv : byVal v = true) : Ev B n env σ (.Name (S x) p) (.val v) :=
  fun h₀ P O A s E Q bo ao T q => wp_boot bo T hx.kind hx.miss hx.boot (q _ _ (krefl s) (.val _ hv)) hx.d hx.n

/-- a built-in function's value, no object -/
def Bi (B : Bas) (n : Nat) (f : Value) (ds : List D) (d : D) : Prop :=
  ∀ (A : Around) (s : Shared) (E : Value → Shared → Prop) (Q : Value → Shared → Prop) (vs : List Value), B.Ok → AOk n A → B.Here s.heap → RpAll s.heap NoX vs ds →
    (∀ v s', Keeps s s' → (∀ h X, Rp h X v d) → Q v s') → wpAny (model B.prog B.w) A (call f vs) Q E s
theorem ev_builtin {x id : String} {es : List Expr} {ds : List D} {d : D} {p' : Pos} (hx : BootName B env x (.builtin id)) (a : EvAsW B n env σ (e :: es) ds) (f : Bi B n (.builtin id) ds d)
    (he : starEach (e :: es) env = (false, eval e env) :: starEach es env := by rfl) (hp : (backTo p (starEach es env)).any (·.1) = false := by rfl)
    (hc : eval (.Call (.Name (S x) p') (e :: es) [] p) env = (do callWith p (← eval (.Name (S x) p') env) [] (backTo p (starEach (e :: es) env)) (backToKw p (keywordEach [] env))) := by rfl) : Ev B n env σ (.Call (.Name (S x) p') (e :: es) [] p) d :=
  fun h₀ P O A s E Q bo ao T q => Call_ (wp_boot bo T hx.kind hx.miss hx.boot (callWith_builtin1 (a h₀ P O A s E _ p bo ao T fun vs s₁ k r => f A s₁ E _ vs bo ao (T.kp k).here r fun v s₂ k₂ r₂ => q v s₂ (ktrans k k₂) (r₂ _ _)) he hp) hx.d hx.n) hc

theorem bi_len {ds : List D} (hsz : ds.length ≤ 1000000) : Bi B n (.builtin "len") [.list ds] (.int ds.length) := fun A s E Q vs bo ao hh r q => by
  cases r with | cons r rn =>
  cases rn
  obtain ⟨a, vs, rfl, hl, _, rs⟩ := rp_list r
  have hlen := rs.length
  refine len_list hl (by simp only [List.size_toArray]; omega) (q _ _ (ktok _ _) fun _ _ => ?_)
  simp only [List.size_toArray, hlen]; exact .int _ _
theorem bi_abs {i : Int} : Bi B n (.builtin "abs") [.int i] (.int (if i < 0 then -i else i)) := fun A s E Q vs bo ao hh r q => by
  cases r with | cons r rn =>
  cases rn
  obtain ⟨t, rfl⟩ := rp_int r
  exact call_abs_int fun u tk => q _ _ (ktok _ _) fun _ _ => .int _ _
end

mutual
theorem Rp.stepX {h h' : Heap} {X X' : Addr → Prop} (hk : ∀ a o, ¬ X a → ¬ IterObj o → h.get? a = some o → h'.get? a = some o) (hx : ∀ a o, ¬ X a → h.get? a = some o → ¬ X' a) : ∀ {v d}, Rp h X v d → Rp h' X' v d
  | _, _, .int i t => .int i t
  | _, _, .str x t => .str x t
  | _, _, .val v e => .val v e
  | _, _, .fn a o f ho hd hn => .fn a o f (hk _ _ hn (by rintro ⟨nm, vs, _, e, _⟩; rw [hd] at e; cases e) ho) hd (hx _ _ hn ho)
  | _, _, .tuple ht hn hr => .tuple (by obtain ⟨o, ho, hc, n, hd⟩ := ht; exact ⟨o, hk _ _ hn (by rintro ⟨nm, vs, _, e, _⟩; rw [hd] at e; cases e) ho, hc, n, hd⟩) (let ⟨_, ho, _⟩ := ht; hx _ _ hn ho) (RpAll.stepX hk hx hr)
  | _, _, .list ht hn hr => .list (by obtain ⟨o, ho, hc, n, hd⟩ := ht; exact ⟨o, hk _ _ hn (by rintro ⟨nm, vs, _, e, _⟩; rw [hd] at e; cases e) ho, hc, n, hd⟩) (let ⟨_, ho, _⟩ := ht; hx _ _ hn ho) (RpAll.stepX hk hx hr)
  | _, _, .range ht hn => .range (hk _ _ hn (by rintro ⟨nm, vs, c, _, e⟩; cases c; exact e.1 rfl) ht) (hx _ _ hn ht)
  | _, _, .flt b t => .flt b t
  | _, _, .obj ho hp hi hn => .obj (hk _ _ hn hi ho) hp hi (hx _ _ hn ho)
  | _, _, .abs F hp hq => .abs F hp fun q m => let ⟨a, b, c⟩ := hq q m; ⟨hk _ _ c b a, b, hx _ _ c a⟩
theorem RpAll.stepX {h h' : Heap} {X X' : Addr → Prop} (hk : ∀ a o, ¬ X a → ¬ IterObj o → h.get? a = some o → h'.get? a = some o) (hx : ∀ a o, ¬ X a → h.get? a = some o → ¬ X' a) : ∀ {vs ds}, RpAll h X vs ds → RpAll h' X' vs ds
  | _, _, .nil => .nil
  | _, _, .cons a r => .cons (Rp.stepX hk hx a) (RpAll.stepX hk hx r)
end
theorem Rp.step {h h' : Heap} {X : Addr → Prop} (hk : ∀ a o, ¬ IterObj o → h.get? a = some o → h'.get? a = some o) {v d} (r : Rp h X v d) : Rp h' X v d := r.stepX (fun a o _ => hk a o) fun _ _ n _ => n
theorem RpAll.step {h h' : Heap} {X : Addr → Prop} (hk : ∀ a o, ¬ IterObj o → h.get? a = some o → h'.get? a = some o) {v d} (r : RpAll h X v d) : RpAll h' X v d := r.stepX (fun a o _ => hk a o) fun _ _ n _ => n

section
variable {B : Bas} {h₀ h h' : Heap} {P O : Addr → Prop} {env : Env} {σ : Sto}
theorem ns_step {a m} (hk : ∀ a o, ¬ IterObj o → h.get? a = some o → h'.get? a = some o) (n : h.Ns a m) : h'.Ns a m := by
  obtain ⟨o, es, ep, e, d, r⟩ := n
  exact ⟨o, es, ep, hk _ _ (by rintro ⟨nm, vs, _, e, _⟩; rw [d] at e; cases e) e, d, r⟩
theorem cell_step {a m} (hk : ∀ a o, ¬ IterObj o → h.get? a = some o → h'.get? a = some o) (n : h.IsCell a m) : h'.IsCell a m := by
  obtain ⟨o, e, d⟩ := n
  exact ⟨o, hk _ _ (by rintro ⟨nm, vs, _, e, _⟩; rw [d] at e; cases e) e, d⟩
theorem plist_step {a m} (hk : ∀ a o, ¬ IterObj o → h.get? a = some o → h'.get? a = some o) (n : h.PlainList a m) : h'.PlainList a m := by
  obtain ⟨k, e⟩ := n
  exact ⟨k, hk _ _ (by rintro ⟨nm, vs, _, e, _⟩; cases e) e⟩
theorem var_step {x v} (hk : ∀ a o, ¬ IterObj o → h.get? a = some o → h'.get? a = some o) (y : VarIs env h x v) : VarIs env h' x v := by
  rcases y with ⟨k, m, n, e⟩ | ⟨k, c, l, e⟩
  · exact .inl ⟨k, m, ns_step hk n, e⟩
  · exact .inr ⟨k, c, l, cell_step hk e⟩
/-- an iterator goes on: the frame stands as it stood -/
theorem St.step (T : St B h₀ P env σ O h) (hk : ∀ a o, ¬ IterObj o → h.get? a = some o → h'.get? a = some o) (hb : ∀ b o, h₀.get? b = some o → h'.get? b = some o) (ho : ∀ a, O a → ∃ o, h'.get? a = some o) : St B h₀ P env σ O h' where
  base := T.base
  keep := hb
  plive := T.plive
  live := ho
  new := T.new
  ok := T.ok
  loc := T.loc
  ns := let ⟨m, n⟩ := T.ns; ⟨m, ns_step hk n⟩
  cells := fun x c l => let ⟨⟨v, e⟩, f⟩ := T.cells x c l; ⟨⟨v, cell_step hk e⟩, f⟩
  vars := fun x b e => by
    have := T.vars x b e
    cases b with
    | val d => obtain ⟨v, hv, r⟩ := this; exact ⟨v, var_step hk hv, r.step hk⟩
    | own ds => obtain ⟨a, vs, hv, h1, h2, h3, h4⟩ := this; exact ⟨a, vs, var_step hk hv, h1, h2, plist_step hk h3, h4.step hk⟩
  apart := fun x y ds es a ne hx hy vx vy => by
    obtain ⟨v, a1⟩ := (T.vars x _ hx).var
    obtain ⟨v', a2⟩ := (T.vars y _ hy).var
    have e1 := (var_step hk a1).fn vx; have e2 := (var_step hk a2).fn vy
    subst e1; subst e2
    exact T.apart x y ds es a ne hx hy a1 a2
end

structure Iter (B : Bas) (A : Around) (I : Addr) (fp wr : List Addr) (m : Nat) (Pv : Nat → Value → Prop) (Si : Nat → Heap → Prop) : Prop where
  W : Walks B.prog B.w A I fp wr m Pv Si
  go : ∀ i (s : Shared) target v (Q : Unit → Shared → Prop) (E : Value → Shared → Prop), Si i s.heap → Q () s → wpAny (model B.prog B.w) A (letOwnedTupleGo target (.ref I) v) Q E s
  live : ∀ i h, Si i h → ∀ b ∈ fp, ∃ o, h.get? b = some o
  kind : ∀ i h, Si i h → ∀ b ∈ wr, ∃ o, h.get? b = some o ∧ IterObj o

theorem wp_letGo {M : Model} {A : Around} {E : Value → Shared → Prop} {s : Shared} {Q : Unit → Shared → Prop} {target : Expr} {I : Addr} {v : Value} {o : Obj} {nm : String} {vs : Array Value} (ho : s.heap.get? I = some o) (hc : o.cls = .type nm)
    (hd : o.data = .fields vs) (hn : ["enumerate", "zip", "dict_itemiterator", "dict_reverseitemiterator", "odict_iterator", "itertools.zip_longest", "itertools.pairwise"].contains nm = false) (h : Q () s) :
    wpAny M A (letOwnedTupleGo target (.ref I) v) Q E s := by
  have key : wpAny M A (do let o ← load I
                           match o.cls, o.data with
                           | .type n, .fields vs =>
                             if ["enumerate", "zip", "dict_itemiterator", "dict_reverseitemiterator", "odict_iterator", "itertools.zip_longest", "itertools.pairwise"].contains n && vs[0]? == some (rawInt (match v with | .ref a => a | _ => 0)) then
                               rule "for.unpacks-the-owned-tuple"
                               updateField I 0 .none
                           | _, _ => pure ()) Q E s := by
    refine wpAny_bind (wpAny_load ho ?_)
    rw [hc, hd]
    simp only [hn, Bool.false_and, Bool.false_eq_true, if_false]
    exact wpAny_pure h
  unfold letOwnedTupleGo
  cases target <;> first | exact wpAny_pure h | (cases v <;> first | exact wpAny_pure h | exact key)

theorem iter_list {B : Bas} {A : Around} (hh : A.handled = none) (I ax : Addr) (hne : ax ≠ I) (items : Array Value) :
    Iter B A I [I, ax] [I] items.size (fun i v => items[i]? = some v) (fun i h => h.IsListIter I ax i ∧ h.IsList ax items) where
  W := Walks.list hh I ax hne items
  go := fun i s target v Q E st q => by obtain ⟨o, ho, hc, hd⟩ := st.1; exact wp_letGo ho hc hd (by decide) q
  live := fun i h st b hb => by
    rcases List.mem_cons.mp hb with rfl | hb
    · obtain ⟨o, ho, _⟩ := st.1; exact ⟨o, ho⟩
    · rw [List.mem_singleton.mp hb]; obtain ⟨o, ho, _⟩ := st.2; exact ⟨o, ho⟩
  kind := fun i h st b hb => by rw [List.mem_singleton.mp hb]; obtain ⟨o, ho, hc, hd⟩ := st.1; exact ⟨o, ho, _, _, hc, hd, by decide⟩
theorem iter_range {B : Bas} {A : Around} (hh : A.handled = none) (I : Addr) (a c : Int) (n : Nat) :
    Iter B A I [I] [I] n (fun i v => i < n ∧ ∃ t, v = .int (a + i * c) t) (fun i h => IsRangeIter h I (a + (i : Nat) * c) ((n : Int) - (i : Nat)) c) where
  W := (Walks.range hh I a c n).bound
  go := fun i s target v Q E st q => wp_letGo st rfl rfl (by decide) q
  live := fun i h st b hb => by rw [List.mem_singleton.mp hb]; exact ⟨_, st⟩
  kind := fun i h st b hb => by rw [List.mem_singleton.mp hb]; exact ⟨_, st, _, _, rfl, rfl, by decide⟩

/-- what a for goes over; f: what the walk looks at never changes -/
def EvIt (f : Bool) (B : Bas) (n : Nat) (env : Env) (σ : Sto) (e : Expr) (ds : List D) : Prop :=
  ∀ (h₀ : Heap) (P O : Addr → Prop) (A : Around) (s : Shared) (E : Value → Shared → Prop) (Q : Value → Shared → Prop), B.Ok → AOk n A → St B h₀ P env σ O s.heap →
    (∀ s₂ I fp wr Pv Si, Keeps s s₂ → Iter B A I fp wr ds.length Pv Si → Si 0 s₂.heap → (∀ b ∈ wr, s.heap.get? b = none) → (∀ b ∈ fp, b < s₂.heap.objs.size) → (f = true → ∀ b ∈ fp, ¬ (P b ∨ O b)) →
      (∀ i v, Pv i v → ∃ d, ds[i]? = some d ∧ Rp s₂.heap (fun a => P a ∨ O a) v d) → Q (.ref I) s₂) →
    wpAny (model B.prog B.w) A (eval e env) (fun x s₁ => wpAny (model B.prog B.w) A (pyIter x) Q E s₁) E s

def rngD (a b : Int) : List D := (List.range (b - a).toNat).map fun (i : Nat) => D.int (a + i)

section
variable {B : Bas} {n : Nat} {env : Env} {σ : Sto} {e : Expr}
theorem EvIt.weak {ds} (x : EvIt true B n env σ e ds) : EvIt false B n env σ e ds := fun h₀ P O A s E Q bo ao T q => x h₀ P O A s E Q bo ao T fun s₂ I fp wr Pv Si k it st hw hb hf hr => q s₂ I fp wr Pv Si k it st hw hb (fun e => nomatch e) hr

theorem evit_list {f ds} (x : Ev B n env σ e (.list ds)) : EvIt f B n env σ e ds := fun h₀ P O A s E Q bo ao T q =>
  x h₀ P O A s E _ bo ao T fun v s₁ k₁ r => by
    obtain ⟨a, vs, rfl, hl, ha, rs⟩ := rp_list r
    have hne : a ≠ s₁.heap.objs.size := by obtain ⟨o, e, _⟩ := hl; exact Nat.ne_of_lt (Heap.lt_size e)
    have hlen : vs.toArray.size = ds.length := by rw [List.size_toArray]; exact rs.length
    refine wpAny_pyIter_list hl (q _ _ [s₁.heap.objs.size, a] [s₁.heap.objs.size] (fun i v => vs.toArray[i]? = some v) (fun i h => h.IsListIter s₁.heap.objs.size a i ∧ h.IsList a vs.toArray) (ktrans k₁ (kpush' _ _)) (hlen ▸ iter_list ao.handled _ a hne vs.toArray) ⟨⟨_, Heap.get?_push_size _ rfl, rfl, rfl⟩, hl.at fun o e => Heap.get?_push_of_some _ e⟩ ?_ ?_ ?_ ?_)
    · intro b hb; rw [List.mem_singleton.mp hb]; exact fresh_kp k₁
    · intro b hb
      show b < (s₁.heap.push _).objs.size
      rw [Heap.size_push]
      rcases List.mem_cons.mp hb with rfl | hb
      · exact Nat.lt_succ_self _
      · rw [List.mem_singleton.mp hb]; obtain ⟨o, e, _⟩ := hl; exact Nat.lt_succ_of_lt (Heap.lt_size e)
    · intro _ b hb
      rcases List.mem_cons.mp hb with rfl | hb
      · exact (T.kp k₁).notX' (Nat.le_refl _)
      · rw [List.mem_singleton.mp hb]; exact ha
    · intro i v hv
      obtain ⟨d, hd, r⟩ := rs.get (k := i) (v := v) (by simpa using hv)
      exact ⟨d, hd, r.keeps fun a o e => Heap.get?_push_of_some _ e⟩
theorem evit_range {f} {a b : Int} (x : Ev B n env σ e (.range a b)) (ha : -1000000 ≤ a) (ha' : a ≤ 1000000) (hb : -1000000 ≤ b) (hb' : b ≤ 1000000) : EvIt f B n env σ e (rngD a b) := fun h₀ P O A s E Q bo ao T q =>
  x h₀ P O A s E _ bo ao T fun v s₁ k₁ r => by
    obtain ⟨r, t, u, w, rfl, hr, hx⟩ := rp_range r
    have hlen : (rngD a b).length = (b - a).toNat := by simp [rngD]
    have hsz : Builtin.Range.rangeSize a b 1 = (((b - a).toNat : Nat) : Int) := by rw [rangeSize_one]; split <;> omega
    refine wpAny_pyIter_range hr (small_one (by omega) (by omega) (by omega) (by omega)) (q _ _ [s₁.heap.objs.size] [s₁.heap.objs.size] (fun i v => i < (b - a).toNat ∧ ∃ t, v = .int (a + i * 1) t) (fun i h => IsRangeIter h s₁.heap.objs.size (a + (i : Nat) * 1) (((b - a).toNat : Int) - (i : Nat)) 1) (ktrans k₁ (kpush' _ _)) (by rw [hlen]; exact iter_range ao.handled _ a 1 (b - a).toNat) ?_ ?_ ?_ ?_ ?_)
    · dsimp only; rw [hsz]; simpa using Heap.get?_push_size _ rfl
    · intro b hb; rw [List.mem_singleton.mp hb]; exact fresh_kp k₁
    · intro b hb
      show b < (s₁.heap.push _).objs.size
      rw [Heap.size_push, List.mem_singleton.mp hb]; exact Nat.lt_succ_self _
    · intro _ b hb; rw [List.mem_singleton.mp hb]; exact (T.kp k₁).notX' (Nat.le_refl _)
    · rintro i v ⟨hi, t, rfl⟩
      refine ⟨.int (a + i), by simp [rngD, List.getElem?_range hi], ?_⟩
      rw [Int.mul_one]; exact .int _ _

/-- a target is assigned -/
def Asg (B : Bas) (n : Nat) (env : Env) (σ : Sto) (target : Expr) (d : D) (σ' : Sto) : Prop :=
  ∀ (h₀ : Heap) (P O : Addr → Prop) (A : Around) (s : Shared) (E : Value → Shared → Prop) (Q : Unit → Shared → Prop) (v : Value), B.Ok → AOk n A → St B h₀ P env σ O s.heap → Rp s.heap (fun a => P a ∨ O a) v d →
    (∀ s', Mov (Names env) s s' → St B h₀ P env σ' O s'.heap → Q () s') → wpAny (model B.prog B.w) A (assign target env v) Q E s
theorem asg_name {x : String} {p : Pos} {d : D} (hx : Storable env x) : Asg B n env σ (.Name (S x) p) d (σ.put x (.val d)) := fun h₀ P O A s E Q v bo ao T r q =>
  wpAny_assign_Name (wp_store (b := .val d) T hx r q)

/-- several targets in order -/
def Asgs (B : Bas) (n : Nat) (env : Env) (σ : Sto) (ts : List Expr) (ds : List D) (σ' : Sto) : Prop :=
  ∀ (h₀ : Heap) (P O : Addr → Prop) (A : Around) (s : Shared) (E : Value → Shared → Prop) (Q : Unit → Shared → Prop) (vs : List Value), B.Ok → AOk n A → St B h₀ P env σ O s.heap → RpAll s.heap (fun a => P a ∨ O a) vs ds →
    (∀ s', Mov (Names env) s s' → St B h₀ P env σ' O s'.heap → Q () s') → wpAny (model B.prog B.w) A (assignInOrder ((assignEach ts env).map (·.2)) vs) Q E s
end

section
variable {B : Bas} {n : Nat} {env : Env} {σ : Sto} {R : Fl → Sto → Prop}

theorem St.sub {h₀ h P O} (T : St B h₀ P env σ O h) {b : Addr} (hb : O b) : ∃ o, h.get? b = some o := T.live b hb

theorem take_split {α : Type} {ds : List α} {i : Nat} {d : α} (h : ds[i]? = some d) : ds = ds.take i ++ d :: ds.drop (i + 1) ∧ ds.take (i + 1) = ds.take i ++ [d] := by
  have hs : ds.take (i + 1) = ds.take i ++ [d] := by simp [List.take_add_one, h]
  refine ⟨?_, hs⟩
  have := List.take_append_drop (i + 1) ds
  rw [hs, List.append_assoc] at this
  exact this.symm

/-- a for by an invariant -/
theorem ex_for {target iter : Expr} {body : List Stmt} {p : Pos} {ds : List D} (Inv : List D → Sto → Prop) (x : EvIt true B n env σ iter ds) (h0 : Inv [] σ)
    (turn : ∀ pre d post σ', ds = pre ++ d :: post → Inv pre σ' → ∃ σ'', Asg B n env σ' target d σ'' ∧
      Ex B n env σ'' body (fun fl τ => match fl with | .next => Inv (pre ++ [d]) τ | .cont => Inv (pre ++ [d]) τ | .brk => R .next τ | .ret v => R (.ret v) τ))
    (done : ∀ σ', Inv ds σ' → R .next σ') (hs : ∀ x, foldedSetIterable iter env x = pure x := by intro _; rfl) : Ex1 B n env σ (.For target iter body [] p) R := by
  intro h₀ P O A s E bo ao T
  refine wpAny_For (x h₀ P O A s E _ bo ao T fun s₂ I fp wr Pv Si k it st hw hb hf hr => ?_) hs
  have hf := hf rfl
  have T₂ := T.kp k
  have hlive := it.live 0 _ st
  refine codeAny_forLoop_any (fun (kk : Nat) (s' : Shared) => ∃ i σ' O', kk = ds.length + 1 - i ∧ i ≤ ds.length ∧ (∃ h' tk, s' = { s₂ with heap := h', toks := tk }) ∧ Si i s'.heap ∧ St B h₀ P env σ' O' s'.heap ∧ Inv (ds.take i) σ' ∧
      (∀ b o, ¬ O b → b ∉ wr → s₂.heap.get? b = some o → s'.heap.get? b = some o) ∧ (∀ b, O' b → O b ∨ s₂.heap.get? b = none)) ?_ (ds.length + 1)
    ⟨0, σ, O, rfl, Nat.zero_le _, ⟨s₂.heap, s₂.toks, rfl⟩, st, T₂, by simpa using h0, fun _ _ _ _ e => e, fun _ q => .inl q⟩
  rintro kk s' ⟨i, σ', O', rfl, hi, ⟨hh, tk, rfl⟩, st', T', hI, hk, hO⟩
  have fpO : ∀ b ∈ fp, ¬ O' b := fun b hbf q => by
    rcases hO b q with q | q
    · exact hf b hbf (.inr q)
    · obtain ⟨o, e⟩ := hlive b hbf; rw [q] at e; cases e
  have wrO : ∀ b ∈ wr, ¬ O' b := fun b hbw => fpO b (it.W.sub b hbw)
  -- what is kept at the end
  have fin : ∀ (O'' : Addr → Prop) (s'' : Shared), (∃ h' tk, s'' = { s₂ with heap := h', toks := tk }) → (∀ b o, ¬ O b → b ∉ wr → s₂.heap.get? b = some o → s''.heap.get? b = some o) → (∀ b, O'' b → O b ∨ s₂.heap.get? b = none) →
      Mov O s s'' ∧ ∀ b, O'' b → O b ∨ s.heap.get? b = none := by
    rintro O'' s'' ⟨h', tk', rfl⟩ hk' hO'
    obtain ⟨h2, tk2, rfl, k2⟩ := k
    refine ⟨⟨h', tk', rfl, fun b o nb e => hk' b o nb (fun hbw => by rw [hw b hbw] at e; cases e) (k2 b o e)⟩, fun b q => (hO' b q).imp id fun q => ?_⟩
    cases e : s.heap.get? b with
    | none => rfl
    | some o => rw [k2 b o e] at q; cases q
  -- the iterator goes on
  have stepSt : ∀ h₁ : Heap, (∀ b o, b ∉ wr → hh.get? b = some o → h₁.get? b = some o) → St B h₀ P env σ' O' h₁ := fun h₁ hk₁ =>
    T'.step (fun a o ni e => hk₁ a o (fun hbw => by obtain ⟨o', e', q⟩ := it.kind i _ st' a hbw; rw [e] at e'; cases e'; exact ni q) e)
      (fun b o e => hk₁ b o (fun hbw => by have := hw b hbw; rw [T.keep b o e] at this; cases this) (T'.keep b o e))
      (fun a q => by obtain ⟨o, e⟩ := T'.live a q; exact ⟨o, hk₁ a o (fun hbw => wrO a hbw q) e⟩)
  by_cases hlt : i < ds.length
  · refine it.W.item i _ _ _ hlt st' fun v h₁ tk₁ hPv st₁ hk₁ => ?_
    obtain ⟨d, hd, rd⟩ := hr i v hPv
    obtain ⟨e1, e2⟩ := take_split hd
    have T₁ := stepSt h₁ hk₁
    refine it.go _ _ _ _ _ _ st₁ ?_
    obtain ⟨σ'', hasg, hex⟩ := turn _ d _ σ' e1 hI
    have rd' : Rp h₁ (fun a => P a ∨ O' a) v d := by
      refine Rp.step (fun a o ni e => hk₁ a o (fun hbw => by obtain ⟨o', e', q⟩ := it.kind i _ st' a hbw; rw [e] at e'; cases e'; exact ni q) e) (rd.stepX (h' := hh) (X' := fun a => P a ∨ O' a) (fun a o na ni e => ?_) (fun a o na e q => ?_))
      · exact hk a o (fun q => na (.inr q)) (fun haw => by obtain ⟨o', e', q⟩ := it.kind 0 _ st a haw; rw [e] at e'; cases e'; exact ni q) e
      · rcases q with q | q
        · exact na (.inl q)
        · rcases hO a q with q | q
          · exact na (.inr q)
          · rw [q] at e; cases e
    refine hasg h₀ P O' A _ _ _ v bo ao T₁ rd' fun s₃ m₃ T₃ => ?_
    refine wpAny_mono (hex h₀ P O' A s₃ _ bo ao T₃) (fun f s₄ q => ?_) fun _ _ q => q
    obtain ⟨fl, τ, O₄, m₄, hfl, hR, hO₄, T₄⟩ := q
    obtain ⟨h3, tk3, rfl, k3⟩ := m₃.names T₁
    obtain ⟨h4, tk4, rfl, k4⟩ := m₄
    have keepAll : ∀ b o, ¬ O' b → h₁.get? b = some o → h4.get? b = some o := fun b o nb e => k4 b o nb (k3 b o nb e)
    have hk4 : ∀ b o, ¬ O b → b ∉ wr → s₂.heap.get? b = some o → h4.get? b = some o := fun b o nb nw e =>
      keepAll b o (fun q => (hO b q).elim nb fun q => by rw [q] at e; cases e) (hk₁ b o nw (hk b o nb nw e))
    have hO4 : ∀ b, O₄ b → O b ∨ s₂.heap.get? b = none := fun b q => by
      rcases hO₄ b q with q | q
      · exact hO b q
      · by_cases hOb : O b
        · exact .inl hOb
        · by_cases hbw : b ∈ wr
          · obtain ⟨o, e⟩ := it.live _ _ st₁ b (it.W.sub b hbw)
            have : h3.get? b = some o := k3 b o (wrO b hbw) e
            rw [this] at q; cases q
          · refine .inr ?_
            cases e : s₂.heap.get? b with
            | none => rfl
            | some o =>
              have h5 := hk₁ b o hbw (hk b o hOb hbw e)
              by_cases ho' : O' b
              · rcases hO b ho' with z | z
                · exact absurd z hOb
                · rw [z] at e; cases e
              · have := k3 b o ho' h5
                rw [this] at q; cases q
    have stN : Si (i + 1) h4 := it.W.frame _ _ _ st₁ fun b hbf o e => keepAll b o (fpO b hbf) e
    obtain ⟨mv, mo⟩ := fin O₄ _ ⟨h4, tk4, rfl⟩ hk4 hO4
    cases f with
    | next =>
      cases fl <;> try exact hfl.elim
      exact ⟨_, by omega, i + 1, τ, O₄, rfl, hlt, ⟨h4, tk4, rfl⟩, stN, T₄, e2 ▸ hR, hk4, hO4⟩
    | cont =>
      cases fl <;> try exact hfl.elim
      exact ⟨_, by omega, i + 1, τ, O₄, rfl, hlt, ⟨h4, tk4, rfl⟩, stN, T₄, e2 ▸ hR, hk4, hO4⟩
    | brk =>
      cases fl <;> try exact hfl.elim
      exact ⟨.next, τ, O₄, mv, trivial, hR, mo, T₄⟩
    | ret w =>
      cases fl <;> try exact hfl.elim
      exact ⟨.ret _, τ, O₄, mv, hfl, hR, mo, T₄⟩
  · have hi' : i = ds.length := by omega
    subst hi'
    rw [List.take_length] at hI
    refine it.W.done _ _ _ st' fun h₁ tk₁ hk₁ => ?_
    have hk1 : ∀ b o, ¬ O b → b ∉ wr → s₂.heap.get? b = some o → h₁.get? b = some o := fun b o nb nw e => hk₁ b o nw (hk b o nb nw e)
    obtain ⟨mv, mo⟩ := fin O' { s₂ with heap := h₁, toks := tk₁ } ⟨h₁, tk₁, rfl⟩ hk1 hO
    exact wpAny_execs_nil ⟨.next, σ', O', mv, trivial, done _ hI, mo, stepSt h₁ hk₁⟩
end

section
variable {B : Bas} {n : Nat} {env : Env} {σ : Sto} {R : Fl → Sto → Prop}

end

/-- what a def of the text gives back -/
def FnS (B : Bas) (n : Nat) (a : Addr) (ds : List D) (d : D) : Prop :=
  ∀ (P : Addr → Prop) (A : Around) (s : Shared) (E : Value → Shared → Prop) (Q : Value → Shared → Prop) (vs : List Value), B.Ok → AOk n A → B.Here s.heap → (∀ x, P x → (∃ o, s.heap.get? x = some o) ∧ B.hB.get? x = none) → RpAll s.heap P vs ds →
    (∀ v s', Keeps s s' → Rp s'.heap P v d → Q v s') → wpAny (model B.prog B.w) A (call (.ref a) vs) Q E s

structure FnAt (B : Bas) (a : Addr) (name : Str) (params : Arguments) (body : List Stmt) (scope : Scope) : Prop where
  at_ : ∃ o pm cd doc, B.hB.get? a = some o ∧ o.data = .func (docDef name params body scope pm cd doc) ∧ B.hB.CodeRec cd name

/-- the environment of a call -/
structure FEnv (sc : Scope) (env : Env) : Prop where
  scope : env.scope = sc
  func : env.func.isSome = true
  cells : ∀ x, sc.names.lookup x = some .cell → (env.cells.lookup x).isSome = true

theorem bindL_get {kindOf : Str → Option NameKind} {x : Str} {v : Value} (hk : kindOf x = some .local) : ∀ (binds : List (Str × Value)) (m : Str → Option Value), (binds.map (·.1)).Nodup → (x, v) ∈ binds → bindL kindOf binds m x = some v := by
  have other : ∀ (binds : List (Str × Value)) (m : Str → Option Value), x ∉ binds.map (·.1) → bindL kindOf binds m x = m x := by
    intro binds
    induction binds with
    | nil => intro m _; rfl
    | cons p r ih =>
      obtain ⟨y, w⟩ := p
      intro m hn
      simp only [List.map_cons, List.mem_cons, not_or] at hn
      unfold bindL
      rw [ih _ hn.2]
      split
      · exact if_neg hn.1
      · rfl
  intro binds
  induction binds with
  | nil => intro m _ h; cases h
  | cons p r ih =>
    obtain ⟨y, w⟩ := p
    intro m hn hm
    simp only [List.map_cons, List.nodup_cons] at hn
    unfold bindL
    rcases List.mem_cons.mp hm with e | hm
    · cases e
      rw [other _ _ hn.1, if_pos hk]; exact if_pos rfl
    · exact ih _ hn.2 hm
theorem bindC_get {kindOf : Str → Option NameKind} {x : Str} {v : Value} (hk : kindOf x ≠ some .local) : ∀ (binds : List (Str × Value)) (m : Str → Option Value), (binds.map (·.1)).Nodup → (x, v) ∈ binds → bindC kindOf binds m x = some v := by
  have other : ∀ (binds : List (Str × Value)) (m : Str → Option Value), x ∉ binds.map (·.1) → bindC kindOf binds m x = m x := by
    intro binds
    induction binds with
    | nil => intro m _; rfl
    | cons p r ih =>
      obtain ⟨y, w⟩ := p
      intro m hn
      simp only [List.map_cons, List.mem_cons, not_or] at hn
      unfold bindC
      rw [ih _ hn.2]
      split
      · rfl
      · exact if_neg hn.1
  intro binds
  induction binds with
  | nil => intro m _ h; cases h
  | cons p r ih =>
    obtain ⟨y, w⟩ := p
    intro m hn hm
    simp only [List.map_cons, List.nodup_cons] at hn
    unfold bindC
    rcases List.mem_cons.mp hm with e | hm
    · cases e
      rw [other _ _ hn.1, if_neg hk]; exact if_pos rfl
    · exact ih _ hn.2 hm

theorem cellsFrom_some : ∀ (names : List (Str × NameKind)) (k : Nat) (acc : List (Str × Addr)) (x : Str), (names.lookup x = some .cell ∨ (acc.lookup x).isSome = true) → ((cellsFrom k names acc).lookup x).isSome = true := by
  intro names
  induction names with
  | nil => intro k acc x h; rcases h with h | h; cases h; exact h
  | cons p r ih =>
    obtain ⟨y, kd⟩ := p
    intro k acc x h
    unfold cellsFrom
    by_cases hx : x = y
    · subst hx
      rcases h with h | h
      · simp only [List.lookup_cons, beq_self_eq_true] at h
        cases h
        exact ih _ _ _ (.inr (by simp [List.lookup_cons]))
      · split
        · exact ih _ _ _ (.inr (by simp [List.lookup_cons]))
        · exact ih _ _ _ (.inr h)
    · have hb : (x == y) = false := by simpa using hx
      split
      · refine ih _ _ _ (h.imp (fun h => by simpa [List.lookup_cons, hb] using h) fun h => by simpa [List.lookup_cons, hb] using h)
      · refine ih _ _ _ (h.imp (fun h => by simpa [List.lookup_cons, hb] using h) id)

theorem lookup_apart {cs : List (Str × Addr)} (hp : cs.Pairwise fun x y => x.2 ≠ y.2) : ∀ {x y c}, cs.lookup x = some c → cs.lookup y = some c → x = y := by
  induction cs with
  | nil => intro x y c h; cases h
  | cons p r ih =>
    obtain ⟨z, w⟩ := p
    intro x y c hx hy
    rw [List.pairwise_cons] at hp
    simp only [List.lookup_cons] at hx hy
    split at hx <;> split at hy
    · rename_i h1 _ h2; rw [beq_iff_eq.mp h1, beq_iff_eq.mp h2]
    · cases hx; exact absurd rfl (hp.1 (y, w) (PySem.mem_of_lookup hy))
    · cases hy; exact absurd rfl (hp.1 (x, w) (PySem.mem_of_lookup hx))
    · exact ih hp.2 hx hy

def binds0 (xs : List String) (ds : List D) : Sto := (xs.zip ds).map fun p => (p.1, Bnd.val p.2)

theorem binds0_get {xs : List String} {ds : List D} {h : Heap} {X : Addr → Prop} {vs : List Value} (r : RpAll h X vs ds) (hl : xs.length = ds.length) {x : String} {b : Bnd} (hb : (binds0 xs ds).get x = some b) :
    ∃ d v, b = .val d ∧ Rp h X v d ∧ (S x, v) ∈ (xs.map S).zip vs := by
  induction xs generalizing ds vs with
  | nil => simp [binds0, Sto.get] at hb
  | cons y ys ih =>
    cases r with
    | nil => simp at hl
    | cons r rs =>
      simp only [binds0, List.zip_cons_cons, List.map_cons, Sto.get] at hb
      by_cases hy : y = x
      · subst hy
        simp only [if_true] at hb
        exact ⟨_, _, (Option.some.inj hb).symm, r, by simp⟩
      · rw [if_neg hy] at hb
        obtain ⟨d, v, e, r', m⟩ := ih rs (by simpa using hl) hb
        exact ⟨d, v, e, r', by simp [m]⟩

theorem fns_of {B : Bas} {n : Nat} {a : Addr} {name : Str} {params : Arguments} {body : List Stmt} {scope : Scope} {xs : List String} {ds : List D} {d : D} (F : FnAt B a name params body scope) (hk : scope.kind = .function)
    (hbind : ∀ pm cd doc vs, vs.length = xs.length → bindArgs (docDef name params body scope pm cd doc) ⟨vs, []⟩ = pure ((xs.map S).zip vs)) (hlen : xs.length = ds.length) (hnd : xs.Nodup)
    (hkind : ∀ x ∈ xs, scope.names.lookup (S x) = some .local ∨ scope.names.lookup (S x) = some .cell)
    (h : ∀ env, FEnv scope env → Ex B n env (binds0 xs ds) body fun fl _ => match fl with | .ret e => e = d | .next => d = .none | _ => False)
    (hco : scope.isCoroutine = false := by rfl) (hgen : scope.isGenerator = false := by rfl) : FnS B (n + 1) a ds d := by
  intro P A s E Q vs bo ao hh hP r q
  obtain ⟨o, pm, cd, doc, ho, hd, hcd⟩ := F.at_
  have hvl : vs.length = xs.length := by rw [r.length, hlen]
  refine wpAny_call (codeAny_mono (codeAny_call_cells (R := fun res s' => ∃ v, res = .ok (.ret v) ∧ Keeps s s' ∧ Rp s'.heap P v d) (by have := ao.depth; omega) (hh _ _ ho) hd (bo.nolimit.keeps hh) (hcd.keeps hh) rfl (hbind pm cd doc vs hvl) rfl ?_ ?_ hco hgen hk) ?_)
  · intro x hx
    obtain ⟨y, hy, e⟩ : ∃ y ∈ xs, x.1 = S y := by
      have := List.of_mem_zip hx
      obtain ⟨y, hy, e⟩ := List.mem_map.mp this.1
      exact ⟨y, hy, e.symm⟩
    rw [e]
    rcases hkind y hy with q | q
    · exact .inl q
    · exact .inr ⟨q, cellsFrom_some _ _ _ _ (.inl q)⟩
  · intro s₁ C
    generalize henv : callEnvC (docDef name params body scope pm cd doc) s.heap.objs.size a = env at C
    have hsc : env.scope = scope := by rw [← henv]; rfl
    have hloc : env.locals = s.heap.objs.size := by rw [← henv]; rfl
    have hfn : env.func.isSome = true := by rw [← henv]; rfl
    have hgl : env.globals = mainGlobals := by rw [← henv]; rfl
    have hbi : env.builtins = builtinsNs := by rw [← henv]; rfl
    have hcells : env.cells = cellsFrom (s.heap.objs.size + 1) scope.names [] := by rw [← henv]; rfl
    have fe : FEnv scope env := ⟨hsc, hfn, fun x hx => by rw [hcells]; exact cellsFrom_some _ _ _ _ (.inl hx)⟩
    have kK : Keeps s s₁ := C.toInCall.done
    have nodup : (((xs.map S).zip vs).map (·.1)).Nodup := by
      rw [List.map_fst_zip (by simp [hvl])]
      exact List.Pairwise.map S (fun a b ne e => ne (S_inj e)) hnd
    have T : St B s.heap P env (binds0 xs ds) (fun b => b = env.locals ∨ ∃ x, env.cells.lookup x = some b) s₁.heap := by
      have notold : ∀ b, s.heap.objs.size ≤ b → s.heap.get? b = none := fun b hb => fresh_of hb
      have hnew : ∀ b, (b = env.locals ∨ ∃ x, env.cells.lookup x = some b) → s.heap.get? b = none := by
        rintro b (e | ⟨x, hx⟩)
        · subst e; exact notold _ (Nat.le_of_eq hloc.symm)
        · have := C.above x b (PySem.mem_of_lookup hx); exact notold _ (Nat.le_of_lt (by rw [hloc] at this; exact this))
      have rx : RpAll s₁.heap (fun b => P b ∨ (b = env.locals ∨ ∃ x, env.cells.lookup x = some b)) vs ds := r.mono (fun a o _ e => kheap kK a o e) fun a o np e => by
        rintro (q | q)
        · exact np q
        · rw [hnew a q] at e; cases e
      refine ⟨hh, C.toInCall.keep, hP, ?_, hnew, ⟨by rw [hsc]; exact hk, hgl, hbi, fun x y c h1 h2 => lookup_apart C.apart h1 h2⟩, .inl rfl, ⟨_, C.toInCall.ns⟩, fun x c l => ⟨⟨_, C.cell x c l⟩, fun _ => .inr ⟨x, l⟩⟩, fun x b hb => ?_, ?_⟩
      · rintro b (e | ⟨x, hx⟩)
        · subst e; obtain ⟨o, _, _, e, _⟩ := C.toInCall.ns; exact ⟨o, e⟩
        · obtain ⟨o, e, _⟩ := C.cell x b hx; exact ⟨o, e⟩
      · obtain ⟨d', v, rfl, rv, hm⟩ := binds0_get rx hlen hb
        refine ⟨v, ?_, rv⟩
        have hxm : x ∈ xs := by
          have := (List.of_mem_zip hm).1
          obtain ⟨y, hy, e⟩ := List.mem_map.mp this
          rwa [← S_inj e]
        rcases hkind x hxm with kx | kx
        · refine .inl ⟨by unfold Env.kindOf; rw [hsc]; exact kx, _, C.toInCall.ns, ?_⟩
          exact bindL_get (by unfold Env.kindOf; rw [hsc]; exact kx) _ _ nodup hm
        · obtain ⟨c, hc⟩ := Option.isSome_iff_exists.mp (fe.cells _ kx)
          refine .inr ⟨.inl (by unfold Env.kindOf; rw [hsc]; exact kx), c, hc, ?_⟩
          have := C.cell _ _ hc
          rwa [bindC_get (by unfold Env.kindOf; rw [hsc, kx]; intro q; cases q) _ _ nodup hm] at this
      · intro x y ds' es a' ne hx
        obtain ⟨_, _, e, _⟩ := binds0_get r hlen hx; cases e
    refine wpAny_mono (h env fe s.heap P _ _ s₁ _ bo ⟨ao.handled, by have := ao.depth; show A.depth + 1 + n < _; omega, by have := ao.units; show A.units + 3 + 5 * n + 100 < _; omega⟩ T) (fun f s' z => ?_) fun _ _ z => z
    obtain ⟨fl, σ', O', mv, hfl, hR, hO, T'⟩ := z
    have kk : Keeps s s' := by
      obtain ⟨h', tk', rfl, k'⟩ := mv
      obtain ⟨h1, tk1, rfl, k1⟩ := kK
      exact ⟨h', tk', rfl, T'.keep⟩
    cases f with
    | ret v =>
      cases fl <;> try exact hfl.elim
      cases hR
      exact ⟨v, rfl, kk, hfl⟩
    | next =>
      cases fl <;> try exact hfl.elim
      cases hR
      exact ⟨.none, rfl, kk, .val _ rfl⟩
    | brk => cases fl <;> first | exact hfl.elim | exact hR.elim
    | cont => cases fl <;> first | exact hfl.elim | exact hR.elim
  · rintro res s' ⟨v, rfl, kk, rv⟩
    exact q v s' kk rv

section
variable {B : Bas} {n : Nat} {env : Env} {σ : Sto} {h₀ h h' : Heap} {P O : Addr → Prop}
theorem St.forget {σ' : Sto} (T : St B h₀ P env σ O h) (hs : ∀ x b, σ'.get x = some b → σ.get x = some b) : St B h₀ P env σ' O h :=
  ⟨T.base, T.keep, T.plive, T.live, T.new, T.ok, T.loc, T.ns, T.cells, fun x b e => T.vars x b (hs x b e), fun x y ds es a ne hx hy => T.apart x y ds es a ne (hs _ _ hx) (hs _ _ hy)⟩
/-- an own address that no name holds is changed -/
theorem St.chg (T : St B h₀ P env σ O h) {c : Addr} (hc : O c) (hs : Heap.SameBut c h h') (hlc : ∃ o, h'.get? c = some o) (hl : c ≠ env.locals) (hcell : ∀ y k, env.cells.lookup y = some k → k ≠ c)
    (hv : ∀ x ds, σ.get x = some (.own ds) → ¬ VarIs env h (S x) (.ref c)) : St B h₀ P env σ O h' := by
  have hk : ∀ a o, ¬ (P a ∨ O a) → h.get? a = some o → h'.get? a = some o := fun a o n e => (hs.2 a (fun q => n (.inr (q ▸ hc)))).trans e
  have mvv : ∀ {x w}, VarIs env h x w → VarIs env h' x w := by
    rintro x w (⟨kd, m, nn, e⟩ | ⟨kd, k, l, e⟩)
    · exact .inl ⟨kd, m, nn.sameBut hs (Ne.symm hl), e⟩
    · exact .inr ⟨kd, k, l, e.sameBut hs (hcell _ _ l)⟩
  have bck : ∀ {x w}, (∃ b, σ.get x = some b) → VarIs env h' (S x) w → VarIs env h (S x) w := by
    rintro x w ⟨b, hb⟩ hw
    obtain ⟨w', hw'⟩ := (T.vars x b hb).var
    rw [hw.fn (mvv hw')]; exact hw'
  have mv : ∀ {v d}, Rp h (fun a => P a ∨ O a) v d → Rp h' (fun a => P a ∨ O a) v d := fun r => r.mono hk fun _ _ n _ => n
  have mva : ∀ {v d}, RpAll h (fun a => P a ∨ O a) v d → RpAll h' (fun a => P a ∨ O a) v d := fun r => r.mono hk fun _ _ n _ => n
  refine ⟨T.base, fun b o e => ?_, T.plive, fun a q => ?_, T.new, T.ok, T.loc, let ⟨m, nn⟩ := T.ns; ⟨m, nn.sameBut hs (Ne.symm hl)⟩, fun y k e => ?_, fun y b' e => ?_, fun y z ds es a ne hy hz vy vz => ?_⟩
  · exact (hs.2 b (fun q => by subst q; rw [T.new _ hc] at e; cases e)).trans (T.keep b o e)
  · by_cases q' : a = c
    · subst q'; exact hlc
    · obtain ⟨o, e⟩ := T.live a q; exact ⟨o, (hs.2 a q').trans e⟩
  · obtain ⟨⟨v, q⟩, f⟩ := T.cells y k e
    exact ⟨⟨v, q.sameBut hs (hcell _ _ e)⟩, f⟩
  · have := T.vars y b' e
    cases b' with
    | val d => obtain ⟨w, hw, r⟩ := this; exact ⟨w, mvv hw, mv r⟩
    | own ds =>
      obtain ⟨a, vs, hw, h1, h2, h3, h4⟩ := this
      refine ⟨a, vs, mvv hw, h1, h2, ?_, mva h4⟩
      have ha : a ≠ c := fun q => hv y ds e (q ▸ hw)
      obtain ⟨o, ho⟩ := h3
      exact ⟨o, (hs.2 a ha).trans ho⟩
  · exact T.apart y z ds es a ne hy hz (bck ⟨_, hy⟩ vy) (bck ⟨_, hz⟩ vz)
end

/-- the tests of a comprehension's clause -/
def Tsts (B : Bas) (n : Nat) (env : Env) (σ : Sto) (ifs : List Expr) (p : Bool) : Prop :=
  ∀ (h₀ : Heap) (P O : Addr → Prop) (A : Around) (s : Shared) (E : Value → Shared → Prop) (Q : Bool → Shared → Prop), B.Ok → AOk n A → St B h₀ P env σ O s.heap →
    (∀ s', Keeps s s' → Q p s') → wpAny (model B.prog B.w) A (forIn ifs true fun c r => if r = true then do let ok ← isTrue c env (eval c env); pure (ForInStep.yield ok) else pure (ForInStep.yield r)) Q E s
theorem tsts_one {B n env σ c p} (x : Tst B n env σ c p) : Tsts B n env σ [c] p := fun h₀ P O A s E Q bo ao T q => by
  rw [List.forIn_cons]
  simp only [if_true]
  refine wpAny_bind (wpAny_bind (x h₀ P O A s E _ bo ao T fun s' k => wpAny_pure ?_))
  exact wpAny_pure (q s' k)

/-- the environment of a comprehension -/
structure CEnv (sc : Scope) (cenv : Env) : Prop where
  loc : ∀ x, sc.names.lookup x = some .local → cenv.kindOf x = some .local
  glob : ∀ x, sc.names.lookup x = some .globalImplicit → cenv.kindOf x = some .globalImplicit

def capt (σ : Sto) (caps : List String) : Sto := caps.filterMap fun x => match σ.get x with | some (.val d) => some (x, .val d) | _ => none

theorem capt_get {σ : Sto} {caps : List String} {x : String} {b : Bnd} (h : (capt σ caps).get x = some b) : x ∈ caps ∧ ∃ d, b = .val d ∧ σ.get x = some (.val d) := by
  induction caps with
  | nil => cases h
  | cons y r ih =>
    unfold capt at h
    rw [List.filterMap_cons] at h
    have rest : (capt σ r).get x = some b → x ∈ y :: r ∧ ∃ d, b = .val d ∧ σ.get x = some (.val d) := fun h => (ih h).imp (List.mem_cons_of_mem _) id
    split at h
    · exact rest h
    · rename_i p hp
      split at hp
      · cases hp
        rename_i d hd
        unfold Sto.get at h
        by_cases hy : y = x
        · subst hy; rw [if_pos rfl] at h; cases h
          exact ⟨List.mem_cons_self .., _, rfl, hd⟩
        · rw [if_neg hy] at h; exact rest h
      · cases hp

theorem lookup_relabel {env : Env} {k : NameKind} (hk : k ≠ .free) : ∀ {names : List (Str × NameKind)} {x : Str}, names.lookup x = some k →
    (names.map fun (n, k) => if (k == NameKind.free && env.scope.kind == .function && env.kindOf n == some .cell) then (n, NameKind.cell) else (n, k)).lookup x = some k
  | [], _, h => by simp at h
  | (m, j) :: r, x, h => by
    have ih := @lookup_relabel env k hk r x
    show List.lookup x ((if (j == NameKind.free && env.scope.kind == .function && env.kindOf m == some .cell) = true then (m, NameKind.cell) else (m, j)) :: _) = _
    cases hx : x == m with
    | true =>
      simp only [List.lookup_cons, hx] at h
      cases h
      have : (k == NameKind.free) = false := by simpa using hk
      rw [this]
      simp [List.lookup_cons, hx]
    | false =>
      simp only [List.lookup_cons, hx] at h
      by_cases hc : (j == NameKind.free && env.scope.kind == .function && env.kindOf m == some .cell) = true
      · rw [if_pos hc]; simp only [List.lookup_cons, hx]; exact ih h
      · rw [if_neg hc]; simp only [List.lookup_cons, hx]; exact ih h
theorem lookup_relabel_free {env : Env} : ∀ {names : List (Str × NameKind)} {x : Str}, names.lookup x = some .free →
    (names.map fun (n, k) => if (k == NameKind.free && env.scope.kind == .function && env.kindOf n == some .cell) then (n, NameKind.cell) else (n, k)).lookup x = some .cell ∨
    (names.map fun (n, k) => if (k == NameKind.free && env.scope.kind == .function && env.kindOf n == some .cell) then (n, NameKind.cell) else (n, k)).lookup x = some .free
  | [], _, h => by simp at h
  | (m, j) :: r, x, h => by
    have ih := @lookup_relabel_free env r x
    show List.lookup x ((if (j == NameKind.free && env.scope.kind == .function && env.kindOf m == some .cell) = true then (m, NameKind.cell) else (m, j)) :: _) = _ ∨ List.lookup x ((if (j == NameKind.free && env.scope.kind == .function && env.kindOf m == some .cell) = true then (m, NameKind.cell) else (m, j)) :: _) = _
    cases hx : x == m with
    | true =>
      simp only [List.lookup_cons, hx] at h
      cases h
      split <;> simp [List.lookup_cons, hx]
    | false =>
      simp only [List.lookup_cons, hx] at h
      split <;> (simp only [List.lookup_cons, hx]; exact ih h)

/-- the cells that a comprehension takes along -/
def closG (env : Env) : List (Str × NameKind) → List (Str × Addr) → List (Str × Addr)
  | [], acc => acc
  | (x, k) :: r, acc => closG env r (if k == .free then (x, (env.cells.lookup x).getD 0) :: acc else acc)
theorem closureFor_eq {sc : Scope} {env : Env} (h : ∀ x ∈ sc.names, x.2 = .free → (env.cells.lookup x.1).isSome = true) : closureFor sc env = pure (closG env sc.names []) := by
  have key : ∀ (names : List (Str × NameKind)) (acc : List (Str × Addr)), (∀ x ∈ names, x.2 = .free → (env.cells.lookup x.1).isSome = true) →
      (forIn names acc fun (x : Str × NameKind) (r : List (Str × Addr)) => (if x.2 == .free then do let __do_lift ← cellOf env x.1; pure (ForInStep.yield ((x.1, __do_lift) :: r)) else pure (ForInStep.yield r) : Sem (ForInStep (List (Str × Addr))))) = (pure (closG env names acc) : Sem (List (Str × Addr))) := by
    intro names
    induction names with
    | nil => intro acc _; rfl
    | cons p r ih =>
      intro acc hn
      obtain ⟨x, k⟩ := p
      rw [List.forIn_cons]
      by_cases hk : k = .free
      · subst hk
        obtain ⟨c, hc⟩ := Option.isSome_iff_exists.mp (hn (x, .free) (List.mem_cons_self ..) rfl)
        have : cellOf env x = pure c := by unfold cellOf; rw [hc]
        simp only [beq_self_eq_true, if_true, this, pure_bind]
        rw [ih _ fun y hy => hn y (List.mem_cons_of_mem _ hy)]
        simp [closG, hc]
      · have : (k == NameKind.free) = false := by simpa using hk
        simp only [this, Bool.false_eq_true, if_false, pure_bind]
        rw [ih _ fun y hy => hn y (List.mem_cons_of_mem _ hy)]
        simp [closG, this]
  simp only [closureFor]
  rw [key _ _ h]
  rfl
theorem closG_sub {env : Env} {names : List (Str × NameKind)} {acc : List (Str × Addr)} (h : ∀ x ∈ names, x.2 = .free → (env.cells.lookup x.1).isSome = true) (ha : ∀ x c, acc.lookup x = some c → env.cells.lookup x = some c) :
    ∀ x c, (closG env names acc).lookup x = some c → env.cells.lookup x = some c := by
  induction names generalizing acc with
  | nil => exact ha
  | cons p r ih =>
    obtain ⟨y, k⟩ := p
    unfold closG
    refine ih (fun z hz => h z (List.mem_cons_of_mem _ hz)) ?_
    intro x c hx
    split at hx
    · rename_i hk
      rw [List.lookup_cons] at hx
      split at hx
      · rename_i e
        cases hx
        obtain ⟨c, hc⟩ := Option.isSome_iff_exists.mp (h (y, k) (List.mem_cons_self ..) (by simpa using hk))
        have e' := beq_iff_eq.mp e
        subst e'
        rw [hc]; rfl
      · exact ha x c hx
    · exact ha x c hx
theorem closG_free {env : Env} {names : List (Str × NameKind)} {acc : List (Str × Addr)} {x : Str} (hx : (x, NameKind.free) ∈ names ∨ (acc.lookup x).isSome = true) : ((closG env names acc).lookup x).isSome = true := by
  induction names generalizing acc with
  | nil => rcases hx with hx | hx; cases hx; exact hx
  | cons p r ih =>
    obtain ⟨y, k⟩ := p
    unfold closG
    refine ih ?_
    rcases hx with hx | hx
    · rcases List.mem_cons.mp hx with e | e
      · cases e; right; simp
      · exact .inl e
    · right
      split
      · rw [List.lookup_cons]; split <;> first | rfl | exact hx
      · exact hx

section
variable {B : Bas} {n : Nat} {env : Env} {σ : Sto}

theorem comp_loop {R : Result → Shared → Prop} {A : Around} {s : Shared} {elt target iter : Expr} {ifs : List Expr} {scope : Scope} {pos : Pos} {it acc : Value} {env : Env} (I : Nat → Shared → Prop)
    (turn : ∀ n s, I n s → wpAny (model B.prog B.w) A (pyNext it) (fun r s₁ => match r with
      | none => R (.ok .next) s₁
      | some v => wpAny (model B.prog B.w) A (letOwnedTupleGo target it v) (fun _ s₁' => wpAny (model B.prog B.w) A (assign target env v) (fun _ s₂ =>
          wpAny (model B.prog B.w) A (forIn ifs true fun c r => if r = true then do let ok ← isTrue c env (eval c env); pure (ForInStep.yield ok) else pure (ForInStep.yield r)) (fun ok s₃ =>
            if ok = true then wpAny (model B.prog B.w) A (eval elt env) (fun x s₄ =>
              wpAny (model B.prog B.w) A (call (.builtin "list.append") [acc, x]) (fun _ s₅ => ∃ m, m < n ∧ I m s₅) (notedBy (model B.prog B.w) A env fun e s' => R (.error e) s') s₄) (notedBy (model B.prog B.w) A env fun e s' => R (.error e) s') s₃
            else ∃ m, m < n ∧ I m s₃) (notedBy (model B.prog B.w) A env fun e s' => R (.error e) s') s₂) (notedBy (model B.prog B.w) A env fun e s' => R (.error e) s') s₁') (notedBy (model B.prog B.w) A env fun e s' => R (.error e) s') s₁) (notedBy (model B.prog B.w) A env fun e s' => R (.error e) s') s)
    (n : Nat) (h : I n s) : codeAny (model B.prog B.w) A (.compLoop (.ListComp elt [⟨target, iter, ifs, 0⟩] scope pos) 0 it acc env) R s := by
  refine codeAny_loop rfl I (fun n s hI => ?_) n h
  show wpAny _ A ((compTurn (.ListComp elt [⟨target, iter, ifs, 0⟩] scope pos) 0 it acc env).onRaise (fun x => do noteFrame x env; theTreesLotGoes x)) _ _ s
  refine wpAny_noted ?_
  rw [compTurn_list]
  refine wpAny_bind (wpAny_standAt (wpAny_bind (wpAny_mono (turn n s hI) (fun r s₁ h₁ => ?_) fun _ _ h' => h')))
  cases r with
  | none => exact wpAny_pure h₁
  | some v =>
    refine wpAny_bind (wpAny_mono h₁ (fun _ s₁' h₁' => ?_) fun _ _ h' => h')
    refine wpAny_bind (wpAny_mono h₁' (fun _ s₂ h₂ => wpAny_bind (wpAny_mono h₂ (fun ok s₃ h₃ => ?_) fun _ _ h' => h')) fun _ _ h' => h')
    cases ok with
    | false => exact wpAny_pure ⟨rfl, h₃⟩
    | true =>
      exact wpAny_bind (wpAny_bind (wpAny_mono h₃ (fun x s₄ h₄ => wpAny_bind (wpAny_mono h₄ (fun _ s₅ h₅ => wpAny_pure (wpAny_pure ⟨rfl, h₅⟩)) fun _ _ h' => h')) fun _ _ h' => h'))

/-- a comprehension's own conditions -/
structure CompOk (sc : Scope) (env : Env) (caps : List String) : Prop where
  kind : sc.kind = .function
  nocell : ∀ y ∈ sc.names, y.2 ≠ .cell
  locals : ∀ y ∈ sc.names, y.2 = .local → sc.names.lookup y.1 = some .local
  free : ∀ x ∈ sc.names, x.2 = .free → (env.cells.lookup x.1).isSome = true
  caps : ∀ x ∈ caps, sc.names.lookup (S x) = some .free ∧ (env.kindOf (S x) = some .cell ∨ env.kindOf (S x) = some .free)

theorem comp_core {elt target iter : Expr} {ifs : List Expr} {sc : Scope} {pos : Pos} {α : Type} {ds : List α} {caps : List String} (g : α → D) (p : α → Bool) (f : α → D) (ok : CompOk sc env caps) (hsz : ds.length ≤ 1000000)
    (turn : ∀ cenv, CEnv sc cenv → ∀ d ∈ ds, ∃ σd, Asg B n cenv (capt σ caps) target (g d) σd ∧ (∀ x b, (capt σ caps).get x = some b → σd.get x = some b) ∧ Tsts B n cenv σd ifs (p d) ∧ (p d = true → Ev B n cenv σd elt (f d)))
    {h₀ : Heap} {P O : Addr → Prop} {A : Around} {s s₂ : Shared} {E : Value → Shared → Prop} (bo : B.Ok) (ao : AOk n A) (T : St B h₀ P env σ O s.heap) (k₂ : Keeps s s₂) {I : Addr} {fp wr : List Addr} {Pv : Nat → Value → Prop} {Si : Nat → Heap → Prop}
    (it : Iter B A I fp wr ds.length Pv Si) (st : Si 0 s₂.heap) (hw : ∀ b ∈ wr, s.heap.get? b = none) (hfp : ∀ b ∈ fp, b < s₂.heap.objs.size) (hr : ∀ i v, Pv i v → ∃ d, ds[i]? = some d ∧ Rp s₂.heap (fun a => P a ∨ O a) v (g d))
    {RR : Value → Addr → Result → Shared → Prop}
    (hRR : ∀ Da C h' tk m' (ys : List Value), s₂.heap.get? Da = none → s₂.heap.get? C = none → Da ≠ C → h'.Ns C m' → h'.PlainList Da ys.toArray → RpAll h' (fun b => P b ∨ O b ∨ b = Da ∨ b = C) ys ((ds.filter p).map f) →
      (∀ b o, b ∉ wr → s₂.heap.get? b = some o → h'.get? b = some o) → RR (.ref Da) C (.ok .next) { s₂ with heap := h', toks := tk }) :
    wpAny (model B.prog B.w) A (newList []) (fun acc s₃ => wpAny (model B.prog B.w) A (newFunctionEnv sc env.globals (closG env sc.names []) [] env.qual none .none (some env)) (fun cenv s₄ =>
      codeAny (model B.prog B.w) A (.compStart (.ListComp elt [⟨target, iter, ifs, 0⟩] sc pos) 0 (.ref I) acc { cenv with scope := relabel sc env }) (RR acc cenv.locals) s₄) E s₃) E s₂ := by
  refine wpAny_newObj_type (wpAny_newFunctionEnv ok.nocell (by intro y hy; simp at hy) (fun h₁ hns₁ hsb₁ => ?_) ok.kind)
  dsimp only at hns₁ hsb₁ ⊢
  generalize hH2 : s₂.heap.push { cls := .type "list", dict := none, data := .seq ([] : List Value).toArray } = H2 at hns₁ hsb₁ ⊢
  have hCsz : H2.objs.size = s₂.heap.objs.size + 1 := by rw [← hH2, Heap.size_push]
  generalize hC : H2.objs.size = C at hns₁ hsb₁ hCsz ⊢
  generalize hD : s₂.heap.objs.size = Da at hCsz ⊢
  have hDC : Da ≠ C := by omega
  have Dnew : s₂.heap.get? Da = none := fresh_of (by omega)
  have Cnew : s₂.heap.get? C = none := fresh_of (by omega)
  have old : ∀ b o, s₂.heap.get? b = some o → h₁.get? b = some o := fun b o e => hsb₁.extBut b o (fun q => by subst q; rw [Cnew] at e; cases e) (Heap.get?_push_of_some _ (hH2 ▸ Heap.get?_push_of_some _ e))
  have hacc : h₁.PlainList Da #[] := by
    refine ⟨_, hsb₁.extBut _ _ hDC (Heap.get?_push_of_some _ (hH2 ▸ hD ▸ Heap.get?_push_size _ rfl))⟩
  show codeAny _ A (.compStart (.ListComp elt [⟨target, iter, ifs, 0⟩] sc pos) 0 (.ref I) (.ref Da) (compEnvC sc (closG env sc.names []) C env)) (RR (.ref Da) C) { s₂ with heap := h₁, toks := s₂.toks + 0 }
  generalize hce : compEnvC sc (closG env sc.names []) C env = cenv
  have cscope : cenv.scope = relabel sc env := by rw [← hce]; rfl
  have clocals : cenv.locals = C := by rw [← hce]; rfl
  have cglobals : cenv.globals = env.globals := by rw [← hce]; rfl
  have cbuiltins : cenv.builtins = env.builtins := by rw [← hce]; rfl
  have ccells : cenv.cells = closG env sc.names [] := by rw [← hce]; rfl
  have cfunc : cenv.func = none := by rw [← hce]; rfl
  have csub : ∀ x c, cenv.cells.lookup x = some c → env.cells.lookup x = some c := by rw [ccells]; exact closG_sub ok.free (by intro x c h; cases h)
  have CE : CEnv sc cenv := ⟨fun x h => by unfold Env.kindOf; rw [cscope]; exact lookup_relabel (by decide) h, fun x h => by unfold Env.kindOf; rw [cscope]; exact lookup_relabel (by decide) h⟩
  have T₂ := T.kp k₂
  have sD : s.heap.get? Da = none := by
    cases e : s.heap.get? Da with
    | none => rfl
    | some o => rw [kheap k₂ _ _ e] at Dnew; cases Dnew
  have sC : s.heap.get? C = none := by
    cases e : s.heap.get? C with
    | none => rfl
    | some o => rw [kheap k₂ _ _ e] at Cnew; cases Cnew
  have hx2 : ∀ a o, ¬ (P a ∨ O a) → s₂.heap.get? a = some o → ¬ ((P a ∨ O a) ∨ (a = C ∨ a = Da)) := by
    rintro a o na e (q | q | q)
    · exact na q
    · subst q; rw [Cnew] at e; cases e
    · subst q; rw [Dnew] at e; cases e
  have T0 : St B s.heap (fun b => P b ∨ O b) cenv (capt σ caps) (fun b => b = C ∨ b = Da) h₁ := by
    refine ⟨T.here, fun b o e => old b o (kheap k₂ b o e), ?_, ?_, ?_, ⟨?_, by rw [cglobals]; exact T.ok.globals, by rw [cbuiltins]; exact T.ok.builtins, fun x y c h1 h2 => T.ok.apart x y c (csub _ _ h1) (csub _ _ h2)⟩, .inl clocals, ⟨_, clocals ▸ hns₁⟩, ?_, ?_, ?_⟩
    · exact fun b q => T.xlive q
    · rintro b (q | q)
      · subst q; obtain ⟨o, _, _, e, _⟩ := hns₁; exact ⟨o, e⟩
      · subst q; obtain ⟨o, e⟩ := hacc; exact ⟨_, e⟩
    · rintro b (q | q)
      · subst q; exact sC
      · subst q; exact sD
    · rw [cscope]; exact ok.kind
    · intro x c l
      obtain ⟨⟨v, e⟩, _⟩ := T₂.cells x c (csub x c l)
      exact ⟨⟨v, e.keeps old⟩, fun q => by rw [cfunc] at q; cases q⟩
    · intro x b hb
      obtain ⟨hxc, d, rfl, hσ⟩ := capt_get hb
      obtain ⟨v, hv, r⟩ := T₂.vars x _ hσ
      obtain ⟨h1, h2⟩ := ok.caps x hxc
      refine ⟨v, ?_, r.mono (fun a o _ e => old a o e) hx2⟩
      have hin : (S x, NameKind.free) ∈ sc.names := PySem.mem_of_lookup h1
      obtain ⟨c, hc⟩ := Option.isSome_iff_exists.mp (closG_free (env := env) (acc := []) (.inl hin))
      rw [← ccells] at hc
      refine .inr ⟨?_, c, hc, ?_⟩
      · unfold Env.kindOf; rw [cscope]; exact lookup_relabel_free h1
      · rcases hv with ⟨kd, _⟩ | ⟨kd, c', l, e⟩
        · rcases h2 with h2 | h2 <;> rw [h2] at kd <;> cases kd
        · rw [csub _ _ hc] at l; cases l; exact e.keeps old
    · intro x y ds' es a ne hx
      obtain ⟨_, _, e, _⟩ := capt_get hx; cases e
  have st₁ : Si 0 h₁ := it.W.frame _ _ _ st fun b _ o e => old b o e
  have loop : ∀ s₃ : Shared, s₃ = { s₂ with heap := h₁, toks := s₂.toks + 0 } → codeAny (model B.prog B.w) A (.compLoop (.ListComp elt [⟨target, iter, ifs, 0⟩] sc pos) 0 (.ref I) (.ref Da) cenv) (RR (.ref Da) C) s₃ := by
    rintro s₃ rfl
    have fpD : ∀ b ∈ fp, b ≠ Da := fun b hb q => by have := hfp b hb; rw [hD, q] at this; exact Nat.lt_irrefl _ this
    have fpC : ∀ b ∈ fp, b ≠ C := fun b hb q => by have := hfp b hb; rw [hD, q, hCsz] at this; exact Nat.lt_irrefl _ (Nat.lt_of_succ_lt this)
    refine comp_loop (fun (kk : Nat) (s' : Shared) => ∃ i ys, kk = ds.length + 1 - i ∧ i ≤ ds.length ∧ (∃ h' tk, s' = { s₂ with heap := h', toks := tk }) ∧ Si i s'.heap ∧
        St B s.heap (fun b => P b ∨ O b) cenv (capt σ caps) (fun b => b = C ∨ b = Da) s'.heap ∧ s'.heap.PlainList Da (List.toArray ys) ∧ RpAll s'.heap (fun a => (P a ∨ O a) ∨ (a = C ∨ a = Da)) ys (((ds.take i).filter p).map f) ∧
        (∀ b o, b ∉ wr → s₂.heap.get? b = some o → s'.heap.get? b = some o)) ?_ (ds.length + 1)
      ⟨0, [], rfl, Nat.zero_le _, ⟨_, _, rfl⟩, st₁, T0, hacc, by simpa using RpAll.nil, fun b o _ e => old b o e⟩
    rintro kk s' ⟨i, ys, rfl, hi, ⟨hh, tk, rfl⟩, st', T', hl', hy', hk'⟩
    have stepSt : ∀ h₁ : Heap, (∀ b o, b ∉ wr → hh.get? b = some o → h₁.get? b = some o) → ∀ b o, ¬ IterObj o → hh.get? b = some o → h₁.get? b = some o := fun h₁ hk₁ a o ni e =>
      hk₁ a o (fun hbw => by obtain ⟨o', e', q⟩ := it.kind i _ st' a hbw; rw [e] at e'; cases e'; exact ni q) e
    have goSt : ∀ h₁ : Heap, (∀ b o, b ∉ wr → hh.get? b = some o → h₁.get? b = some o) → St B s.heap (fun b => P b ∨ O b) cenv (capt σ caps) (fun b => b = C ∨ b = Da) h₁ := fun h₁ hk₁ => by
      refine T'.step (stepSt h₁ hk₁) (fun b o e => hk₁ b o (fun hbw => by have := hw b hbw; rw [e] at this; cases this) (T'.keep b o e)) ?_
      rintro a q
      obtain ⟨o, e⟩ := T'.live a q
      refine ⟨o, hk₁ a o (fun hbw => ?_) e⟩
      rcases q with q | q
      · exact fpC a (it.W.sub a hbw) q
      · exact fpD a (it.W.sub a hbw) q
    by_cases hlt : i < ds.length
    · refine it.W.item i _ _ _ hlt st' fun v h₂ tk₂ hPv st₂ hk₂ => ?_
      obtain ⟨d, hd, rd⟩ := hr i v hPv
      obtain ⟨e1, e2⟩ := take_split hd
      have Tn := goSt h₂ hk₂
      have rd' : Rp h₂ (fun a => (P a ∨ O a) ∨ (a = C ∨ a = Da)) v (g d) := (rd.stepX (h' := hh) (fun a o na ni e => hk' a o (fun haw => by obtain ⟨o', e', q⟩ := it.kind 0 _ st a haw; rw [e] at e'; cases e'; exact ni q) e) hx2).step (stepSt h₂ hk₂)
      obtain ⟨σd, ha, hfor, hts, hel⟩ := turn cenv CE d (List.mem_of_getElem? hd)
      refine it.go _ _ _ _ _ _ st₂ (ha _ _ _ A _ _ _ v bo ao Tn rd' fun s₃ m₃ T₃ => ?_)
      -- Da stands through the stores
      have hnD : ¬ Names cenv Da := by
        rintro (q | ⟨q, _⟩)
        · rw [clocals] at q; exact hDC q
        · rw [cfunc] at q; cases q
      obtain ⟨h3, tk3, rfl, k3⟩ := m₃
      have hl3 : h3.PlainList Da ys.toArray := by
        have := plist_step (stepSt h₂ hk₂) hl'
        obtain ⟨o, e⟩ := this
        exact ⟨o, k3 _ _ hnD e⟩
      have nm : ∀ b, Names cenv b → b = C := by
        rintro b (q | ⟨q, _⟩)
        · rw [clocals] at q; exact q
        · rw [cfunc] at q; cases q
      have hy3 : RpAll h3 (fun a => (P a ∨ O a) ∨ (a = C ∨ a = Da)) ys (((ds.take i).filter p).map f) := (hy'.step (stepSt h₂ hk₂)).mono (fun a o na e => k3 a o (fun q => na (.inr (.inl (nm a q)))) e) fun _ _ n _ => n
      have st3 : Si (i + 1) h3 := it.W.frame _ _ _ st₂ fun b hb o e => k3 b o (fun q => fpC b hb (nm b q)) e
      have hk3 : ∀ b o, b ∉ wr → s₂.heap.get? b = some o → h3.get? b = some o := fun b o nw e => k3 b o (fun q => by rw [nm b q, Cnew] at e; cases e) (hk₂ b o nw (hk' b o nw e))
      refine hts _ _ _ A _ _ _ bo ao T₃ fun s₄ k₄ => ?_
      have T₄ := T₃.kp k₄
      have hlen : ys.length ≤ 1000000 := by
        rw [hy'.length, List.length_map]
        exact Nat.le_trans (List.length_filter_le _ _) (Nat.le_trans (by rw [List.length_take]; omega) hsz)
      cases hp : p d with
      | false =>
        simp only [Bool.false_eq_true, if_false]
        obtain ⟨h4, tk4, rfl, k4⟩ := k₄
        refine ⟨ds.length + 1 - (i + 1), by omega, i + 1, ys, rfl, hlt, ⟨h4, tk4, rfl⟩, it.W.frame _ _ _ st3 fun b _ o e => k4 b o e, T₄.forget hfor, hl3.at fun o e => k4 _ o e, ?_, fun b o nw e => k4 b o (hk3 b o nw e)⟩
        rw [e2, List.filter_append]
        simp only [List.filter_cons, hp, Bool.false_eq_true, if_false, List.filter_nil, List.append_nil]
        exact hy3.keeps k4
      | true =>
        simp only [if_true]
        refine hel hp _ _ _ A _ _ _ bo ao T₄ fun w s₅ k₅ rw' => ?_
        obtain ⟨h5, tk5, rfl, k5⟩ := ktrans k₄ k₅
        have hl5 : h5.PlainList Da ys.toArray := hl3.at fun o e => k5 _ o e
        refine wpAny_list_append_plain hl5 (fun h6 hl6 hs6 => ?_) (by rw [List.size_toArray]; exact szLine hlen)
        have hk6 : ∀ a o, a ≠ Da → h5.get? a = some o → h6.get? a = some o := fun a o ne e => (hs6.2 a ne).trans e
        have T₅ : St B s.heap (fun b => P b ∨ O b) cenv (capt σ caps) (fun b => b = C ∨ b = Da) h5 := (T₃.keeps k5).forget hfor
        refine ⟨ds.length + 1 - (i + 1), by omega, i + 1, ys ++ [w], rfl, hlt, ⟨h6, tk5, rfl⟩, it.W.frame _ _ _ st3 fun b hb o e => hk6 b o (fpD b hb) (k5 b o e), ?_, ?_, ?_, fun b o nw e => hk6 b o (fun q => by rw [q, Dnew] at e; cases e) (k5 b o (hk3 b o nw e))⟩
        · refine T₅.chg (.inr rfl) hs6 (by obtain ⟨o, e⟩ := hl6; exact ⟨_, e⟩) (by rw [clocals]; exact hDC) ?_ ?_
          · intro y c l q
            obtain ⟨⟨v', e'⟩, _⟩ := T₅.cells y c l
            exact plain_ne_cell hl5.isList e' q.symm
          · intro x es hx
            obtain ⟨_, _, e, _⟩ := capt_get hx; cases e
        · simpa using hl6
        · rw [e2, List.filter_append, List.map_append]
          simp only [List.filter_cons, hp, if_true, List.filter_nil, List.map_cons, List.map_nil]
          have up : ∀ a o, ¬ ((P a ∨ O a) ∨ (a = C ∨ a = Da)) → h5.get? a = some o → h6.get? a = some o := fun a o na e => hk6 a o (fun q => na (.inr (.inr q))) e
          exact ((hy3.keeps k5).mono up fun _ _ n _ => n).append (.one (rw'.mono up fun _ _ n _ => n))
    · have hi' : i = ds.length := by omega
      subst hi'
      rw [List.take_length] at hy'
      refine it.W.done _ _ _ st' fun h₂ tk₂ hk₂ => ?_
      obtain ⟨m', hn'⟩ := (goSt h₂ hk₂).ns
      rw [clocals] at hn'
      refine hRR Da C h₂ tk₂ m' ys Dnew Cnew hDC hn' (plist_step (stepSt h₂ hk₂) hl') ((hy'.step (stepSt h₂ hk₂)).sub ?_) fun b o nw e => hk₂ b o nw (hk' b o nw e)
      rintro b (q | q | q | q)
      · exact .inl (.inl q)
      · exact .inl (.inr q)
      · exact .inr (.inr q)
      · exact .inr (.inl q)
  exact codeAny_compStart_list (loop _ rfl) (it.W.self 0 _ _ _ st₁ (loop _ rfl))

theorem evn_comp {elt target iter : Expr} {ifs : List Expr} {sc : Scope} {pos : Pos} {α : Type} {ds : List α} (caps : List String) (g : α → D) (p : α → Bool) (f : α → D) (ok : CompOk sc env caps) (hsz : ds.length ≤ 1000000) (it : EvIt false B n env σ iter (ds.map g))
    (turn : ∀ cenv, CEnv sc cenv → ∀ d ∈ ds, ∃ σd, Asg B n cenv (capt σ caps) target (g d) σd ∧ (∀ x b, (capt σ caps).get x = some b → σd.get x = some b) ∧ Tsts B n cenv σd ifs (p d) ∧ (p d = true → Ev B n cenv σd elt (f d)))
    (hs : ∀ x, foldedSetIterable iter env x = pure x := by intro _; rfl) : EvN B n env σ (.ListComp elt [⟨target, iter, ifs, 0⟩] sc pos) ((ds.filter p).map f) := by
  intro h₀ P O A s E Q bo ao T q
  rw [eval_ListComp]
  refine wpAny_comprehension_free (use := none) rfl hs (closureFor_eq ok.free) ok.kind ok.locals (it h₀ P O A s E _ bo ao T fun s₂ I fp wr Pv Si k₂ iit st hw hfp _ hr₀ => ?_)
  rw [List.length_map] at iit
  have hr : ∀ i v, Pv i v → ∃ d, ds[i]? = some d ∧ Rp s₂.heap (fun a => P a ∨ O a) v (g d) := fun i v h => by
    obtain ⟨d, hd, r⟩ := hr₀ i v h
    rw [List.getElem?_map] at hd
    obtain ⟨x, hx, rfl⟩ := Option.map_eq_some_iff.mp hd
    exact ⟨x, hx, r⟩
  refine comp_core (RR := fun acc C => compPost (model B.prog B.w) A E none Q acc C) g p f ok hsz turn bo ao T k₂ iit st hw hfp hr ?_
  intro Da C h' tk m' ys hD hC hDC hn hl hy hk
  refine ⟨m', hn, fun h'' hs'' => ?_⟩
  have up : ∀ a o, a ≠ C → h'.get? a = some o → h''.get? a = some o := fun a o ne e => (hs''.2 a ne).trans e
  refine q Da ys _ ?_ ?_ ?_ ?_
  · obtain ⟨h2, tk2, rfl, k2⟩ := k₂
    exact ⟨h'', tk, rfl, fun b o e => up b o (fun q => by rw [q] at e; rw [k2 _ _ e] at hC; cases hC) (hk b o (fun q => by rw [hw b q] at e; cases e) (k2 b o e))⟩
  · cases e : s.heap.get? Da with
    | none => rfl
    | some o => rw [kheap k₂ _ _ e] at hD; cases hD
  · obtain ⟨o, e⟩ := hl; exact ⟨o, up _ _ hDC e⟩
  · refine hy.mono (fun a o na e => up a o (fun q => na (.inr (.inr (.inr q)))) e) fun a o na _ q => na ?_
    rcases q with q | q | q
    · exact .inl q
    · exact .inr (.inl q)
    · exact .inr (.inr (.inl q))

end

section
variable {B : Bas} {n : Nat} {env : Env} {σ : Sto} {e : Expr} {p p' : Pos}

/-- a call of a def of the text -/
theorem ev_call {x : String} {a : Addr} {es : List Expr} {ds : List D} {d : D} {o : Obj} {fd : FuncData} (hk : env.kindOf (S x) = some .globalImplicit) (hx : B.mg (S x) = some (.ref a)) (ho : B.hB.get? a = some o) (hd : o.data = .func fd)
    (as : EvAs B n env σ (e :: es) ds) (f : FnS B n a ds d) (hn : x ≠ "__debug__" := by decide) (he : starEach (e :: es) env = (false, eval e env) :: starEach es env := by rfl)
    (hc : eval (.Call (.Name (S x) p') (e :: es) [] p) env = (do callWith p (← eval (.Name (S x) p') env) [] (backTo p (starEach (e :: es) env)) (backToKw p (keywordEach [] env))) := by rfl) : Ev B n env σ (.Call (.Name (S x) p') (e :: es) [] p) d :=
  fun h₀ P O A s E Q bo ao T q => Call_ (wp_glob bo T hk hx (callWith_def hd (as h₀ P O A s E _ p bo ao T fun vs s₁ k r => ⟨(T.kp k).here _ _ ho, f _ A s₁ E _ vs bo ao (T.kp k).here (fun b z => (T.kp k).xlive z) r fun v s₂ k₂ r₂ => q v s₂ (ktrans k k₂) r₂⟩) he) hn) hc
/-- the type of a datum -/
def Ty (d : D) (T : String) : Prop := ∀ (s : Shared) (X : Addr → Prop) (v : Value), Rp s.heap X v d → s.TypeIs v T
theorem ty_int {i : Int} : Ty (.int i) "int" := fun s X v r => by obtain ⟨t, rfl⟩ := rp_int r; exact typeIs_int s i t
theorem ty_str {i : Str} : Ty (.str i) "str" := fun s X v r => by obtain ⟨t, rfl⟩ := rp_str r; exact typeIs_str s i t
theorem ty_list {ds : List D} : Ty (.list ds) "list" := fun s X v r => by obtain ⟨a, vs, rfl, hl, _⟩ := rp_list r; exact hl.typeIs
theorem ty_tuple {ds : List D} : Ty (.tuple ds) "tuple" := fun s X v r => by obtain ⟨a, vs, rfl, hl, _⟩ := rp_tuple r; exact hl.typeIs
theorem ty_bool {b : Bool} : Ty (.bool b) "bool" := fun s X v r => by cases rp_val r; exact PySem.typeIs_bool s b

theorem bi_type {d : D} {T : String} (t : Ty d T) (hnb : (Value.type T == Value.type "builtin_function_or_method") = false := by decide) : Bi B n (.type "type") [d] (.val (.type T)) := fun A s E Q vs bo ao hh r q => by
  cases r with | cons r rn =>
  cases rn
  exact call_type_of (t s _ _ r) hnb (q _ _ (krefl s) fun _ _ => .val _ rfl)

theorem fr0 {h₀ h P O} (T : St B h₀ P env σ O h) : ∃ m, Fr ({} : Heap) env.locals h m := by
  obtain ⟨m, nn⟩ := T.ns
  exact ⟨m, nn, fun b o e => (by simp [Heap.get?] at e), Nat.zero_le _⟩
theorem in0 (h : Heap) : Frag.In ([] : Frag) h := fun a o e => by cases e

/-- a call of a type: type(e), range(e) .. -/
theorem ev_typecall {x T : String} {es : List Expr} {ds : List D} {d : D} (hx : BootName B env x (.type T)) (a : EvAsW B n env σ (e :: es) ds) (f : Bi B n (.type T) ds d)
    (he : starEach (e :: es) env = (false, eval e env) :: starEach es env := by rfl) (hp : (backTo p (starEach es env)).any (·.1) = false := by rfl)
    (hc : eval (.Call (.Name (S x) p') (e :: es) [] p) env = (do callWith p (← eval (.Name (S x) p') env) [] (backTo p (starEach (e :: es) env)) (backToKw p (keywordEach [] env))) := by rfl) : Ev B n env σ (.Call (.Name (S x) p') (e :: es) [] p) d :=
  fun h₀ P O A s E Q bo ao T q => Call_ (wp_boot bo T hx.kind hx.miss hx.boot (PyProof.Rows.callWith_type1 (a h₀ P O A s E _ p bo ao T fun vs s₁ k r => f A s₁ E _ vs bo ao (T.kp k).here r fun v s₂ k₂ r₂ => q v s₂ (ktrans k k₂) (r₂ _ _)) he hp) hx.d hx.n) hc

/-- type(x).__op__(a, b) -/
theorem ev_dunder {o : Expr} {attr : String} {id : String} {T : String} {apos : Pos} {e₁ : Expr} {es : List Expr} {ds : List D} {r : D} {pl : Sem Bool}
    (x : EvW B n env σ o (.val (.type T))) (ht : typeOf (.type T) = pure (.type "type")) (hs : Manifest.isStub T = false) (hf : findCls [] (.type T) (.type "type") (S attr) = some (.val (.builtin id))) (hhd : handedIn (.builtin id) = true)
    (as : EvAsW B n env σ (e₁ :: es) ds) (f : Bi B n (.builtin id) ds r)
    (hstar : starEach (e₁ :: es) env = (false, eval e₁ env) :: starEach es env := by rfl) (hp : (backTo p (starEach es env)).any (·.1) = false := by rfl)
    (he : eval (.Call (.Attribute o (S attr) apos) (e₁ :: es) [] p) env = (do
      let ov ← eval o env
      standAt apos.atName
      let (f, first) ← holding [ov] (getMethod ov (S attr) pl)
      callWith p f first (backTo p (starEach (e₁ :: es) env)) (backToKw p (keywordEach [] env))) := by rfl) : Ev B n env σ (.Call (.Attribute o (S attr) apos) (e₁ :: es) [] p) r :=
  fun h₀ P O A s E Q bo ao T q => methodCall_KW (x h₀ P O A s E _ bo ao T fun v s₁ k₁ r₁ => by
    cases rp_val r₁
    obtain ⟨m, F⟩ := fr0 (T.kp k₁)
    refine method_type F (in0 _) ht hs hf hhd ?_
    have k₂ := ktrans k₁ (ktok s₁ (s₁.toks + 1))
    refine callWith_builtin1 (as h₀ P O A _ E _ p bo ao (T.kp k₂) fun vs s₃ k₃ r₃ => ?_) hstar hp
    exact f A s₃ E _ vs bo ao ((T.kp k₂).kp k₃).here r₃ fun v s₄ k₄ r₄ => q v s₄ (ktrans (ktrans k₂ k₃) k₄) (r₄ _ _)) he

theorem cmp_is_bool_ni {b : Bool} : Cmp B n .Is (.bool b) (.val .notImplemented) false := fun A s E Q va vb bo ao hh r r' q => by
  cases rp_val r; cases rp_val r'; exact wpAny_pure (a := Value.bool (Value.bool b == Value.notImplemented)) (q s (krefl s))
theorem cmp_is_ni_ni : Cmp B n .Is (.val .notImplemented) (.val .notImplemented) true := fun A s E Q va vb bo ao hh r r' q => by
  cases rp_val r; cases rp_val r'; exact wpAny_pure (a := Value.bool (Value.notImplemented == Value.notImplemented)) (q s (krefl s))

end

section
variable {B : Bas} {n : Nat} {env : Env} {σ : Sto} {e l r : Expr} {p p' : Pos}

theorem wp_addList {A : Around} {s : Shared} {E : Value → Shared → Prop} {a b : Addr} {vs ws : List Value} {Q : Value → Shared → Prop} (hl : s.heap.IsList a vs.toArray) (hb : s.heap.IsList b ws.toArray)
    (h : Q (.ref s.heap.objs.size) { s with heap := s.heap.push { cls := .type "list", data := .seq (vs ++ ws).toArray } }) (hsz : vs.length + ws.length ≤ 1000000) :
    wpAny (model B.prog B.w) A (binaryOp .Add (.ref a) (.ref b)) Q E s := by
  obtain ⟨⟨cls, dd, data, sl⟩, ho, hc, k, hd⟩ := id hl
  obtain ⟨⟨cls2, dd2, data2, sl2⟩, ho2, hc2, k2, hd2⟩ := id hb
  simp only at hc hd hc2 hd2; subst hc hd hc2 hd2
  have e : vs.toArray ++ ws.toArray = (vs ++ ws).toArray := by simp
  refine concat_meets ⟨_, ho, rfl⟩ ⟨_, ho2, rfl⟩ noFill_list_add seq_list_add PySem.F.slot_list_add PySem.F.entry_list_add (PySem.F.args_list_add_2 _ _) (list_addW a b vs.toArray ws.toArray k k2 dd dd2 sl sl2 (by simp only [List.size_toArray]; exact szLine hsz)) ⟨ho, ho2, ?_⟩
  rw [e]; exact h
theorem evn_add {ds es : List D} (x : Ev B n env σ l (.list ds)) (y : Ev B n env σ r (.list es)) (hsz : ds.length + es.length ≤ 1000000) : EvN B n env σ (.BinOp l .Add r p) (ds ++ es) :=
  fun h₀ P O A s E Q bo ao T q => wpAny_BinOp (x h₀ P O A s E _ bo ao T fun va s₁ k₁ r₁ => y h₀ P O A s₁ E _ bo ao (T.kp k₁) fun vb s₂ k₂ r₂ => by
    obtain ⟨a, vs, rfl, hl, _, rs⟩ := rp_list (r₁.keeps (kheap k₂))
    obtain ⟨b, ws, rfl, hb, _, qs⟩ := rp_list r₂
    have h1 := rs.length; have h2 := qs.length
    refine wp_addList hl hb (q _ (vs ++ ws) _ (ktrans (ktrans k₁ k₂) (kpush' _ _)) (fresh_kp (ktrans k₁ k₂)) ⟨_, Heap.get?_push_size _ rfl⟩ ((rs.append qs).beside _)) (by omega))

theorem flatten_replicate {α} (k : Nat) (items : Array α) : (List.foldl (fun x1 x2 => x1 ++ x2) #[] (List.replicate k items)).toList = (List.replicate k items.toList).flatten := by
  have : ∀ (acc : Array α), (List.foldl (fun x1 x2 => x1 ++ x2) acc (List.replicate k items)).toList = acc.toList ++ (List.replicate k items.toList).flatten := by
    induction k with
    | zero => intro acc; simp
    | succ k ih => intro acc; rw [List.replicate_succ, List.foldl_cons, ih, List.replicate_succ, List.flatten_cons]; simp
  simpa using this #[]
theorem RpAll.rep {h X vs ds} (r : RpAll h X vs ds) : ∀ k, RpAll h X (List.replicate k vs).flatten (List.replicate k ds).flatten
  | 0 => .nil
  | k + 1 => by rw [List.replicate_succ, List.replicate_succ, List.flatten_cons, List.flatten_cons]; exact r.append (r.rep k)
theorem evn_mul {ds : List D} {i : Int} (x : Ev B n env σ l (.list ds)) (y : EvW B n env σ r (.int i)) (h1 : -1000000 ≤ i) (h2 : i ≤ 1000000) (hsz : ds.length * i.toNat ≤ 1000000) (hne : ds ≠ []) : EvN B n env σ (.BinOp l .Mult r p) (List.replicate i.toNat ds).flatten :=
  fun h₀ P O A s E Q bo ao T q => wpAny_BinOp (x h₀ P O A s E _ bo ao T fun va s₁ k₁ r₁ => y h₀ P O A s₁ E _ bo ao (T.kp k₁) fun vb s₂ k₂ r₂ => by
    obtain ⟨a, vs, rfl, hl, _, rs⟩ := rp_list (r₁.keeps (kheap k₂))
    obtain ⟨u, rfl⟩ := rp_int r₂
    have hlen := rs.length
    obtain ⟨⟨cls, dd, data, sl⟩, ho, hc, k, hd⟩ := id hl
    simp only at hc hd; subst hc hd
    have hvs : vs ≠ [] := fun q => hne (by rw [q] at hlen; exact List.length_eq_zero_iff.mp hlen.symm)
    have hs2 : vs.toArray.size * i.toNat ≤ 1000000 := by rw [List.size_toArray, hlen]; exact hsz
    refine wpAny_binaryOp_repeat_ref (T := "list") (U := "int") (by decide) ⟨_, ho, rfl⟩ (fun s' => typeIs_int s' i u) noFill_list_mul F.fills_int_mul F.slot_int_rmul repeat_list F.slot_int_index.lookup
      (call_meets F.slot_int_rmul (typeIs_int s₂ i u) F.entry_int_rmul (F.args_int_rmul_2 _ _) (lm_int_rmul_list_any i u a vs.toArray k dd sl)
        ⟨ho, rfl, ⟨_, ho, rfl⟩, call_meets F.slot_list_mul ⟨_, ho, rfl⟩ F.entry_list_mul (F.args_list_mul_2 _ _)
          (lm_list_mul_any a vs.toArray k dd sl i u (by simp [Builtin.List.listFitsIndex]; omega) (by omega) (by simp [Builtin.List.listTooLong, sizeLine]; simp at hs2; omega)) ⟨ho, ?_⟩⟩)
    have e : (List.foldl (fun x1 x2 => x1 ++ x2) #[] (List.replicate (if vs.toArray.isEmpty = true then 0 else i.toNat) vs.toArray)) = ((List.replicate i.toNat vs).flatten).toArray := by
      rw [if_neg (by simpa using hvs)]
      apply Array.toList_inj.mp
      rw [flatten_replicate]
    rw [e]
    exact q _ _ _ (ktrans (ktrans k₁ k₂) (kpush' _ _)) (fresh_kp (ktrans k₁ k₂)) ⟨_, Heap.get?_push_size _ rfl⟩ ((rs.rep i.toNat).beside _))

/-- ranges -/
theorem ev_range1 {x : String} {i : Int} (hx : BootName B env x (.type "range")) (a : EvW B n env σ e (.int i))
    (he : starEach [e] env = (false, eval e env) :: starEach [] env := by rfl)
    (hc : eval (.Call (.Name (S x) p') [e] [] p) env = (do callWith p (← eval (.Name (S x) p') env) [] (backTo p (starEach [e] env)) (backToKw p (keywordEach [] env))) := by rfl) : Ev B n env σ (.Call (.Name (S x) p') [e] [] p) (.range 0 i) :=
  fun h₀ P O A s E Q bo ao T q => Call_ (wp_boot bo T hx.kind hx.miss hx.boot (PyProof.Rows.callWith_type1 (evasw_cons a evasw_nil he h₀ P O A s E _ p bo ao T fun vs s₁ k r => by
    cases r with | cons r rn =>
    cases rn
    obtain ⟨t, rfl⟩ := rp_int r
    exact call_range_1 (q _ _ (ktrans k (kpush _ _ _)) (.range (IsRange.new ..) ((T.kp k).notX' (Nat.le_refl _))))) he rfl) hx.d hx.n) hc
theorem ev_range2 {x : String} {i j : Int} {e' : Expr} (hx : BootName B env x (.type "range")) (a : EvW B n env σ e (.int i)) (b : EvW B n env σ e' (.int j))
    (he : starEach [e, e'] env = (false, eval e env) :: starEach [e'] env := by rfl) (he' : starEach [e'] env = (false, eval e' env) :: starEach [] env := by rfl) (hp : (backTo p (starEach [e'] env)).any (·.1) = false := by rfl)
    (hc : eval (.Call (.Name (S x) p') [e, e'] [] p) env = (do callWith p (← eval (.Name (S x) p') env) [] (backTo p (starEach [e, e'] env)) (backToKw p (keywordEach [] env))) := by rfl) : Ev B n env σ (.Call (.Name (S x) p') [e, e'] [] p) (.range i j) :=
  fun h₀ P O A s E Q bo ao T q => Call_ (wp_boot bo T hx.kind hx.miss hx.boot (PyProof.Rows.callWith_type1 (evasw_cons a (evasw_cons b evasw_nil he') he h₀ P O A s E _ p bo ao T fun vs s₁ k r => by
    cases r with | cons r rn =>
    cases rn with | cons r' rn =>
    cases rn
    obtain ⟨t, rfl⟩ := rp_int r
    obtain ⟨u, rfl⟩ := rp_int r'
    exact call_range_2 (q _ _ (ktrans k (kpush _ _ _)) (.range (IsRange.new ..) ((T.kp k).notX' (Nat.le_refl _))))) he hp) hx.d hx.n) hc

/-- sums -/
def sumI : List Int → Int
  | [] => 0
  | i :: r => i + sumI r
def D.ofInts (l : List Int) : List D := l.map D.int
theorem ofInts_length (l : List Int) : (D.ofInts l).length = l.length := by simp [D.ofInts]
theorem RpAll.intAt {h X vs l} (r : RpAll h X vs (D.ofInts l)) {i : Nat} {v : Value} (hv : vs[i]? = some v) : ∃ t, v = .int (l.getD i 0) t := by
  obtain ⟨d, hd, rd⟩ := r.get hv
  simp only [D.ofInts, List.getElem?_map, Option.map_eq_some_iff] at hd
  obtain ⟨k, hk, rfl⟩ := hd
  obtain ⟨t, e⟩ := rp_int rd
  exact ⟨t, by rw [e, List.getD_eq_getElem?_getD, hk]; rfl⟩
theorem wp_iterNowT {A : Around} {s : Shared} {E : Value → Shared → Prop} {Q : Value → Shared → Prop} {a : Addr} {vs : List Value} (hh : A.handled = none) (hl : IsTup s.heap a vs.toArray)
    (q : ∀ s₂ I, Keeps s s₂ → Walks B.prog B.w A I [I, a] [I] vs.length (fun i v => vs[i]? = some v) (fun i h => h.IsTupleIter I a i ∧ h.IsTuple a vs.toArray) → (s₂.heap.IsTupleIter I a 0 ∧ s₂.heap.IsTuple a vs.toArray) → (∀ b ∈ [I, a], b < s₂.heap.objs.size) → s.heap.get? I = none → Q (.ref I) s₂) :
    wpAny (model B.prog B.w) A (pyIter (.ref a)) Q E s := by
  have hne : a ≠ s.heap.objs.size := by obtain ⟨o, e, _⟩ := hl; exact Nat.ne_of_lt (Heap.lt_size e)
  have W := Walks.tuple (prog := B.prog) (w := B.w) hh s.heap.objs.size a hne vs.toArray
  simp only [List.size_toArray, List.getElem?_toArray] at W
  have hl' : s.heap.IsTuple a vs.toArray := hl
  refine wpAny_pyIter_tuple hl' (q _ _ (kpush' _ _) W ⟨⟨_, Heap.get?_push_size _ rfl, rfl, rfl⟩, hl'.at fun o e => Heap.get?_push_of_some _ e⟩ ?_ (fresh_of (Nat.le_refl _)))
  intro b hb
  show b < (s.heap.push _).objs.size
  rw [Heap.size_push]
  rcases List.mem_cons.mp hb with rfl | hb
  · exact Nat.lt_succ_self _
  · rw [List.mem_singleton.mp hb]; obtain ⟨o, e, _⟩ := hl; exact Nat.lt_succ_of_lt (Heap.lt_size e)
/-- what a walk leaves -/
theorem kafter {s s₂ : Shared} {I : Addr} {h' : Heap} {tk : Nat} (k : Keeps s s₂) (hI : s.heap.get? I = none) (hk : ∀ b o, b ∉ [I] → s₂.heap.get? b = some o → h'.get? b = some o) : Keeps s { s₂ with heap := h', toks := tk } := by
  obtain ⟨h2, tk2, rfl, k2⟩ := k
  exact ⟨h', tk, rfl, fun b o e => hk b o (fun q => by rw [List.mem_singleton.mp q, hI] at e; cases e) (k2 b o e)⟩
/-- greatest, least -/
def maxI : Int → List Int → Int
  | m, [] => m
  | m, i :: r => maxI (if i > m then i else m) r
def minI : Int → List Int → Int
  | m, [] => m
  | m, i :: r => minI (if i < m then i else m) r
theorem argBest_max (l : List Int) : ∀ k, k < l.length → l.getD (argBest (fun i j => decide (l.getD i 0 > l.getD j 0)) k) 0 = maxI (l.getD 0 0) ((l.drop 1).take k) := by
  have snoc : ∀ (r : List Int) (m i : Int), maxI m (r ++ [i]) = if i > maxI m r then i else maxI m r := by
    intro r
    induction r with
    | nil => intro m i; rfl
    | cons a r ih => intro m i; exact ih _ _
  intro k
  induction k with
  | zero => intro _; rfl
  | succ k ih =>
    intro hk
    have h : (l.drop 1)[k]? = some (l.getD (k + 1) 0) := by rw [List.getElem?_drop, List.getD_eq_getElem?_getD, Nat.add_comm 1 k, List.getElem?_eq_getElem hk]; rfl
    rw [List.take_add_one, h, Option.toList, snoc]
    unfold argBest
    rw [← ih (by omega)]
    simp only [decide_eq_true_eq]
    split <;> rfl
theorem argBest_min (l : List Int) : ∀ k, k < l.length → l.getD (argBest (fun i j => decide (l.getD i 0 < l.getD j 0)) k) 0 = minI (l.getD 0 0) ((l.drop 1).take k) := by
  have snoc : ∀ (r : List Int) (m i : Int), minI m (r ++ [i]) = if i < minI m r then i else minI m r := by
    intro r
    induction r with
    | nil => intro m i; rfl
    | cons a r ih => intro m i; exact ih _ _
  intro k
  induction k with
  | zero => intro _; rfl
  | succ k ih =>
    intro hk
    have h : (l.drop 1)[k]? = some (l.getD (k + 1) 0) := by rw [List.getElem?_drop, List.getD_eq_getElem?_getD, Nat.add_comm 1 k, List.getElem?_eq_getElem hk]; rfl
    rw [List.take_add_one, h, Option.toList, snoc]
    unfold argBest
    rw [← ih (by omega)]
    simp only [decide_eq_true_eq]
    split <;> rfl
theorem cmpOf_gt {A : Around} {h X ws l} (rs : RpAll h X ws (D.ofInts l)) : CmpOf B.prog B.w A .Gt (fun i v => ws[i]? = some v) (fun i j => decide (l.getD i 0 > l.getD j 0)) := by
  intro i j vi vj s Q E hi hj q
  obtain ⟨t, rfl⟩ := rs.intAt hi; obtain ⟨u, rfl⟩ := rs.intAt hj
  exact gt_int q
theorem cmpOf_lt {A : Around} {h X ws l} (rs : RpAll h X ws (D.ofInts l)) : CmpOf B.prog B.w A .Lt (fun i v => ws[i]? = some v) (fun i j => decide (l.getD i 0 < l.getD j 0)) := by
  intro i j vi vj s Q E hi hj q
  obtain ⟨t, rfl⟩ := rs.intAt hi; obtain ⟨u, rfl⟩ := rs.intAt hj
  exact lt_int q
theorem bi_max2 {i j : Int} : Bi B n (.builtin "max") [.int i, .int j] (.int (maxI i [j])) := fun A s E Q vs bo ao hh r q => by
  cases r with | cons r rn =>
  cases rn with | cons r' rn =>
  cases rn
  obtain ⟨t, rfl⟩ := rp_int r; obtain ⟨u, rfl⟩ := rp_int r'
  have rs : RpAll s.heap NoX [Value.int i t, Value.int j u] (D.ofInts [i, j]) := .cons (.int _ _) (.cons (.int _ _) .nil)
  refine call_max_two (wp_iterNowT (vs := [Value.int i t, Value.int j u]) ao.handled ⟨_, Heap.get?_push_size _ rfl, rfl, 0, rfl⟩ fun s₂ I k W st hb hI => ⟨I, _, _, 2, _, _, _, rfl, W, st, hb, by omega, cmpOf_gt rs, fun v h' tk hv hk => ?_⟩)
  obtain ⟨w, rfl⟩ := rs.intAt hv
  rw [argBest_max _ _ (by simp)]
  exact q _ _ (ktrans (kpush' _ _) (kafter k hI hk)) fun _ _ => .int _ _
theorem bi_min2 {i j : Int} : Bi B n (.builtin "min") [.int i, .int j] (.int (minI i [j])) := fun A s E Q vs bo ao hh r q => by
  cases r with | cons r rn =>
  cases rn with | cons r' rn =>
  cases rn
  obtain ⟨t, rfl⟩ := rp_int r; obtain ⟨u, rfl⟩ := rp_int r'
  have rs : RpAll s.heap NoX [Value.int i t, Value.int j u] (D.ofInts [i, j]) := .cons (.int _ _) (.cons (.int _ _) .nil)
  refine call_min_two (wp_iterNowT (vs := [Value.int i t, Value.int j u]) ao.handled ⟨_, Heap.get?_push_size _ rfl, rfl, 0, rfl⟩ fun s₂ I k W st hb hI => ⟨I, _, _, 2, _, _, _, rfl, W, st, hb, by omega, cmpOf_lt rs, fun v h' tk hv hk => ?_⟩)
  obtain ⟨w, rfl⟩ := rs.intAt hv
  rw [argBest_min _ _ (by simp)]
  exact q _ _ (ktrans (kpush' _ _) (kafter k hI hk)) fun _ _ => .int _ _
end

section
variable {B : Bas} {n : Nat} {env : Env} {σ : Sto} {R : Fl → Sto → Prop} {h₀ h h' : Heap} {P O : Addr → Prop}

/-- a method that changes its list -/
def MutS (B : Bas) (n : Nat) (id : String) (ds as ds' : List D) : Prop :=
  ∀ (X : Addr → Prop) (A : Around) (s : Shared) (E : Value → Shared → Prop) (Q : Value → Shared → Prop) (a : Addr) (vs ws : List Value), B.Ok → AOk n A → B.Here s.heap → s.heap.PlainList a vs.toArray → X a → RpAll s.heap X vs ds → RpAll s.heap X ws as →
    (∀ s' vs', Mov (fun b => b = a) s s' → s'.heap.PlainList a vs'.toArray → RpAll s.heap X vs' ds' → Q .none s') → wpAny (model B.prog B.w) A (call (.builtin id) (.ref a :: ws)) Q E s

theorem RpAll.set {h X vs ds v d} (r : RpAll h X vs ds) (rv : Rp h X v d) : ∀ k, RpAll h X (vs.set k v) (ds.set k d) := by
  induction vs generalizing ds with
  | nil => intro k; cases r; exact .nil
  | cons w ws ih => cases r with | cons a b => intro k; cases k with
    | zero => exact .cons rv b
    | succ k => exact .cons a (ih b k)

end

mutual
/-- plain data as data -/
def D.of : PyData → D
  | .none => .none
  | .bool b => .bool b
  | .int i => .int i
  | .str x => .str x
  | .list xs => .list (D.ofAll xs)
  | .tuple xs => .tuple (D.ofAll xs)
  | .dict _ => .val .ellipsis
def D.ofAll : List PyData → List D
  | [] => []
  | x :: r => D.of x :: D.ofAll r
end
mutual
theorem Rp.reads {h : Heap} {X : Addr → Prop} : ∀ {q : PyData} {v : Value}, q.canLay0 = true → Rp h X v (D.of q) → ∃ as, Reads h v q as
  | .none, v, _, r => by rw [rp_val r]; exact ⟨_, Reads.none⟩
  | .bool b, v, _, r => by rw [rp_val r]; exact ⟨_, Reads.bool b⟩
  | .int i, v, _, r => by obtain ⟨t, rfl⟩ := rp_int r; exact ⟨_, Reads.int i t⟩
  | .str x, v, _, r => by obtain ⟨t, rfl⟩ := rp_str r; exact ⟨_, Reads.str x t⟩
  | .list xs, v, c, r => by
    rw [D.of] at r
    obtain ⟨a, vs, rfl, ⟨o, ho, hc, k, hd⟩, _, rs⟩ := rp_list r
    obtain ⟨as, q⟩ := RpAll.reads (by simpa [PyData.canLay0] using c) rs
    exact ⟨_, reads_list_at ho hc hd (by simpa using q)⟩
  | .tuple xs, v, c, r => by
    rw [D.of] at r
    obtain ⟨a, vs, rfl, ⟨o, ho, hc, k, hd⟩, _, rs⟩ := rp_tuple r
    obtain ⟨as, q⟩ := RpAll.reads (by simpa [PyData.canLay0] using c) rs
    exact ⟨_, reads_tuple_at ho hc hd (by simpa using q)⟩
  | .dict _, v, c, r => by simp [PyData.canLay0] at c
theorem RpAll.reads {h : Heap} {X : Addr → Prop} : ∀ {qs : List PyData} {vs : List Value}, PyData.canLayAll0 qs = true → RpAll h X vs (D.ofAll qs) → ∃ as, ReadsAll h vs qs as
  | [], vs, _, r => by rw [D.ofAll] at r; cases r; exact ⟨_, ReadsAll.nil⟩
  | q :: qs, vs, c, r => by
    rw [D.ofAll] at r
    cases r with | cons r rs =>
    simp only [PyData.canLayAll0, Bool.and_eq_true] at c
    obtain ⟨as, p⟩ := Rp.reads c.1 r
    obtain ⟨bs, p'⟩ := RpAll.reads c.2 rs
    exact ⟨_, ReadsAll.cons p p'⟩
end
section
variable {B : Bas} {n : Nat} {env : Env} {σ : Sto}
theorem cmp_eq_data {q q' : PyData} (h : SeqAt.shaped q = true) (h' : SeqAt.shaped q' = true) : Cmp B n .Eq (D.of q) (D.of q') (PyData.eqv q q') := fun A s E Q va vb bo ao hh r r' k => by
  obtain ⟨as, ra⟩ := Rp.reads (SeqAt.canLay_of_shaped h) r
  obtain ⟨bs, rb⟩ := Rp.reads (SeqAt.canLay_of_shaped h') r'
  exact SeqAt.compareEq_shaped ra rb h h' (by have := ao.units; omega) (k s (krefl s))
theorem cmp_ne_data {q q' : PyData} (h : SeqAt.shaped q = true) (h' : SeqAt.shaped q' = true) : Cmp B n .NotEq (D.of q) (D.of q') (!PyData.eqv q q') := fun A s E Q va vb bo ao hh r r' k => by
  obtain ⟨as, ra⟩ := Rp.reads (SeqAt.canLay_of_shaped h) r
  obtain ⟨bs, rb⟩ := Rp.reads (SeqAt.canLay_of_shaped h') r'
  exact SeqAt.compareNe_shaped ra rb h h' (by have := ao.units; omega) (k s (krefl s))
end

/-- a tree of questions, each within bounds, answered by lt -/
def Good {α : Type} (m : Nat) (lt : Nat → Nat → Bool) (G : α → Prop) : KasT α → Prop
  | .ret a => G a
  | .ask i j k => i < m ∧ j < m ∧ Good m lt G (k (lt i j))
theorem Good.mono {α : Type} {m : Nat} {lt : Nat → Nat → Bool} {G G' : α → Prop} (h : ∀ a, G a → G' a) : ∀ {t : KasT α}, Good m lt G t → Good m lt G' t
  | .ret a, x => h a x
  | .ask i j k, x => ⟨x.1, x.2.1, Good.mono h x.2.2⟩
theorem Good.bind {α β : Type} {m : Nat} {lt : Nat → Nat → Bool} {G : β → Prop} {f : α → KasT β} : ∀ {t : KasT α}, Good m lt (fun a => Good m lt G (f a)) t → Good m lt G (t.bind f)
  | .ret a, x => x
  | .ask i j k, x => ⟨x.1, x.2.1, Good.bind x.2.2⟩

structure Ord (lt : Nat → Nat → Bool) : Prop where
  asym : ∀ i j, lt i j = true → lt j i = false
  trans : ∀ i j k, lt i j = false → lt j k = false → lt i k = false

section
variable {lt : Nat → Nat → Bool} {m : Nat}
abbrev g (p : Array Nat) (k : Nat) : Nat := p.getD k 0
def SortedTo (lt : Nat → Nat → Bool) (p : Array Nat) (k : Nat) : Prop := ∀ i j, i ≤ j → j < k → lt (g p j) (g p i) = false
def NonInc (lt : Nat → Nat → Bool) (p : Array Nat) (k : Nat) : Prop := ∀ i j, i ≤ j → j < k → lt (g p i) (g p j) = false
def Eqv (lt : Nat → Nat → Bool) (p : Array Nat) (lo hi : Nat) : Prop := ∀ i j, lo ≤ i → i < hi → lo ≤ j → j < hi → lt (g p i) (g p j) = false
structure InB (m : Nat) (p : Array Nat) : Prop where
  sz : p.size = m
  pm : p.Perm (List.range m).toArray
variable (O : Ord lt)
include O
theorem refl (i : Nat) : lt i i = false := by
  cases h : lt i i with
  | false => rfl
  | true => have := O.asym i i h; rw [h] at this; cases this

end

def lexLt : List Int → List Int → Bool
  | [], [] => false
  | [], _ :: _ => true
  | _ :: _, [] => false
  | a :: r, b :: t => if a = b then lexLt r t else decide (a < b)
def sortL (ks : List (List Int)) : List (List Int) := ks.mergeSort fun a b => !lexLt b a
def tupI (l : List Int) : D := .tuple (D.ofInts l)

section
variable {B : Bas} {n : Nat} {env : Env} {σ : Sto} {p p' : Pos}
end

def bnames : List String := ["type", "NotImplemented", "len", "range", "min", "max", "sum", "sorted", "abs", "chr", "isinstance", "bool", "list", "zip", "str", "TypeError"]
def Free (B : Bas) : Prop := ∀ x ∈ bnames, B.mg (S x) = none

theorem boot_type : bootBuiltins (S "type") = some (.type "type") := by decide +kernel
theorem boot_ni : bootBuiltins (S "NotImplemented") = some .notImplemented := by decide +kernel
theorem boot_len : bootBuiltins (S "len") = some (.builtin "len") := by decide +kernel
theorem boot_range : bootBuiltins (S "range") = some (.type "range") := by decide +kernel
theorem boot_min : bootBuiltins (S "min") = some (.builtin "min") := by decide +kernel
theorem boot_max : bootBuiltins (S "max") = some (.builtin "max") := by decide +kernel
theorem boot_abs : bootBuiltins (S "abs") = some (.builtin "abs") := by decide +kernel
theorem boot_chr : bootBuiltins (S "chr") = some (.builtin "chr") := by decide +kernel
theorem boot_isinstance : bootBuiltins (S "isinstance") = some (.builtin "isinstance") := by decide +kernel
theorem boot_bool : bootBuiltins (S "bool") = some (.type "bool") := by decide +kernel

section
variable {B : Bas} {n : Nat} {env : Env} {σ : Sto} {e e' : Expr} {p p' : Pos} (fr : Free B)
include fr
theorem bn {x : String} {v : Value} (hk : env.kindOf (S x) = some .globalImplicit) (hb : bootBuiltins (S x) = some v) (h1 : x ∈ bnames := by decide) (h2 : x ≠ "__debug__" := by decide) (h3 : x ≠ "__name__" := by decide) : BootName B env x v := ⟨hk, fr x h1, hb, h2, h3⟩
theorem ev_ni (hk : env.kindOf (S "NotImplemented") = some .globalImplicit) : Ev B n env σ (.Name (S "NotImplemented") p) (.val .notImplemented) := ev_boot (bn fr hk boot_ni) rfl
theorem ev_type {d : D} {T : String} (hk : env.kindOf (S "type") = some .globalImplicit) (v : EvW B n env σ e d) (t : Ty d T) (hnb : (Value.type T == Value.type "builtin_function_or_method") = false := by decide)
    (he : starEach [e] env = (false, eval e env) :: starEach [] env := by rfl) : Ev B n env σ (.Call (.Name (S "type") p') [e] [] p) (.val (.type T)) :=
  ev_typecall (bn fr hk boot_type) (evasw_cons v evasw_nil he) (bi_type t hnb) he
theorem ev_len {ds : List D} (hk : env.kindOf (S "len") = some .globalImplicit) (v : EvW B n env σ e (.list ds)) (hsz : ds.length ≤ 1000000) (he : starEach [e] env = (false, eval e env) :: starEach [] env := by rfl) : Ev B n env σ (.Call (.Name (S "len") p') [e] [] p) (.int ds.length) :=
  ev_builtin (bn fr hk boot_len) (evasw_cons v evasw_nil he) (bi_len hsz) he
theorem ev_abs {i : Int} (hk : env.kindOf (S "abs") = some .globalImplicit) (v : EvW B n env σ e (.int i)) (he : starEach [e] env = (false, eval e env) :: starEach [] env := by rfl) : Ev B n env σ (.Call (.Name (S "abs") p') [e] [] p) (.int (if i < 0 then -i else i)) :=
  ev_builtin (bn fr hk boot_abs) (evasw_cons v evasw_nil he) bi_abs he
theorem ev_max2 {i j : Int} (hk : env.kindOf (S "max") = some .globalImplicit) (v : EvW B n env σ e (.int i)) (v' : EvW B n env σ e' (.int j)) (he : starEach [e, e'] env = (false, eval e env) :: starEach [e'] env := by rfl) (he' : starEach [e'] env = (false, eval e' env) :: starEach [] env := by rfl)
    (hp : (backTo p (starEach [e'] env)).any (·.1) = false := by rfl) : Ev B n env σ (.Call (.Name (S "max") p') [e, e'] [] p) (.int (maxI i [j])) :=
  ev_builtin (bn fr hk boot_max) (evasw_cons v (evasw_cons v' evasw_nil he') he) bi_max2 he hp
theorem ev_min2 {i j : Int} (hk : env.kindOf (S "min") = some .globalImplicit) (v : EvW B n env σ e (.int i)) (v' : EvW B n env σ e' (.int j)) (he : starEach [e, e'] env = (false, eval e env) :: starEach [e'] env := by rfl) (he' : starEach [e'] env = (false, eval e' env) :: starEach [] env := by rfl)
    (hp : (backTo p (starEach [e'] env)).any (·.1) = false := by rfl) : Ev B n env σ (.Call (.Name (S "min") p') [e, e'] [] p) (.int (minI i [j])) :=
  ev_builtin (bn fr hk boot_min) (evasw_cons v (evasw_cons v' evasw_nil he') he) bi_min2 he hp
theorem ev_rng1 {i : Int} (hk : env.kindOf (S "range") = some .globalImplicit) (v : EvW B n env σ e (.int i)) (he : starEach [e] env = (false, eval e env) :: starEach [] env := by rfl) : Ev B n env σ (.Call (.Name (S "range") p') [e] [] p) (.range 0 i) :=
  ev_range1 (bn fr hk boot_range) v he
theorem ev_rng2 {i j : Int} (hk : env.kindOf (S "range") = some .globalImplicit) (v : EvW B n env σ e (.int i)) (v' : EvW B n env σ e' (.int j)) (he : starEach [e, e'] env = (false, eval e env) :: starEach [e'] env := by rfl) (he' : starEach [e'] env = (false, eval e' env) :: starEach [] env := by rfl)
    (hp : (backTo p (starEach [e'] env)).any (·.1) = false := by rfl) : Ev B n env σ (.Call (.Name (S "range") p') [e, e'] [] p) (.range i j) :=
  ev_range2 (bn fr hk boot_range) v v' he he' hp
end

/-- definitions of the text -/
structure Def where
  name : Str
  params : Arguments
  body : List Stmt
  scope : Scope
def defOfStmt : Stmt → Def
  | .FunctionDef name args body _ _ _ scope _ _ _ => ⟨name, args, body, scope⟩
  | _ => ⟨S "", ⟨[], [], none, [], [], none, []⟩, [], ⟨.function, [], false, false, []⟩⟩
def defAt (p : Program) (i : Nat) : Def := match p.main.body[i]? with
  | some s => defOfStmt s
  | none => defOfStmt (.Pass default)

structure HasDef (B : Bas) (x : String) (a : Addr) (d : Def) : Prop where
  mg : B.mg (S x) = some (.ref a)
  fn : FnAt B a d.name d.params d.body d.scope

theorem FEnv.glob {sc env x} (fe : FEnv sc env) (h : sc.names.lookup x = some .globalImplicit) : env.kindOf x = some .globalImplicit := by unfold Env.kindOf; rw [fe.scope]; exact h
theorem FEnv.loc {sc env x} (fe : FEnv sc env) (h : sc.names.lookup x = some .local) : env.kindOf x = some .local := by unfold Env.kindOf; rw [fe.scope]; exact h
theorem FEnv.sl {sc : Scope} {env : Env} {x : String} (fe : FEnv sc env) (h : sc.names.lookup (S x) = some .local) : Storable env x := .inl (fe.loc h)
theorem FEnv.sc {sc : Scope} {env : Env} {x : String} (fe : FEnv sc env) (h : sc.names.lookup (S x) = some .cell) : Storable env x := .inr ⟨by unfold Env.kindOf; rw [fe.scope]; exact h, fe.func, fe.cells _ h⟩
theorem CEnv.sl {sc : Scope} {env : Env} {x : String} (ce : CEnv sc env) (h : sc.names.lookup (S x) = some .local) : Storable env x := .inl (ce.loc _ h)

theorem ev_calld {B : Bas} {n : Nat} {env : Env} {σ : Sto} {e : Expr} {p p' : Pos} {x : String} {a : Addr} {d : Def} {es : List Expr} {ds : List D} {r : D} (F : HasDef B x a d) (hk : env.kindOf (S x) = some .globalImplicit)
    (as : EvAs B n env σ (e :: es) ds) (f : FnS B n a ds r) (hn : x ≠ "__debug__" := by decide) (he : starEach (e :: es) env = (false, eval e env) :: starEach es env := by rfl)
    (hc : eval (.Call (.Name (S x) p') (e :: es) [] p) env = (do callWith p (← eval (.Name (S x) p') env) [] (backTo p (starEach (e :: es) env)) (backToKw p (keywordEach [] env))) := by rfl) : Ev B n env σ (.Call (.Name (S x) p') (e :: es) [] p) r :=
  let ⟨_, _, _, _, ho, hd, _⟩ := F.fn.at_; ev_call hk F.mg ho hd as f hn he hc

def SubL : Sto → Sto → Prop
  | [], _ => True
  | (x, b) :: r, τ => τ.get x = some b ∧ SubL r τ
theorem SubL.get : ∀ {τ σ : Sto}, SubL τ σ → ∀ x b, τ.get x = some b → σ.get x = some b
  | [], _, _, x, b, h => by cases h
  | (y, c) :: r, σ, ⟨h1, h2⟩, x, b, h => by
    unfold Sto.get at h
    by_cases e : y = x
    · subst e; rw [if_pos rfl] at h; cases h; exact h1
    · rw [if_neg e] at h; exact h2.get x b h

section
variable {B : Bas} {n : Nat} {env : Env} {σ τ : Sto} {R : Fl → Sto → Prop}
theorem ex_sub {ss} (hs : SubL τ σ) (h : Ex B n env τ ss R) : Ex B n env σ ss R := fun h₀ P O A s E b a T => h h₀ P O A s E b a (T.forget hs.get)
theorem asg_sub {t d τ'} (hs : SubL τ σ) (h : Asg B n env τ t d τ') : Asg B n env σ t d τ' := fun h₀ P O A s E Q v b a T => h h₀ P O A s E Q v b a (T.forget hs.get)

theorem ex_forS {target iter : Expr} {body : List Stmt} {p : Pos} {ds : List D} (τ : List D → Sto) (x : EvIt true B n env σ iter ds) (h0 : SubL (τ []) σ)
    (turn : ∀ pre d post, ds = pre ++ d :: post → ∃ τ', Asg B n env (τ pre) target d τ' ∧
      Ex B n env τ' body (fun fl υ => match fl with | .next => SubL (τ (pre ++ [d])) υ | .cont => SubL (τ (pre ++ [d])) υ | .brk => R .next υ | .ret v => R (.ret v) υ))
    (done : ∀ υ, SubL (τ ds) υ → R .next υ) (hs : ∀ x, foldedSetIterable iter env x = pure x := by intro _; rfl) : Ex1 B n env σ (.For target iter body [] p) R :=
  ex_for (fun pre υ => SubL (τ pre) υ) x h0 (fun pre d post σ' e hs' => by
    obtain ⟨τ', ha, hex⟩ := turn pre d post e
    exact ⟨τ', asg_sub hs' ha, hex⟩) done hs

end

/-- the items of a range -/
theorem rngD_split {a b : Int} {pre post : List D} {d : D} (h : rngD a b = pre ++ d :: post) : d = .int (a + pre.length) ∧ (pre.length : Int) < b - a := by
  have hl : (rngD a b)[pre.length]? = some d := by rw [h]; simp
  have hlen : pre.length < (rngD a b).length := by rw [h]; simp
  simp only [rngD, List.length_map, List.length_range] at hlen
  simp only [rngD, List.getElem?_map, List.getElem?_range hlen, Option.map_some, Option.some.injEq] at hl
  exact ⟨hl.symm, by omega⟩
/-- the heaps -/
def heapStep (m : Nat) (l : List Int) (h : List Int) (i : Nat) : List Int := h.set (i % m) (h.getD (i % m) 0 + l.getD i 0)
def heapsTo (m : Nat) (l : List Int) : Nat → List Int
  | 0 => List.replicate (min l.length m) 0
  | k + 1 => heapStep m l (heapsTo m l k) k
def heapsI (m : Nat) (l : List Int) : List Int := heapsTo m l l.length
theorem ofInts_get {l : List Int} {k : Nat} (h : k < l.length) : (D.ofInts l)[k]? = some (.int (l.getD k 0)) := by
  simp [D.ofInts, List.getElem?_map, List.getD_eq_getElem?_getD, List.getElem?_eq_getElem h]
theorem place_nat {k : Nat} {m : Nat} : place (k : Int) m = k := by unfold place; rw [if_neg (by omega)]; omega
theorem cmp_p {B n op a b t u} (x : Cmp B n op a b t) (h : t = u) : Cmp B n op a b u := h ▸ x
theorem FEnv.cell {sc env x} (fe : FEnv sc env) (h : sc.names.lookup x = some .cell) : env.kindOf x = some .cell := by unfold Env.kindOf; rw [fe.scope]; exact h
/-- the conditions of a comprehension within a def -/
theorem compOk_of {sc0 sc : Scope} {env : Env} {caps : List String} (fe : FEnv sc0 env) (hk : sc.kind = .function) (h1 : ∀ y ∈ sc.names, y.2 ≠ .cell) (h2 : ∀ y ∈ sc.names, y.2 = .local → sc.names.lookup y.1 = some .local)
    (h3 : ∀ y ∈ sc.names, y.2 = .free → sc0.names.lookup y.1 = some .cell) (h4 : ∀ x ∈ caps, sc.names.lookup (S x) = some .free ∧ sc0.names.lookup (S x) = some .cell) : CompOk sc env caps :=
  ⟨hk, h1, h2, fun y hy e => fe.cells _ (h3 y hy e), fun x hx => ⟨(h4 x hx).1, .inl (fe.cell (h4 x hx).2)⟩⟩
section
variable {B : Bas} {n : Nat} {env : Env} {σ : Sto} {R : Fl → Sto → Prop}
def maxL : List Int → Int
  | [] => 0
  | i :: r => maxI i r
end

/-- a list, whoever holds it -/
def EvL (B : Bas) (n : Nat) (env : Env) (σ : Sto) (e : Expr) (ds : List D) : Prop :=
  ∀ (h₀ : Heap) (P O : Addr → Prop) (A : Around) (s : Shared) (E : Value → Shared → Prop) (Q : Value → Shared → Prop), B.Ok → AOk n A → St B h₀ P env σ O s.heap →
    (∀ a vs s', Keeps s s' → s'.heap.IsList a vs.toArray → RpAll s'.heap (fun b => P b ∨ O b) vs ds → Q (.ref a) s') → wpAny (model B.prog B.w) A (eval e env) Q E s
/-- a bound of a slice -/
def EvP (B : Bas) (n : Nat) (env : Env) (σ : Sto) (x : Option Expr) (o : Option Int) : Prop :=
  ∀ (h₀ : Heap) (P O : Addr → Prop) (A : Around) (s : Shared) (E : Value → Shared → Prop) (Q : Value → Shared → Prop), B.Ok → AOk n A → St B h₀ P env σ O s.heap →
    (∀ v s', Keeps s s' → IsPart v o → Q v s') → wpAny (model B.prog B.w) A (evalPart x env) Q E s
section
variable {B : Bas} {n : Nat} {env : Env} {σ : Sto} {l e : Expr} {ds : List D} {p p' : Pos}
theorem evl_ev (x : Ev B n env σ l (.list ds)) : EvL B n env σ l ds := fun h₀ P O A s E Q bo ao T q => x h₀ P O A s E _ bo ao T fun v s' k r => by
  obtain ⟨a, vs, rfl, hl, _, rs⟩ := rp_list r
  exact q a vs s' k hl rs
theorem evp_none : EvP B n env σ none none := fun h₀ P O A s E Q _ _ _ q => wpAny_pure (q _ _ (krefl s) .none)
theorem evp_some {i : Int} (x : EvW B n env σ e (.int i)) : EvP B n env σ (some e) (some i) := fun h₀ P O A s E Q bo ao T q => x h₀ P O A s E _ bo ao T fun v s' k r => by
  obtain ⟨t, rfl⟩ := rp_int r
  exact q _ _ k (.int _ _)
theorem evn_slice {lower upper step : Option Expr} {lo hi st : Option Int} {es : List D} (x : EvL B n env σ l ds) (a : EvP B n env σ lower lo) (b : EvP B n env σ upper hi) (c : EvP B n env σ step st) (h0 : st ≠ some 0) (hsz : ds.length ≤ 1000000)
    (hes : ∀ (h : Heap) X (vs : List Value), RpAll h X vs ds → RpAll h X (slicePick vs.toArray lo hi st).toList es)
    (hs : ∀ a i, ∃ ops, subscripted (.Slice lower upper step p') false (.ref a) (.ref i) = operate ops (getItem (.ref a) (.ref i)) := by intro a i; exact ⟨_, by with_unfolding_all rfl⟩) : EvN B n env σ (.Subscript l (.Slice lower upper step p') p) es :=
  fun h₀ P O A s E Q bo ao T q => Subscript_ (x h₀ P O A s E _ bo ao T fun la vs s₁ k₁ hl rs => wpAny_Slice (a h₀ P O A s₁ E _ bo ao (T.kp k₁) fun vl s₂ k₂ pl => b h₀ P O A s₂ E _ bo ao ((T.kp k₁).kp k₂) fun vu s₃ k₃ pu => c h₀ P O A s₃ E _ bo ao (((T.kp k₁).kp k₂).kp k₃) fun vk s₄ k₄ pk => by
    have kk := ktrans (ktrans k₂ k₃) k₄
    have hl' : s₄.heap.IsList la vs.toArray := hl.at fun o e => kheap kk _ o e
    have rs' := rs.keeps (kheap kk)
    have hlen := rs.length
    obtain ⟨ops, hs⟩ := hs la s₄.heap.objs.size
    refine tail_any (Heap.IsList.typeIs (s := { s₄ with heap := s₄.heap.push { cls := .type "slice", data := .fields #[vl, vu, vk] } }) (hl'.push _)) list_getitem_lookup
      (wpAny_getItem_list_slice (hl'.push _) (Heap.IsSliceOf.new ..) pl pu pk h0 ?_ (by rw [sizeLine_eq, List.size_toArray]; omega)) hs
    have k5 : Keeps s { s₄ with heap := s₄.heap.push { cls := .type "slice", data := .fields #[vl, vu, vk] } } := ktrans (ktrans k₁ kk) (kpush' _ _)
    refine q _ (slicePick vs.toArray lo hi st).toList _ (ktrans k5 (kpush' _ _)) (fresh_kp k5) ⟨0, ?_⟩ (RpAll.beside (h := s₄.heap.push _) (hes _ _ _ (rs'.keeps fun b o e => Heap.get?_push_of_some _ e)) _)
    rw [Array.toArray_toList]
    exact Heap.get?_push_size _ rfl))
theorem evn_cut {lower upper : Option Expr} {lo hi : Option Int} (x : EvL B n env σ l ds) (a : EvP B n env σ lower lo) (b : EvP B n env σ upper hi) (hsz : ds.length ≤ 1000000)
    (hs : ∀ a i, ∃ ops, subscripted (.Slice lower upper none p') false (.ref a) (.ref i) = operate ops (getItem (.ref a) (.ref i)) := by intro a i; exact ⟨_, by with_unfolding_all rfl⟩) : EvN B n env σ (.Subscript l (.Slice lower upper none p') p) ((ds.drop (lo.elim 0 (clipAt ds.length))).take (hi.elim ds.length (clipAt ds.length) - lo.elim 0 (clipAt ds.length))) :=
  evn_slice x a b evp_none (by simp) hsz (fun h X vs r => by
    rw [slicePick_plain]
    have e : vs.toArray.size = ds.length := by rw [List.size_toArray, r.length]
    rw [e]
    exact (r.drop _).take _) hs
/-- sorted(xs, reverse=True) of ints -/
def sortD (l : List Int) : List Int := l.mergeSort fun a b => decide (b ≤ a)
end
section
variable {B : Bas} {n : Nat}
end

section
variable {B : Bas} {n : Nat} {env : Env} {σ : Sto} {R : Fl → Sto → Prop}
end

/-- what type(self).__op__(self, other) tells -/
def Dun (B : Bas) (n : Nat) (attr : String) (dS dO : D) (v : Value) : Prop :=
  ∃ T id, Ty dS T ∧ (Value.type T == Value.type "builtin_function_or_method") = false ∧ typeOf (.type T) = pure (.type "type") ∧ Manifest.isStub T = false ∧ findCls [] (.type T) (.type "type") (S attr) = some (.val (.builtin id)) ∧ handedIn (.builtin id) = true ∧ Bi B n (.builtin id) [dS, dO] (.val v)
theorem ev_dun {B : Bas} (fr : Free B) {n : Nat} {env : Env} {σ : Sto} {attr : String} {dS dO : D} {v : Value} {p1 p2 p3 p4 p5 p5' p6 : Pos} {pl : Sem Bool} (hk : env.kindOf (S "type") = some .globalImplicit) (hs : σ.get "self" = some (.val dS)) (ho : σ.get "other" = some (.val dO)) (x : Dun B n attr dS dO v)
    (he : eval (.Call (.Attribute (.Call (.Name (S "type") p1) [.Name (S "self") p2] [] p3) (S attr) p4) [.Name (S "self") p5, .Name (S "other") p5'] [] p6) env = (do
      let ov ← eval (.Call (.Name (S "type") p1) [.Name (S "self") p2] [] p3) env
      standAt p4.atName
      let (f, first) ← holding [ov] (getMethod ov (S attr) pl)
      callWith p6 f first (backTo p6 (starEach [.Name (S "self") p5, .Name (S "other") p5'] env)) (backToKw p6 (keywordEach [] env))) := by rfl) :
    Ev B n env σ (.Call (.Attribute (.Call (.Name (S "type") p1) [.Name (S "self") p2] [] p3) (S attr) p4) [.Name (S "self") p5, .Name (S "other") p5'] [] p6) (.val v) := by
  obtain ⟨T, id, h1, h2, h3, h4, h5, h6, h7⟩ := x
  exact ev_dunder (T := T) (Ev.weak (ev_type fr hk (Ev.weak (ev_name hs)) h1 h2)) h3 h4 h5 h6 (ds := [dS, dO]) (evasw_cons (Ev.weak (ev_name hs)) (evasw_cons (Ev.weak (ev_name ho)) evasw_nil)) h7 rfl rfl he
section
variable {B : Bas} {n : Nat}
theorem cmp_isnot_ni_ni : Cmp B n .IsNot (.val .notImplemented) (.val .notImplemented) false := fun A s E Q va vb bo ao hh r r' q => by
  cases rp_val r; cases rp_val r'; exact wpAny_pure (a := Value.bool (!(Value.notImplemented == Value.notImplemented))) (q s (krefl s))
end

theorem rp_obj' {h X v p} (r : Rp h X v (.obj p)) : ∃ a o, v = .ref a ∧ h.get? a = some o ∧ p o := by cases r with | obj a b c d => exact ⟨_, _, rfl, a, b⟩
/-- what asInt? finds none in -/
def NonI (d : D) : Prop := ∀ (prog : Program) (w : World) (A : Around) (s : Shared) (E : Value → Shared → Prop) (Q : Option Int → Shared → Prop) (v : Value), Rp s.heap NoX v d → Q none s → wpAny (model prog w) A (asInt? v) Q E s
theorem nonI_obj {p : Obj → Prop} (hp : ∀ o, p o → ∀ x, o.data ≠ .prim x) : NonI (.obj p) := fun prog w A s E Q v r q => by
  obtain ⟨a, o, rfl, ho, h⟩ := rp_obj' r
  refine wpAny_bind (wpAny_load ho ?_)
  have := hp o h
  obtain ⟨cls, dd, data, sl⟩ := o
  cases data <;> first | exact absurd rfl (this _) | exact wpAny_pure q
theorem nonI_list {ds : List D} : NonI (.list ds) := fun prog w A s E Q v r q => by
  obtain ⟨a, vs, rfl, ⟨o, ho, hc, n, hd⟩, _⟩ := rp_list r
  refine wpAny_bind (wpAny_load ho ?_)
  rw [hd]; exact wpAny_pure q
theorem nonI_tuple {ds : List D} : NonI (.tuple ds) := fun prog w A s E Q v r q => by
  obtain ⟨a, vs, rfl, ⟨o, ho, hc, n, hd⟩, _⟩ := rp_tuple r
  refine wpAny_bind (wpAny_load ho ?_)
  rw [hd]; exact wpAny_pure q
theorem nonI_str {i : Str} : NonI (.str i) := fun prog w A s E Q v r q => by obtain ⟨t, rfl⟩ := rp_str r; exact wpAny_pure q
/-- what asStr? finds none in -/
def NonS (d : D) : Prop := ∀ (prog : Program) (w : World) (A : Around) (s : Shared) (E : Value → Shared → Prop) (Q : Option Str → Shared → Prop) (v : Value), Rp s.heap NoX v d → Q none s → wpAny (model prog w) A (asStr? v) Q E s
theorem nonS_list {ds : List D} : NonS (.list ds) := fun prog w A s E Q v r q => by
  obtain ⟨a, vs, rfl, ⟨o, ho, hc, n, hd⟩, _⟩ := rp_list r
  refine wpAny_bind (wpAny_load ho ?_)
  rw [hd]; exact wpAny_pure q
theorem nonS_tuple {ds : List D} : NonS (.tuple ds) := fun prog w A s E Q v r q => by
  obtain ⟨a, vs, rfl, ⟨o, ho, hc, n, hd⟩, _⟩ := rp_tuple r
  refine wpAny_bind (wpAny_load ho ?_)
  rw [hd]; exact wpAny_pure q
theorem nonS_int {i : Int} : NonS (.int i) := fun prog w A s E Q v r q => by obtain ⟨t, rfl⟩ := rp_int r; exact wpAny_pure q
/-- what Builtin.Float.asFloat? finds none in -/
def NonF (d : D) : Prop := ∀ (prog : Program) (w : World) (A : Around) (s : Shared) (E : Value → Shared → Prop) (Q : Option UInt64 → Shared → Prop) (v : Value), Rp s.heap NoX v d → Q none s → wpAny (model prog w) A (Builtin.Float.asFloat? v) Q E s
section
variable {B : Bas} {n : Nat}
theorem bi_int_lt_ni {i : Int} {d : D} (hd : NonI d) : Bi B n (.builtin "int.__lt__") [.int i, d] (.val .notImplemented) := fun A s E Q vs bo ao hh r q => by
  cases r with | cons r rn =>
  cases rn with | cons r' rn =>
  cases rn
  obtain ⟨t, rfl⟩ := rp_int r
  refine wpAny_call_entry PySem.F.slot_int_lt (typeIs_int s i t) PySem.F.entry_int_lt ?_ (PySem.F.args_int_lt_2 _ _)
  show wpAny _ _ (asInt? _ >>= _) _ _ _
  refine wpAny_bind (hd _ _ _ _ _ _ _ r' ?_)
  refine wpAny_bind (wpAny_rule ?_)
  exact wpAny_pure ⟨_, rfl, q _ _ (krefl s) fun _ _ => .val _ rfl⟩
theorem bi_str_lt_ni {i : Str} {d : D} (hd : NonS d) : Bi B n (.builtin "str.__lt__") [.str i, d] (.val .notImplemented) := fun A s E Q vs bo ao hh r q => by
  cases r with | cons r rn =>
  cases rn with | cons r' rn =>
  cases rn
  obtain ⟨t, rfl⟩ := rp_str r
  refine wpAny_call_entry PySem.F.slot_str_lt (typeIs_str s i t) PySem.F.entry_str_lt ?_ (PySem.F.args_str_lt_2 _ _)
  show wpAny _ _ (asStr? _ >>= _) _ _ _
  refine wpAny_bind (hd _ _ _ _ _ _ _ r' ?_)
  refine wpAny_bind (wpAny_rule ?_)
  exact wpAny_pure ⟨_, rfl, q _ _ (krefl s) fun _ _ => .val _ rfl⟩
theorem fc_str_lt : findCls [] (.type "str") (.type "type") (S "__lt__") = some (.val (.builtin "str.__lt__")) := by kernel_rfl
theorem bi_int_le_ni {i : Int} {d : D} (hd : NonI d) : Bi B n (.builtin "int.__le__") [.int i, d] (.val .notImplemented) := fun A s E Q vs bo ao hh r q => by
  cases r with | cons r rn =>
  cases rn with | cons r' rn =>
  cases rn
  obtain ⟨t, rfl⟩ := rp_int r
  refine wpAny_call_entry PySem.F.slot_int_le (typeIs_int s i t) PySem.F.entry_int_le ?_ (PySem.F.args_int_le_2 _ _)
  show wpAny _ _ (asInt? _ >>= _) _ _ _
  refine wpAny_bind (hd _ _ _ _ _ _ _ r' ?_)
  refine wpAny_bind (wpAny_rule ?_)
  exact wpAny_pure ⟨_, rfl, q _ _ (krefl s) fun _ _ => .val _ rfl⟩
theorem bi_str_le_ni {i : Str} {d : D} (hd : NonS d) : Bi B n (.builtin "str.__le__") [.str i, d] (.val .notImplemented) := fun A s E Q vs bo ao hh r q => by
  cases r with | cons r rn =>
  cases rn with | cons r' rn =>
  cases rn
  obtain ⟨t, rfl⟩ := rp_str r
  refine wpAny_call_entry PySem.F.slot_str_le (typeIs_str s i t) PySem.F.entry_str_le ?_ (PySem.F.args_str_le_2 _ _)
  show wpAny _ _ (asStr? _ >>= _) _ _ _
  refine wpAny_bind (hd _ _ _ _ _ _ _ r' ?_)
  refine wpAny_bind (wpAny_rule ?_)
  exact wpAny_pure ⟨_, rfl, q _ _ (krefl s) fun _ _ => .val _ rfl⟩
theorem fc_str_le : findCls [] (.type "str") (.type "type") (S "__le__") = some (.val (.builtin "str.__le__")) := by kernel_rfl
theorem bi_int_gt_ni {i : Int} {d : D} (hd : NonI d) : Bi B n (.builtin "int.__gt__") [.int i, d] (.val .notImplemented) := fun A s E Q vs bo ao hh r q => by
  cases r with | cons r rn =>
  cases rn with | cons r' rn =>
  cases rn
  obtain ⟨t, rfl⟩ := rp_int r
  refine wpAny_call_entry PySem.F.slot_int_gt (typeIs_int s i t) PySem.F.entry_int_gt ?_ (PySem.F.args_int_gt_2 _ _)
  show wpAny _ _ (asInt? _ >>= _) _ _ _
  refine wpAny_bind (hd _ _ _ _ _ _ _ r' ?_)
  refine wpAny_bind (wpAny_rule ?_)
  exact wpAny_pure ⟨_, rfl, q _ _ (krefl s) fun _ _ => .val _ rfl⟩
theorem bi_str_gt_ni {i : Str} {d : D} (hd : NonS d) : Bi B n (.builtin "str.__gt__") [.str i, d] (.val .notImplemented) := fun A s E Q vs bo ao hh r q => by
  cases r with | cons r rn =>
  cases rn with | cons r' rn =>
  cases rn
  obtain ⟨t, rfl⟩ := rp_str r
  refine wpAny_call_entry PySem.F.slot_str_gt (typeIs_str s i t) PySem.F.entry_str_gt ?_ (PySem.F.args_str_gt_2 _ _)
  show wpAny _ _ (asStr? _ >>= _) _ _ _
  refine wpAny_bind (hd _ _ _ _ _ _ _ r' ?_)
  refine wpAny_bind (wpAny_rule ?_)
  exact wpAny_pure ⟨_, rfl, q _ _ (krefl s) fun _ _ => .val _ rfl⟩
theorem fc_str_gt : findCls [] (.type "str") (.type "type") (S "__gt__") = some (.val (.builtin "str.__gt__")) := by kernel_rfl
theorem bi_int_ge_ni {i : Int} {d : D} (hd : NonI d) : Bi B n (.builtin "int.__ge__") [.int i, d] (.val .notImplemented) := fun A s E Q vs bo ao hh r q => by
  cases r with | cons r rn =>
  cases rn with | cons r' rn =>
  cases rn
  obtain ⟨t, rfl⟩ := rp_int r
  refine wpAny_call_entry PySem.F.slot_int_ge (typeIs_int s i t) PySem.F.entry_int_ge ?_ (PySem.F.args_int_ge_2 _ _)
  show wpAny _ _ (asInt? _ >>= _) _ _ _
  refine wpAny_bind (hd _ _ _ _ _ _ _ r' ?_)
  refine wpAny_bind (wpAny_rule ?_)
  exact wpAny_pure ⟨_, rfl, q _ _ (krefl s) fun _ _ => .val _ rfl⟩
theorem bi_str_ge_ni {i : Str} {d : D} (hd : NonS d) : Bi B n (.builtin "str.__ge__") [.str i, d] (.val .notImplemented) := fun A s E Q vs bo ao hh r q => by
  cases r with | cons r rn =>
  cases rn with | cons r' rn =>
  cases rn
  obtain ⟨t, rfl⟩ := rp_str r
  refine wpAny_call_entry PySem.F.slot_str_ge (typeIs_str s i t) PySem.F.entry_str_ge ?_ (PySem.F.args_str_ge_2 _ _)
  show wpAny _ _ (asStr? _ >>= _) _ _ _
  refine wpAny_bind (hd _ _ _ _ _ _ _ r' ?_)
  refine wpAny_bind (wpAny_rule ?_)
  exact wpAny_pure ⟨_, rfl, q _ _ (krefl s) fun _ _ => .val _ rfl⟩
theorem fc_str_ge : findCls [] (.type "str") (.type "type") (S "__ge__") = some (.val (.builtin "str.__ge__")) := by kernel_rfl
theorem typeOf_str : typeOf (.type "str") = pure (.type "type") := by first | rfl | kernel_rfl
end

/-- the half of a whole number as a float -/
def hf (s : Int) : UInt64 := Float64.ofFrac (decide (s < 0) != decide ((2 : Int) < 0)) s.natAbs (2 : Int).natAbs
section
variable {B : Bas} {n : Nat} {i j : Int}
/-- a letter -/
def ltr (c : Int) : Str := ⟨#[c.toNat]⟩
theorem bi_chr (h0 : 0 ≤ i) (h1 : i ≤ 1114111) : Bi B n (.builtin "chr") [.int i] (.str (ltr i)) := fun A s E Q vs bo ao hh r q => by
  cases r with | cons r rn =>
  cases rn
  obtain ⟨t, rfl⟩ := rp_int r
  exact PyProof.Rows.chr_of_range h0 h1 (q _ _ (ktok _ _) fun _ _ => .str _ _)
theorem ltr_lt (h0 : 0 ≤ i) (h1 : 0 ≤ j) : decide ((ltr i).cps.toList < (ltr j).cps.toList) = decide (i < j) := by
  have : ((ltr i).cps.toList < (ltr j).cps.toList) ↔ i < j := by
    show [i.toNat] < [j.toNat] ↔ _
    simp only [List.cons_lt_cons_iff, List.lt_irrefl, and_false, or_false]
    omega
  exact decide_eq_decide.mpr this
theorem ltr_eq (h0 : 0 ≤ i) (h1 : 0 ≤ j) : ((ltr i).cps.toList == (ltr j).cps.toList) = (i == j) := by
  show ([i.toNat] == [j.toNat]) = _
  rw [Bool.eq_iff_iff]; simp; omega
theorem bi_ss_lt (h0 : 0 ≤ i) (h1 : 0 ≤ j) : Bi B n (.builtin "str.__lt__") [.str (ltr i), .str (ltr j)] (.bool (decide (i < j))) := fun A s E Q vs bo ao hh r q => by
  cases r with | cons r rn =>
  cases rn with | cons r' rn =>
  cases rn
  obtain ⟨t, rfl⟩ := rp_str r
  obtain ⟨u, rfl⟩ := rp_str r'
  have e : decide ((ltr i).cps.toList < (ltr j).cps.toList) = decide (i < j) := ltr_lt h0 h1
  rw [← e] at q
  exact wpAny_call_entry PySem.F.slot_str_lt (typeIs_str s (ltr i) t) PySem.F.entry_str_lt (show wpAny _ _ (ret (.bool _)) _ _ s from wpAny_pure ⟨_, rfl, q _ _ (krefl s) fun _ _ => .val _ rfl⟩) (PySem.F.args_str_lt_2 _ _)
theorem bi_ss_le (h0 : 0 ≤ i) (h1 : 0 ≤ j) : Bi B n (.builtin "str.__le__") [.str (ltr i), .str (ltr j)] (.bool (decide (i ≤ j))) := fun A s E Q vs bo ao hh r q => by
  cases r with | cons r rn =>
  cases rn with | cons r' rn =>
  cases rn
  obtain ⟨t, rfl⟩ := rp_str r
  obtain ⟨u, rfl⟩ := rp_str r'
  have e : (!decide ((ltr j).cps.toList < (ltr i).cps.toList)) = decide (i ≤ j) := by rw [ltr_lt h1 h0, Bool.eq_iff_iff]; simp
  rw [← e] at q
  exact wpAny_call_entry PySem.F.slot_str_le (typeIs_str s (ltr i) t) PySem.F.entry_str_le (show wpAny _ _ (ret (.bool _)) _ _ s from wpAny_pure ⟨_, rfl, q _ _ (krefl s) fun _ _ => .val _ rfl⟩) (PySem.F.args_str_le_2 _ _)
theorem bi_ss_gt (h0 : 0 ≤ i) (h1 : 0 ≤ j) : Bi B n (.builtin "str.__gt__") [.str (ltr i), .str (ltr j)] (.bool (decide (j < i))) := fun A s E Q vs bo ao hh r q => by
  cases r with | cons r rn =>
  cases rn with | cons r' rn =>
  cases rn
  obtain ⟨t, rfl⟩ := rp_str r
  obtain ⟨u, rfl⟩ := rp_str r'
  have e : decide ((ltr j).cps.toList < (ltr i).cps.toList) = decide (j < i) := ltr_lt h1 h0
  rw [← e] at q
  exact wpAny_call_entry PySem.F.slot_str_gt (typeIs_str s (ltr i) t) PySem.F.entry_str_gt (show wpAny _ _ (ret (.bool _)) _ _ s from wpAny_pure ⟨_, rfl, q _ _ (krefl s) fun _ _ => .val _ rfl⟩) (PySem.F.args_str_gt_2 _ _)
theorem bi_ss_ge (h0 : 0 ≤ i) (h1 : 0 ≤ j) : Bi B n (.builtin "str.__ge__") [.str (ltr i), .str (ltr j)] (.bool (decide (j ≤ i))) := fun A s E Q vs bo ao hh r q => by
  cases r with | cons r rn =>
  cases rn with | cons r' rn =>
  cases rn
  obtain ⟨t, rfl⟩ := rp_str r
  obtain ⟨u, rfl⟩ := rp_str r'
  have e : (!decide ((ltr i).cps.toList < (ltr j).cps.toList)) = decide (j ≤ i) := by rw [ltr_lt h0 h1, Bool.eq_iff_iff]; simp
  rw [← e] at q
  exact wpAny_call_entry PySem.F.slot_str_ge (typeIs_str s (ltr i) t) PySem.F.entry_str_ge (show wpAny _ _ (ret (.bool _)) _ _ s from wpAny_pure ⟨_, rfl, q _ _ (krefl s) fun _ _ => .val _ rfl⟩) (PySem.F.args_str_ge_2 _ _)
theorem cmp_ss_eq (h0 : 0 ≤ i) (h1 : 0 ≤ j) : Cmp B n .Eq (.str (ltr i)) (.str (ltr j)) (i == j) := fun A s E Q va vb bo ao hh r r' q => by
  obtain ⟨t, rfl⟩ := rp_str r; obtain ⟨u, rfl⟩ := rp_str r'
  refine P.eq_str ?_
  rw [ltr_eq h0 h1]; exact q s (krefl s)
theorem cmp_ss_ne (h0 : 0 ≤ i) (h1 : 0 ≤ j) : Cmp B n .NotEq (.str (ltr i)) (.str (ltr j)) (!(i == j)) := fun A s E Q va vb bo ao hh r r' q => by
  obtain ⟨t, rfl⟩ := rp_str r; obtain ⟨u, rfl⟩ := rp_str r'
  refine P.ne_str ?_
  have e : ((ltr i).cps.toList != (ltr j).cps.toList) = (!(i == j)) := by rw [← ltr_eq h0 h1]; rfl
  rw [e]; exact q s (krefl s)
/-- a dictionary, whatever it holds -/
def IsDict (o : Obj) : Prop := o.cls = .type "dict" ∧ ∃ es ep, o.data = .dict es ep
theorem IsDict.noIter {o : Obj} (h : IsDict o) : ¬ IterObj o := by
  rintro ⟨nm, vs, _, e, _⟩
  obtain ⟨_, es, ep, hd⟩ := h
  rw [hd] at e; cases e
end

def rowF : Nat → Int → Int → Int → List (Int × Int)
  | 0, g, _, _ => [(g, 0)]
  | n + 1, g, p, q => if q = 0 then [(g, 0)] else (0, g * p.fdiv q) :: rowF n (-g) q (p.fmod q)
def pairLt (x y : Int × Int) : Bool := if x.1 == y.1 then decide (x.2 < y.2) else decide (x.1 < y.1)
def lexPP : List (Int × Int) → List (Int × Int) → Bool
  | [], [] => false
  | [], _ :: _ => true
  | _ :: _, [] => false
  | x :: xs, y :: ys => if x == y then lexPP xs ys else pairLt x y
def prs (nb : List Int) : List (Int × Int) := (List.range nb.length).map fun k => (nb.getD k 0, nb.getD (place ((k : Int) - 1) nb.length) 0)
def tp (q : Int × Int) : D := tupI [q.1, q.2]
def mm (q : Int × Int) : Int × Int := (maxI q.1 [q.2], minI q.1 [q.2])
def toL (q : Int × Int) : List Int := [q.1, q.2]
def sortP (qs : List (Int × Int)) : List (Int × Int) := (sortL (qs.map toL)).map fun l => (l.getD 0 0, l.getD 1 0)
def ptsStep (ps : List Int) (q : Int × Int) : List Int := if ps == [] || !decide (q.2 ≤ ps.getD (place (-1) ps.length) 0) then ps ++ [q.1] else ps
def pts (st : List (Int × Int)) : List Int := st.foldl ptsStep []
def bitc (c k : Nat) : Bool := (((0 + (c : Int)).fdiv (2 ^ (0 + (k : Int)).toNat)).fmod 2 == 1)
def few (st : List (Int × Int)) (c : Nat) : List (Int × Int) := ((List.range st.length).filter (bitc c)).map fun k => st.getD k (0, 0)
def clash (f : List (Int × Int)) : List Nat := (List.range ((f.length : Int) - 1).toNat).filter fun k => decide ((f.getD (k + 1) (0, 0)).2 ≤ (f.getD k (0, 0)).1)
def mostTo (st : List (Int × Int)) : Nat → Int
  | 0 => 0
  | c + 1 => if clash (few st c) = [] then maxI (mostTo st c) [((few st c).length : Int)] else mostTo st c

section
variable {prog : Program} {w : World} {A : Around} {E : Value → Shared → Prop} {s : Shared}
/-- the data of a list of pairs -/
def pdP (q : Int × Int) : PyData := .tuple [.int q.1, .int q.2]
end

section
variable {B : Bas} {n : Nat}
theorem typeOf_list : typeOf (.type "list") = pure (.type "type") := by first | rfl | kernel_rfl
end

section
variable {B : Bas} {n : Nat} {env : Env} {σ : Sto} {R : Fl → Sto → Prop}
theorem cmp_ne_bools (l m : List Bool) : Cmp B n .NotEq (.list (l.map D.bool)) (.list (m.map D.bool)) (!(l == m)) := by
  have e0 : ∀ l : List Bool, D.of (.list (l.map PyData.bool)) = .list (l.map D.bool) := by
    intro l
    rw [D.of]
    congr 1
    induction l with
    | nil => rfl
    | cons a r ih => simp only [List.map_cons, D.ofAll, D.of, ih]
  have cl : ∀ l : List Bool, PyData.canLayAll0 (l.map PyData.bool) = true := by
    intro l
    induction l with
    | nil => rfl
    | cons a r ih => simp [PyData.canLayAll0, PyData.canLay0, ih]
  have sh : ∀ l : List Bool, SeqAt.shaped (.list (l.map PyData.bool)) = true := by
    intro l
    have hd : ∀ l : List Bool, PyData.depthAll (l.map PyData.bool) ≤ 1 := by
      intro l
      induction l with
      | nil => simp [PyData.depthAll]
      | cons a r ih => simp only [List.map_cons, PyData.depthAll, PyData.depth]; omega
    unfold SeqAt.shaped
    rw [show PyData.canLay0 (.list (l.map PyData.bool)) = true from cl l, Bool.true_and]
    have := hd l
    refine decide_eq_true ?_
    simp only [PyData.depth]; omega
  have ev : ∀ l m : List Bool, PyData.eqv (.list (l.map .bool)) (.list (m.map .bool)) = (l == m) := by
    intro l
    show ∀ m : List Bool, PyData.eqvAll _ _ = _
    induction l with
    | nil => intro m; cases m <;> rfl
    | cons a r ih => intro m; cases m with
      | nil => rfl
      | cons b t => simp only [List.map_cons, PyData.eqvAll, PyData.eqv, ih]; rfl
  have := cmp_ne_data (B := B) (n := n) (sh l) (sh m)
  rwa [e0, e0, ev] at this
end

/-- a pair of a pair of ints and an int -/
def tupN (q : (Int × Int) × Int) : D := .tuple [tp q.1, .int q.2]
def keyN (q : (Int × Int) × Int) : List Int := [q.1.1, q.1.2, q.2]
def unN : List Int → (Int × Int) × Int
  | [a, b, c] => ((a, b), c)
  | _ => ((0, 0), 0)
def sortN (ks : List ((Int × Int) × Int)) : List ((Int × Int) × Int) := (sortL (ks.map keyN)).map unN
section
variable {B : Bas} {n : Nat} {env : Env} {σ : Sto} {p p' : Pos}
end

section
variable {B : Bas} {n : Nat} {env : Env} {σ τ : Sto} {R : Fl → Sto → Prop} {e : Expr} {p : Pos}
end

/-- what a comparison comes to: an answer, or TypeError with these words -/
inductive Out where
  | val (b : Bool)
  | err (m : Str)
def OutR (s : Shared) (R : Result → Shared → Prop) : Out → Prop
  | .val b => R (.ok (.ret (.bool b))) s
  | .err m => ∀ h' tk tk' e, Heap.MadeExc s.heap h' e "TypeError" [.str m tk'] → R (.error (.ref e)) { s with heap := h', toks := tk }
/-- the same as two ways on -/
def OutQ (s : Shared) (Q E : Value → Shared → Prop) : Out → Prop
  | .val b => Q (.bool b) s
  | .err m => ∀ h' tk tk' e, Heap.MadeExc s.heap h' e "TypeError" [.str m tk'] → E (.ref e) { s with heap := h', toks := tk }
section
variable {M : Model} {A : Around} {E : Value → Shared → Prop} {s : Shared}
/-- the words of an unsupported comparison -/
def cmpMsg (sym Ta Tb : String) : String := s!"'{sym}' not supported between instances of '{Ta}' and '{Tb}'"
end
def b2i (b : Bool) : Int := if b = true then 1 else 0
theorem sb_int_list : isSubtype (.type "int") (.type "list") = pure false := by rw [isSubtype_type]; kernel_rfl
theorem sb_str_list : isSubtype (.type "str") (.type "list") = pure false := by rw [isSubtype_type]; kernel_rfl
section
variable {prog : Program} {w : World} {A : Around} {E : Value → Shared → Prop} {s : Shared}
theorem cn_lt_int_int {p : Int} {t : Tok} {q : Int} {u : Tok} {Q : Value → Shared → Prop} (h : Q (.bool (decide (p < q))) s) : wpAny (model prog w) A (call (.builtin "int.__lt__") [.int p t, .int q u]) Q E s :=
  wpAny_call_entry PySem.F.slot_int_lt (typeIs_int s p t) PySem.F.entry_int_lt (show wpAny _ _ (ret (.bool (decide (p < q)))) _ _ s from wpAny_pure ⟨_, rfl, h⟩) (PySem.F.args_int_lt_2 _ _)
theorem cn_le_int_int {p : Int} {t : Tok} {q : Int} {u : Tok} {Q : Value → Shared → Prop} (h : Q (.bool (decide (p ≤ q))) s) : wpAny (model prog w) A (call (.builtin "int.__le__") [.int p t, .int q u]) Q E s :=
  wpAny_call_entry PySem.F.slot_int_le (typeIs_int s p t) PySem.F.entry_int_le (show wpAny _ _ (ret (.bool (decide (p ≤ q)))) _ _ s from wpAny_pure ⟨_, rfl, h⟩) (PySem.F.args_int_le_2 _ _)
theorem cn_gt_int_int {p : Int} {t : Tok} {q : Int} {u : Tok} {Q : Value → Shared → Prop} (h : Q (.bool (decide (p > q))) s) : wpAny (model prog w) A (call (.builtin "int.__gt__") [.int p t, .int q u]) Q E s :=
  wpAny_call_entry PySem.F.slot_int_gt (typeIs_int s p t) PySem.F.entry_int_gt (show wpAny _ _ (ret (.bool (decide (p > q)))) _ _ s from wpAny_pure ⟨_, rfl, h⟩) (PySem.F.args_int_gt_2 _ _)
theorem cn_ge_int_int {p : Int} {t : Tok} {q : Int} {u : Tok} {Q : Value → Shared → Prop} (h : Q (.bool (decide (p ≥ q))) s) : wpAny (model prog w) A (call (.builtin "int.__ge__") [.int p t, .int q u]) Q E s :=
  wpAny_call_entry PySem.F.slot_int_ge (typeIs_int s p t) PySem.F.entry_int_ge (show wpAny _ _ (ret (.bool (decide (p ≥ q)))) _ _ s from wpAny_pure ⟨_, rfl, h⟩) (PySem.F.args_int_ge_2 _ _)
theorem rn_lt_int_int {p : Int} {t : Tok} {q : Int} {u : Tok} {Q : Value → Shared → Prop} (hu : A.units < cLine) (h : Q (.bool (decide (p < q))) s) : wpAny (model prog w) A (richCompare .Lt (.int p t) (.int q u)) Q E s :=
  wpAny_richCompare_same_room (op := .Lt) (typeIs_int s p t) (typeIs_int s q u) PySem.F.slot_int_lt (cn_lt_int_int ⟨by simp, h⟩) hu
theorem dc_list_lt {a : Addr} {T : String} {v : Value} (ha : s.TypeIs (.ref a) "list") (hv : s.TypeIs v T) (hs : isSubtype (.type T) (.type "list") = pure false) {Q : Value → Shared → Prop} (q : Q .notImplemented s) : wpAny (model prog w) A (call (.builtin "list.__lt__") [.ref a, v]) Q E s := by
  refine wpAny_call_entry PySem.F.slot_list_lt ha PySem.F.entry_list_lt ?_ (PySem.F.args_list_lt_2 _ _)
  show wpAny _ _ (isInstance v (.type "list") >>= _) _ _ _
  refine wpAny_bind (wpAny_isInstance hv hs ?_)
  exact wpAny_pure ⟨_, rfl, q⟩
theorem rn_le_int_int {p : Int} {t : Tok} {q : Int} {u : Tok} {Q : Value → Shared → Prop} (hu : A.units < cLine) (h : Q (.bool (decide (p ≤ q))) s) : wpAny (model prog w) A (richCompare .LtE (.int p t) (.int q u)) Q E s :=
  wpAny_richCompare_same_room (op := .LtE) (typeIs_int s p t) (typeIs_int s q u) PySem.F.slot_int_le (cn_le_int_int ⟨by simp, h⟩) hu
theorem dc_list_le {a : Addr} {T : String} {v : Value} (ha : s.TypeIs (.ref a) "list") (hv : s.TypeIs v T) (hs : isSubtype (.type T) (.type "list") = pure false) {Q : Value → Shared → Prop} (q : Q .notImplemented s) : wpAny (model prog w) A (call (.builtin "list.__le__") [.ref a, v]) Q E s := by
  refine wpAny_call_entry PySem.F.slot_list_le ha PySem.F.entry_list_le ?_ (PySem.F.args_list_le_2 _ _)
  show wpAny _ _ (isInstance v (.type "list") >>= _) _ _ _
  refine wpAny_bind (wpAny_isInstance hv hs ?_)
  exact wpAny_pure ⟨_, rfl, q⟩
theorem rn_gt_int_int {p : Int} {t : Tok} {q : Int} {u : Tok} {Q : Value → Shared → Prop} (hu : A.units < cLine) (h : Q (.bool (decide (p > q))) s) : wpAny (model prog w) A (richCompare .Gt (.int p t) (.int q u)) Q E s :=
  wpAny_richCompare_same_room (op := .Gt) (typeIs_int s p t) (typeIs_int s q u) PySem.F.slot_int_gt (cn_gt_int_int ⟨by simp, h⟩) hu
theorem dc_list_gt {a : Addr} {T : String} {v : Value} (ha : s.TypeIs (.ref a) "list") (hv : s.TypeIs v T) (hs : isSubtype (.type T) (.type "list") = pure false) {Q : Value → Shared → Prop} (q : Q .notImplemented s) : wpAny (model prog w) A (call (.builtin "list.__gt__") [.ref a, v]) Q E s := by
  refine wpAny_call_entry PySem.F.slot_list_gt ha PySem.F.entry_list_gt ?_ (PySem.F.args_list_gt_2 _ _)
  show wpAny _ _ (isInstance v (.type "list") >>= _) _ _ _
  refine wpAny_bind (wpAny_isInstance hv hs ?_)
  exact wpAny_pure ⟨_, rfl, q⟩
theorem rn_ge_int_int {p : Int} {t : Tok} {q : Int} {u : Tok} {Q : Value → Shared → Prop} (hu : A.units < cLine) (h : Q (.bool (decide (p ≥ q))) s) : wpAny (model prog w) A (richCompare .GtE (.int p t) (.int q u)) Q E s :=
  wpAny_richCompare_same_room (op := .GtE) (typeIs_int s p t) (typeIs_int s q u) PySem.F.slot_int_ge (cn_ge_int_int ⟨by simp, h⟩) hu
theorem dc_list_ge {a : Addr} {T : String} {v : Value} (ha : s.TypeIs (.ref a) "list") (hv : s.TypeIs v T) (hs : isSubtype (.type T) (.type "list") = pure false) {Q : Value → Shared → Prop} (q : Q .notImplemented s) : wpAny (model prog w) A (call (.builtin "list.__ge__") [.ref a, v]) Q E s := by
  refine wpAny_call_entry PySem.F.slot_list_ge ha PySem.F.entry_list_ge ?_ (PySem.F.args_list_ge_2 _ _)
  show wpAny _ _ (isInstance v (.type "list") >>= _) _ _ _
  refine wpAny_bind (wpAny_isInstance hv hs ?_)
  exact wpAny_pure ⟨_, rfl, q⟩
end

/-- what two rows come to: the first unlike ones, else fin -/
def loopOut (po : PyData → PyData → Out) (fin : Bool) : List PyData → List PyData → Out
  | x :: xs, y :: ys => if PyData.eqv x y = true then loopOut po fin xs ys else po x y
  | _, _ => .val fin
theorem OutR.of_Q {s : Shared} {Q E : Value → Shared → Prop} {R : Result → Shared → Prop} (hq : ∀ v s', Q v s' → R (.ok (.ret v)) s') (he : ∀ e s', E e s' → R (.error e) s') : ∀ {o : Out}, OutQ s Q E o → OutR s R o
  | .val b, h => hq _ _ h
  | .err m, h => fun h' tk tk' e x => he _ _ (h h' tk tk' e x)
section
variable {prog : Program} {w : World} {A : Around} {E : Value → Shared → Prop} {s : Shared}
theorem ofAll_length : ∀ xs : List PyData, (D.ofAll xs).length = xs.length
  | [] => rfl
  | _ :: r => by rw [D.ofAll, List.length_cons, List.length_cons, ofAll_length r]
set_option maxHeartbeats 2000000 in
theorem loop_lt {l b : Addr} {vs ws : List Value} {n m : Nat} {dd dd2 : Option Addr} {sl sl2 : Array (Option Value)} (hl : s.heap.get? l = some { cls := .type "list", dict := dd, data := .seq vs.toArray n, slots := sl }) (hb : s.heap.get? b = some { cls := .type "list", dict := dd2, data := .seq ws.toArray m, slots := sl2 }) (hu : A.units + 20 < cLine)
    (T : PyData → Prop) (hT : ∀ x, T x → PyData.canLay0 x = true ∧ PyData.depth x ≤ 2) (po : PyData → PyData → Out)
    (hp : ∀ (x y : PyData) (va vb : Value) (Q E : Value → Shared → Prop), T x → T y → PyData.eqv x y = false → Rp s.heap NoX va (D.of x) → Rp s.heap NoX vb (D.of y) → OutQ s Q E (po x y) → wpAny (model prog w) A.in1 (richCompare .Lt va vb) Q E s) :
    ∀ (xs ys : List PyData) (i : Nat) (R : Result → Shared → Prop), i ≤ vs.length → i ≤ ws.length → (∀ x ∈ xs, T x) → (∀ y ∈ ys, T y) → RpAll s.heap NoX (vs.drop i) (D.ofAll xs) → RpAll s.heap NoX (ws.drop i) (D.ofAll ys) → OutR s R (loopOut po (decide (vs.length < ws.length)) xs ys) →
      wpAny (model prog w) A.in1 (Builtin.«list.__eq__.loop» ⟨[.ref l, .ref b, rawInt i, rawInt 0], []⟩) (fun fin s' => match fin with | .done f => R (.ok f) s' | .again c' => c'.quiet = true ∧ codeAny (model prog w) A c' R s') (fun e s' => R (.error e) s') s := by
  intro xs
  induction xs with
  | nil =>
    intro ys i R h1 h2 t1 t2 r1 r2 q
    have e1 : vs.length = i := by have := r1.length; rw [ofAll_length] at this; simp at this; omega
    obtain ⟨hp', g, d, tk, os⟩ := s
    have hi1 : vs.toArray[((i : Nat) : Int).toNat]? = none := by simp; omega
    wp_walk using AutoSeq1.wpAny_loadPart' hl, AutoSeq1.wpAny_loadPart' hb
    rw [hi1]
    wp_walk using AutoSeq1.wpAny_loadPart' hl, AutoSeq1.wpAny_loadPart' hb
    show R (.ok (.ret (.bool (decide (vs.toArray.size < ws.toArray.size))))) _
    simp only [List.size_toArray]
    exact q
  | cons x xs ih =>
    intro ys i R h1 h2 t1 t2 r1 r2 q
    have e1 : vs.length = i + (xs.length + 1) := by have := r1.length; rw [ofAll_length] at this; simp at this; omega
    have e2 : ws.length = i + ys.length := by have := r2.length; rw [ofAll_length] at this; simp at this; omega
    have hc : ((i : Int) + 1) = ((i + 1 : Nat) : Int) := by push_cast; rfl
    have hi1 : vs.toArray[((i : Nat) : Int).toNat]? = some vs[i] := by simp
    cases ys with
    | nil =>
      have hi2 : ws.toArray[((i : Nat) : Int).toNat]? = none := by simp at e2 ⊢; omega
      obtain ⟨hp', g, d, tk, os⟩ := s
      wp_walk using AutoSeq1.wpAny_loadPart' hl, AutoSeq1.wpAny_loadPart' hb
      rw [hi1, hi2]
      wp_walk using AutoSeq1.wpAny_loadPart' hl, AutoSeq1.wpAny_loadPart' hb
      show R (.ok (.ret (.bool (decide (vs.toArray.size < ws.toArray.size))))) _
      simp only [List.size_toArray]
      exact q
    | cons y ys =>
      simp only [List.length_cons] at e2
      have hi2 : ws.toArray[((i : Nat) : Int).toNat]? = some ws[i] := by simp
      rw [List.drop_eq_getElem_cons (by omega)] at r1 r2
      rw [D.ofAll] at r1 r2
      cases r1 with | cons rx rxs =>
      cases r2 with | cons ry rys =>
      have tx := t1 x (List.mem_cons_self ..)
      have ty := t2 y (List.mem_cons_self ..)
      obtain ⟨as, ra⟩ := Rp.reads (hT x tx).1 rx
      obtain ⟨bs, rb⟩ := Rp.reads (hT y ty).1 ry
      have eqb : ∀ {Q' : Bool → Shared → Prop} {E' : Value → Shared → Prop}, Q' (PyData.eqv x y) s → wpAny (model prog w) A.in1 (eqBool vs[i] ws[i]) Q' E' s := fun {Q' E'} hq => SeqAt.eqBoolOverData prog w A.in1 E' s _ _ x y as bs Q' ra rb (hT x tx).1 (hT y ty).1 (by show A.units + 1 + min (PyData.depth x) (PyData.depth y) < cLine; have := (hT x tx).2; omega) hq
      have hpr : ∀ (Q E : Value → Shared → Prop), PyData.eqv x y = false → OutQ s Q E (po x y) → wpAny (model prog w) A.in1 (richCompare .Lt vs[i] ws[i]) Q E s := fun Q E h q => hp x y _ _ Q E tx ty h rx ry q
      obtain ⟨hp', g, d, tk, os⟩ := s
      wp_walk using AutoSeq1.wpAny_loadPart' hl, AutoSeq1.wpAny_loadPart' hb
      rw [hi1, hi2]
      refine wpAny_bind (eqb ?_)
      unfold loopOut at q
      cases hxy : PyData.eqv x y with
      | true =>
        rw [if_pos hxy] at q
        wp_walk
        rw [hc]
        exact ⟨plainId_quiet MeetsSeq3.plain_eq_loop _, codeAny_builtin MeetsSeq3.entry_eq_loop (by
          rw [Around.under_plainId MeetsSeq3.plain_eq_loop _]
          exact ih ys (i + 1) R (by omega) (by omega) (fun z hz => t1 z (List.mem_cons_of_mem _ hz)) (fun z hz => t2 z (List.mem_cons_of_mem _ hz)) rxs rys q)⟩
      | false =>
        rw [if_neg (by rw [hxy]; decide)] at q
        wp_walk using AutoSeq1.wpAny_loadPart' hl, AutoSeq1.wpAny_loadPart' hb
        rw [hi1, hi2]
        dsimp only
        refine wpAny_bind (hpr _ _ hxy ?_)
        cases ho : po x y with
        | val c => rw [ho] at q; exact wpAny_pure q
        | err msg => rw [ho] at q; exact q
set_option maxHeartbeats 2000000 in
theorem call_list_lt {l b : Addr} {vs ws : List Value} (hl : s.heap.IsList l vs.toArray) (hb : s.heap.IsList b ws.toArray) (hu : A.units + 20 < cLine) {Q : Value → Shared → Prop}
    (T : PyData → Prop) (hT : ∀ x, T x → PyData.canLay0 x = true ∧ PyData.depth x ≤ 2) (po : PyData → PyData → Out)
    (hp : ∀ (prog : Program) (w : World) (x y : PyData) (va vb : Value) (Q E : Value → Shared → Prop), T x → T y → PyData.eqv x y = false → Rp s.heap NoX va (D.of x) → Rp s.heap NoX vb (D.of y) → OutQ s Q E (po x y) → wpAny (model prog w) A.in1 (richCompare .Lt va vb) Q E s)
    {xs ys : List PyData} (t1 : ∀ x ∈ xs, T x) (t2 : ∀ y ∈ ys, T y) (r1 : RpAll s.heap NoX vs (D.ofAll xs)) (r2 : RpAll s.heap NoX ws (D.ofAll ys)) (q : OutQ s Q E (loopOut po (decide (xs.length < ys.length)) xs ys)) : wpAny (model prog w) A (call (.builtin "list.__lt__") [.ref l, .ref b]) Q E s := by
  obtain ⟨⟨cls, dd, data, sl⟩, ho, hc, k, hd⟩ := id hl
  simp only at hc hd; subst hc hd
  obtain ⟨⟨cls2, dd2, data2, sl2⟩, ho2, hc2, k2, hd2⟩ := id hb
  simp only at hc2 hd2; subst hc2 hd2
  have l1 := r1.length; have l2 := r2.length
  rw [ofAll_length] at l1 l2
  rw [← l1, ← l2] at q
  refine call_meets PySem.F.slot_list_lt ⟨_, ho, rfl⟩ PySem.F.entry_list_lt (PySem.F.args_list_lt_2 _ _) (S := fun A' R s' => A' = A ∧ s' = s ∧ OutR s R (loopOut po (decide (vs.length < ws.length)) xs ys)) ?_ ⟨rfl, rfl, OutR.of_Q (fun _ _ h => h) (fun _ _ h => h) q⟩
  rintro prog' w' A' R s' ⟨rfl, rfl, h⟩
  have hp2 := hp prog' w'
  obtain ⟨hp', g, d, tk, os⟩ := s'
  have f3 := AutoSeq1.sub_list_list
  wp_walk using AutoSeq1.wpAny_loadPart' ho, AutoSeq1.wpAny_loadPart' ho2
  exact ⟨plainId_quiet MeetsSeq3.plain_eq_loop _, codeAny_builtin MeetsSeq3.entry_eq_loop (by
    rw [Around.under_plainId MeetsSeq3.plain_eq_loop _]
    exact loop_lt (i := 0) ho ho2 hu T hT po hp2 xs ys R (Nat.zero_le _) (Nat.zero_le _) t1 t2 r1 r2 h)⟩
set_option maxHeartbeats 2000000 in
theorem loop_le {l b : Addr} {vs ws : List Value} {n m : Nat} {dd dd2 : Option Addr} {sl sl2 : Array (Option Value)} (hl : s.heap.get? l = some { cls := .type "list", dict := dd, data := .seq vs.toArray n, slots := sl }) (hb : s.heap.get? b = some { cls := .type "list", dict := dd2, data := .seq ws.toArray m, slots := sl2 }) (hu : A.units + 20 < cLine)
    (T : PyData → Prop) (hT : ∀ x, T x → PyData.canLay0 x = true ∧ PyData.depth x ≤ 2) (po : PyData → PyData → Out)
    (hp : ∀ (x y : PyData) (va vb : Value) (Q E : Value → Shared → Prop), T x → T y → PyData.eqv x y = false → Rp s.heap NoX va (D.of x) → Rp s.heap NoX vb (D.of y) → OutQ s Q E (po x y) → wpAny (model prog w) A.in1 (richCompare .LtE va vb) Q E s) :
    ∀ (xs ys : List PyData) (i : Nat) (R : Result → Shared → Prop), i ≤ vs.length → i ≤ ws.length → (∀ x ∈ xs, T x) → (∀ y ∈ ys, T y) → RpAll s.heap NoX (vs.drop i) (D.ofAll xs) → RpAll s.heap NoX (ws.drop i) (D.ofAll ys) → OutR s R (loopOut po (decide (vs.length ≤ ws.length)) xs ys) →
      wpAny (model prog w) A.in1 (Builtin.«list.__eq__.loop» ⟨[.ref l, .ref b, rawInt i, rawInt 1], []⟩) (fun fin s' => match fin with | .done f => R (.ok f) s' | .again c' => c'.quiet = true ∧ codeAny (model prog w) A c' R s') (fun e s' => R (.error e) s') s := by
  intro xs
  induction xs with
  | nil =>
    intro ys i R h1 h2 t1 t2 r1 r2 q
    have e1 : vs.length = i := by have := r1.length; rw [ofAll_length] at this; simp at this; omega
    obtain ⟨hp', g, d, tk, os⟩ := s
    have hi1 : vs.toArray[((i : Nat) : Int).toNat]? = none := by simp; omega
    wp_walk using AutoSeq1.wpAny_loadPart' hl, AutoSeq1.wpAny_loadPart' hb
    rw [hi1]
    wp_walk using AutoSeq1.wpAny_loadPart' hl, AutoSeq1.wpAny_loadPart' hb
    show R (.ok (.ret (.bool (decide (vs.toArray.size ≤ ws.toArray.size))))) _
    simp only [List.size_toArray]
    exact q
  | cons x xs ih =>
    intro ys i R h1 h2 t1 t2 r1 r2 q
    have e1 : vs.length = i + (xs.length + 1) := by have := r1.length; rw [ofAll_length] at this; simp at this; omega
    have e2 : ws.length = i + ys.length := by have := r2.length; rw [ofAll_length] at this; simp at this; omega
    have hc : ((i : Int) + 1) = ((i + 1 : Nat) : Int) := by push_cast; rfl
    have hi1 : vs.toArray[((i : Nat) : Int).toNat]? = some vs[i] := by simp
    cases ys with
    | nil =>
      have hi2 : ws.toArray[((i : Nat) : Int).toNat]? = none := by simp at e2 ⊢; omega
      obtain ⟨hp', g, d, tk, os⟩ := s
      wp_walk using AutoSeq1.wpAny_loadPart' hl, AutoSeq1.wpAny_loadPart' hb
      rw [hi1, hi2]
      wp_walk using AutoSeq1.wpAny_loadPart' hl, AutoSeq1.wpAny_loadPart' hb
      show R (.ok (.ret (.bool (decide (vs.toArray.size ≤ ws.toArray.size))))) _
      simp only [List.size_toArray]
      exact q
    | cons y ys =>
      simp only [List.length_cons] at e2
      have hi2 : ws.toArray[((i : Nat) : Int).toNat]? = some ws[i] := by simp
      rw [List.drop_eq_getElem_cons (by omega)] at r1 r2
      rw [D.ofAll] at r1 r2
      cases r1 with | cons rx rxs =>
      cases r2 with | cons ry rys =>
      have tx := t1 x (List.mem_cons_self ..)
      have ty := t2 y (List.mem_cons_self ..)
      obtain ⟨as, ra⟩ := Rp.reads (hT x tx).1 rx
      obtain ⟨bs, rb⟩ := Rp.reads (hT y ty).1 ry
      have eqb : ∀ {Q' : Bool → Shared → Prop} {E' : Value → Shared → Prop}, Q' (PyData.eqv x y) s → wpAny (model prog w) A.in1 (eqBool vs[i] ws[i]) Q' E' s := fun {Q' E'} hq => SeqAt.eqBoolOverData prog w A.in1 E' s _ _ x y as bs Q' ra rb (hT x tx).1 (hT y ty).1 (by show A.units + 1 + min (PyData.depth x) (PyData.depth y) < cLine; have := (hT x tx).2; omega) hq
      have hpr : ∀ (Q E : Value → Shared → Prop), PyData.eqv x y = false → OutQ s Q E (po x y) → wpAny (model prog w) A.in1 (richCompare .LtE vs[i] ws[i]) Q E s := fun Q E h q => hp x y _ _ Q E tx ty h rx ry q
      obtain ⟨hp', g, d, tk, os⟩ := s
      wp_walk using AutoSeq1.wpAny_loadPart' hl, AutoSeq1.wpAny_loadPart' hb
      rw [hi1, hi2]
      refine wpAny_bind (eqb ?_)
      unfold loopOut at q
      cases hxy : PyData.eqv x y with
      | true =>
        rw [if_pos hxy] at q
        wp_walk
        rw [hc]
        exact ⟨plainId_quiet MeetsSeq3.plain_eq_loop _, codeAny_builtin MeetsSeq3.entry_eq_loop (by
          rw [Around.under_plainId MeetsSeq3.plain_eq_loop _]
          exact ih ys (i + 1) R (by omega) (by omega) (fun z hz => t1 z (List.mem_cons_of_mem _ hz)) (fun z hz => t2 z (List.mem_cons_of_mem _ hz)) rxs rys q)⟩
      | false =>
        rw [if_neg (by rw [hxy]; decide)] at q
        wp_walk using AutoSeq1.wpAny_loadPart' hl, AutoSeq1.wpAny_loadPart' hb
        rw [hi1, hi2]
        dsimp only
        refine wpAny_bind (hpr _ _ hxy ?_)
        cases ho : po x y with
        | val c => rw [ho] at q; exact wpAny_pure q
        | err msg => rw [ho] at q; exact q
set_option maxHeartbeats 2000000 in
theorem call_list_le {l b : Addr} {vs ws : List Value} (hl : s.heap.IsList l vs.toArray) (hb : s.heap.IsList b ws.toArray) (hu : A.units + 20 < cLine) {Q : Value → Shared → Prop}
    (T : PyData → Prop) (hT : ∀ x, T x → PyData.canLay0 x = true ∧ PyData.depth x ≤ 2) (po : PyData → PyData → Out)
    (hp : ∀ (prog : Program) (w : World) (x y : PyData) (va vb : Value) (Q E : Value → Shared → Prop), T x → T y → PyData.eqv x y = false → Rp s.heap NoX va (D.of x) → Rp s.heap NoX vb (D.of y) → OutQ s Q E (po x y) → wpAny (model prog w) A.in1 (richCompare .LtE va vb) Q E s)
    {xs ys : List PyData} (t1 : ∀ x ∈ xs, T x) (t2 : ∀ y ∈ ys, T y) (r1 : RpAll s.heap NoX vs (D.ofAll xs)) (r2 : RpAll s.heap NoX ws (D.ofAll ys)) (q : OutQ s Q E (loopOut po (decide (xs.length ≤ ys.length)) xs ys)) : wpAny (model prog w) A (call (.builtin "list.__le__") [.ref l, .ref b]) Q E s := by
  obtain ⟨⟨cls, dd, data, sl⟩, ho, hc, k, hd⟩ := id hl
  simp only at hc hd; subst hc hd
  obtain ⟨⟨cls2, dd2, data2, sl2⟩, ho2, hc2, k2, hd2⟩ := id hb
  simp only at hc2 hd2; subst hc2 hd2
  have l1 := r1.length; have l2 := r2.length
  rw [ofAll_length] at l1 l2
  rw [← l1, ← l2] at q
  refine call_meets PySem.F.slot_list_le ⟨_, ho, rfl⟩ PySem.F.entry_list_le (PySem.F.args_list_le_2 _ _) (S := fun A' R s' => A' = A ∧ s' = s ∧ OutR s R (loopOut po (decide (vs.length ≤ ws.length)) xs ys)) ?_ ⟨rfl, rfl, OutR.of_Q (fun _ _ h => h) (fun _ _ h => h) q⟩
  rintro prog' w' A' R s' ⟨rfl, rfl, h⟩
  have hp2 := hp prog' w'
  obtain ⟨hp', g, d, tk, os⟩ := s'
  have f3 := AutoSeq1.sub_list_list
  wp_walk using AutoSeq1.wpAny_loadPart' ho, AutoSeq1.wpAny_loadPart' ho2
  exact ⟨plainId_quiet MeetsSeq3.plain_eq_loop _, codeAny_builtin MeetsSeq3.entry_eq_loop (by
    rw [Around.under_plainId MeetsSeq3.plain_eq_loop _]
    exact loop_le (i := 0) ho ho2 hu T hT po hp2 xs ys R (Nat.zero_le _) (Nat.zero_le _) t1 t2 r1 r2 h)⟩
set_option maxHeartbeats 2000000 in
theorem loop_gt {l b : Addr} {vs ws : List Value} {n m : Nat} {dd dd2 : Option Addr} {sl sl2 : Array (Option Value)} (hl : s.heap.get? l = some { cls := .type "list", dict := dd, data := .seq vs.toArray n, slots := sl }) (hb : s.heap.get? b = some { cls := .type "list", dict := dd2, data := .seq ws.toArray m, slots := sl2 }) (hu : A.units + 20 < cLine)
    (T : PyData → Prop) (hT : ∀ x, T x → PyData.canLay0 x = true ∧ PyData.depth x ≤ 2) (po : PyData → PyData → Out)
    (hp : ∀ (x y : PyData) (va vb : Value) (Q E : Value → Shared → Prop), T x → T y → PyData.eqv x y = false → Rp s.heap NoX va (D.of x) → Rp s.heap NoX vb (D.of y) → OutQ s Q E (po x y) → wpAny (model prog w) A.in1 (richCompare .Gt va vb) Q E s) :
    ∀ (xs ys : List PyData) (i : Nat) (R : Result → Shared → Prop), i ≤ vs.length → i ≤ ws.length → (∀ x ∈ xs, T x) → (∀ y ∈ ys, T y) → RpAll s.heap NoX (vs.drop i) (D.ofAll xs) → RpAll s.heap NoX (ws.drop i) (D.ofAll ys) → OutR s R (loopOut po (decide (vs.length > ws.length)) xs ys) →
      wpAny (model prog w) A.in1 (Builtin.«list.__eq__.loop» ⟨[.ref l, .ref b, rawInt i, rawInt 4], []⟩) (fun fin s' => match fin with | .done f => R (.ok f) s' | .again c' => c'.quiet = true ∧ codeAny (model prog w) A c' R s') (fun e s' => R (.error e) s') s := by
  intro xs
  induction xs with
  | nil =>
    intro ys i R h1 h2 t1 t2 r1 r2 q
    have e1 : vs.length = i := by have := r1.length; rw [ofAll_length] at this; simp at this; omega
    obtain ⟨hp', g, d, tk, os⟩ := s
    have hi1 : vs.toArray[((i : Nat) : Int).toNat]? = none := by simp; omega
    wp_walk using AutoSeq1.wpAny_loadPart' hl, AutoSeq1.wpAny_loadPart' hb
    rw [hi1]
    wp_walk using AutoSeq1.wpAny_loadPart' hl, AutoSeq1.wpAny_loadPart' hb
    show R (.ok (.ret (.bool (decide (vs.toArray.size > ws.toArray.size))))) _
    simp only [List.size_toArray]
    exact q
  | cons x xs ih =>
    intro ys i R h1 h2 t1 t2 r1 r2 q
    have e1 : vs.length = i + (xs.length + 1) := by have := r1.length; rw [ofAll_length] at this; simp at this; omega
    have e2 : ws.length = i + ys.length := by have := r2.length; rw [ofAll_length] at this; simp at this; omega
    have hc : ((i : Int) + 1) = ((i + 1 : Nat) : Int) := by push_cast; rfl
    have hi1 : vs.toArray[((i : Nat) : Int).toNat]? = some vs[i] := by simp
    cases ys with
    | nil =>
      have hi2 : ws.toArray[((i : Nat) : Int).toNat]? = none := by simp at e2 ⊢; omega
      obtain ⟨hp', g, d, tk, os⟩ := s
      wp_walk using AutoSeq1.wpAny_loadPart' hl, AutoSeq1.wpAny_loadPart' hb
      rw [hi1, hi2]
      wp_walk using AutoSeq1.wpAny_loadPart' hl, AutoSeq1.wpAny_loadPart' hb
      show R (.ok (.ret (.bool (decide (vs.toArray.size > ws.toArray.size))))) _
      simp only [List.size_toArray]
      exact q
    | cons y ys =>
      simp only [List.length_cons] at e2
      have hi2 : ws.toArray[((i : Nat) : Int).toNat]? = some ws[i] := by simp
      rw [List.drop_eq_getElem_cons (by omega)] at r1 r2
      rw [D.ofAll] at r1 r2
      cases r1 with | cons rx rxs =>
      cases r2 with | cons ry rys =>
      have tx := t1 x (List.mem_cons_self ..)
      have ty := t2 y (List.mem_cons_self ..)
      obtain ⟨as, ra⟩ := Rp.reads (hT x tx).1 rx
      obtain ⟨bs, rb⟩ := Rp.reads (hT y ty).1 ry
      have eqb : ∀ {Q' : Bool → Shared → Prop} {E' : Value → Shared → Prop}, Q' (PyData.eqv x y) s → wpAny (model prog w) A.in1 (eqBool vs[i] ws[i]) Q' E' s := fun {Q' E'} hq => SeqAt.eqBoolOverData prog w A.in1 E' s _ _ x y as bs Q' ra rb (hT x tx).1 (hT y ty).1 (by show A.units + 1 + min (PyData.depth x) (PyData.depth y) < cLine; have := (hT x tx).2; omega) hq
      have hpr : ∀ (Q E : Value → Shared → Prop), PyData.eqv x y = false → OutQ s Q E (po x y) → wpAny (model prog w) A.in1 (richCompare .Gt vs[i] ws[i]) Q E s := fun Q E h q => hp x y _ _ Q E tx ty h rx ry q
      obtain ⟨hp', g, d, tk, os⟩ := s
      wp_walk using AutoSeq1.wpAny_loadPart' hl, AutoSeq1.wpAny_loadPart' hb
      rw [hi1, hi2]
      refine wpAny_bind (eqb ?_)
      unfold loopOut at q
      cases hxy : PyData.eqv x y with
      | true =>
        rw [if_pos hxy] at q
        wp_walk
        rw [hc]
        exact ⟨plainId_quiet MeetsSeq3.plain_eq_loop _, codeAny_builtin MeetsSeq3.entry_eq_loop (by
          rw [Around.under_plainId MeetsSeq3.plain_eq_loop _]
          exact ih ys (i + 1) R (by omega) (by omega) (fun z hz => t1 z (List.mem_cons_of_mem _ hz)) (fun z hz => t2 z (List.mem_cons_of_mem _ hz)) rxs rys q)⟩
      | false =>
        rw [if_neg (by rw [hxy]; decide)] at q
        wp_walk using AutoSeq1.wpAny_loadPart' hl, AutoSeq1.wpAny_loadPart' hb
        rw [hi1, hi2]
        dsimp only
        refine wpAny_bind (hpr _ _ hxy ?_)
        cases ho : po x y with
        | val c => rw [ho] at q; exact wpAny_pure q
        | err msg => rw [ho] at q; exact q
set_option maxHeartbeats 2000000 in
theorem call_list_gt {l b : Addr} {vs ws : List Value} (hl : s.heap.IsList l vs.toArray) (hb : s.heap.IsList b ws.toArray) (hu : A.units + 20 < cLine) {Q : Value → Shared → Prop}
    (T : PyData → Prop) (hT : ∀ x, T x → PyData.canLay0 x = true ∧ PyData.depth x ≤ 2) (po : PyData → PyData → Out)
    (hp : ∀ (prog : Program) (w : World) (x y : PyData) (va vb : Value) (Q E : Value → Shared → Prop), T x → T y → PyData.eqv x y = false → Rp s.heap NoX va (D.of x) → Rp s.heap NoX vb (D.of y) → OutQ s Q E (po x y) → wpAny (model prog w) A.in1 (richCompare .Gt va vb) Q E s)
    {xs ys : List PyData} (t1 : ∀ x ∈ xs, T x) (t2 : ∀ y ∈ ys, T y) (r1 : RpAll s.heap NoX vs (D.ofAll xs)) (r2 : RpAll s.heap NoX ws (D.ofAll ys)) (q : OutQ s Q E (loopOut po (decide (xs.length > ys.length)) xs ys)) : wpAny (model prog w) A (call (.builtin "list.__gt__") [.ref l, .ref b]) Q E s := by
  obtain ⟨⟨cls, dd, data, sl⟩, ho, hc, k, hd⟩ := id hl
  simp only at hc hd; subst hc hd
  obtain ⟨⟨cls2, dd2, data2, sl2⟩, ho2, hc2, k2, hd2⟩ := id hb
  simp only at hc2 hd2; subst hc2 hd2
  have l1 := r1.length; have l2 := r2.length
  rw [ofAll_length] at l1 l2
  rw [← l1, ← l2] at q
  refine call_meets PySem.F.slot_list_gt ⟨_, ho, rfl⟩ PySem.F.entry_list_gt (PySem.F.args_list_gt_2 _ _) (S := fun A' R s' => A' = A ∧ s' = s ∧ OutR s R (loopOut po (decide (vs.length > ws.length)) xs ys)) ?_ ⟨rfl, rfl, OutR.of_Q (fun _ _ h => h) (fun _ _ h => h) q⟩
  rintro prog' w' A' R s' ⟨rfl, rfl, h⟩
  have hp2 := hp prog' w'
  obtain ⟨hp', g, d, tk, os⟩ := s'
  have f3 := AutoSeq1.sub_list_list
  wp_walk using AutoSeq1.wpAny_loadPart' ho, AutoSeq1.wpAny_loadPart' ho2
  exact ⟨plainId_quiet MeetsSeq3.plain_eq_loop _, codeAny_builtin MeetsSeq3.entry_eq_loop (by
    rw [Around.under_plainId MeetsSeq3.plain_eq_loop _]
    exact loop_gt (i := 0) ho ho2 hu T hT po hp2 xs ys R (Nat.zero_le _) (Nat.zero_le _) t1 t2 r1 r2 h)⟩
set_option maxHeartbeats 2000000 in
theorem loop_ge {l b : Addr} {vs ws : List Value} {n m : Nat} {dd dd2 : Option Addr} {sl sl2 : Array (Option Value)} (hl : s.heap.get? l = some { cls := .type "list", dict := dd, data := .seq vs.toArray n, slots := sl }) (hb : s.heap.get? b = some { cls := .type "list", dict := dd2, data := .seq ws.toArray m, slots := sl2 }) (hu : A.units + 20 < cLine)
    (T : PyData → Prop) (hT : ∀ x, T x → PyData.canLay0 x = true ∧ PyData.depth x ≤ 2) (po : PyData → PyData → Out)
    (hp : ∀ (x y : PyData) (va vb : Value) (Q E : Value → Shared → Prop), T x → T y → PyData.eqv x y = false → Rp s.heap NoX va (D.of x) → Rp s.heap NoX vb (D.of y) → OutQ s Q E (po x y) → wpAny (model prog w) A.in1 (richCompare .GtE va vb) Q E s) :
    ∀ (xs ys : List PyData) (i : Nat) (R : Result → Shared → Prop), i ≤ vs.length → i ≤ ws.length → (∀ x ∈ xs, T x) → (∀ y ∈ ys, T y) → RpAll s.heap NoX (vs.drop i) (D.ofAll xs) → RpAll s.heap NoX (ws.drop i) (D.ofAll ys) → OutR s R (loopOut po (decide (vs.length ≥ ws.length)) xs ys) →
      wpAny (model prog w) A.in1 (Builtin.«list.__eq__.loop» ⟨[.ref l, .ref b, rawInt i, rawInt 5], []⟩) (fun fin s' => match fin with | .done f => R (.ok f) s' | .again c' => c'.quiet = true ∧ codeAny (model prog w) A c' R s') (fun e s' => R (.error e) s') s := by
  intro xs
  induction xs with
  | nil =>
    intro ys i R h1 h2 t1 t2 r1 r2 q
    have e1 : vs.length = i := by have := r1.length; rw [ofAll_length] at this; simp at this; omega
    obtain ⟨hp', g, d, tk, os⟩ := s
    have hi1 : vs.toArray[((i : Nat) : Int).toNat]? = none := by simp; omega
    wp_walk using AutoSeq1.wpAny_loadPart' hl, AutoSeq1.wpAny_loadPart' hb
    rw [hi1]
    wp_walk using AutoSeq1.wpAny_loadPart' hl, AutoSeq1.wpAny_loadPart' hb
    show R (.ok (.ret (.bool (decide (vs.toArray.size ≥ ws.toArray.size))))) _
    simp only [List.size_toArray]
    exact q
  | cons x xs ih =>
    intro ys i R h1 h2 t1 t2 r1 r2 q
    have e1 : vs.length = i + (xs.length + 1) := by have := r1.length; rw [ofAll_length] at this; simp at this; omega
    have e2 : ws.length = i + ys.length := by have := r2.length; rw [ofAll_length] at this; simp at this; omega
    have hc : ((i : Int) + 1) = ((i + 1 : Nat) : Int) := by push_cast; rfl
    have hi1 : vs.toArray[((i : Nat) : Int).toNat]? = some vs[i] := by simp
    cases ys with
    | nil =>
      have hi2 : ws.toArray[((i : Nat) : Int).toNat]? = none := by simp at e2 ⊢; omega
      obtain ⟨hp', g, d, tk, os⟩ := s
      wp_walk using AutoSeq1.wpAny_loadPart' hl, AutoSeq1.wpAny_loadPart' hb
      rw [hi1, hi2]
      wp_walk using AutoSeq1.wpAny_loadPart' hl, AutoSeq1.wpAny_loadPart' hb
      show R (.ok (.ret (.bool (decide (vs.toArray.size ≥ ws.toArray.size))))) _
      simp only [List.size_toArray]
      exact q
    | cons y ys =>
      simp only [List.length_cons] at e2
      have hi2 : ws.toArray[((i : Nat) : Int).toNat]? = some ws[i] := by simp
      rw [List.drop_eq_getElem_cons (by omega)] at r1 r2
      rw [D.ofAll] at r1 r2
      cases r1 with | cons rx rxs =>
      cases r2 with | cons ry rys =>
      have tx := t1 x (List.mem_cons_self ..)
      have ty := t2 y (List.mem_cons_self ..)
      obtain ⟨as, ra⟩ := Rp.reads (hT x tx).1 rx
      obtain ⟨bs, rb⟩ := Rp.reads (hT y ty).1 ry
      have eqb : ∀ {Q' : Bool → Shared → Prop} {E' : Value → Shared → Prop}, Q' (PyData.eqv x y) s → wpAny (model prog w) A.in1 (eqBool vs[i] ws[i]) Q' E' s := fun {Q' E'} hq => SeqAt.eqBoolOverData prog w A.in1 E' s _ _ x y as bs Q' ra rb (hT x tx).1 (hT y ty).1 (by show A.units + 1 + min (PyData.depth x) (PyData.depth y) < cLine; have := (hT x tx).2; omega) hq
      have hpr : ∀ (Q E : Value → Shared → Prop), PyData.eqv x y = false → OutQ s Q E (po x y) → wpAny (model prog w) A.in1 (richCompare .GtE vs[i] ws[i]) Q E s := fun Q E h q => hp x y _ _ Q E tx ty h rx ry q
      obtain ⟨hp', g, d, tk, os⟩ := s
      wp_walk using AutoSeq1.wpAny_loadPart' hl, AutoSeq1.wpAny_loadPart' hb
      rw [hi1, hi2]
      refine wpAny_bind (eqb ?_)
      unfold loopOut at q
      cases hxy : PyData.eqv x y with
      | true =>
        rw [if_pos hxy] at q
        wp_walk
        rw [hc]
        exact ⟨plainId_quiet MeetsSeq3.plain_eq_loop _, codeAny_builtin MeetsSeq3.entry_eq_loop (by
          rw [Around.under_plainId MeetsSeq3.plain_eq_loop _]
          exact ih ys (i + 1) R (by omega) (by omega) (fun z hz => t1 z (List.mem_cons_of_mem _ hz)) (fun z hz => t2 z (List.mem_cons_of_mem _ hz)) rxs rys q)⟩
      | false =>
        rw [if_neg (by rw [hxy]; decide)] at q
        wp_walk using AutoSeq1.wpAny_loadPart' hl, AutoSeq1.wpAny_loadPart' hb
        rw [hi1, hi2]
        dsimp only
        refine wpAny_bind (hpr _ _ hxy ?_)
        cases ho : po x y with
        | val c => rw [ho] at q; exact wpAny_pure q
        | err msg => rw [ho] at q; exact q
set_option maxHeartbeats 2000000 in
theorem call_list_ge {l b : Addr} {vs ws : List Value} (hl : s.heap.IsList l vs.toArray) (hb : s.heap.IsList b ws.toArray) (hu : A.units + 20 < cLine) {Q : Value → Shared → Prop}
    (T : PyData → Prop) (hT : ∀ x, T x → PyData.canLay0 x = true ∧ PyData.depth x ≤ 2) (po : PyData → PyData → Out)
    (hp : ∀ (prog : Program) (w : World) (x y : PyData) (va vb : Value) (Q E : Value → Shared → Prop), T x → T y → PyData.eqv x y = false → Rp s.heap NoX va (D.of x) → Rp s.heap NoX vb (D.of y) → OutQ s Q E (po x y) → wpAny (model prog w) A.in1 (richCompare .GtE va vb) Q E s)
    {xs ys : List PyData} (t1 : ∀ x ∈ xs, T x) (t2 : ∀ y ∈ ys, T y) (r1 : RpAll s.heap NoX vs (D.ofAll xs)) (r2 : RpAll s.heap NoX ws (D.ofAll ys)) (q : OutQ s Q E (loopOut po (decide (xs.length ≥ ys.length)) xs ys)) : wpAny (model prog w) A (call (.builtin "list.__ge__") [.ref l, .ref b]) Q E s := by
  obtain ⟨⟨cls, dd, data, sl⟩, ho, hc, k, hd⟩ := id hl
  simp only at hc hd; subst hc hd
  obtain ⟨⟨cls2, dd2, data2, sl2⟩, ho2, hc2, k2, hd2⟩ := id hb
  simp only at hc2 hd2; subst hc2 hd2
  have l1 := r1.length; have l2 := r2.length
  rw [ofAll_length] at l1 l2
  rw [← l1, ← l2] at q
  refine call_meets PySem.F.slot_list_ge ⟨_, ho, rfl⟩ PySem.F.entry_list_ge (PySem.F.args_list_ge_2 _ _) (S := fun A' R s' => A' = A ∧ s' = s ∧ OutR s R (loopOut po (decide (vs.length ≥ ws.length)) xs ys)) ?_ ⟨rfl, rfl, OutR.of_Q (fun _ _ h => h) (fun _ _ h => h) q⟩
  rintro prog' w' A' R s' ⟨rfl, rfl, h⟩
  have hp2 := hp prog' w'
  obtain ⟨hp', g, d, tk, os⟩ := s'
  have f3 := AutoSeq1.sub_list_list
  wp_walk using AutoSeq1.wpAny_loadPart' ho, AutoSeq1.wpAny_loadPart' ho2
  exact ⟨plainId_quiet MeetsSeq3.plain_eq_loop _, codeAny_builtin MeetsSeq3.entry_eq_loop (by
    rw [Around.under_plainId MeetsSeq3.plain_eq_loop _]
    exact loop_ge (i := 0) ho ho2 hu T hT po hp2 xs ys R (Nat.zero_le _) (Nat.zero_le _) t1 t2 r1 r2 h)⟩
end

/-- an expression that raises TypeError with these words -/
def EvX (B : Bas) (n : Nat) (env : Env) (σ : Sto) (e : Expr) (m : Str) : Prop :=
  ∀ (h₀ : Heap) (P O : Addr → Prop) (A : Around) (s : Shared) (E : Value → Shared → Prop) (Q : Value → Shared → Prop), B.Ok → AOk n A → St B h₀ P env σ O s.heap →
    (∀ s₁ h' tk tk' x, Keeps s s₁ → Heap.MadeExc s₁.heap h' x "TypeError" [.str m tk'] → E (.ref x) { s₁ with heap := h', toks := tk }) → wpAny (model B.prog B.w) A (eval e env) Q E s
/-- a block that does -/
def ExX (B : Bas) (n : Nat) (env : Env) (σ : Sto) (ss : List Stmt) (m : Str) : Prop :=
  ∀ (h₀ : Heap) (P O : Addr → Prop) (A : Around) (s : Shared) (E : Value → Shared → Prop) (Q : Flow → Shared → Prop), B.Ok → AOk n A → St B h₀ P env σ O s.heap →
    (∀ s₁ h' tk tk' x, Keeps s s₁ → Heap.MadeExc s₁.heap h' x "TypeError" [.str m tk'] → E (.ref x) { s₁ with heap := h', toks := tk }) → wpAny (model B.prog B.w) A (execs ss env) Q E s
/-- a built-in that does -/
def BiX (B : Bas) (n : Nat) (f : Value) (ds : List D) (m : Str) : Prop :=
  ∀ (A : Around) (s : Shared) (E : Value → Shared → Prop) (Q : Value → Shared → Prop) (vs : List Value), B.Ok → AOk n A → B.Here s.heap → RpAll s.heap NoX vs ds →
    (∀ h' tk tk' x, Heap.MadeExc s.heap h' x "TypeError" [.str m tk'] → E (.ref x) { s with heap := h', toks := tk }) → wpAny (model B.prog B.w) A (call f vs) Q E s
section
variable {B : Bas} {n : Nat} {env : Env} {σ : Sto}
/-- type(self).__op__(self, other) that raises -/
def DunX (B : Bas) (n : Nat) (attr : String) (dS dO : D) (m : Str) : Prop :=
  ∃ T id, Ty dS T ∧ (Value.type T == Value.type "builtin_function_or_method") = false ∧ typeOf (.type T) = pure (.type "type") ∧ Manifest.isStub T = false ∧ findCls [] (.type T) (.type "type") (S attr) = some (.val (.builtin id)) ∧ handedIn (.builtin id) = true ∧ BiX B n (.builtin id) [dS, dO] m
end

abbrev hid (h : Heap) (l : List Env) : Heap := hideAll h (l.filterMap (·.frame))
/-- a def that raises -/
def FnX (B : Bas) (n : Nat) (a : Addr) (ds : List D) (m : Str) : Prop :=
  ∀ (P : Addr → Prop) (A : Around) (s : Shared) (E : Value → Shared → Prop) (Q : Value → Shared → Prop) (vs : List Value) (outer : List Env), B.Ok → AOk n A → B.Here s.heap → (∀ x, P x → (∃ o, s.heap.get? x = some o) ∧ B.hB.get? x = none) → RpAll s.heap P vs ds →
    A.frames = some outer → s.heap.FunFrames (hid s.heap outer) outer →
    (∀ h' tk tk' x t, Heap.FlyingW (hid s.heap outer) outer x (.type "TypeError") (.ref t) h' → h'.TupAt t [.str m tk'] → s.heap.UpToSlots h' → E (.ref x) { s with heap := h', toks := tk }) → wpAny (model B.prog B.w) A (call (.ref a) vs) Q E s

/-- what a call finds -/
theorem st_call {B : Bas} {a : Addr} {name : Str} {params : Arguments} {body : List Stmt} {scope : Scope} {xs : List String} {ds : List D} {P : Addr → Prop} {s s₁ : Shared} {vs : List Value} {pm cd doc} (hk : scope.kind = .function) (hlen : xs.length = ds.length) (hnd : xs.Nodup)
    (hkind : ∀ x ∈ xs, scope.names.lookup (S x) = some .local ∨ scope.names.lookup (S x) = some .cell) (hh : B.Here s.heap) (hP : ∀ x, P x → (∃ o, s.heap.get? x = some o) ∧ B.hB.get? x = none) (r : RpAll s.heap P vs ds)
    (C : InCallC s (callEnvC (docDef name params body scope pm cd doc) s.heap.objs.size a).locals (bindL (callEnvC (docDef name params body scope pm cd doc) s.heap.objs.size a).kindOf ((xs.map S).zip vs) fun _ => none) (callEnvC (docDef name params body scope pm cd doc) s.heap.objs.size a).cells (bindC (callEnvC (docDef name params body scope pm cd doc) s.heap.objs.size a).kindOf ((xs.map S).zip vs) fun _ => none) s₁) :
    ∃ env, callEnvC (docDef name params body scope pm cd doc) s.heap.objs.size a = env ∧ FEnv scope env ∧ env.frame = some env.locals ∧ Keeps s s₁ ∧ s.heap.get? env.locals = none ∧ St B s.heap P env (binds0 xs ds) (fun b => b = env.locals ∨ ∃ x, env.cells.lookup x = some b) s₁.heap := by
  have hvl : vs.length = xs.length := by rw [r.length, hlen]
  generalize henv : callEnvC (docDef name params body scope pm cd doc) s.heap.objs.size a = env at C
  have hsc : env.scope = scope := by rw [← henv]; rfl
  have hloc : env.locals = s.heap.objs.size := by rw [← henv]; rfl
  have hfrm : env.frame = some env.locals := by rw [← henv]; rfl
  have hfn : env.func.isSome = true := by rw [← henv]; rfl
  have hgl : env.globals = mainGlobals := by rw [← henv]; rfl
  have hbi : env.builtins = builtinsNs := by rw [← henv]; rfl
  have hcells : env.cells = cellsFrom (s.heap.objs.size + 1) scope.names [] := by rw [← henv]; rfl
  have fe : FEnv scope env := ⟨hsc, hfn, fun x hx => by rw [hcells]; exact cellsFrom_some _ _ _ _ (.inl hx)⟩
  have kK : Keeps s s₁ := C.toInCall.done
  have nodup : (((xs.map S).zip vs).map (·.1)).Nodup := by
    rw [List.map_fst_zip (by simp [hvl])]
    exact List.Pairwise.map S (fun a b ne e => ne (S_inj e)) hnd
  have notold : ∀ b, s.heap.objs.size ≤ b → s.heap.get? b = none := fun b hb => fresh_of hb
  have hnew : ∀ b, (b = env.locals ∨ ∃ x, env.cells.lookup x = some b) → s.heap.get? b = none := by
    rintro b (e | ⟨x, hx⟩)
    · subst e; exact notold _ (Nat.le_of_eq hloc.symm)
    · have := C.above x b (PySem.mem_of_lookup hx); exact notold _ (Nat.le_of_lt (by rw [hloc] at this; exact this))
  refine ⟨env, rfl, fe, hfrm, kK, hnew _ (.inl rfl), ?_⟩
  have rx : RpAll s₁.heap (fun b => P b ∨ (b = env.locals ∨ ∃ x, env.cells.lookup x = some b)) vs ds := r.mono (fun a o _ e => kheap kK a o e) fun a o np e => by
    rintro (q | q)
    · exact np q
    · rw [hnew a q] at e; cases e
  refine ⟨hh, C.toInCall.keep, hP, ?_, hnew, ⟨by rw [hsc]; exact hk, hgl, hbi, fun x y c h1 h2 => lookup_apart C.apart h1 h2⟩, .inl rfl, ⟨_, C.toInCall.ns⟩, fun x c l => ⟨⟨_, C.cell x c l⟩, fun _ => .inr ⟨x, l⟩⟩, fun x b hb => ?_, ?_⟩
  · rintro b (e | ⟨x, hx⟩)
    · subst e; obtain ⟨o, _, _, e, _⟩ := C.toInCall.ns; exact ⟨o, e⟩
    · obtain ⟨o, e, _⟩ := C.cell x b hx; exact ⟨o, e⟩
  · obtain ⟨d', v, rfl, rv, hm⟩ := binds0_get rx hlen hb
    refine ⟨v, ?_, rv⟩
    have hxm : x ∈ xs := by
      have := (List.of_mem_zip hm).1
      obtain ⟨y, hy, e⟩ := List.mem_map.mp this
      rwa [← S_inj e]
    rcases hkind x hxm with kx | kx
    · refine .inl ⟨by unfold Env.kindOf; rw [hsc]; exact kx, _, C.toInCall.ns, ?_⟩
      exact bindL_get (by unfold Env.kindOf; rw [hsc]; exact kx) _ _ nodup hm
    · obtain ⟨c, hc⟩ := Option.isSome_iff_exists.mp (fe.cells _ kx)
      refine .inr ⟨.inl (by unfold Env.kindOf; rw [hsc]; exact kx), c, hc, ?_⟩
      have := C.cell _ _ hc
      rwa [bindC_get (by unfold Env.kindOf; rw [hsc, kx]; intro q; cases q) _ _ nodup hm] at this
  · intro x y ds' es a' ne hx
    obtain ⟨_, _, e, _⟩ := binds0_get r hlen hx; cases e

/-- blocks where what stands around is known -/
def ExA (B : Bas) (n : Nat) (A : Around) (env : Env) (σ : Sto) (ss : List Stmt) (R : Fl → Sto → Prop) : Prop :=
  ∀ (h₀ : Heap) (P O : Addr → Prop) (s : Shared) (E : Value → Shared → Prop), B.Ok → AOk n A → St B h₀ P env σ O s.heap →
    wpAny (model B.prog B.w) A (execs ss env) (Post B h₀ P env O s R) E s
def Ex1A (B : Bas) (n : Nat) (A : Around) (env : Env) (σ : Sto) (st : Stmt) (R : Fl → Sto → Prop) : Prop :=
  ∀ (h₀ : Heap) (P O : Addr → Prop) (s : Shared) (E : Value → Shared → Prop), B.Ok → AOk n A → St B h₀ P env σ O s.heap →
    wpAny (model B.prog B.w) A (exec st env) (Post B h₀ P env O s R) E s
section
variable {B : Bas} {n : Nat} {A : Around} {env : Env} {σ τ : Sto} {R : Fl → Sto → Prop}
theorem Mov.own {O : Addr → Prop} {s s' : Shared} {h' tk} (e : s' = { s with heap := h', toks := tk }) {L : Addr} (hL : O L) (k : ∀ b o, b ≠ L → s.heap.get? b = some o → h'.get? b = some o) : Mov O s s' :=
  ⟨h', tk, e, fun b o nb q => k b o (fun z => nb (z ▸ hL)) q⟩

end

open Classical in
/-- the heap without what the frame may change -/
noncomputable def hidO (h : Heap) (O : Addr → Prop) : Heap := hideAll h ((List.range h.objs.size).filter fun a => decide (O a))
theorem hidO_get {h : Heap} {O : Addr → Prop} {b : Addr} {o : Obj} (e : h.get? b = some o) (n : ¬ O b) : (hidO h O).get? b = some o := hideAll_get _ e (by simp [n])
theorem hidO_of {h : Heap} {O : Addr → Prop} {b : Addr} {o : Obj} (e : (hidO h O).get? b = some o) : h.get? b = some o := of_hideAll _ e
theorem hidO_none {h : Heap} {O : Addr → Prop} {b : Addr} (n : O b) : (hidO h O).get? b = none := by
  cases e : (hidO h O).get? b with
  | none => rfl
  | some o =>
    have hl := Heap.lt_size (hidO_of e)
    have : (hidO h O).get? b = none := hideAll_none _ (by simp [n, hl])
    rw [this] at e; cases e
section
variable {B : Bas} {n : Nat} {env : Env} {σ : Sto} {P O W : Addr → Prop} {h₀ h h₁ : Heap}
/-- what a walk changes is turned over; a frame of a def -/
theorem St.turn (T : St B h₀ P env σ O h) (hf : env.func.isSome = true) (hW : ∀ b, W b → P b) (hk : ∀ b o, ¬ W b → h.get? b = some o → h₁.get? b = some o) (hl : ∀ b, W b → ∃ o, h₁.get? b = some o) : St B (hidO h₁ O) P env σ O h₁ := by
  have PO : ∀ b, P b → ¬ O b := fun b p q => by obtain ⟨⟨o, e⟩, _⟩ := T.plive b p; rw [T.new b q] at e; cases e
  have WO : ∀ b, O b → ¬ W b := fun b q w => PO b (hW b w) q
  have hB : ∀ b o, B.hB.get? b = some o → h₁.get? b = some o ∧ ¬ O b := fun b o e => by
    refine ⟨hk b o (fun w => by rw [(T.plive b (hW b w)).2] at e; cases e) (T.keep b o (T.base b o e)), fun q => ?_⟩
    have := T.new b q; rw [T.base b o e] at this; cases this
  have hcell : ∀ {y c v}, env.cells.lookup y = some c → h.IsCell c v → h₁.IsCell c v := fun {y c v} l e => by
    obtain ⟨o, e1, e2⟩ := e
    exact ⟨o, hk _ _ (WO _ ((T.cells y c l).2 hf)) e1, e2⟩
  have ns : ∀ {m}, h.Ns env.locals m → h₁.Ns env.locals m := fun nn => nn.at' fun o e => hk _ o (WO _ T.loc) e
  have mvv : ∀ {x w}, VarIs env h x w → VarIs env h₁ x w := by
    rintro x w (⟨kd, m, nn, e⟩ | ⟨kd, k, l, e⟩)
    · exact .inl ⟨kd, m, ns nn, e⟩
    · exact .inr ⟨kd, k, l, hcell l e⟩
  have bck : ∀ {x w b}, σ.get x = some b → VarIs env h₁ (S x) w → VarIs env h (S x) w := by
    intro x w b hb hw
    obtain ⟨w', hw'⟩ := (T.vars x b hb).var
    rw [hw.fn (mvv hw')]; exact hw'
  have hkX : ∀ a o, ¬ (P a ∨ O a) → h.get? a = some o → h₁.get? a = some o := fun a o na e => hk a o (fun w => na (.inl (hW a w))) e
  refine ⟨fun b o e => hidO_get (hB b o e).1 (hB b o e).2, fun b o e => hidO_of e, fun a p => ?_, fun a q => ?_, fun a q => hidO_none q, T.ok, T.loc, let ⟨m, nn⟩ := T.ns; ⟨m, ns nn⟩, fun y k l => ?_, fun y b e => ?_, fun y z ds es c ne hy hz vy vz => T.apart y z ds es c ne hy hz (bck hy vy) (bck hz vz)⟩
  · refine ⟨?_, (T.plive a p).2⟩
    obtain ⟨⟨o, e⟩, _⟩ := T.plive a p
    by_cases w : W a
    · obtain ⟨o', e'⟩ := hl a w; exact ⟨o', hidO_get e' (PO a p)⟩
    · exact ⟨o, hidO_get (hk a o w (T.keep a o e)) (PO a p)⟩
  · obtain ⟨o, e⟩ := T.live a q; exact ⟨o, hk a o (WO a q) e⟩
  · obtain ⟨⟨v, q⟩, f⟩ := T.cells y k l
    exact ⟨⟨v, hcell l q⟩, f⟩
  · have := T.vars y b e
    cases b with
    | val d => obtain ⟨w, hw, r⟩ := this; exact ⟨w, mvv hw, r.mono hkX fun _ _ n _ => n⟩
    | own es =>
      obtain ⟨c, ws, hw, h1, h2, h3, h4⟩ := this
      exact ⟨c, ws, mvv hw, h1, h2, h3.at fun o e => hk _ o (WO _ h1) e, h4.mono hkX fun _ _ n _ => n⟩
/-- and let go -/
theorem St.out {hb h₂ : Heap} {σ' : Sto} {O' : Addr → Prop} (T : St B h₀ P env σ O h) (T' : St B hb (fun b => P b ∨ W b) env σ' O' h₁) (hf : env.func.isSome = true) (hk₂ : ∀ b o, ¬ W b → h₁.get? b = some o → h₂.get? b = some o) (hk : ∀ b o, h₀.get? b = some o → h₂.get? b = some o) (hO : ∀ b, O' b → O b ∨ h.get? b = none) : St B h₀ P env σ' O' h₂ := by
  have sub : ∀ a, (P a ∨ O' a) → ((P a ∨ W a) ∨ O' a) := fun a q => q.imp .inl id
  have WO : ∀ b, O' b → ¬ W b := fun b q w => by obtain ⟨⟨o, e⟩, _⟩ := T'.plive b (.inr w); rw [T'.new b q] at e; cases e
  have hcell : ∀ {y c v}, env.cells.lookup y = some c → h₁.IsCell c v → h₂.IsCell c v := fun {y c v} l e => by
    obtain ⟨o, e1, e2⟩ := e
    exact ⟨o, hk₂ _ _ (WO _ ((T'.cells y c l).2 hf)) e1, e2⟩
  have ns : ∀ {m}, h₁.Ns env.locals m → h₂.Ns env.locals m := fun nn => nn.at' fun o e => hk₂ _ o (WO _ T'.loc) e
  have mvv : ∀ {x w}, VarIs env h₁ x w → VarIs env h₂ x w := by
    rintro x w (⟨kd, m, nn, e⟩ | ⟨kd, k, l, e⟩)
    · exact .inl ⟨kd, m, ns nn, e⟩
    · exact .inr ⟨kd, k, l, hcell l e⟩
  have bck : ∀ {x w b}, σ'.get x = some b → VarIs env h₂ (S x) w → VarIs env h₁ (S x) w := by
    intro x w b hb hw
    obtain ⟨w', hw'⟩ := (T'.vars x b hb).var
    rw [hw.fn (mvv hw')]; exact hw'
  have hkX : ∀ a o, ¬ ((P a ∨ W a) ∨ O' a) → h₁.get? a = some o → h₂.get? a = some o := fun a o na e => hk₂ a o (fun w => na (.inl (.inr w))) e
  have hkn : ∀ a o, ¬ ((P a ∨ W a) ∨ O' a) → h₁.get? a = some o → ¬ (P a ∨ O' a) := fun a o na _ q => na (sub a q)
  refine ⟨T.base, hk, T.plive, fun a q => ?_, fun a q => ?_, T'.ok, T'.loc, let ⟨m, nn⟩ := T'.ns; ⟨m, ns nn⟩, fun y k l => ?_, fun x b e => ?_, fun y z ds es c ne hy hz vy vz => T'.apart y z ds es c ne hy hz (bck hy vy) (bck hz vz)⟩
  · obtain ⟨o, e⟩ := T'.live a q; exact ⟨o, hk₂ a o (WO a q) e⟩
  · rcases hO a q with q | q
    · exact T.new a q
    · cases e : h₀.get? a with
      | none => rfl
      | some o => rw [T.keep a o e] at q; cases q
  · obtain ⟨⟨v, q⟩, f⟩ := T'.cells y k l
    exact ⟨⟨v, hcell l q⟩, f⟩
  · have := T'.vars x b e
    cases b with
    | val d => obtain ⟨v, hv, r⟩ := this; exact ⟨v, mvv hv, r.mono hkX hkn⟩
    | own ds => obtain ⟨a', vs, hv, h1, h2, h3, h4⟩ := this; exact ⟨a', vs, mvv hv, h1, h2, h3.at fun o e => hk₂ _ o (WO _ h1) e, h4.mono hkX hkn⟩
end
section
variable {B : Bas} {n : Nat} {env : Env} {σ : Sto} {R : Fl → Sto → Prop}
end

/-- the things -/
def isThing : PyData → Prop
  | .int _ => True
  | .bool _ => True
  | .none => True
  | .str x => ∃ c : Int, (97 ≤ c ∧ c ≤ 122) ∧ x = ltr c
  | .list l => ∃ i, l = [.int i]
  | _ => False
def nmT : PyData → String
  | .int _ => "int"
  | .bool _ => "bool"
  | .str _ => "str"
  | .none => "NoneType"
  | .list _ => "list"
  | _ => ""
def clT : PyData → Int
  | .int _ => 0
  | .bool _ => 0
  | .str _ => 1
  | .none => 2
  | .list _ => 3
  | _ => 4
def numT : PyData → Int
  | .int i => i
  | .bool b => b2i b
  | .str x => ((x.cps.toList.headD 0 : Nat) : Int)
  | .list [.int i] => i
  | _ => 0
def opI : CmpOp → Int → Int → Bool
  | .Lt, i, j => decide (i < j)
  | .LtE, i, j => decide (i ≤ j)
  | .Gt, i, j => decide (i > j)
  | .GtE, i, j => decide (i ≥ j)
  | _, _, _ => false
def symT : CmpOp → String
  | .Lt => "<"
  | .LtE => "<="
  | .Gt => ">"
  | .GtE => ">="
  | _ => ""
def poT (op : CmpOp) (x y : PyData) : Out := if clT x = clT y then .val (opI op (numT x) (numT y)) else .err (Str.ofString (cmpMsg (symT op) (nmT x) (nmT y)))
section
variable {prog : Program} {w : World} {A : Around} {E : Value → Shared → Prop} {s : Shared}
inductive Nm : String → Int → Prop
  | int : Nm "int" 0
  | bool : Nm "bool" 0
  | str : Nm "str" 1
  | none : Nm "NoneType" 2
  | list : Nm "list" 3
def sayW (a b : String) : Str := S " not supported between instances of '" ++ S a ++ S "' and '" ++ S b ++ S "'"
def quoteS (op : CmpOp) : Str := S "'" ++ S (symT op) ++ S "'"
end
theorem fc_list_lt : findCls [] (.type "list") (.type "type") (S "__lt__") = some (.val (.builtin "list.__lt__")) := by kernel_rfl
theorem fc_list_le : findCls [] (.type "list") (.type "type") (S "__le__") = some (.val (.builtin "list.__le__")) := by kernel_rfl
theorem fc_list_gt : findCls [] (.type "list") (.type "type") (S "__gt__") = some (.val (.builtin "list.__gt__")) := by kernel_rfl
theorem fc_list_ge : findCls [] (.type "list") (.type "type") (S "__ge__") = some (.val (.builtin "list.__ge__")) := by kernel_rfl
/-- a pair's answer -/
def opP (op : CmpOp) (x y : Int × Int) : Bool := if x.1 = y.1 then opI op x.2 y.2 else opI op x.1 y.1
section
variable {prog : Program} {w : World} {A : Around} {E : Value → Shared → Prop} {s : Shared}
theorem ct_lt {a b : Addr} {x1 x2 y1 y2 : Int} {t1 t2 u1 u2 : Tok} {Q : Value → Shared → Prop} (ha : IsTup s.heap a #[.int x1 t1, .int x2 t2]) (hb : IsTup s.heap b #[.int y1 u1, .int y2 u2])
    (q : Q (.bool (opP .Lt (x1, x2) (y1, y2))) s) : wpAny (model prog w) A (call (.builtin "tuple.__lt__") [.ref a, .ref b]) Q E s := by
  obtain ⟨oa, hoa, hca, na, hda⟩ := ha
  obtain ⟨ob, hob, hcb, nb, hdb⟩ := hb
  have hTa : s.TypeIs (.ref a) "tuple" := ⟨oa, hoa, hca⟩
  have hTb : s.TypeIs (.ref b) "tuple" := ⟨ob, hob, hcb⟩
  refine wpAny_call_entry PySem.F.slot_tuple_lt hTa PySem.F.entry_tuple_lt ?_ (PySem.F.args_tuple_lt_2 _ _)
  show wpAny _ _ (isInstance (.ref b) (.type "tuple") >>= _) _ _ s
  refine wpAny_bind (wpAny_isInstance hTb isSubtype_tuple_tuple ?_)
  simp only [Bool.not_true, Bool.false_eq_true, if_false]
  refine wpAny_bind (wpAny_tupleItemsOf hoa hda ?_)
  refine wpAny_bind (wpAny_tupleItemsOf hob hdb ?_)
  refine wpAny_bind ?_
  show wpAny _ _ (forIn [(Value.int x1 t1, Value.int y1 u1), (Value.int x2 t2, Value.int y2 u2)] _ _) _ _ s
  rw [List.forIn_cons]
  refine wpAny_bind (wpAny_bind (wpAny_eqBool_int ?_))
  unfold opP at q
  dsimp only at q
  by_cases h1 : x1 = y1
  · subst h1
    rw [if_pos rfl] at q
    simp only [beq_self_eq_true, Bool.not_true, Bool.false_eq_true, if_false]
    refine wpAny_pure ?_
    dsimp only
    rw [List.forIn_cons]
    refine wpAny_bind (wpAny_bind (wpAny_eqBool_int ?_))
    by_cases h2 : x2 = y2
    · subst h2
      simp only [beq_self_eq_true, Bool.not_true, Bool.false_eq_true, if_false]
      refine wpAny_pure ?_
      dsimp only
      rw [List.forIn_nil]
      refine wpAny_pure (wpAny_pure ⟨_, rfl, ?_⟩)
      have e : opI .Lt x2 x2 = false := by simp [opI]
      rw [e] at q
      exact q
    · have e : (x2 == y2) = false := by simpa using h2
      rw [e]
      simp only [Bool.not_false, if_true]
      refine wpAny_bind (wpAny_rule (wpAny_bind ?_))
      refine lt_int (wpAny_bind (wpAny_pure (wpAny_pure (wpAny_pure ?_))))
      exact wpAny_pure ⟨_, rfl, q⟩
  · rw [if_neg h1] at q
    have e : (x1 == y1) = false := by simpa using h1
    rw [e]
    simp only [Bool.not_false, if_true]
    refine wpAny_bind (wpAny_rule (wpAny_bind ?_))
    refine lt_int (wpAny_bind (wpAny_pure (wpAny_pure (wpAny_pure ?_))))
    exact wpAny_pure ⟨_, rfl, q⟩
theorem dct_lt {a : Addr} {T : String} {v : Value} (ha : s.TypeIs (.ref a) "tuple") (hv : s.TypeIs v T) (hs : isSubtype (.type T) (.type "tuple") = pure false) {Q : Value → Shared → Prop} (q : Q .notImplemented s) : wpAny (model prog w) A (call (.builtin "tuple.__lt__") [.ref a, v]) Q E s := by
  refine wpAny_call_entry PySem.F.slot_tuple_lt ha PySem.F.entry_tuple_lt ?_ (PySem.F.args_tuple_lt_2 _ _)
  show wpAny _ _ (isInstance v (.type "tuple") >>= _) _ _ _
  refine wpAny_bind (wpAny_isInstance hv hs ?_)
  exact wpAny_pure ⟨_, rfl, q⟩
theorem cl_lt (hu : A.units + 24 < cLine) {va vb : Value} {x y : Int × Int} {Q : Value → Shared → Prop} (r : Rp s.heap NoX va (.list [.int x.1, .int x.2])) (r' : Rp s.heap NoX vb (.list [.int y.1, .int y.2])) (q : Q (.bool (opP .Lt x y)) s) : wpAny (model prog w) A (call (.builtin "list.__lt__") [va, vb]) Q E s := by
  obtain ⟨l, vs, rfl, hl, _, rl⟩ := rp_list r; obtain ⟨l', ws, rfl, hl', _, rl'⟩ := rp_list r'
  refine call_list_lt hl hl' (by omega) (fun x => ∃ i, x = PyData.int i) (fun x hx => by obtain ⟨i, rfl⟩ := hx; exact ⟨rfl, by simp [PyData.depth]⟩) (fun x y => .val (opI .Lt (numT x) (numT y))) ?_ (xs := [.int x.1, .int x.2]) (ys := [.int y.1, .int y.2]) (fun z hz => by simp at hz; rcases hz with rfl | rfl <;> exact ⟨_, rfl⟩) (fun z hz => by simp at hz; rcases hz with rfl | rfl <;> exact ⟨_, rfl⟩) rl rl' ?_
  · rintro prog w x y va vb Q E ⟨i, rfl⟩ ⟨j, rfl⟩ hne r r' q
    simp only [D.of] at r r'
    obtain ⟨t, rfl⟩ := rp_int r; obtain ⟨u, rfl⟩ := rp_int r'
    exact rn_lt_int_int (by show A.units + 1 < cLine; omega) q
  · unfold opP at q
    unfold loopOut
    by_cases h1 : x.1 = y.1
    · rw [if_pos (by simp [PyData.eqv, h1])]
      rw [if_pos h1] at q
      unfold loopOut
      by_cases h2 : x.2 = y.2
      · rw [if_pos (by simp [PyData.eqv, h2])]
        unfold loopOut
        have e : opI .Lt x.2 y.2 = false := by simp [opI, h2]
        rw [e] at q
        exact q
      · rw [if_neg (by simpa [PyData.eqv] using h2)]
        exact q
    · rw [if_neg (by simpa [PyData.eqv] using h1)]
      rw [if_neg h1] at q
      exact q
theorem ct_le {a b : Addr} {x1 x2 y1 y2 : Int} {t1 t2 u1 u2 : Tok} {Q : Value → Shared → Prop} (ha : IsTup s.heap a #[.int x1 t1, .int x2 t2]) (hb : IsTup s.heap b #[.int y1 u1, .int y2 u2])
    (q : Q (.bool (opP .LtE (x1, x2) (y1, y2))) s) : wpAny (model prog w) A (call (.builtin "tuple.__le__") [.ref a, .ref b]) Q E s := by
  obtain ⟨oa, hoa, hca, na, hda⟩ := ha
  obtain ⟨ob, hob, hcb, nb, hdb⟩ := hb
  have hTa : s.TypeIs (.ref a) "tuple" := ⟨oa, hoa, hca⟩
  have hTb : s.TypeIs (.ref b) "tuple" := ⟨ob, hob, hcb⟩
  refine wpAny_call_entry PySem.F.slot_tuple_le hTa PySem.F.entry_tuple_le ?_ (PySem.F.args_tuple_le_2 _ _)
  show wpAny _ _ (isInstance (.ref b) (.type "tuple") >>= _) _ _ s
  refine wpAny_bind (wpAny_isInstance hTb isSubtype_tuple_tuple ?_)
  simp only [Bool.not_true, Bool.false_eq_true, if_false]
  refine wpAny_bind (wpAny_tupleItemsOf hoa hda ?_)
  refine wpAny_bind (wpAny_tupleItemsOf hob hdb ?_)
  refine wpAny_bind ?_
  show wpAny _ _ (forIn [(Value.int x1 t1, Value.int y1 u1), (Value.int x2 t2, Value.int y2 u2)] _ _) _ _ s
  rw [List.forIn_cons]
  refine wpAny_bind (wpAny_bind (wpAny_eqBool_int ?_))
  unfold opP at q
  dsimp only at q
  by_cases h1 : x1 = y1
  · subst h1
    rw [if_pos rfl] at q
    simp only [beq_self_eq_true, Bool.not_true, Bool.false_eq_true, if_false]
    refine wpAny_pure ?_
    dsimp only
    rw [List.forIn_cons]
    refine wpAny_bind (wpAny_bind (wpAny_eqBool_int ?_))
    by_cases h2 : x2 = y2
    · subst h2
      simp only [beq_self_eq_true, Bool.not_true, Bool.false_eq_true, if_false]
      refine wpAny_pure ?_
      dsimp only
      rw [List.forIn_nil]
      refine wpAny_pure (wpAny_pure ⟨_, rfl, ?_⟩)
      have e : opI .LtE x2 x2 = true := by simp [opI]
      rw [e] at q
      exact q
    · have e : (x2 == y2) = false := by simpa using h2
      rw [e]
      simp only [Bool.not_false, if_true]
      refine wpAny_bind (wpAny_rule (wpAny_bind ?_))
      refine le_int (wpAny_bind (wpAny_pure (wpAny_pure (wpAny_pure ?_))))
      exact wpAny_pure ⟨_, rfl, q⟩
  · rw [if_neg h1] at q
    have e : (x1 == y1) = false := by simpa using h1
    rw [e]
    simp only [Bool.not_false, if_true]
    refine wpAny_bind (wpAny_rule (wpAny_bind ?_))
    refine le_int (wpAny_bind (wpAny_pure (wpAny_pure (wpAny_pure ?_))))
    exact wpAny_pure ⟨_, rfl, q⟩
theorem dct_le {a : Addr} {T : String} {v : Value} (ha : s.TypeIs (.ref a) "tuple") (hv : s.TypeIs v T) (hs : isSubtype (.type T) (.type "tuple") = pure false) {Q : Value → Shared → Prop} (q : Q .notImplemented s) : wpAny (model prog w) A (call (.builtin "tuple.__le__") [.ref a, v]) Q E s := by
  refine wpAny_call_entry PySem.F.slot_tuple_le ha PySem.F.entry_tuple_le ?_ (PySem.F.args_tuple_le_2 _ _)
  show wpAny _ _ (isInstance v (.type "tuple") >>= _) _ _ _
  refine wpAny_bind (wpAny_isInstance hv hs ?_)
  exact wpAny_pure ⟨_, rfl, q⟩
theorem cl_le (hu : A.units + 24 < cLine) {va vb : Value} {x y : Int × Int} {Q : Value → Shared → Prop} (r : Rp s.heap NoX va (.list [.int x.1, .int x.2])) (r' : Rp s.heap NoX vb (.list [.int y.1, .int y.2])) (q : Q (.bool (opP .LtE x y)) s) : wpAny (model prog w) A (call (.builtin "list.__le__") [va, vb]) Q E s := by
  obtain ⟨l, vs, rfl, hl, _, rl⟩ := rp_list r; obtain ⟨l', ws, rfl, hl', _, rl'⟩ := rp_list r'
  refine call_list_le hl hl' (by omega) (fun x => ∃ i, x = PyData.int i) (fun x hx => by obtain ⟨i, rfl⟩ := hx; exact ⟨rfl, by simp [PyData.depth]⟩) (fun x y => .val (opI .LtE (numT x) (numT y))) ?_ (xs := [.int x.1, .int x.2]) (ys := [.int y.1, .int y.2]) (fun z hz => by simp at hz; rcases hz with rfl | rfl <;> exact ⟨_, rfl⟩) (fun z hz => by simp at hz; rcases hz with rfl | rfl <;> exact ⟨_, rfl⟩) rl rl' ?_
  · rintro prog w x y va vb Q E ⟨i, rfl⟩ ⟨j, rfl⟩ hne r r' q
    simp only [D.of] at r r'
    obtain ⟨t, rfl⟩ := rp_int r; obtain ⟨u, rfl⟩ := rp_int r'
    exact rn_le_int_int (by show A.units + 1 < cLine; omega) q
  · unfold opP at q
    unfold loopOut
    by_cases h1 : x.1 = y.1
    · rw [if_pos (by simp [PyData.eqv, h1])]
      rw [if_pos h1] at q
      unfold loopOut
      by_cases h2 : x.2 = y.2
      · rw [if_pos (by simp [PyData.eqv, h2])]
        unfold loopOut
        have e : opI .LtE x.2 y.2 = true := by simp [opI, h2]
        rw [e] at q
        exact q
      · rw [if_neg (by simpa [PyData.eqv] using h2)]
        exact q
    · rw [if_neg (by simpa [PyData.eqv] using h1)]
      rw [if_neg h1] at q
      exact q
theorem ct_gt {a b : Addr} {x1 x2 y1 y2 : Int} {t1 t2 u1 u2 : Tok} {Q : Value → Shared → Prop} (ha : IsTup s.heap a #[.int x1 t1, .int x2 t2]) (hb : IsTup s.heap b #[.int y1 u1, .int y2 u2])
    (q : Q (.bool (opP .Gt (x1, x2) (y1, y2))) s) : wpAny (model prog w) A (call (.builtin "tuple.__gt__") [.ref a, .ref b]) Q E s := by
  obtain ⟨oa, hoa, hca, na, hda⟩ := ha
  obtain ⟨ob, hob, hcb, nb, hdb⟩ := hb
  have hTa : s.TypeIs (.ref a) "tuple" := ⟨oa, hoa, hca⟩
  have hTb : s.TypeIs (.ref b) "tuple" := ⟨ob, hob, hcb⟩
  refine wpAny_call_entry PySem.F.slot_tuple_gt hTa PySem.F.entry_tuple_gt ?_ (PySem.F.args_tuple_gt_2 _ _)
  show wpAny _ _ (isInstance (.ref b) (.type "tuple") >>= _) _ _ s
  refine wpAny_bind (wpAny_isInstance hTb isSubtype_tuple_tuple ?_)
  simp only [Bool.not_true, Bool.false_eq_true, if_false]
  refine wpAny_bind (wpAny_tupleItemsOf hoa hda ?_)
  refine wpAny_bind (wpAny_tupleItemsOf hob hdb ?_)
  refine wpAny_bind ?_
  show wpAny _ _ (forIn [(Value.int x1 t1, Value.int y1 u1), (Value.int x2 t2, Value.int y2 u2)] _ _) _ _ s
  rw [List.forIn_cons]
  refine wpAny_bind (wpAny_bind (wpAny_eqBool_int ?_))
  unfold opP at q
  dsimp only at q
  by_cases h1 : x1 = y1
  · subst h1
    rw [if_pos rfl] at q
    simp only [beq_self_eq_true, Bool.not_true, Bool.false_eq_true, if_false]
    refine wpAny_pure ?_
    dsimp only
    rw [List.forIn_cons]
    refine wpAny_bind (wpAny_bind (wpAny_eqBool_int ?_))
    by_cases h2 : x2 = y2
    · subst h2
      simp only [beq_self_eq_true, Bool.not_true, Bool.false_eq_true, if_false]
      refine wpAny_pure ?_
      dsimp only
      rw [List.forIn_nil]
      refine wpAny_pure (wpAny_pure ⟨_, rfl, ?_⟩)
      have e : opI .Gt x2 x2 = false := by simp [opI]
      rw [e] at q
      exact q
    · have e : (x2 == y2) = false := by simpa using h2
      rw [e]
      simp only [Bool.not_false, if_true]
      refine wpAny_bind (wpAny_rule (wpAny_bind ?_))
      refine gt_int (wpAny_bind (wpAny_pure (wpAny_pure (wpAny_pure ?_))))
      exact wpAny_pure ⟨_, rfl, q⟩
  · rw [if_neg h1] at q
    have e : (x1 == y1) = false := by simpa using h1
    rw [e]
    simp only [Bool.not_false, if_true]
    refine wpAny_bind (wpAny_rule (wpAny_bind ?_))
    refine gt_int (wpAny_bind (wpAny_pure (wpAny_pure (wpAny_pure ?_))))
    exact wpAny_pure ⟨_, rfl, q⟩
theorem dct_gt {a : Addr} {T : String} {v : Value} (ha : s.TypeIs (.ref a) "tuple") (hv : s.TypeIs v T) (hs : isSubtype (.type T) (.type "tuple") = pure false) {Q : Value → Shared → Prop} (q : Q .notImplemented s) : wpAny (model prog w) A (call (.builtin "tuple.__gt__") [.ref a, v]) Q E s := by
  refine wpAny_call_entry PySem.F.slot_tuple_gt ha PySem.F.entry_tuple_gt ?_ (PySem.F.args_tuple_gt_2 _ _)
  show wpAny _ _ (isInstance v (.type "tuple") >>= _) _ _ _
  refine wpAny_bind (wpAny_isInstance hv hs ?_)
  exact wpAny_pure ⟨_, rfl, q⟩
theorem cl_gt (hu : A.units + 24 < cLine) {va vb : Value} {x y : Int × Int} {Q : Value → Shared → Prop} (r : Rp s.heap NoX va (.list [.int x.1, .int x.2])) (r' : Rp s.heap NoX vb (.list [.int y.1, .int y.2])) (q : Q (.bool (opP .Gt x y)) s) : wpAny (model prog w) A (call (.builtin "list.__gt__") [va, vb]) Q E s := by
  obtain ⟨l, vs, rfl, hl, _, rl⟩ := rp_list r; obtain ⟨l', ws, rfl, hl', _, rl'⟩ := rp_list r'
  refine call_list_gt hl hl' (by omega) (fun x => ∃ i, x = PyData.int i) (fun x hx => by obtain ⟨i, rfl⟩ := hx; exact ⟨rfl, by simp [PyData.depth]⟩) (fun x y => .val (opI .Gt (numT x) (numT y))) ?_ (xs := [.int x.1, .int x.2]) (ys := [.int y.1, .int y.2]) (fun z hz => by simp at hz; rcases hz with rfl | rfl <;> exact ⟨_, rfl⟩) (fun z hz => by simp at hz; rcases hz with rfl | rfl <;> exact ⟨_, rfl⟩) rl rl' ?_
  · rintro prog w x y va vb Q E ⟨i, rfl⟩ ⟨j, rfl⟩ hne r r' q
    simp only [D.of] at r r'
    obtain ⟨t, rfl⟩ := rp_int r; obtain ⟨u, rfl⟩ := rp_int r'
    exact rn_gt_int_int (by show A.units + 1 < cLine; omega) q
  · unfold opP at q
    unfold loopOut
    by_cases h1 : x.1 = y.1
    · rw [if_pos (by simp [PyData.eqv, h1])]
      rw [if_pos h1] at q
      unfold loopOut
      by_cases h2 : x.2 = y.2
      · rw [if_pos (by simp [PyData.eqv, h2])]
        unfold loopOut
        have e : opI .Gt x.2 y.2 = false := by simp [opI, h2]
        rw [e] at q
        exact q
      · rw [if_neg (by simpa [PyData.eqv] using h2)]
        exact q
    · rw [if_neg (by simpa [PyData.eqv] using h1)]
      rw [if_neg h1] at q
      exact q
theorem ct_ge {a b : Addr} {x1 x2 y1 y2 : Int} {t1 t2 u1 u2 : Tok} {Q : Value → Shared → Prop} (ha : IsTup s.heap a #[.int x1 t1, .int x2 t2]) (hb : IsTup s.heap b #[.int y1 u1, .int y2 u2])
    (q : Q (.bool (opP .GtE (x1, x2) (y1, y2))) s) : wpAny (model prog w) A (call (.builtin "tuple.__ge__") [.ref a, .ref b]) Q E s := by
  obtain ⟨oa, hoa, hca, na, hda⟩ := ha
  obtain ⟨ob, hob, hcb, nb, hdb⟩ := hb
  have hTa : s.TypeIs (.ref a) "tuple" := ⟨oa, hoa, hca⟩
  have hTb : s.TypeIs (.ref b) "tuple" := ⟨ob, hob, hcb⟩
  refine wpAny_call_entry PySem.F.slot_tuple_ge hTa PySem.F.entry_tuple_ge ?_ (PySem.F.args_tuple_ge_2 _ _)
  show wpAny _ _ (isInstance (.ref b) (.type "tuple") >>= _) _ _ s
  refine wpAny_bind (wpAny_isInstance hTb isSubtype_tuple_tuple ?_)
  simp only [Bool.not_true, Bool.false_eq_true, if_false]
  refine wpAny_bind (wpAny_tupleItemsOf hoa hda ?_)
  refine wpAny_bind (wpAny_tupleItemsOf hob hdb ?_)
  refine wpAny_bind ?_
  show wpAny _ _ (forIn [(Value.int x1 t1, Value.int y1 u1), (Value.int x2 t2, Value.int y2 u2)] _ _) _ _ s
  rw [List.forIn_cons]
  refine wpAny_bind (wpAny_bind (wpAny_eqBool_int ?_))
  unfold opP at q
  dsimp only at q
  by_cases h1 : x1 = y1
  · subst h1
    rw [if_pos rfl] at q
    simp only [beq_self_eq_true, Bool.not_true, Bool.false_eq_true, if_false]
    refine wpAny_pure ?_
    dsimp only
    rw [List.forIn_cons]
    refine wpAny_bind (wpAny_bind (wpAny_eqBool_int ?_))
    by_cases h2 : x2 = y2
    · subst h2
      simp only [beq_self_eq_true, Bool.not_true, Bool.false_eq_true, if_false]
      refine wpAny_pure ?_
      dsimp only
      rw [List.forIn_nil]
      refine wpAny_pure (wpAny_pure ⟨_, rfl, ?_⟩)
      have e : opI .GtE x2 x2 = true := by simp [opI]
      rw [e] at q
      exact q
    · have e : (x2 == y2) = false := by simpa using h2
      rw [e]
      simp only [Bool.not_false, if_true]
      refine wpAny_bind (wpAny_rule (wpAny_bind ?_))
      refine ge_int (wpAny_bind (wpAny_pure (wpAny_pure (wpAny_pure ?_))))
      exact wpAny_pure ⟨_, rfl, q⟩
  · rw [if_neg h1] at q
    have e : (x1 == y1) = false := by simpa using h1
    rw [e]
    simp only [Bool.not_false, if_true]
    refine wpAny_bind (wpAny_rule (wpAny_bind ?_))
    refine ge_int (wpAny_bind (wpAny_pure (wpAny_pure (wpAny_pure ?_))))
    exact wpAny_pure ⟨_, rfl, q⟩
theorem dct_ge {a : Addr} {T : String} {v : Value} (ha : s.TypeIs (.ref a) "tuple") (hv : s.TypeIs v T) (hs : isSubtype (.type T) (.type "tuple") = pure false) {Q : Value → Shared → Prop} (q : Q .notImplemented s) : wpAny (model prog w) A (call (.builtin "tuple.__ge__") [.ref a, v]) Q E s := by
  refine wpAny_call_entry PySem.F.slot_tuple_ge ha PySem.F.entry_tuple_ge ?_ (PySem.F.args_tuple_ge_2 _ _)
  show wpAny _ _ (isInstance v (.type "tuple") >>= _) _ _ _
  refine wpAny_bind (wpAny_isInstance hv hs ?_)
  exact wpAny_pure ⟨_, rfl, q⟩
theorem cl_ge (hu : A.units + 24 < cLine) {va vb : Value} {x y : Int × Int} {Q : Value → Shared → Prop} (r : Rp s.heap NoX va (.list [.int x.1, .int x.2])) (r' : Rp s.heap NoX vb (.list [.int y.1, .int y.2])) (q : Q (.bool (opP .GtE x y)) s) : wpAny (model prog w) A (call (.builtin "list.__ge__") [va, vb]) Q E s := by
  obtain ⟨l, vs, rfl, hl, _, rl⟩ := rp_list r; obtain ⟨l', ws, rfl, hl', _, rl'⟩ := rp_list r'
  refine call_list_ge hl hl' (by omega) (fun x => ∃ i, x = PyData.int i) (fun x hx => by obtain ⟨i, rfl⟩ := hx; exact ⟨rfl, by simp [PyData.depth]⟩) (fun x y => .val (opI .GtE (numT x) (numT y))) ?_ (xs := [.int x.1, .int x.2]) (ys := [.int y.1, .int y.2]) (fun z hz => by simp at hz; rcases hz with rfl | rfl <;> exact ⟨_, rfl⟩) (fun z hz => by simp at hz; rcases hz with rfl | rfl <;> exact ⟨_, rfl⟩) rl rl' ?_
  · rintro prog w x y va vb Q E ⟨i, rfl⟩ ⟨j, rfl⟩ hne r r' q
    simp only [D.of] at r r'
    obtain ⟨t, rfl⟩ := rp_int r; obtain ⟨u, rfl⟩ := rp_int r'
    exact rn_ge_int_int (by show A.units + 1 < cLine; omega) q
  · unfold opP at q
    unfold loopOut
    by_cases h1 : x.1 = y.1
    · rw [if_pos (by simp [PyData.eqv, h1])]
      rw [if_pos h1] at q
      unfold loopOut
      by_cases h2 : x.2 = y.2
      · rw [if_pos (by simp [PyData.eqv, h2])]
        unfold loopOut
        have e : opI .GtE x.2 y.2 = true := by simp [opI, h2]
        rw [e] at q
        exact q
      · rw [if_neg (by simpa [PyData.eqv] using h2)]
        exact q
    · rw [if_neg (by simpa [PyData.eqv] using h1)]
      rw [if_neg h1] at q
      exact q
end
def pairT (x : Int × Int) : D := .tuple [.int x.1, .int x.2]
def pairL (x : Int × Int) : D := .list [.int x.1, .int x.2]
theorem typeOf_tuple : typeOf (.type "tuple") = pure (.type "type") := by first | rfl | kernel_rfl
theorem typeOf_intT : typeOf (.type "int") = pure (.type "type") := by first | rfl | kernel_rfl
section
variable {B : Bas} {n : Nat}
theorem fc_tuple_lt : findCls [] (.type "tuple") (.type "type") (S "__lt__") = some (.val (.builtin "tuple.__lt__")) := by kernel_rfl
theorem fc_intT_lt : findCls [] (.type "int") (.type "type") (S "__lt__") = some (.val (.builtin "int.__lt__")) := by kernel_rfl
theorem d11_tuple_lt (x y : Int × Int) : Dun B n "__lt__" (pairT x) (pairT y) (.bool (opP .Lt x y)) :=
  ⟨"tuple", _, ty_tuple, by decide, typeOf_tuple, by decide +kernel, fc_tuple_lt, by decide +kernel, fun A s E Q vs bo ao hh r q => by
    cases r with | cons r rn =>
    cases rn with | cons r' rn =>
    cases rn
    obtain ⟨a, vs, rfl, ha, _, rs⟩ := rp_tuple r
    obtain ⟨b, ws, rfl, hb, _, rs'⟩ := rp_tuple r'
    cases rs with | cons r1 rs =>
    cases rs with | cons r2 rs =>
    cases rs
    cases rs' with | cons r1' rs' =>
    cases rs' with | cons r2' rs' =>
    cases rs'
    obtain ⟨t1, rfl⟩ := rp_int r1; obtain ⟨t2, rfl⟩ := rp_int r2
    obtain ⟨u1, rfl⟩ := rp_int r1'; obtain ⟨u2, rfl⟩ := rp_int r2'
    exact ct_lt ha hb (q _ _ (krefl s) fun _ _ => .val _ rfl)⟩
theorem d11_list_lt (x y : Int × Int) : Dun B n "__lt__" (pairL x) (pairL y) (.bool (opP .Lt x y)) :=
  ⟨"list", _, ty_list, by decide, typeOf_list, by decide +kernel, fc_list_lt, by decide +kernel, fun A s E Q vs bo ao hh r q => by
    cases r with | cons r rn =>
    cases rn with | cons r' rn =>
    cases rn
    exact cl_lt (by have := ao.units; omega) r r' (q _ _ (krefl s) fun _ _ => .val _ rfl)⟩
theorem d11_int_lt (x y : Int) : Dun B n "__lt__" (.int x) (.int y) (.bool (opI .Lt x y)) :=
  ⟨"int", _, ty_int, by decide, typeOf_intT, by decide +kernel, fc_intT_lt, by decide +kernel, fun A s E Q vs bo ao hh r q => by
    cases r with | cons r rn =>
    cases rn with | cons r' rn =>
    cases rn
    obtain ⟨t, rfl⟩ := rp_int r; obtain ⟨u, rfl⟩ := rp_int r'
    exact cn_lt_int_int (q _ _ (krefl s) fun _ _ => .val _ rfl)⟩
theorem d11_str_lt {i j : Int} (h0 : 0 ≤ i) (h1 : 0 ≤ j) : Dun B n "__lt__" (.str (ltr i)) (.str (ltr j)) (.bool (opI .Lt i j)) :=
  ⟨"str", _, ty_str, by decide, typeOf_str, by decide +kernel, fc_str_lt, by decide +kernel, bi_ss_lt h0 h1⟩
theorem d11_intN_lt {x : Int} {d : D} (h : NonI d) : Dun B n "__lt__" (.int x) d .notImplemented :=
  ⟨"int", _, ty_int, by decide, typeOf_intT, by decide +kernel, fc_intT_lt, by decide +kernel, bi_int_lt_ni h⟩
theorem d11_strN_lt {x : Str} {d : D} (h : NonS d) : Dun B n "__lt__" (.str x) d .notImplemented :=
  ⟨"str", _, ty_str, by decide, typeOf_str, by decide +kernel, fc_str_lt, by decide +kernel, bi_str_lt_ni h⟩
theorem d11_tupleN_lt {ds : List D} {d : D} {T : String} (ht : Ty d T) (hs : isSubtype (.type T) (.type "tuple") = pure false) : Dun B n "__lt__" (.tuple ds) d .notImplemented :=
  ⟨"tuple", _, ty_tuple, by decide, typeOf_tuple, by decide +kernel, fc_tuple_lt, by decide +kernel, fun A s E Q vs bo ao hh r q => by
    cases r with | cons r rn =>
    cases rn with | cons r' rn =>
    cases rn
    obtain ⟨a, vs, rfl, ha, _, rs⟩ := rp_tuple r
    exact dct_lt (by obtain ⟨o, ho, hc, _⟩ := ha; exact ⟨o, ho, hc⟩) (ht s _ _ r') hs (q _ _ (krefl s) fun _ _ => .val _ rfl)⟩
theorem d11_listN_lt {ds : List D} {d : D} {T : String} (ht : Ty d T) (hs : isSubtype (.type T) (.type "list") = pure false) : Dun B n "__lt__" (.list ds) d .notImplemented :=
  ⟨"list", _, ty_list, by decide, typeOf_list, by decide +kernel, fc_list_lt, by decide +kernel, fun A s E Q vs bo ao hh r q => by
    cases r with | cons r rn =>
    cases rn with | cons r' rn =>
    cases rn
    obtain ⟨a, vs, rfl, ha, _, rs⟩ := rp_list r
    exact dc_list_lt ha.typeIs (ht s _ _ r') hs (q _ _ (krefl s) fun _ _ => .val _ rfl)⟩
theorem fc_tuple_le : findCls [] (.type "tuple") (.type "type") (S "__le__") = some (.val (.builtin "tuple.__le__")) := by kernel_rfl
theorem fc_intT_le : findCls [] (.type "int") (.type "type") (S "__le__") = some (.val (.builtin "int.__le__")) := by kernel_rfl
theorem d11_tuple_le (x y : Int × Int) : Dun B n "__le__" (pairT x) (pairT y) (.bool (opP .LtE x y)) :=
  ⟨"tuple", _, ty_tuple, by decide, typeOf_tuple, by decide +kernel, fc_tuple_le, by decide +kernel, fun A s E Q vs bo ao hh r q => by
    cases r with | cons r rn =>
    cases rn with | cons r' rn =>
    cases rn
    obtain ⟨a, vs, rfl, ha, _, rs⟩ := rp_tuple r
    obtain ⟨b, ws, rfl, hb, _, rs'⟩ := rp_tuple r'
    cases rs with | cons r1 rs =>
    cases rs with | cons r2 rs =>
    cases rs
    cases rs' with | cons r1' rs' =>
    cases rs' with | cons r2' rs' =>
    cases rs'
    obtain ⟨t1, rfl⟩ := rp_int r1; obtain ⟨t2, rfl⟩ := rp_int r2
    obtain ⟨u1, rfl⟩ := rp_int r1'; obtain ⟨u2, rfl⟩ := rp_int r2'
    exact ct_le ha hb (q _ _ (krefl s) fun _ _ => .val _ rfl)⟩
theorem d11_list_le (x y : Int × Int) : Dun B n "__le__" (pairL x) (pairL y) (.bool (opP .LtE x y)) :=
  ⟨"list", _, ty_list, by decide, typeOf_list, by decide +kernel, fc_list_le, by decide +kernel, fun A s E Q vs bo ao hh r q => by
    cases r with | cons r rn =>
    cases rn with | cons r' rn =>
    cases rn
    exact cl_le (by have := ao.units; omega) r r' (q _ _ (krefl s) fun _ _ => .val _ rfl)⟩
theorem d11_int_le (x y : Int) : Dun B n "__le__" (.int x) (.int y) (.bool (opI .LtE x y)) :=
  ⟨"int", _, ty_int, by decide, typeOf_intT, by decide +kernel, fc_intT_le, by decide +kernel, fun A s E Q vs bo ao hh r q => by
    cases r with | cons r rn =>
    cases rn with | cons r' rn =>
    cases rn
    obtain ⟨t, rfl⟩ := rp_int r; obtain ⟨u, rfl⟩ := rp_int r'
    exact cn_le_int_int (q _ _ (krefl s) fun _ _ => .val _ rfl)⟩
theorem d11_str_le {i j : Int} (h0 : 0 ≤ i) (h1 : 0 ≤ j) : Dun B n "__le__" (.str (ltr i)) (.str (ltr j)) (.bool (opI .LtE i j)) :=
  ⟨"str", _, ty_str, by decide, typeOf_str, by decide +kernel, fc_str_le, by decide +kernel, bi_ss_le h0 h1⟩
theorem d11_intN_le {x : Int} {d : D} (h : NonI d) : Dun B n "__le__" (.int x) d .notImplemented :=
  ⟨"int", _, ty_int, by decide, typeOf_intT, by decide +kernel, fc_intT_le, by decide +kernel, bi_int_le_ni h⟩
theorem d11_strN_le {x : Str} {d : D} (h : NonS d) : Dun B n "__le__" (.str x) d .notImplemented :=
  ⟨"str", _, ty_str, by decide, typeOf_str, by decide +kernel, fc_str_le, by decide +kernel, bi_str_le_ni h⟩
theorem d11_tupleN_le {ds : List D} {d : D} {T : String} (ht : Ty d T) (hs : isSubtype (.type T) (.type "tuple") = pure false) : Dun B n "__le__" (.tuple ds) d .notImplemented :=
  ⟨"tuple", _, ty_tuple, by decide, typeOf_tuple, by decide +kernel, fc_tuple_le, by decide +kernel, fun A s E Q vs bo ao hh r q => by
    cases r with | cons r rn =>
    cases rn with | cons r' rn =>
    cases rn
    obtain ⟨a, vs, rfl, ha, _, rs⟩ := rp_tuple r
    exact dct_le (by obtain ⟨o, ho, hc, _⟩ := ha; exact ⟨o, ho, hc⟩) (ht s _ _ r') hs (q _ _ (krefl s) fun _ _ => .val _ rfl)⟩
theorem d11_listN_le {ds : List D} {d : D} {T : String} (ht : Ty d T) (hs : isSubtype (.type T) (.type "list") = pure false) : Dun B n "__le__" (.list ds) d .notImplemented :=
  ⟨"list", _, ty_list, by decide, typeOf_list, by decide +kernel, fc_list_le, by decide +kernel, fun A s E Q vs bo ao hh r q => by
    cases r with | cons r rn =>
    cases rn with | cons r' rn =>
    cases rn
    obtain ⟨a, vs, rfl, ha, _, rs⟩ := rp_list r
    exact dc_list_le ha.typeIs (ht s _ _ r') hs (q _ _ (krefl s) fun _ _ => .val _ rfl)⟩
theorem fc_tuple_gt : findCls [] (.type "tuple") (.type "type") (S "__gt__") = some (.val (.builtin "tuple.__gt__")) := by kernel_rfl
theorem fc_intT_gt : findCls [] (.type "int") (.type "type") (S "__gt__") = some (.val (.builtin "int.__gt__")) := by kernel_rfl
theorem d11_tuple_gt (x y : Int × Int) : Dun B n "__gt__" (pairT x) (pairT y) (.bool (opP .Gt x y)) :=
  ⟨"tuple", _, ty_tuple, by decide, typeOf_tuple, by decide +kernel, fc_tuple_gt, by decide +kernel, fun A s E Q vs bo ao hh r q => by
    cases r with | cons r rn =>
    cases rn with | cons r' rn =>
    cases rn
    obtain ⟨a, vs, rfl, ha, _, rs⟩ := rp_tuple r
    obtain ⟨b, ws, rfl, hb, _, rs'⟩ := rp_tuple r'
    cases rs with | cons r1 rs =>
    cases rs with | cons r2 rs =>
    cases rs
    cases rs' with | cons r1' rs' =>
    cases rs' with | cons r2' rs' =>
    cases rs'
    obtain ⟨t1, rfl⟩ := rp_int r1; obtain ⟨t2, rfl⟩ := rp_int r2
    obtain ⟨u1, rfl⟩ := rp_int r1'; obtain ⟨u2, rfl⟩ := rp_int r2'
    exact ct_gt ha hb (q _ _ (krefl s) fun _ _ => .val _ rfl)⟩
theorem d11_list_gt (x y : Int × Int) : Dun B n "__gt__" (pairL x) (pairL y) (.bool (opP .Gt x y)) :=
  ⟨"list", _, ty_list, by decide, typeOf_list, by decide +kernel, fc_list_gt, by decide +kernel, fun A s E Q vs bo ao hh r q => by
    cases r with | cons r rn =>
    cases rn with | cons r' rn =>
    cases rn
    exact cl_gt (by have := ao.units; omega) r r' (q _ _ (krefl s) fun _ _ => .val _ rfl)⟩
theorem d11_int_gt (x y : Int) : Dun B n "__gt__" (.int x) (.int y) (.bool (opI .Gt x y)) :=
  ⟨"int", _, ty_int, by decide, typeOf_intT, by decide +kernel, fc_intT_gt, by decide +kernel, fun A s E Q vs bo ao hh r q => by
    cases r with | cons r rn =>
    cases rn with | cons r' rn =>
    cases rn
    obtain ⟨t, rfl⟩ := rp_int r; obtain ⟨u, rfl⟩ := rp_int r'
    exact cn_gt_int_int (q _ _ (krefl s) fun _ _ => .val _ rfl)⟩
theorem d11_str_gt {i j : Int} (h0 : 0 ≤ i) (h1 : 0 ≤ j) : Dun B n "__gt__" (.str (ltr i)) (.str (ltr j)) (.bool (opI .Gt i j)) :=
  ⟨"str", _, ty_str, by decide, typeOf_str, by decide +kernel, fc_str_gt, by decide +kernel, bi_ss_gt h0 h1⟩
theorem d11_intN_gt {x : Int} {d : D} (h : NonI d) : Dun B n "__gt__" (.int x) d .notImplemented :=
  ⟨"int", _, ty_int, by decide, typeOf_intT, by decide +kernel, fc_intT_gt, by decide +kernel, bi_int_gt_ni h⟩
theorem d11_strN_gt {x : Str} {d : D} (h : NonS d) : Dun B n "__gt__" (.str x) d .notImplemented :=
  ⟨"str", _, ty_str, by decide, typeOf_str, by decide +kernel, fc_str_gt, by decide +kernel, bi_str_gt_ni h⟩
theorem d11_tupleN_gt {ds : List D} {d : D} {T : String} (ht : Ty d T) (hs : isSubtype (.type T) (.type "tuple") = pure false) : Dun B n "__gt__" (.tuple ds) d .notImplemented :=
  ⟨"tuple", _, ty_tuple, by decide, typeOf_tuple, by decide +kernel, fc_tuple_gt, by decide +kernel, fun A s E Q vs bo ao hh r q => by
    cases r with | cons r rn =>
    cases rn with | cons r' rn =>
    cases rn
    obtain ⟨a, vs, rfl, ha, _, rs⟩ := rp_tuple r
    exact dct_gt (by obtain ⟨o, ho, hc, _⟩ := ha; exact ⟨o, ho, hc⟩) (ht s _ _ r') hs (q _ _ (krefl s) fun _ _ => .val _ rfl)⟩
theorem d11_listN_gt {ds : List D} {d : D} {T : String} (ht : Ty d T) (hs : isSubtype (.type T) (.type "list") = pure false) : Dun B n "__gt__" (.list ds) d .notImplemented :=
  ⟨"list", _, ty_list, by decide, typeOf_list, by decide +kernel, fc_list_gt, by decide +kernel, fun A s E Q vs bo ao hh r q => by
    cases r with | cons r rn =>
    cases rn with | cons r' rn =>
    cases rn
    obtain ⟨a, vs, rfl, ha, _, rs⟩ := rp_list r
    exact dc_list_gt ha.typeIs (ht s _ _ r') hs (q _ _ (krefl s) fun _ _ => .val _ rfl)⟩
theorem fc_tuple_ge : findCls [] (.type "tuple") (.type "type") (S "__ge__") = some (.val (.builtin "tuple.__ge__")) := by kernel_rfl
theorem fc_intT_ge : findCls [] (.type "int") (.type "type") (S "__ge__") = some (.val (.builtin "int.__ge__")) := by kernel_rfl
theorem d11_tuple_ge (x y : Int × Int) : Dun B n "__ge__" (pairT x) (pairT y) (.bool (opP .GtE x y)) :=
  ⟨"tuple", _, ty_tuple, by decide, typeOf_tuple, by decide +kernel, fc_tuple_ge, by decide +kernel, fun A s E Q vs bo ao hh r q => by
    cases r with | cons r rn =>
    cases rn with | cons r' rn =>
    cases rn
    obtain ⟨a, vs, rfl, ha, _, rs⟩ := rp_tuple r
    obtain ⟨b, ws, rfl, hb, _, rs'⟩ := rp_tuple r'
    cases rs with | cons r1 rs =>
    cases rs with | cons r2 rs =>
    cases rs
    cases rs' with | cons r1' rs' =>
    cases rs' with | cons r2' rs' =>
    cases rs'
    obtain ⟨t1, rfl⟩ := rp_int r1; obtain ⟨t2, rfl⟩ := rp_int r2
    obtain ⟨u1, rfl⟩ := rp_int r1'; obtain ⟨u2, rfl⟩ := rp_int r2'
    exact ct_ge ha hb (q _ _ (krefl s) fun _ _ => .val _ rfl)⟩
theorem d11_list_ge (x y : Int × Int) : Dun B n "__ge__" (pairL x) (pairL y) (.bool (opP .GtE x y)) :=
  ⟨"list", _, ty_list, by decide, typeOf_list, by decide +kernel, fc_list_ge, by decide +kernel, fun A s E Q vs bo ao hh r q => by
    cases r with | cons r rn =>
    cases rn with | cons r' rn =>
    cases rn
    exact cl_ge (by have := ao.units; omega) r r' (q _ _ (krefl s) fun _ _ => .val _ rfl)⟩
theorem d11_int_ge (x y : Int) : Dun B n "__ge__" (.int x) (.int y) (.bool (opI .GtE x y)) :=
  ⟨"int", _, ty_int, by decide, typeOf_intT, by decide +kernel, fc_intT_ge, by decide +kernel, fun A s E Q vs bo ao hh r q => by
    cases r with | cons r rn =>
    cases rn with | cons r' rn =>
    cases rn
    obtain ⟨t, rfl⟩ := rp_int r; obtain ⟨u, rfl⟩ := rp_int r'
    exact cn_ge_int_int (q _ _ (krefl s) fun _ _ => .val _ rfl)⟩
theorem d11_str_ge {i j : Int} (h0 : 0 ≤ i) (h1 : 0 ≤ j) : Dun B n "__ge__" (.str (ltr i)) (.str (ltr j)) (.bool (opI .GtE i j)) :=
  ⟨"str", _, ty_str, by decide, typeOf_str, by decide +kernel, fc_str_ge, by decide +kernel, bi_ss_ge h0 h1⟩
theorem d11_intN_ge {x : Int} {d : D} (h : NonI d) : Dun B n "__ge__" (.int x) d .notImplemented :=
  ⟨"int", _, ty_int, by decide, typeOf_intT, by decide +kernel, fc_intT_ge, by decide +kernel, bi_int_ge_ni h⟩
theorem d11_strN_ge {x : Str} {d : D} (h : NonS d) : Dun B n "__ge__" (.str x) d .notImplemented :=
  ⟨"str", _, ty_str, by decide, typeOf_str, by decide +kernel, fc_str_ge, by decide +kernel, bi_str_ge_ni h⟩
theorem d11_tupleN_ge {ds : List D} {d : D} {T : String} (ht : Ty d T) (hs : isSubtype (.type T) (.type "tuple") = pure false) : Dun B n "__ge__" (.tuple ds) d .notImplemented :=
  ⟨"tuple", _, ty_tuple, by decide, typeOf_tuple, by decide +kernel, fc_tuple_ge, by decide +kernel, fun A s E Q vs bo ao hh r q => by
    cases r with | cons r rn =>
    cases rn with | cons r' rn =>
    cases rn
    obtain ⟨a, vs, rfl, ha, _, rs⟩ := rp_tuple r
    exact dct_ge (by obtain ⟨o, ho, hc, _⟩ := ha; exact ⟨o, ho, hc⟩) (ht s _ _ r') hs (q _ _ (krefl s) fun _ _ => .val _ rfl)⟩
theorem d11_listN_ge {ds : List D} {d : D} {T : String} (ht : Ty d T) (hs : isSubtype (.type T) (.type "list") = pure false) : Dun B n "__ge__" (.list ds) d .notImplemented :=
  ⟨"list", _, ty_list, by decide, typeOf_list, by decide +kernel, fc_list_ge, by decide +kernel, fun A s E Q vs bo ao hh r q => by
    cases r with | cons r rn =>
    cases rn with | cons r' rn =>
    cases rn
    obtain ⟨a, vs, rfl, ha, _, rs⟩ := rp_list r
    exact dc_list_ge ha.typeIs (ht s _ _ r') hs (q _ _ (krefl s) fun _ _ => .val _ rfl)⟩
end
theorem sb_int_tuple : isSubtype (.type "int") (.type "tuple") = pure false := by rw [isSubtype_type]; kernel_rfl
theorem sb_str_tuple : isSubtype (.type "str") (.type "tuple") = pure false := by rw [isSubtype_type]; kernel_rfl
theorem sb_list_tuple : isSubtype (.type "list") (.type "tuple") = pure false := by rw [isSubtype_type]; kernel_rfl
theorem sb_tuple_list : isSubtype (.type "tuple") (.type "list") = pure false := by rw [isSubtype_type]; kernel_rfl

abbrev pw := PySem.Challenge.pw_dm0115_11
local macro_rules | `(tactic| walk_at "lk") => `(tactic| rfl)
local macro_rules | `(tactic| walk_at "gk") => `(tactic| first | exact FEnv.glob (by assumption) (by decide +kernel) | exact CEnv.glob (by assumption) _ (by decide +kernel))
local macro_rules | `(tactic| walk_at "st") => `(tactic| first | exact FEnv.sl (by assumption) (by decide +kernel) | exact FEnv.sc (by assumption) (by decide +kernel) | exact CEnv.sl (by assumption) (by decide +kernel))
local macro_rules | `(tactic| walk_at "ty") => `(tactic| first | exact ty_int | exact ty_bool | exact ty_list | exact ty_tuple | exact ty_str)
local macro_rules | `(tactic| walk_at "w") => `(tactic| first | ((with_reducible show EvW _ _ _ _ (Expr.Name _ _) _); exact Ev.weak (ev_name (by walk_at "lk"))) | ((with_reducible show EvW _ _ _ _ (Expr.Name _ _) _); exact evw_own (by walk_at "lk")) | exact Ev.weak (by walk_at "ev"))
local macro_rules | `(tactic| walk_at "aw") => `(tactic| first | ((with_reducible show EvAsW _ _ _ _ [] _); exact evasw_nil) | exact evasw_cons (by walk_at "w") (by walk_at "aw"))
local macro_rules | `(tactic| walk_at "as") => `(tactic| first | ((with_reducible show EvAs _ _ _ _ [] _); exact evas_nil) | exact evas_cons (by walk_at "ev") (by walk_at "as"))
local macro_rules | `(tactic| walk_at "ar") => `(tactic| first | assumption | decide | omega | (simp; done) | (simp; omega))
local macro_rules | `(tactic| walk_at "n") => `(tactic| first | ((with_reducible show EvN _ _ _ _ (Expr.List _ _) _); exact evn_list (by walk_at "as") (by walk_at "ar")) | ((with_reducible show EvN _ _ _ _ (Expr.BinOp _ Operator.Add _ _) _); exact evn_add (by walk_at "ev") (by walk_at "ev") (by walk_at "ar")))
local macro_rules | `(tactic| walk_at "tr") => `(tactic| first | exact tru_bool | exact tru_int)
local macro_rules | `(tactic| walk_at "t") => `(tactic| first | ((with_reducible show Tst _ _ _ _ (Expr.Compare _ [_] [_] _) _); exact tst_cmp (by walk_at "w") (by walk_at "w") (by walk_at "cmp")) | ((with_reducible show Tst _ _ _ _ (Expr.UnaryOp UnaryOp.Not _ _) _); exact tst_not (by walk_at "t")) | exact tst_ev (by walk_at "w") (by walk_at "tr"))
local macro_rules | `(tactic| walk_at "cmp") => `(tactic| first | ((with_reducible show Cmp _ _ CmpOp.Eq _ _ _); exact cmp_eq) | ((with_reducible show Cmp _ _ CmpOp.NotEq _ _ _); exact cmp_ne) | ((with_reducible show Cmp _ _ CmpOp.Lt _ _ _); exact cmp_lt) | ((with_reducible show Cmp _ _ CmpOp.LtE _ _ _); exact cmp_le) | ((with_reducible show Cmp _ _ CmpOp.Gt _ _ _); exact cmp_gt) | ((with_reducible show Cmp _ _ CmpOp.GtE _ _ _); exact cmp_ge) | ((with_reducible show Cmp _ _ CmpOp.Is _ _ _); exact cmp_is_bool_ni) | ((with_reducible show Cmp _ _ CmpOp.Is _ _ _); exact cmp_is_ni_ni))
local macro_rules | `(tactic| walk_at "ev") => `(tactic| first
  | ((with_reducible show Ev _ _ _ _ (Expr.Constant (Const.int _) _ _) _); exact ev_int)
  | ((with_reducible show Ev _ _ _ _ (Expr.Constant (Const.bool _) _ _) _); exact ev_bool)
  | ((with_reducible show Ev _ _ _ _ (Expr.Constant Const.none _ _) _); exact ev_none)
  | ((with_reducible show Ev _ _ _ _ (Expr.Constant (Const.str _) _ _) _); exact ev_str)
  | ((with_reducible show Ev _ _ _ _ (Expr.Name (S "NotImplemented") _) _); exact ev_ni (by assumption) (by walk_at "gk"))
  | ((with_reducible show Ev _ _ _ _ (Expr.Name _ _) _); exact ev_name (by walk_at "lk"))
  | ((with_reducible show Ev _ _ _ _ (Expr.Call (Expr.Name (S "type") _) _ _ _) _); exact ev_type (by assumption) (by walk_at "gk") (by walk_at "w") (by walk_at "ty"))
  | ((with_reducible show Ev _ _ _ _ (Expr.Call (Expr.Name (S "len") _) _ _ _) _); exact ev_len (by assumption) (by walk_at "gk") (by walk_at "w") (by walk_at "ar"))
  | ((with_reducible show Ev _ _ _ _ (Expr.Call (Expr.Name (S "abs") _) _ _ _) _); exact ev_abs (by assumption) (by walk_at "gk") (by walk_at "w"))
  | ((with_reducible show Ev _ _ _ _ (Expr.Call (Expr.Name (S "range") _) [_] _ _) _); exact ev_rng1 (by assumption) (by walk_at "gk") (by walk_at "w"))
  | ((with_reducible show Ev _ _ _ _ (Expr.Call (Expr.Name (S "range") _) [_, _] _ _) _); exact ev_rng2 (by assumption) (by walk_at "gk") (by walk_at "w") (by walk_at "w"))
  | ((with_reducible show Ev _ _ _ _ (Expr.Call (Expr.Name (S "min") _) [_, _] _ _) _); exact ev_min2 (by assumption) (by walk_at "gk") (by walk_at "w") (by walk_at "w"))
  | ((with_reducible show Ev _ _ _ _ (Expr.Call (Expr.Name (S "max") _) [_, _] _ _) _); exact ev_max2 (by assumption) (by walk_at "gk") (by walk_at "w") (by walk_at "w"))
  | ((with_reducible show Ev _ _ _ _ (Expr.UnaryOp UnaryOp.USub _ _) _); exact ev_neg (by walk_at "w"))
  | ((with_reducible show Ev _ _ _ _ (Expr.UnaryOp UnaryOp.Not _ _) _); exact ev_not (by walk_at "w") (by walk_at "tr"))
  | ((with_reducible show Ev _ _ _ _ (Expr.BinOp _ Operator.Add _ _) _); exact ev_bin (by walk_at "w") (by walk_at "w") bin_add)
  | ((with_reducible show Ev _ _ _ _ (Expr.BinOp _ Operator.Sub _ _) _); exact ev_bin (by walk_at "w") (by walk_at "w") bin_sub)
  | ((with_reducible show Ev _ _ _ _ (Expr.BinOp _ Operator.BitAnd _ _) _); exact ev_bin (by walk_at "w") (by walk_at "w") bin_and)
  | ((with_reducible show Ev _ _ _ _ (Expr.BinOp _ Operator.FloorDiv _ _) _); exact ev_bin (by walk_at "w") (by walk_at "w") (bin_div (by walk_at "ar") (by walk_at "ar")))
  | ((with_reducible show Ev _ _ _ _ (Expr.UnaryOp UnaryOp.Invert _ _) _); exact ev_inv (by walk_at "w"))
  | ((with_reducible show Ev _ _ _ _ (Expr.BinOp _ Operator.Mod _ _) _); exact ev_bin (by walk_at "w") (by walk_at "w") (bin_mod (by walk_at "ar")))
  | ((with_reducible show Ev _ _ _ _ (Expr.BinOp _ Operator.RShift _ _) _); exact ev_bin (by walk_at "w") (by walk_at "w") (bin_shr (by walk_at "ar")))
  | ((with_reducible show Ev _ _ _ _ (Expr.BinOp _ Operator.Pow _ _) _); exact ev_bin (by walk_at "w") (by walk_at "w") (bin_pow (by walk_at "ar") (by walk_at "ar") (by walk_at "ar")))
  | ((with_reducible show Ev _ _ _ _ (Expr.Compare _ [_] [_] _) _); exact ev_cmp (by walk_at "w") (by walk_at "w") (by walk_at "cmp"))
  | ((with_reducible show Ev _ _ _ _ (Expr.Tuple _ _ _) _); exact ev_tuple (by walk_at "as") (by walk_at "ar"))
  | exact EvN.ev (by walk_at "n"))
theorem made_gt_lt {B : Bas} (fr : Free B) {n : Nat} {a : Addr} (F : HasDef B "_gt_from_lt" a (defAt pw 1)) {dS dO : D} {t u : Bool} (x : Dun B n "__lt__" dS dO (.bool t)) (c : Cmp B n .NotEq dS dO u) : FnS B (n + 1) a [dS, dO] (.bool (!t && u)) := by
  refine fns_of (xs := ["self", "other"]) F.fn rfl (fun pm cd doc vs hvs => ?_) rfl (by decide) (by decide +kernel) fun env fe => ?_
  · match vs, hvs with
    | [v, w], _ => rfl
  · show Ex B n env [("self", .val dS), ("other", .val dO)] _ _
    refine ex_cons (ex_assign (d := .val (.bool t)) (by walk_at "st") (ev_dun fr (by walk_at "gk") rfl rfl x) ?_ (by rfl))
    refine ex_cons (ex_if (t := false) (tst_cmp (by walk_at "w") (by walk_at "w") cmp_is_bool_ni) (fun h => nomatch h) fun _ => ex_nil ?_)
    refine ex_cons (ex_return (Ev.ret (ev_and (ev_not (by walk_at "w") tru_bool) fun _ => ev_cmp (by walk_at "w") (by walk_at "w") c)) ?_)
    rfl
theorem made_gt_lt_ni {B : Bas} (fr : Free B) {n : Nat} {a : Addr} (F : HasDef B "_gt_from_lt" a (defAt pw 1)) {dS dO : D} (x : Dun B n "__lt__" dS dO .notImplemented) : FnS B (n + 1) a [dS, dO] (.val .notImplemented) := by
  refine fns_of (xs := ["self", "other"]) F.fn rfl (fun pm cd doc vs hvs => ?_) rfl (by decide) (by decide +kernel) fun env fe => ?_
  · match vs, hvs with
    | [v, w], _ => rfl
  · show Ex B n env [("self", .val dS), ("other", .val dO)] _ _
    refine ex_cons (ex_assign (d := .val .notImplemented) (by walk_at "st") (ev_dun fr (by walk_at "gk") rfl rfl x) ?_ (by rfl))
    refine ex_cons (ex_if (t := true) (tst_cmp (by walk_at "w") (by walk_at "w") cmp_is_ni_ni) (fun _ => ex_cons (ex_return (Ev.ret (by walk_at "ev")) ?_)) fun h => nomatch h)
    rfl
theorem made_le_lt {B : Bas} (fr : Free B) {n : Nat} {a : Addr} (F : HasDef B "_le_from_lt" a (defAt pw 2)) {dS dO : D} {t u : Bool} (x : Dun B n "__lt__" dS dO (.bool t)) (c : Cmp B n .Eq dS dO u) : FnS B (n + 1) a [dS, dO] (.bool (t || u)) := by
  refine fns_of (xs := ["self", "other"]) F.fn rfl (fun pm cd doc vs hvs => ?_) rfl (by decide) (by decide +kernel) fun env fe => ?_
  · match vs, hvs with
    | [v, w], _ => rfl
  · show Ex B n env [("self", .val dS), ("other", .val dO)] _ _
    refine ex_cons (ex_assign (d := .val (.bool t)) (by walk_at "st") (ev_dun fr (by walk_at "gk") rfl rfl x) ?_ (by rfl))
    refine ex_cons (ex_if (t := false) (tst_cmp (by walk_at "w") (by walk_at "w") cmp_is_bool_ni) (fun h => nomatch h) fun _ => ex_nil ?_)
    refine ex_cons (ex_return (Ev.ret (ev_or (by walk_at "ev") fun _ => ev_cmp (by walk_at "w") (by walk_at "w") c)) ?_)
    rfl
theorem made_le_lt_ni {B : Bas} (fr : Free B) {n : Nat} {a : Addr} (F : HasDef B "_le_from_lt" a (defAt pw 2)) {dS dO : D} (x : Dun B n "__lt__" dS dO .notImplemented) : FnS B (n + 1) a [dS, dO] (.val .notImplemented) := by
  refine fns_of (xs := ["self", "other"]) F.fn rfl (fun pm cd doc vs hvs => ?_) rfl (by decide) (by decide +kernel) fun env fe => ?_
  · match vs, hvs with
    | [v, w], _ => rfl
  · show Ex B n env [("self", .val dS), ("other", .val dO)] _ _
    refine ex_cons (ex_assign (d := .val .notImplemented) (by walk_at "st") (ev_dun fr (by walk_at "gk") rfl rfl x) ?_ (by rfl))
    refine ex_cons (ex_if (t := true) (tst_cmp (by walk_at "w") (by walk_at "w") cmp_is_ni_ni) (fun _ => ex_cons (ex_return (Ev.ret (by walk_at "ev")) ?_)) fun h => nomatch h)
    rfl
theorem made_ge_lt {B : Bas} (fr : Free B) {n : Nat} {a : Addr} (F : HasDef B "_ge_from_lt" a (defAt pw 3)) {dS dO : D} {t : Bool} (x : Dun B n "__lt__" dS dO (.bool t)) : FnS B (n + 1) a [dS, dO] (.bool (!t)) := by
  refine fns_of (xs := ["self", "other"]) F.fn rfl (fun pm cd doc vs hvs => ?_) rfl (by decide) (by decide +kernel) fun env fe => ?_
  · match vs, hvs with
    | [v, w], _ => rfl
  · show Ex B n env [("self", .val dS), ("other", .val dO)] _ _
    refine ex_cons (ex_assign (d := .val (.bool t)) (by walk_at "st") (ev_dun fr (by walk_at "gk") rfl rfl x) ?_ (by rfl))
    refine ex_cons (ex_if (t := false) (tst_cmp (by walk_at "w") (by walk_at "w") cmp_is_bool_ni) (fun h => nomatch h) fun _ => ex_nil ?_)
    refine ex_cons (ex_return (Ev.ret (ev_not (by walk_at "w") tru_bool)) ?_)
    rfl
theorem made_ge_lt_ni {B : Bas} (fr : Free B) {n : Nat} {a : Addr} (F : HasDef B "_ge_from_lt" a (defAt pw 3)) {dS dO : D} (x : Dun B n "__lt__" dS dO .notImplemented) : FnS B (n + 1) a [dS, dO] (.val .notImplemented) := by
  refine fns_of (xs := ["self", "other"]) F.fn rfl (fun pm cd doc vs hvs => ?_) rfl (by decide) (by decide +kernel) fun env fe => ?_
  · match vs, hvs with
    | [v, w], _ => rfl
  · show Ex B n env [("self", .val dS), ("other", .val dO)] _ _
    refine ex_cons (ex_assign (d := .val .notImplemented) (by walk_at "st") (ev_dun fr (by walk_at "gk") rfl rfl x) ?_ (by rfl))
    refine ex_cons (ex_if (t := true) (tst_cmp (by walk_at "w") (by walk_at "w") cmp_is_ni_ni) (fun _ => ex_cons (ex_return (Ev.ret (by walk_at "ev")) ?_)) fun h => nomatch h)
    rfl
theorem made_ge_le {B : Bas} (fr : Free B) {n : Nat} {a : Addr} (F : HasDef B "_ge_from_le" a (defAt pw 4)) {dS dO : D} {t u : Bool} (x : Dun B n "__le__" dS dO (.bool t)) (c : Cmp B n .Eq dS dO u) : FnS B (n + 1) a [dS, dO] (.bool (!t || u)) := by
  refine fns_of (xs := ["self", "other"]) F.fn rfl (fun pm cd doc vs hvs => ?_) rfl (by decide) (by decide +kernel) fun env fe => ?_
  · match vs, hvs with
    | [v, w], _ => rfl
  · show Ex B n env [("self", .val dS), ("other", .val dO)] _ _
    refine ex_cons (ex_assign (d := .val (.bool t)) (by walk_at "st") (ev_dun fr (by walk_at "gk") rfl rfl x) ?_ (by rfl))
    refine ex_cons (ex_if (t := false) (tst_cmp (by walk_at "w") (by walk_at "w") cmp_is_bool_ni) (fun h => nomatch h) fun _ => ex_nil ?_)
    refine ex_cons (ex_return (Ev.ret (ev_or (ev_not (by walk_at "w") tru_bool) fun _ => ev_cmp (by walk_at "w") (by walk_at "w") c)) ?_)
    rfl
theorem made_ge_le_ni {B : Bas} (fr : Free B) {n : Nat} {a : Addr} (F : HasDef B "_ge_from_le" a (defAt pw 4)) {dS dO : D} (x : Dun B n "__le__" dS dO .notImplemented) : FnS B (n + 1) a [dS, dO] (.val .notImplemented) := by
  refine fns_of (xs := ["self", "other"]) F.fn rfl (fun pm cd doc vs hvs => ?_) rfl (by decide) (by decide +kernel) fun env fe => ?_
  · match vs, hvs with
    | [v, w], _ => rfl
  · show Ex B n env [("self", .val dS), ("other", .val dO)] _ _
    refine ex_cons (ex_assign (d := .val .notImplemented) (by walk_at "st") (ev_dun fr (by walk_at "gk") rfl rfl x) ?_ (by rfl))
    refine ex_cons (ex_if (t := true) (tst_cmp (by walk_at "w") (by walk_at "w") cmp_is_ni_ni) (fun _ => ex_cons (ex_return (Ev.ret (by walk_at "ev")) ?_)) fun h => nomatch h)
    rfl
theorem made_lt_le {B : Bas} (fr : Free B) {n : Nat} {a : Addr} (F : HasDef B "_lt_from_le" a (defAt pw 5)) {dS dO : D} {t u : Bool} (x : Dun B n "__le__" dS dO (.bool t)) (c : Cmp B n .NotEq dS dO u) : FnS B (n + 1) a [dS, dO] (.bool (t && u)) := by
  refine fns_of (xs := ["self", "other"]) F.fn rfl (fun pm cd doc vs hvs => ?_) rfl (by decide) (by decide +kernel) fun env fe => ?_
  · match vs, hvs with
    | [v, w], _ => rfl
  · show Ex B n env [("self", .val dS), ("other", .val dO)] _ _
    refine ex_cons (ex_assign (d := .val (.bool t)) (by walk_at "st") (ev_dun fr (by walk_at "gk") rfl rfl x) ?_ (by rfl))
    refine ex_cons (ex_if (t := false) (tst_cmp (by walk_at "w") (by walk_at "w") cmp_is_bool_ni) (fun h => nomatch h) fun _ => ex_nil ?_)
    refine ex_cons (ex_return (Ev.ret (ev_and (by walk_at "ev") fun _ => ev_cmp (by walk_at "w") (by walk_at "w") c)) ?_)
    rfl
theorem made_lt_le_ni {B : Bas} (fr : Free B) {n : Nat} {a : Addr} (F : HasDef B "_lt_from_le" a (defAt pw 5)) {dS dO : D} (x : Dun B n "__le__" dS dO .notImplemented) : FnS B (n + 1) a [dS, dO] (.val .notImplemented) := by
  refine fns_of (xs := ["self", "other"]) F.fn rfl (fun pm cd doc vs hvs => ?_) rfl (by decide) (by decide +kernel) fun env fe => ?_
  · match vs, hvs with
    | [v, w], _ => rfl
  · show Ex B n env [("self", .val dS), ("other", .val dO)] _ _
    refine ex_cons (ex_assign (d := .val .notImplemented) (by walk_at "st") (ev_dun fr (by walk_at "gk") rfl rfl x) ?_ (by rfl))
    refine ex_cons (ex_if (t := true) (tst_cmp (by walk_at "w") (by walk_at "w") cmp_is_ni_ni) (fun _ => ex_cons (ex_return (Ev.ret (by walk_at "ev")) ?_)) fun h => nomatch h)
    rfl
theorem made_gt_le {B : Bas} (fr : Free B) {n : Nat} {a : Addr} (F : HasDef B "_gt_from_le" a (defAt pw 6)) {dS dO : D} {t : Bool} (x : Dun B n "__le__" dS dO (.bool t)) : FnS B (n + 1) a [dS, dO] (.bool (!t)) := by
  refine fns_of (xs := ["self", "other"]) F.fn rfl (fun pm cd doc vs hvs => ?_) rfl (by decide) (by decide +kernel) fun env fe => ?_
  · match vs, hvs with
    | [v, w], _ => rfl
  · show Ex B n env [("self", .val dS), ("other", .val dO)] _ _
    refine ex_cons (ex_assign (d := .val (.bool t)) (by walk_at "st") (ev_dun fr (by walk_at "gk") rfl rfl x) ?_ (by rfl))
    refine ex_cons (ex_if (t := false) (tst_cmp (by walk_at "w") (by walk_at "w") cmp_is_bool_ni) (fun h => nomatch h) fun _ => ex_nil ?_)
    refine ex_cons (ex_return (Ev.ret (ev_not (by walk_at "w") tru_bool)) ?_)
    rfl
theorem made_gt_le_ni {B : Bas} (fr : Free B) {n : Nat} {a : Addr} (F : HasDef B "_gt_from_le" a (defAt pw 6)) {dS dO : D} (x : Dun B n "__le__" dS dO .notImplemented) : FnS B (n + 1) a [dS, dO] (.val .notImplemented) := by
  refine fns_of (xs := ["self", "other"]) F.fn rfl (fun pm cd doc vs hvs => ?_) rfl (by decide) (by decide +kernel) fun env fe => ?_
  · match vs, hvs with
    | [v, w], _ => rfl
  · show Ex B n env [("self", .val dS), ("other", .val dO)] _ _
    refine ex_cons (ex_assign (d := .val .notImplemented) (by walk_at "st") (ev_dun fr (by walk_at "gk") rfl rfl x) ?_ (by rfl))
    refine ex_cons (ex_if (t := true) (tst_cmp (by walk_at "w") (by walk_at "w") cmp_is_ni_ni) (fun _ => ex_cons (ex_return (Ev.ret (by walk_at "ev")) ?_)) fun h => nomatch h)
    rfl
theorem made_lt_gt {B : Bas} (fr : Free B) {n : Nat} {a : Addr} (F : HasDef B "_lt_from_gt" a (defAt pw 7)) {dS dO : D} {t u : Bool} (x : Dun B n "__gt__" dS dO (.bool t)) (c : Cmp B n .NotEq dS dO u) : FnS B (n + 1) a [dS, dO] (.bool (!t && u)) := by
  refine fns_of (xs := ["self", "other"]) F.fn rfl (fun pm cd doc vs hvs => ?_) rfl (by decide) (by decide +kernel) fun env fe => ?_
  · match vs, hvs with
    | [v, w], _ => rfl
  · show Ex B n env [("self", .val dS), ("other", .val dO)] _ _
    refine ex_cons (ex_assign (d := .val (.bool t)) (by walk_at "st") (ev_dun fr (by walk_at "gk") rfl rfl x) ?_ (by rfl))
    refine ex_cons (ex_if (t := false) (tst_cmp (by walk_at "w") (by walk_at "w") cmp_is_bool_ni) (fun h => nomatch h) fun _ => ex_nil ?_)
    refine ex_cons (ex_return (Ev.ret (ev_and (ev_not (by walk_at "w") tru_bool) fun _ => ev_cmp (by walk_at "w") (by walk_at "w") c)) ?_)
    rfl
theorem made_lt_gt_ni {B : Bas} (fr : Free B) {n : Nat} {a : Addr} (F : HasDef B "_lt_from_gt" a (defAt pw 7)) {dS dO : D} (x : Dun B n "__gt__" dS dO .notImplemented) : FnS B (n + 1) a [dS, dO] (.val .notImplemented) := by
  refine fns_of (xs := ["self", "other"]) F.fn rfl (fun pm cd doc vs hvs => ?_) rfl (by decide) (by decide +kernel) fun env fe => ?_
  · match vs, hvs with
    | [v, w], _ => rfl
  · show Ex B n env [("self", .val dS), ("other", .val dO)] _ _
    refine ex_cons (ex_assign (d := .val .notImplemented) (by walk_at "st") (ev_dun fr (by walk_at "gk") rfl rfl x) ?_ (by rfl))
    refine ex_cons (ex_if (t := true) (tst_cmp (by walk_at "w") (by walk_at "w") cmp_is_ni_ni) (fun _ => ex_cons (ex_return (Ev.ret (by walk_at "ev")) ?_)) fun h => nomatch h)
    rfl
theorem made_ge_gt {B : Bas} (fr : Free B) {n : Nat} {a : Addr} (F : HasDef B "_ge_from_gt" a (defAt pw 8)) {dS dO : D} {t u : Bool} (x : Dun B n "__gt__" dS dO (.bool t)) (c : Cmp B n .Eq dS dO u) : FnS B (n + 1) a [dS, dO] (.bool (t || u)) := by
  refine fns_of (xs := ["self", "other"]) F.fn rfl (fun pm cd doc vs hvs => ?_) rfl (by decide) (by decide +kernel) fun env fe => ?_
  · match vs, hvs with
    | [v, w], _ => rfl
  · show Ex B n env [("self", .val dS), ("other", .val dO)] _ _
    refine ex_cons (ex_assign (d := .val (.bool t)) (by walk_at "st") (ev_dun fr (by walk_at "gk") rfl rfl x) ?_ (by rfl))
    refine ex_cons (ex_if (t := false) (tst_cmp (by walk_at "w") (by walk_at "w") cmp_is_bool_ni) (fun h => nomatch h) fun _ => ex_nil ?_)
    refine ex_cons (ex_return (Ev.ret (ev_or (by walk_at "ev") fun _ => ev_cmp (by walk_at "w") (by walk_at "w") c)) ?_)
    rfl
theorem made_ge_gt_ni {B : Bas} (fr : Free B) {n : Nat} {a : Addr} (F : HasDef B "_ge_from_gt" a (defAt pw 8)) {dS dO : D} (x : Dun B n "__gt__" dS dO .notImplemented) : FnS B (n + 1) a [dS, dO] (.val .notImplemented) := by
  refine fns_of (xs := ["self", "other"]) F.fn rfl (fun pm cd doc vs hvs => ?_) rfl (by decide) (by decide +kernel) fun env fe => ?_
  · match vs, hvs with
    | [v, w], _ => rfl
  · show Ex B n env [("self", .val dS), ("other", .val dO)] _ _
    refine ex_cons (ex_assign (d := .val .notImplemented) (by walk_at "st") (ev_dun fr (by walk_at "gk") rfl rfl x) ?_ (by rfl))
    refine ex_cons (ex_if (t := true) (tst_cmp (by walk_at "w") (by walk_at "w") cmp_is_ni_ni) (fun _ => ex_cons (ex_return (Ev.ret (by walk_at "ev")) ?_)) fun h => nomatch h)
    rfl
theorem made_le_gt {B : Bas} (fr : Free B) {n : Nat} {a : Addr} (F : HasDef B "_le_from_gt" a (defAt pw 9)) {dS dO : D} {t : Bool} (x : Dun B n "__gt__" dS dO (.bool t)) : FnS B (n + 1) a [dS, dO] (.bool (!t)) := by
  refine fns_of (xs := ["self", "other"]) F.fn rfl (fun pm cd doc vs hvs => ?_) rfl (by decide) (by decide +kernel) fun env fe => ?_
  · match vs, hvs with
    | [v, w], _ => rfl
  · show Ex B n env [("self", .val dS), ("other", .val dO)] _ _
    refine ex_cons (ex_assign (d := .val (.bool t)) (by walk_at "st") (ev_dun fr (by walk_at "gk") rfl rfl x) ?_ (by rfl))
    refine ex_cons (ex_if (t := false) (tst_cmp (by walk_at "w") (by walk_at "w") cmp_is_bool_ni) (fun h => nomatch h) fun _ => ex_nil ?_)
    refine ex_cons (ex_return (Ev.ret (ev_not (by walk_at "w") tru_bool)) ?_)
    rfl
theorem made_le_gt_ni {B : Bas} (fr : Free B) {n : Nat} {a : Addr} (F : HasDef B "_le_from_gt" a (defAt pw 9)) {dS dO : D} (x : Dun B n "__gt__" dS dO .notImplemented) : FnS B (n + 1) a [dS, dO] (.val .notImplemented) := by
  refine fns_of (xs := ["self", "other"]) F.fn rfl (fun pm cd doc vs hvs => ?_) rfl (by decide) (by decide +kernel) fun env fe => ?_
  · match vs, hvs with
    | [v, w], _ => rfl
  · show Ex B n env [("self", .val dS), ("other", .val dO)] _ _
    refine ex_cons (ex_assign (d := .val .notImplemented) (by walk_at "st") (ev_dun fr (by walk_at "gk") rfl rfl x) ?_ (by rfl))
    refine ex_cons (ex_if (t := true) (tst_cmp (by walk_at "w") (by walk_at "w") cmp_is_ni_ni) (fun _ => ex_cons (ex_return (Ev.ret (by walk_at "ev")) ?_)) fun h => nomatch h)
    rfl
theorem made_le_ge {B : Bas} (fr : Free B) {n : Nat} {a : Addr} (F : HasDef B "_le_from_ge" a (defAt pw 10)) {dS dO : D} {t u : Bool} (x : Dun B n "__ge__" dS dO (.bool t)) (c : Cmp B n .Eq dS dO u) : FnS B (n + 1) a [dS, dO] (.bool (!t || u)) := by
  refine fns_of (xs := ["self", "other"]) F.fn rfl (fun pm cd doc vs hvs => ?_) rfl (by decide) (by decide +kernel) fun env fe => ?_
  · match vs, hvs with
    | [v, w], _ => rfl
  · show Ex B n env [("self", .val dS), ("other", .val dO)] _ _
    refine ex_cons (ex_assign (d := .val (.bool t)) (by walk_at "st") (ev_dun fr (by walk_at "gk") rfl rfl x) ?_ (by rfl))
    refine ex_cons (ex_if (t := false) (tst_cmp (by walk_at "w") (by walk_at "w") cmp_is_bool_ni) (fun h => nomatch h) fun _ => ex_nil ?_)
    refine ex_cons (ex_return (Ev.ret (ev_or (ev_not (by walk_at "w") tru_bool) fun _ => ev_cmp (by walk_at "w") (by walk_at "w") c)) ?_)
    rfl
theorem made_le_ge_ni {B : Bas} (fr : Free B) {n : Nat} {a : Addr} (F : HasDef B "_le_from_ge" a (defAt pw 10)) {dS dO : D} (x : Dun B n "__ge__" dS dO .notImplemented) : FnS B (n + 1) a [dS, dO] (.val .notImplemented) := by
  refine fns_of (xs := ["self", "other"]) F.fn rfl (fun pm cd doc vs hvs => ?_) rfl (by decide) (by decide +kernel) fun env fe => ?_
  · match vs, hvs with
    | [v, w], _ => rfl
  · show Ex B n env [("self", .val dS), ("other", .val dO)] _ _
    refine ex_cons (ex_assign (d := .val .notImplemented) (by walk_at "st") (ev_dun fr (by walk_at "gk") rfl rfl x) ?_ (by rfl))
    refine ex_cons (ex_if (t := true) (tst_cmp (by walk_at "w") (by walk_at "w") cmp_is_ni_ni) (fun _ => ex_cons (ex_return (Ev.ret (by walk_at "ev")) ?_)) fun h => nomatch h)
    rfl
theorem made_gt_ge {B : Bas} (fr : Free B) {n : Nat} {a : Addr} (F : HasDef B "_gt_from_ge" a (defAt pw 11)) {dS dO : D} {t u : Bool} (x : Dun B n "__ge__" dS dO (.bool t)) (c : Cmp B n .NotEq dS dO u) : FnS B (n + 1) a [dS, dO] (.bool (t && u)) := by
  refine fns_of (xs := ["self", "other"]) F.fn rfl (fun pm cd doc vs hvs => ?_) rfl (by decide) (by decide +kernel) fun env fe => ?_
  · match vs, hvs with
    | [v, w], _ => rfl
  · show Ex B n env [("self", .val dS), ("other", .val dO)] _ _
    refine ex_cons (ex_assign (d := .val (.bool t)) (by walk_at "st") (ev_dun fr (by walk_at "gk") rfl rfl x) ?_ (by rfl))
    refine ex_cons (ex_if (t := false) (tst_cmp (by walk_at "w") (by walk_at "w") cmp_is_bool_ni) (fun h => nomatch h) fun _ => ex_nil ?_)
    refine ex_cons (ex_return (Ev.ret (ev_and (by walk_at "ev") fun _ => ev_cmp (by walk_at "w") (by walk_at "w") c)) ?_)
    rfl
theorem made_gt_ge_ni {B : Bas} (fr : Free B) {n : Nat} {a : Addr} (F : HasDef B "_gt_from_ge" a (defAt pw 11)) {dS dO : D} (x : Dun B n "__ge__" dS dO .notImplemented) : FnS B (n + 1) a [dS, dO] (.val .notImplemented) := by
  refine fns_of (xs := ["self", "other"]) F.fn rfl (fun pm cd doc vs hvs => ?_) rfl (by decide) (by decide +kernel) fun env fe => ?_
  · match vs, hvs with
    | [v, w], _ => rfl
  · show Ex B n env [("self", .val dS), ("other", .val dO)] _ _
    refine ex_cons (ex_assign (d := .val .notImplemented) (by walk_at "st") (ev_dun fr (by walk_at "gk") rfl rfl x) ?_ (by rfl))
    refine ex_cons (ex_if (t := true) (tst_cmp (by walk_at "w") (by walk_at "w") cmp_is_ni_ni) (fun _ => ex_cons (ex_return (Ev.ret (by walk_at "ev")) ?_)) fun h => nomatch h)
    rfl
theorem made_lt_ge {B : Bas} (fr : Free B) {n : Nat} {a : Addr} (F : HasDef B "_lt_from_ge" a (defAt pw 12)) {dS dO : D} {t : Bool} (x : Dun B n "__ge__" dS dO (.bool t)) : FnS B (n + 1) a [dS, dO] (.bool (!t)) := by
  refine fns_of (xs := ["self", "other"]) F.fn rfl (fun pm cd doc vs hvs => ?_) rfl (by decide) (by decide +kernel) fun env fe => ?_
  · match vs, hvs with
    | [v, w], _ => rfl
  · show Ex B n env [("self", .val dS), ("other", .val dO)] _ _
    refine ex_cons (ex_assign (d := .val (.bool t)) (by walk_at "st") (ev_dun fr (by walk_at "gk") rfl rfl x) ?_ (by rfl))
    refine ex_cons (ex_if (t := false) (tst_cmp (by walk_at "w") (by walk_at "w") cmp_is_bool_ni) (fun h => nomatch h) fun _ => ex_nil ?_)
    refine ex_cons (ex_return (Ev.ret (ev_not (by walk_at "w") tru_bool)) ?_)
    rfl
theorem made_lt_ge_ni {B : Bas} (fr : Free B) {n : Nat} {a : Addr} (F : HasDef B "_lt_from_ge" a (defAt pw 12)) {dS dO : D} (x : Dun B n "__ge__" dS dO .notImplemented) : FnS B (n + 1) a [dS, dO] (.val .notImplemented) := by
  refine fns_of (xs := ["self", "other"]) F.fn rfl (fun pm cd doc vs hvs => ?_) rfl (by decide) (by decide +kernel) fun env fe => ?_
  · match vs, hvs with
    | [v, w], _ => rfl
  · show Ex B n env [("self", .val dS), ("other", .val dO)] _ _
    refine ex_cons (ex_assign (d := .val .notImplemented) (by walk_at "st") (ev_dun fr (by walk_at "gk") rfl rfl x) ?_ (by rfl))
    refine ex_cons (ex_if (t := true) (tst_cmp (by walk_at "w") (by walk_at "w") cmp_is_ni_ni) (fun _ => ex_cons (ex_return (Ev.ret (by walk_at "ev")) ?_)) fun h => nomatch h)
    rfl
/-- the twelve, by their addresses -/
structure Twelve (B : Bas) (a1 a2 a3 a4 a5 a6 a7 a8 a9 a10 a11 a12 : Addr) : Prop where
  f1 : HasDef B "_gt_from_lt" a1 (defAt pw 1)
  f2 : HasDef B "_le_from_lt" a2 (defAt pw 2)
  f3 : HasDef B "_ge_from_lt" a3 (defAt pw 3)
  f4 : HasDef B "_ge_from_le" a4 (defAt pw 4)
  f5 : HasDef B "_lt_from_le" a5 (defAt pw 5)
  f6 : HasDef B "_gt_from_le" a6 (defAt pw 6)
  f7 : HasDef B "_lt_from_gt" a7 (defAt pw 7)
  f8 : HasDef B "_ge_from_gt" a8 (defAt pw 8)
  f9 : HasDef B "_le_from_gt" a9 (defAt pw 9)
  f10 : HasDef B "_le_from_ge" a10 (defAt pw 10)
  f11 : HasDef B "_gt_from_ge" a11 (defAt pw 11)
  f12 : HasDef B "_lt_from_ge" a12 (defAt pw 12)

theorem ofInts_append (a b : List Int) : D.ofInts a ++ D.ofInts b = D.ofInts (a ++ b) := by simp [D.ofInts]
theorem fns_eq {B n a ds d d'} (x : FnS B n a ds d) (h : d = d') : FnS B n a ds d' := h ▸ x
def prI (x : Int) : Int × Int := (x.fdiv 3, x.fmod 3)
theorem opP_pr (op : CmpOp) (h : op = .Lt ∨ op = .LtE ∨ op = .Gt ∨ op = .GtE) (x y : Int) : opP op (prI x) (prI y) = opI op x y := by
  have a1 := Int.fmod_nonneg_of_pos x (b := 3) (by decide)
  have a2 := Int.fmod_lt_of_pos x (b := 3) (by decide)
  have b1 := Int.fmod_nonneg_of_pos y (b := 3) (by decide)
  have b2 := Int.fmod_lt_of_pos y (b := 3) (by decide)
  have a3 := Int.mul_fdiv_add_fmod x 3
  have b3 := Int.mul_fdiv_add_fmod y 3
  unfold opP prI
  dsimp only
  rcases h with rfl | rfl | rfl | rfl <;> simp only [opI] <;> split <;> rw [Bool.eq_iff_iff] <;> simp <;> omega
theorem prI_inj (x y : Int) : (prI x == prI y) = (x == y) := by
  have a3 := Int.mul_fdiv_add_fmod x 3
  have b3 := Int.mul_fdiv_add_fmod y 3
  rw [Bool.eq_iff_iff, beq_iff_eq, beq_iff_eq]
  constructor
  · intro h
    have h1 := congrArg Prod.fst h
    have h2 := congrArg Prod.snd h
    unfold prI at h1 h2
    dsimp only at h1 h2
    rw [h1, h2] at a3; omega
  · intro h; rw [h]
def valP (k : Nat) (x : Int) : D := match k with
  | 0 => .int x
  | 1 => .str (ltr (97 + x.fmod 26))
  | 2 => pairL (prI x)
  | _ => pairT (prI x)
def keyI (k : Nat) (x : Int) : Int := if k = 1 then x.fmod 26 else x
theorem ev_chr {B : Bas} {n : Nat} {env : Env} {σ : Sto} {e : Expr} {p p' : Pos} {i : Int} (fr : Free B) (hk : env.kindOf (S "chr") = some .globalImplicit) (v : EvW B n env σ e (.int i)) (h0 : 0 ≤ i) (h1 : i ≤ 1114111) (he : starEach [e] env = (false, eval e env) :: starEach [] env := by rfl) : Ev B n env σ (.Call (.Name (S "chr") p') [e] [] p) (.str (ltr i)) :=
  ev_builtin (bn fr hk boot_chr) (evasw_cons v evasw_nil he) (bi_chr h0 h1) he
theorem value_spec {B : Bas} (fr : Free B) {n : Nat} {a : Addr} (F : HasDef B "_law_value" a (defAt pw 17)) {k : Nat} (hk : k < 4) {x : Int} : FnS B (n + 1) a [.int (k : Int), .int x] (valP k x) := by
  refine fns_of (xs := ["kind", "x"]) F.fn rfl (fun pm cd doc vs hvs => ?_) rfl (by decide) (by decide +kernel) fun env fe => ?_
  · match vs, hvs with
    | [v, w], _ => rfl
  · show Ex B n env [("kind", .val (.int (k : Int))), ("x", .val (.int x))] _ _
    have h26 := Int.fmod_nonneg_of_pos x (b := 26) (by decide)
    have h26' := Int.fmod_lt_of_pos x (b := 26) (by decide)
    have hk' : k = 0 ∨ k = 1 ∨ k = 2 ∨ k = 3 := by omega
    rcases hk' with rfl | rfl | rfl | rfl
    · refine ex_cons (ex_if (t := true) (tst_eq (tst_cmp (by walk_at "w") (by walk_at "w") cmp_eq) rfl) (fun _ => ex_cons (ex_return (Ev.ret (by walk_at "ev")) ?_)) fun h => nomatch h)
      rfl
    · refine ex_cons (ex_if (t := false) (tst_eq (tst_cmp (by walk_at "w") (by walk_at "w") cmp_eq) rfl) (fun h => nomatch h) fun _ => ex_nil ?_)
      refine ex_cons (ex_if (t := true) (tst_eq (tst_cmp (by walk_at "w") (by walk_at "w") cmp_eq) rfl) (fun _ => ex_cons (ex_return (Ev.ret (ev_chr fr (by walk_at "gk") (by walk_at "w") (by omega) (by omega))) ?_)) fun h => nomatch h)
      rfl
    · refine ex_cons (ex_if (t := false) (tst_eq (tst_cmp (by walk_at "w") (by walk_at "w") cmp_eq) rfl) (fun h => nomatch h) fun _ => ex_nil ?_)
      refine ex_cons (ex_if (t := false) (tst_eq (tst_cmp (by walk_at "w") (by walk_at "w") cmp_eq) rfl) (fun h => nomatch h) fun _ => ex_nil ?_)
      refine ex_cons (ex_return (Ev.ret (ev_ifexp (t := true) (d := pairL (prI x)) (tst_eq (tst_cmp (by walk_at "w") (by walk_at "w") cmp_eq) rfl) (fun _ => EvN.ev (evn_list (by walk_at "as") (by simp))) fun h => nomatch h)) ?_)
      rfl
    · refine ex_cons (ex_if (t := false) (tst_eq (tst_cmp (by walk_at "w") (by walk_at "w") cmp_eq) rfl) (fun h => nomatch h) fun _ => ex_nil ?_)
      refine ex_cons (ex_if (t := false) (tst_eq (tst_cmp (by walk_at "w") (by walk_at "w") cmp_eq) rfl) (fun h => nomatch h) fun _ => ex_nil ?_)
      refine ex_cons (ex_return (Ev.ret (ev_ifexp (t := false) (d := pairT (prI x)) (tst_eq (tst_cmp (by walk_at "w") (by walk_at "w") cmp_eq) rfl) (fun h => nomatch h) fun _ => ev_tuple (by walk_at "as") (by simp))) ?_)
      rfl
def due12 (p q : Int) : List Bool := [opI .Gt p q, opI .Gt p q, opI .Gt p q, opI .Lt p q, opI .Lt p q, opI .Lt p q, opI .GtE p q, opI .GtE p q, opI .GtE p q, opI .LtE p q, opI .LtE p q, opI .LtE p q]
theorem due_spec {B : Bas} (fr : Free B) {n : Nat} {a : Addr} (F : HasDef B "_law_due" a (defAt pw 16)) {p q : Int} : FnS B (n + 1) a [.int p, .int q] (.list ((due12 p q).map D.bool)) := by
  refine fns_of (xs := ["p", "q"]) F.fn rfl (fun pm cd doc vs hvs => ?_) rfl (by decide) (by decide +kernel) fun env fe => ?_
  · match vs, hvs with
    | [v, w], _ => rfl
  · show Ex B n env [("p", .val (.int p)), ("q", .val (.int q))] _ _
    refine ex_cons (ex_return (Ev.ret (EvN.ev (evn_add (ds := [_, _, _, _, _, _, _, _, _]) (es := [_, _, _]) (EvN.ev (evn_add (ds := [_, _, _, _, _, _]) (es := [_, _, _]) (EvN.ev (evn_add (ds := [_, _, _]) (es := [_, _, _]) (EvN.ev (evn_mul (ds := [_]) (i := 3) (EvN.ev (evn_list (evas_cons (ev_cmp (by walk_at "w") (by walk_at "w") cmp_gt) evas_nil) (by simp))) (by walk_at "w") (by decide) (by decide) (by simp) (by simp))) (EvN.ev (evn_mul (ds := [_]) (i := 3) (EvN.ev (evn_list (evas_cons (ev_cmp (by walk_at "w") (by walk_at "w") cmp_lt) evas_nil) (by simp))) (by walk_at "w") (by decide) (by decide) (by simp) (by simp))) (by simp))) (EvN.ev (evn_mul (ds := [_]) (i := 3) (EvN.ev (evn_list (evas_cons (ev_cmp (by walk_at "w") (by walk_at "w") cmp_ge) evas_nil) (by simp))) (by walk_at "w") (by decide) (by decide) (by simp) (by simp))) (by simp))) (EvN.ev (evn_mul (ds := [_]) (i := 3) (EvN.ev (evn_list (evas_cons (ev_cmp (by walk_at "w") (by walk_at "w") cmp_le) evas_nil) (by simp))) (by walk_at "w") (by decide) (by decide) (by simp) (by simp))) (by simp)))) ?_)
    rfl
section
variable {B : Bas} (fr : Free B) {n : Nat} {a1 a2 a3 a4 a5 a6 a7 a8 a9 a10 a11 a12 : Addr} (F : Twelve B a1 a2 a3 a4 a5 a6 a7 a8 a9 a10 a11 a12)
include fr F
theorem twelve_spec {tw : Addr} (Ft : HasDef B "_law_twelve" tw (defAt pw 15)) {a b : D} {v1 v2 v3 v4 v5 v6 v7 v8 v9 v10 v11 v12 : Value} (h1 : FnS B (n + 1) a1 [a, b] (.val v1)) (h2 : FnS B (n + 1) a6 [a, b] (.val v2)) (h3 : FnS B (n + 1) a11 [a, b] (.val v3)) (h4 : FnS B (n + 1) a5 [a, b] (.val v4)) (h5 : FnS B (n + 1) a7 [a, b] (.val v5)) (h6 : FnS B (n + 1) a12 [a, b] (.val v6)) (h7 : FnS B (n + 1) a3 [a, b] (.val v7)) (h8 : FnS B (n + 1) a4 [a, b] (.val v8)) (h9 : FnS B (n + 1) a8 [a, b] (.val v9)) (h10 : FnS B (n + 1) a2 [a, b] (.val v10)) (h11 : FnS B (n + 1) a9 [a, b] (.val v11)) (h12 : FnS B (n + 1) a10 [a, b] (.val v12)) : FnS B (n + 2) tw [a, b] (.list ([v1, v2, v3, v4, v5, v6, v7, v8, v9, v10, v11, v12].map D.val)) := by
  refine fns_of (xs := ["a", "b"]) Ft.fn rfl (fun pm cd doc vs hvs => ?_) rfl (by decide) (by decide +kernel) fun env fe => ?_
  · match vs, hvs with
    | [v, w], _ => rfl
  · show Ex B (n + 1) env [("a", .val a), ("b", .val b)] _ _
    refine ex_cons (ex_assign (d := .list [.val v1, .val v2, .val v3]) (by walk_at "st") (EvN.ev (evn_list (evas_cons (ev_calld F.f1 (by walk_at "gk") (ds := [a, b]) (by walk_at "as") (h1)) (evas_cons (ev_calld F.f6 (by walk_at "gk") (ds := [a, b]) (by walk_at "as") (h2)) (evas_cons (ev_calld F.f11 (by walk_at "gk") (ds := [a, b]) (by walk_at "as") (h3)) evas_nil))) (by simp))) ?_ (by rfl))
    refine ex_cons (ex_assign (d := .list [.val v4, .val v5, .val v6]) (by walk_at "st") (EvN.ev (evn_list (evas_cons (ev_calld F.f5 (by walk_at "gk") (ds := [a, b]) (by walk_at "as") (h4)) (evas_cons (ev_calld F.f7 (by walk_at "gk") (ds := [a, b]) (by walk_at "as") (h5)) (evas_cons (ev_calld F.f12 (by walk_at "gk") (ds := [a, b]) (by walk_at "as") (h6)) evas_nil))) (by simp))) ?_ (by rfl))
    refine ex_cons (ex_assign (d := .list [.val v7, .val v8, .val v9]) (by walk_at "st") (EvN.ev (evn_list (evas_cons (ev_calld F.f3 (by walk_at "gk") (ds := [a, b]) (by walk_at "as") (h7)) (evas_cons (ev_calld F.f4 (by walk_at "gk") (ds := [a, b]) (by walk_at "as") (h8)) (evas_cons (ev_calld F.f8 (by walk_at "gk") (ds := [a, b]) (by walk_at "as") (h9)) evas_nil))) (by simp))) ?_ (by rfl))
    refine ex_cons (ex_assign (d := .list [.val v10, .val v11, .val v12]) (by walk_at "st") (EvN.ev (evn_list (evas_cons (ev_calld F.f2 (by walk_at "gk") (ds := [a, b]) (by walk_at "as") (h10)) (evas_cons (ev_calld F.f9 (by walk_at "gk") (ds := [a, b]) (by walk_at "as") (h11)) (evas_cons (ev_calld F.f10 (by walk_at "gk") (ds := [a, b]) (by walk_at "as") (h12)) evas_nil))) (by simp))) ?_ (by rfl))
    refine ex_cons (ex_return (Ev.ret (EvN.ev (evn_add (ds := [.val v1, .val v2, .val v3, .val v4, .val v5, .val v6, .val v7, .val v8, .val v9]) (es := [.val v10, .val v11, .val v12]) (EvN.ev (evn_add (ds := [.val v1, .val v2, .val v3, .val v4, .val v5, .val v6]) (es := [.val v7, .val v8, .val v9]) (EvN.ev (evn_add (ds := [.val v1, .val v2, .val v3]) (es := [.val v4, .val v5, .val v6]) (by walk_at "ev") (by walk_at "ev") (by simp))) (by walk_at "ev") (by simp))) (by walk_at "ev") (by simp)))) ?_)
    rfl
omit fr F in
/-- two of the same kind -/
structure Alike (B : Bas) (n : Nat) (a b : D) (p q : Int) : Prop where
  lt : Dun B n "__lt__" a b (.bool (opI .Lt p q))
  le : Dun B n "__le__" a b (.bool (opI .LtE p q))
  gt : Dun B n "__gt__" a b (.bool (opI .Gt p q))
  ge : Dun B n "__ge__" a b (.bool (opI .GtE p q))
  eq : Cmp B n .Eq a b (p == q)
  ne : Cmp B n .NotEq a b (!(p == q))
omit fr F in
/-- two of unlike kinds -/
structure Unlike (B : Bas) (n : Nat) (a b : D) : Prop where
  lt : Dun B n "__lt__" a b .notImplemented
  le : Dun B n "__le__" a b .notImplemented
  gt : Dun B n "__gt__" a b .notImplemented
  ge : Dun B n "__ge__" a b .notImplemented
theorem al_gt_lt {a b : D} {p q : Int} (h : Alike B n a b p q) : FnS B (n + 1) a1 [a, b] (.val (.bool (opI .Gt p q))) := by
  refine fns_eq (made_gt_lt fr F.f1 h.lt h.ne) ?_
  show D.val (.bool _) = D.val (.bool _)
  congr 2
  simp only [opI]
  rw [Bool.eq_iff_iff]; simp <;> omega
theorem al_gt_le {a b : D} {p q : Int} (h : Alike B n a b p q) : FnS B (n + 1) a6 [a, b] (.val (.bool (opI .Gt p q))) := by
  refine fns_eq (made_gt_le fr F.f6 h.le) ?_
  show D.val (.bool _) = D.val (.bool _)
  congr 2
  simp only [opI]
  rw [Bool.eq_iff_iff]; simp <;> omega
theorem al_gt_ge {a b : D} {p q : Int} (h : Alike B n a b p q) : FnS B (n + 1) a11 [a, b] (.val (.bool (opI .Gt p q))) := by
  refine fns_eq (made_gt_ge fr F.f11 h.ge h.ne) ?_
  show D.val (.bool _) = D.val (.bool _)
  congr 2
  simp only [opI]
  rw [Bool.eq_iff_iff]; simp <;> omega
theorem al_lt_le {a b : D} {p q : Int} (h : Alike B n a b p q) : FnS B (n + 1) a5 [a, b] (.val (.bool (opI .Lt p q))) := by
  refine fns_eq (made_lt_le fr F.f5 h.le h.ne) ?_
  show D.val (.bool _) = D.val (.bool _)
  congr 2
  simp only [opI]
  rw [Bool.eq_iff_iff]; simp <;> omega
theorem al_lt_gt {a b : D} {p q : Int} (h : Alike B n a b p q) : FnS B (n + 1) a7 [a, b] (.val (.bool (opI .Lt p q))) := by
  refine fns_eq (made_lt_gt fr F.f7 h.gt h.ne) ?_
  show D.val (.bool _) = D.val (.bool _)
  congr 2
  simp only [opI]
  rw [Bool.eq_iff_iff]; simp <;> omega
theorem al_lt_ge {a b : D} {p q : Int} (h : Alike B n a b p q) : FnS B (n + 1) a12 [a, b] (.val (.bool (opI .Lt p q))) := by
  refine fns_eq (made_lt_ge fr F.f12 h.ge) ?_
  show D.val (.bool _) = D.val (.bool _)
  congr 2
  simp only [opI]
  rw [Bool.eq_iff_iff]; simp <;> omega
theorem al_ge_lt {a b : D} {p q : Int} (h : Alike B n a b p q) : FnS B (n + 1) a3 [a, b] (.val (.bool (opI .GtE p q))) := by
  refine fns_eq (made_ge_lt fr F.f3 h.lt) ?_
  show D.val (.bool _) = D.val (.bool _)
  congr 2
  simp only [opI]
  rw [Bool.eq_iff_iff]; simp <;> omega
theorem al_ge_le {a b : D} {p q : Int} (h : Alike B n a b p q) : FnS B (n + 1) a4 [a, b] (.val (.bool (opI .GtE p q))) := by
  refine fns_eq (made_ge_le fr F.f4 h.le h.eq) ?_
  show D.val (.bool _) = D.val (.bool _)
  congr 2
  simp only [opI]
  rw [Bool.eq_iff_iff]; simp <;> omega
theorem al_ge_gt {a b : D} {p q : Int} (h : Alike B n a b p q) : FnS B (n + 1) a8 [a, b] (.val (.bool (opI .GtE p q))) := by
  refine fns_eq (made_ge_gt fr F.f8 h.gt h.eq) ?_
  show D.val (.bool _) = D.val (.bool _)
  congr 2
  simp only [opI]
  rw [Bool.eq_iff_iff]; simp <;> omega
theorem al_le_lt {a b : D} {p q : Int} (h : Alike B n a b p q) : FnS B (n + 1) a2 [a, b] (.val (.bool (opI .LtE p q))) := by
  refine fns_eq (made_le_lt fr F.f2 h.lt h.eq) ?_
  show D.val (.bool _) = D.val (.bool _)
  congr 2
  simp only [opI]
  rw [Bool.eq_iff_iff]; simp <;> omega
theorem al_le_gt {a b : D} {p q : Int} (h : Alike B n a b p q) : FnS B (n + 1) a9 [a, b] (.val (.bool (opI .LtE p q))) := by
  refine fns_eq (made_le_gt fr F.f9 h.gt) ?_
  show D.val (.bool _) = D.val (.bool _)
  congr 2
  simp only [opI]
  rw [Bool.eq_iff_iff]; simp <;> omega
theorem al_le_ge {a b : D} {p q : Int} (h : Alike B n a b p q) : FnS B (n + 1) a10 [a, b] (.val (.bool (opI .LtE p q))) := by
  refine fns_eq (made_le_ge fr F.f10 h.ge h.eq) ?_
  show D.val (.bool _) = D.val (.bool _)
  congr 2
  simp only [opI]
  rw [Bool.eq_iff_iff]; simp <;> omega
theorem alike_spec {tw : Addr} (Ft : HasDef B "_law_twelve" tw (defAt pw 15)) {a b : D} {p q : Int} (h : Alike B n a b p q) : FnS B (n + 2) tw [a, b] (.list ((due12 p q).map D.bool)) :=
  fns_eq (twelve_spec fr F Ft (al_gt_lt fr F h) (al_gt_le fr F h) (al_gt_ge fr F h) (al_lt_le fr F h) (al_lt_gt fr F h) (al_lt_ge fr F h) (al_ge_lt fr F h) (al_ge_le fr F h) (al_ge_gt fr F h) (al_le_lt fr F h) (al_le_gt fr F h) (al_le_ge fr F h)) rfl
theorem unlike_spec {tw : Addr} (Ft : HasDef B "_law_twelve" tw (defAt pw 15)) {a b : D} (h : Unlike B n a b) : FnS B (n + 2) tw [a, b] (.list (List.replicate 12 (.val .notImplemented))) :=
  fns_eq (twelve_spec fr F Ft (made_gt_lt_ni fr F.f1 h.lt) (made_gt_le_ni fr F.f6 h.le) (made_gt_ge_ni fr F.f11 h.ge) (made_lt_le_ni fr F.f5 h.le) (made_lt_gt_ni fr F.f7 h.gt) (made_lt_ge_ni fr F.f12 h.ge) (made_ge_lt_ni fr F.f3 h.lt) (made_ge_le_ni fr F.f4 h.le) (made_ge_gt_ni fr F.f8 h.gt) (made_le_lt_ni fr F.f2 h.lt) (made_le_gt_ni fr F.f9 h.gt) (made_le_ge_ni fr F.f10 h.ge)) rfl
end
theorem pairs1_eq {B : Bas} {n : Nat} (x y : Int × Int) : Cmp B n .Eq (pairL x) (pairL y) (x == y) ∧ Cmp B n .NotEq (pairL x) (pairL y) (!(x == y)) ∧ Cmp B n .Eq (pairT x) (pairT y) (x == y) ∧ Cmp B n .NotEq (pairT x) (pairT y) (!(x == y)) := by
  obtain ⟨x1, x2⟩ := x
  obtain ⟨y1, y2⟩ := y
  have e : ∀ a b c d : Int, PyData.eqv (.list [.int a, .int b]) (.list [.int c, .int d]) = ((a, b) == (c, d)) := fun a b c d => by
    simp only [PyData.eqv, PyData.eqvAll, Bool.and_true]; rw [Bool.eq_iff_iff]; simp
  have e' : ∀ a b c d : Int, PyData.eqv (.tuple [.int a, .int b]) (.tuple [.int c, .int d]) = ((a, b) == (c, d)) := fun a b c d => by
    simp only [PyData.eqv, PyData.eqvAll, Bool.and_true]; rw [Bool.eq_iff_iff]; simp
  have h1 := cmp_eq_data (B := B) (n := n) (q := .list [.int x1, .int x2]) (q' := .list [.int y1, .int y2]) rfl rfl
  have h2 := cmp_ne_data (B := B) (n := n) (q := .list [.int x1, .int x2]) (q' := .list [.int y1, .int y2]) rfl rfl
  have h3 := cmp_eq_data (B := B) (n := n) (q := .tuple [.int x1, .int x2]) (q' := .tuple [.int y1, .int y2]) rfl rfl
  have h4 := cmp_ne_data (B := B) (n := n) (q := .tuple [.int x1, .int x2]) (q' := .tuple [.int y1, .int y2]) rfl rfl
  rw [e] at h1 h2
  rw [e'] at h3 h4
  simp only [D.of, D.ofAll] at h1 h2 h3 h4
  exact ⟨h1, h2, h3, h4⟩
theorem alike_val {B : Bas} {n : Nat} (k : Nat) (hk : k < 4) (x y : Int) : Alike B n (valP k x) (valP k y) (keyI k x) (keyI k y) := by
  have hk' : k = 0 ∨ k = 1 ∨ k = 2 ∨ k = 3 := by omega
  have h26 := Int.fmod_nonneg_of_pos x (b := 26) (by decide)
  have h26' := Int.fmod_nonneg_of_pos y (b := 26) (by decide)
  rcases hk' with rfl | rfl | rfl | rfl
  · exact ⟨d11_int_lt x y, d11_int_le x y, d11_int_gt x y, d11_int_ge x y, cmp_eq, cmp_p cmp_ne rfl⟩
  · have hs : ∀ op, (op = .Lt ∨ op = .LtE ∨ op = .Gt ∨ op = .GtE) → opI op (97 + x.fmod 26) (97 + y.fmod 26) = opI op (x.fmod 26) (y.fmod 26) := by
      rintro op (rfl | rfl | rfl | rfl) <;> simp only [opI] <;> rw [Bool.eq_iff_iff] <;> simp <;> omega
    have he : ((97 + x.fmod 26) == (97 + y.fmod 26)) = (x.fmod 26 == y.fmod 26) := by rw [Bool.eq_iff_iff]; simp
    have l := d11_str_lt (B := B) (n := n) (i := 97 + x.fmod 26) (j := 97 + y.fmod 26) (by omega) (by omega)
    have m := d11_str_le (B := B) (n := n) (i := 97 + x.fmod 26) (j := 97 + y.fmod 26) (by omega) (by omega)
    have g := d11_str_gt (B := B) (n := n) (i := 97 + x.fmod 26) (j := 97 + y.fmod 26) (by omega) (by omega)
    have e := d11_str_ge (B := B) (n := n) (i := 97 + x.fmod 26) (j := 97 + y.fmod 26) (by omega) (by omega)
    rw [hs _ (.inl rfl)] at l
    rw [hs _ (.inr (.inl rfl))] at m
    rw [hs _ (.inr (.inr (.inl rfl)))] at g
    rw [hs _ (.inr (.inr (.inr rfl)))] at e
    exact ⟨l, m, g, e, cmp_p (cmp_ss_eq (by omega) (by omega)) he, cmp_p (cmp_ss_ne (by omega) (by omega)) (by rw [he]; rfl)⟩
  · obtain ⟨e1, e2, _, _⟩ := pairs1_eq (B := B) (n := n) (prI x) (prI y)
    rw [prI_inj] at e1 e2
    refine ⟨?_, ?_, ?_, ?_, e1, e2⟩
    · have := d11_list_lt (B := B) (n := n) (prI x) (prI y); rwa [opP_pr _ (.inl rfl)] at this
    · have := d11_list_le (B := B) (n := n) (prI x) (prI y); rwa [opP_pr _ (.inr (.inl rfl))] at this
    · have := d11_list_gt (B := B) (n := n) (prI x) (prI y); rwa [opP_pr _ (.inr (.inr (.inl rfl)))] at this
    · have := d11_list_ge (B := B) (n := n) (prI x) (prI y); rwa [opP_pr _ (.inr (.inr (.inr rfl)))] at this
  · obtain ⟨_, _, e1, e2⟩ := pairs1_eq (B := B) (n := n) (prI x) (prI y)
    rw [prI_inj] at e1 e2
    refine ⟨?_, ?_, ?_, ?_, e1, e2⟩
    · have := d11_tuple_lt (B := B) (n := n) (prI x) (prI y); rwa [opP_pr _ (.inl rfl)] at this
    · have := d11_tuple_le (B := B) (n := n) (prI x) (prI y); rwa [opP_pr _ (.inr (.inl rfl))] at this
    · have := d11_tuple_gt (B := B) (n := n) (prI x) (prI y); rwa [opP_pr _ (.inr (.inr (.inl rfl)))] at this
    · have := d11_tuple_ge (B := B) (n := n) (prI x) (prI y); rwa [opP_pr _ (.inr (.inr (.inr rfl)))] at this
theorem unlike_int {B : Bas} {n : Nat} {x : Int} {d : D} (h : NonI d) : Unlike B n (.int x) d := ⟨d11_intN_lt h, d11_intN_le h, d11_intN_gt h, d11_intN_ge h⟩
theorem unlike_str {B : Bas} {n : Nat} {x : Str} {d : D} (h : NonS d) : Unlike B n (.str x) d := ⟨d11_strN_lt h, d11_strN_le h, d11_strN_gt h, d11_strN_ge h⟩
theorem unlike_list {B : Bas} {n : Nat} {ds : List D} {d : D} {T : String} (ht : Ty d T) (hs : isSubtype (.type T) (.type "list") = pure false) : Unlike B n (.list ds) d := ⟨d11_listN_lt ht hs, d11_listN_le ht hs, d11_listN_gt ht hs, d11_listN_ge ht hs⟩
theorem unlike_tuple {B : Bas} {n : Nat} {ds : List D} {d : D} {T : String} (ht : Ty d T) (hs : isSubtype (.type T) (.type "tuple") = pure false) : Unlike B n (.tuple ds) d := ⟨d11_tupleN_lt ht hs, d11_tupleN_le ht hs, d11_tupleN_gt ht hs, d11_tupleN_ge ht hs⟩
theorem unlike_val {B : Bas} {n : Nat} (k j : Nat) (hk : k < 4) (hj : j < 4) (h : k ≠ j) (x y : Int) : Unlike B n (valP k x) (valP j y) := by
  have hk' : k = 0 ∨ k = 1 ∨ k = 2 ∨ k = 3 := by omega
  have hj' : j = 0 ∨ j = 1 ∨ j = 2 ∨ j = 3 := by omega
  rcases hk' with rfl | rfl | rfl | rfl <;> rcases hj' with rfl | rfl | rfl | rfl
  · exact absurd rfl h
  · exact unlike_int nonI_str
  · exact unlike_int nonI_list
  · exact unlike_int nonI_tuple
  · exact unlike_str nonS_int
  · exact absurd rfl h
  · exact unlike_str nonS_list
  · exact unlike_str nonS_tuple
  · exact unlike_list ty_int sb_int_list
  · exact unlike_list ty_str sb_str_list
  · exact absurd rfl h
  · exact unlike_list ty_tuple sb_tuple_list
  · exact unlike_tuple ty_int sb_int_tuple
  · exact unlike_tuple ty_str sb_str_tuple
  · exact unlike_tuple ty_list sb_list_tuple
  · exact absurd rfl h

theorem VarIs.but {env : Env} {h h' : Heap} {x v} {Z : List Addr} (y : VarIs env h x v) (hk : ∀ b o, b ∉ Z → h.get? b = some o → h'.get? b = some o) (hl : env.locals ∉ Z) (hc : ∀ x c, env.cells.lookup x = some c → c ∉ Z) : VarIs env h' x v := by
  rcases y with ⟨k, m, ⟨o, es, ep, e, d, r⟩, ev⟩ | ⟨k, c, l, o, e, d⟩
  · exact .inl ⟨k, m, ⟨o, es, ep, hk _ _ hl e, d, r⟩, ev⟩
  · exact .inr ⟨k, c, l, o, hk _ _ (hc _ _ l) e, d⟩

/-- the tables have changed, and change no more -/
theorem St.leaveZ {B : Bas} {h₀ h h' : Heap} {env : Env} {σ : Sto} {O : Addr → Prop} {Z : List Addr} (T : St B h₀ (fun a => a ∈ Z) env σ O h) (hf : env.func.isSome = true) (hk : ∀ b o, b ∉ Z → h.get? b = some o → h'.get? b = some o) :
    St B (hideAll h₀ Z) (fun _ => False) env σ O h' := by
  have nz : ∀ a, O a → a ∉ Z := fun a q z => by obtain ⟨⟨o, e⟩, _⟩ := T.plive a z; rw [T.new a q] at e; cases e
  have hl := nz _ T.loc
  have hc : ∀ x c, env.cells.lookup x = some c → c ∉ Z := fun x c l => nz _ ((T.cells x c l).2 hf)
  have mv : ∀ {x v}, VarIs env h x v → VarIs env h' x v := fun y => y.but hk hl hc
  have hkx : ∀ a o, ¬ (a ∈ Z ∨ O a) → h.get? a = some o → h'.get? a = some o := fun a o n e => hk a o (fun z => n (.inl z)) e
  have hx : ∀ a o, ¬ (a ∈ Z ∨ O a) → h.get? a = some o → ¬ (False ∨ O a) := fun a o n _ q => n (q.elim False.elim .inr)
  have bck : ∀ {x w}, (∃ b, σ.get x = some b) → VarIs env h' (S x) w → VarIs env h (S x) w := by
    rintro x w ⟨b, hb⟩ hw
    obtain ⟨w', hw'⟩ := (T.vars x b hb).var
    rw [hw.fn (mv hw')]; exact hw'
  refine ⟨fun b o e => hideAll_get _ (T.base b o e) (fun z => by rw [(T.plive b z).2] at e; cases e), fun b o e => ?_, fun a q => q.elim, fun a q => ?_, fun a q => ?_, T.ok, T.loc, ?_, fun x c l => ?_, fun x b e => ?_, fun x y ds es a ne hx' hy vx vy => ?_⟩
  · have nb : b ∉ Z := fun z => by rw [hideAll_none _ z] at e; cases e
    exact hk b o nb (T.keep b o (of_hideAll _ e))
  · obtain ⟨o, e⟩ := T.live a q; exact ⟨o, hk _ _ (nz a q) e⟩
  · cases e : (hideAll h₀ Z).get? a with
    | none => rfl
    | some o => have := of_hideAll _ e; rw [T.new a q] at this; cases this
  · obtain ⟨m, o, es, ep, e, d, r⟩ := T.ns
    exact ⟨m, o, es, ep, hk _ _ hl e, d, r⟩
  · obtain ⟨⟨v, o, e, d⟩, g⟩ := T.cells x c l
    exact ⟨⟨v, o, hk _ _ (hc x c l) e, d⟩, g⟩
  · have := T.vars x b e
    cases b with
    | val d => obtain ⟨v, hv, r⟩ := this; exact ⟨v, mv hv, r.mono hkx hx⟩
    | own ds =>
      obtain ⟨a, vs, hv, h1, h2, ⟨k, h3⟩, h4⟩ := this
      exact ⟨a, vs, mv hv, h1, h2, ⟨k, hk _ _ (nz a h1) h3⟩, h4.mono hkx hx⟩
  · exact T.apart x y ds es a ne hx' hy (bck ⟨_, hx'⟩ vx) (bck ⟨_, hy⟩ vy)

/-- the def that the claim calls; the tables of its text may change -/
theorem lawZ_of {B : Bas} {n : Nat} {A : Around} {a c : Addr} {name : Str} {params : Arguments} {body : List Stmt} {scope : Scope} {xs : List String} {ds : List D} {Z : List Addr}
    (F : ∃ o pm doc, B.hB.get? a = some o ∧ o.data = .func (docDef name params body scope pm (.ref c) doc) ∧ B.hB.CodeRec (.ref c) name) (hk : scope.kind = .function)
    (hbind : ∀ pm cd doc vs, vs.length = xs.length → bindArgs (docDef name params body scope pm cd doc) ⟨vs, []⟩ = pure ((xs.map S).zip vs)) (hlen : xs.length = ds.length) (hnd : xs.Nodup)
    (hkind : ∀ x ∈ xs, scope.names.lookup (S x) = some .local ∨ scope.names.lookup (S x) = some .cell)
    (hco : scope.isCoroutine = false := by rfl) (hgen : scope.isGenerator = false := by rfl) (s : Shared) (E : Value → Shared → Prop) (Q : Value → Shared → Prop) (vs : List Value) (bo : B.Ok) (ao : AOk (n + 1) A) (hh : B.Here s.heap) (hP : ∀ x, x ∈ Z → (∃ o, s.heap.get? x = some o) ∧ B.hB.get? x = none) (r : RpAll s.heap (fun x => x ∈ Z) vs ds)
    (h : ∀ env A' O s₁ E', FEnv scope env → env.code = .ref c → env.func.isSome = true → env.globals = mainGlobals → env.builtins = builtinsNs → AOk n A' → Keeps s s₁ → St B s.heap (fun x => x ∈ Z) env (binds0 xs ds) O s₁.heap →
      wpAny (model B.prog B.w) A' (execs body env) (fun f s' => Q (match f with | .ret v => v | _ => .none) s') E' s₁) :
    wpAny (model B.prog B.w) A (call (.ref a) vs) Q E s := by
  obtain ⟨o, pm, doc, ho, hd, hcd⟩ := F
  have hvl : vs.length = xs.length := by rw [r.length, hlen]
  refine wpAny_call (codeAny_mono (codeAny_call_cells (R := fun res s' => ∃ v, res = .ok (.ret v) ∧ Q v s') (by have := ao.depth; omega) (hh _ _ ho) hd (bo.nolimit.keeps hh) (hcd.keeps hh) rfl (hbind pm (.ref c) doc vs hvl) rfl ?_ ?_ hco hgen hk) ?_)
  · intro x hx
    obtain ⟨y, hy, e⟩ : ∃ y ∈ xs, x.1 = S y := by
      have := List.of_mem_zip hx
      obtain ⟨y, hy, e⟩ := List.mem_map.mp this.1
      exact ⟨y, hy, e.symm⟩
    rw [e]
    rcases hkind y hy with q | q
    · exact .inl q
    · exact .inr ⟨q, cellsFrom_some _ _ _ _ (.inl q)⟩
  · intro s₁ C
    obtain ⟨env, henv, fe, hfrm, kK, hnl, T⟩ := st_call hk hlen hnd hkind hh hP r C
    have hcode : env.code = .ref c := by rw [← henv]; rfl
    rw [henv]
    refine wpAny_mono (h env (A.deeper env) _ s₁ _ fe hcode fe.func T.ok.globals T.ok.builtins ⟨ao.handled, by have := ao.depth; show A.depth + 1 + n < _; omega, by have := ao.units; show A.units + 3 + 5 * n + 100 < _; omega⟩ kK T) (fun f s' z => ⟨_, rfl, z⟩) fun _ _ z => z
  · rintro res s' ⟨v, rfl, z⟩
    exact z

/-- an object of a made class -/
def plainObj (o : Obj) : Bool := match o.cls, o.data with
  | .ref _, .prim _ => false
  | .ref _, _ => true
  | _, _ => false
theorem plainObj.noIter {o : Obj} (h : plainObj o = true) : ¬ IterObj o := by
  rintro ⟨nm, vs, hc, hd, _⟩
  unfold plainObj at h; rw [hc] at h; cases h
theorem plainObj.noPrim {o : Obj} (h : plainObj o = true) : ∀ x, o.data ≠ .prim x := by
  intro x e
  unfold plainObj at h
  rw [e] at h
  cases hc : o.cls <;> rw [hc] at h <;> cases h
def KO : D := .obj fun o => plainObj o = true

structure InnerQ (s : Shared) (Q : Value → Shared → Prop) : Prop where
  use : ∀ ko h' t o, (∀ b x, s.heap.get? b = some x → h'.get? b = some x) → s.heap.get? ko = none → h'.get? ko = some o → plainObj o = true → Q (.ref ko) ⟨h', s.gens, s.drawn, t, s.os⟩
/-- what the call of a made class gives -/
def KeyCall (B : Bas) (a : Addr) (F : List (Addr × Obj)) : Prop :=
  ∀ (s : Shared), B.Here s.heap → (∀ q ∈ F, s.heap.get? q.1 = some q.2) → ∀ A v t Q E, AOk 40 A → InnerQ s Q → wpAny (model B.prog B.w) A (call (.ref a) [.int v t]) Q E s
def KeyV (B : Bas) (v : Value) (F : List (Addr × Obj)) : Prop :=
  ∃ a o cd, v = .ref a ∧ (a, o) ∈ F ∧ o.cls = .type "type" ∧ o.data = .cls cd ∧ KeyCall B a F
abbrev KD (B : Bas) : D := .abs (KeyV B)
structure OuterQ (B : Bas) (z1 : Addr) (s : Shared) (Q : Value → Shared → Prop) : Prop where
  use : ∀ a h t news o cd, (∀ b x, b ≠ z1 → s.heap.get? b = some x → h.get? b = some x) → (∃ ps, h.get? z1 = some (tabObj ps)) → (∀ q ∈ news, h.get? q.1 = some q.2 ∧ s.heap.get? q.1 = none ∧ ¬ IterObj q.2) →
    (a, o) ∈ news → o.cls = .type "type" → o.data = .cls cd → KeyCall B a news → Q (.ref a) ⟨h, s.gens, s.drawn, t, s.os⟩
/-- what the making of the class gives -/
def MakeSpec (B : Bas) (z1 ka : Addr) : Prop :=
  ∀ (s : Shared) (lam : Addr) A Q E, AOk 40 A → B.Here s.heap → s.heap.get? z1 = some (tabObj #[]) → OuterQ B z1 s Q → wpAny (model B.prog B.w) A (call (.ref ka) [.ref lam]) Q E s

theorem callWith_clsD {prog : Program} {w : World} {A : Around} {E : Value → Shared → Prop} {s : Shared} {env : Env} {pos : Pos} {e : Expr} {rest : List Expr} {C : Addr} {oC : Obj} {cd : ClassData} {Q : Value → Shared → Prop} (hcl : oC.cls = .type "type") (hcd : oC.data = .cls cd)
    (h : wpAny (model prog w) A (spliced (backTo pos (starEach (e :: rest) env))) (fun vs s₁ => s₁.heap.get? C = some oC ∧ wpAny (model prog w) A (call (.ref C) vs) Q E s₁) E s)
    (he : starEach (e :: rest) env = (false, eval e env) :: starEach rest env := by rfl)
    (hplain : (backTo pos (starEach rest env)).any (·.1) = false := by rfl) :
    wpAny (model prog w) A (callWith pos (.ref C) [] (backTo pos (starEach (e :: rest) env)) []) Q E s := by
  rw [he] at h ⊢
  have hst : ((backTo pos ((false, eval e env) :: starEach rest env)).any (fun x => x.fst) || ([] : List (Option Str × Sem Value)).any fun x => x.fst.isNone) = false := by
    show ((false || (backTo pos (starEach rest env)).any (·.1)) || false) = false
    rw [hplain]; rfl
  unfold callWith
  refine wpAny_bind (wpAny_holding (Calls.evalArgs_plain (wpAny_mono h (fun vs s₁ h₁ => ?_) fun _ _ x => x)))
  obtain ⟨hh, g, d, t, os⟩ := s₁
  obtain ⟨hC, hcall⟩ := h₁
  obtain ⟨c, dd, dt, sl⟩ := oC
  dsimp only at hcl hcd
  subst hcl hcd
  have f1 := tc_lookup
  have hT : (⟨hh, g, d, t, os⟩ : Shared).TypeIs (.ref C) "type" := ⟨_, hC, rfl⟩
  refine wpAny_bind (wpAny_standAt ?_)
  show wpAny _ _ (keeperOf (.ref C) >>= _) _ _ _
  unfold keeperOf specialOf
  repeat (any_goals (first | assumption | with_reducible refine wpAny_loadPart_at hC ?_ | with_reducible refine wpAny_load' hC ?_ | wp_step))
  rw [if_pos (by rfl), hst]
  show wpAny _ _ (call (.ref C) vs [] >>= fun r => do holding [r] point; pure r) _ _ _
  exact wpAny_bind (wpAny_mono hcall (fun r s' hr => wpAny_bind (wpAny_holding (wpAny_point (wpAny_pure hr)))) fun _ _ x => x)

theorem ev_key {B : Bas} {n : Nat} {env : Env} {σ : Sto} {e : Expr} {p p' : Pos} {x : String} {i : Int} (hx : σ.get x = some (.val (KD B))) (as : EvW B (n + 40) env σ e (.int i)) (h1 : x ≠ "__debug__" := by decide) (h2 : x ≠ "__classdict__" := by decide)
    (he : starEach [e] env = (false, eval e env) :: starEach [] env := by rfl) (hp : (backTo p (starEach [] env)).any (·.1) = false := by rfl)
    (hc : eval (.Call (.Name (S x) p') [e] [] p) env = (do callWith p (← eval (.Name (S x) p') env) [] (backTo p (starEach [e] env)) (backToKw p (keywordEach [] env))) := by rfl) : Ev B (n + 40) env σ (.Call (.Name (S x) p') [e] [] p) KO :=
  fun h₀ P O A s E Q bo ao T q => Call_ (by
    obtain ⟨v, hv, r⟩ := T.vars x _ hx
    cases r with
    | abs F hq hf =>
    obtain ⟨a, o, cd, rfl, hm, hcl, hcd, kc⟩ := hq
    refine wp_name T hv (callWith_clsD hcl hcd ((evasw_cons as evasw_nil he) h₀ P O A s E _ p bo ao T fun vs s₁ k r => ⟨kheap k _ _ (hf _ hm).1, ?_⟩) he hp) (plainName h1) (plainName h2)
    cases r with | cons r rn =>
    cases rn
    obtain ⟨t, rfl⟩ := rp_int r
    refine kc s₁ (T.kp k).here (fun q m => kheap k _ _ (hf q m).1) A i t _ _ ⟨ao.handled, by have := ao.depth; omega, by have := ao.units; omega⟩ ⟨fun ko h' t' o' hk hn ho hpl => ?_⟩
    exact q _ _ (ktrans k ⟨h', t', rfl, hk⟩) (.obj ho hpl (plainObj.noIter hpl) ((T.kp k).notX hn))) hc

theorem key_stmt {B : Bas} {n : Nat} {A : Around} {env : Env} {O : Addr → Prop} {σ : Sto} {h₀ : Heap} {s : Shared} {E : Value → Shared → Prop} {Q : Flow → Shared → Prop} {z1 z2 c ka : Addr} {d : Def} {params : Arguments} {body : Expr} {scope : Scope} {p1 p2 p3 p4 p5 : Pos}
    (bo : B.Ok) (ao : AOk (n + 40) A) (T : St B h₀ (fun a => a ∈ [z1, z2]) env σ O s.heap) (hf : env.func.isSome = true) (hcode : env.code = .ref c) (hne : z1 ≠ z2)
    (C : CodeHd B.hB c z2) (hz1 : s.heap.get? z1 = some (tabObj #[])) (hz2 : s.heap.get? z2 = some (tabObj #[])) (hbm : B.hB.BuiltinsAt B.mg z2)
    (Fk : HasDef B "cmp_to_key" ka d) (hk : env.kindOf (S "cmp_to_key") = some .globalImplicit) (hst : Storable env "key")
    (hcl : closureFor scope env = pure []) (mk : MakeSpec B z1 ka) (hdef : defaultsOf params env = ([], []))
    (q : ∀ h' t, (∃ ps, h'.get? z1 = some (tabObj ps)) → (∃ ps, h'.get? z2 = some (tabObj ps)) → St B (hideAll h₀ [z1, z2]) (fun _ => False) env (σ.put "key" (.val (KD B))) O h' → Q .next ⟨h', s.gens, s.drawn, t, s.os⟩)
    (hsw : swapsWith (.Call (.Name (S "cmp_to_key") p2) [.Lambda params body scope p3] [] p4) (some (.Name (S "key") p1)) p5.line env = pure false)
    (he : starEach [.Lambda params body scope p3] env = (false, eval (.Lambda params body scope p3) env) :: starEach [] env := by rfl)
    (hc : eval (.Call (.Name (S "cmp_to_key") p2) [.Lambda params body scope p3] [] p4) env = (do callWith p4 (← eval (.Name (S "cmp_to_key") p2) env) [] (backTo p4 (starEach [.Lambda params body scope p3] env)) (backToKw p4 (keywordEach [] env))) := by rfl) :
    wpAny (model B.prog B.w) A (exec (.Assign [.Name (S "key") p1] (.Call (.Name (S "cmp_to_key") p2) [.Lambda params body scope p3] [] p4) p5) env) Q E s := by
  have hz : ∀ b, b ∈ [z1, z2] → B.hB.get? b = none := fun b m => (T.plive b m).2
  have hz1B := hz z1 (by simp)
  have hz2B := hz z2 (by simp)
  have hgs : s.heap.Ns mainGlobals B.mg := bo.g.keeps T.here
  have hgP : mainGlobals ≠ z2 := fun q => by
    obtain ⟨o, es, ep, e, hd, _⟩ := bo.g
    rw [q, hz2B] at e; cases e
  obtain ⟨bm, ob, b1, b2, b3, b4, b5, b6, b7, b8⟩ := hbm
  obtain ⟨o, pm, cdv, doc, ho, hd, hcd⟩ := Fk.fn.at_
  have hnoZ : ∀ b x, B.hB.get? b = some x → b ≠ z2 := fun b x e q => by rw [q, hz2B] at e; cases e
  have hnoZ1 : ∀ b x, B.hB.get? b = some x → b ≠ z1 := fun b x e q => by rw [q, hz1B] at e; cases e
  refine wpAny_Assign_Name ?_ hsw
  refine Call_ (wp_glob bo T hk Fk.mg (callWith_def (o := o) hd ?_ he) (by decide)) hc
  refine args_cons (kla_eval hdef (kla_makeFunction (mg := B.mg) hcl T.ok.globals hgs hcode (C.keeps T.here) hz2 (show TriplesOk [] from trivial) (by rfl) hgP ⟨bm, ob, b1, b2, b3, b4, T.here _ _ b5, b6, b7, b8⟩ fun c' ctv h' tk hx hge hlt hrec htb => ?_)) he
  refine args_nil ?_
  have hHere : ∀ b x, B.hB.get? b = some x → (h'.push (kla_obj "<lambda>" (env.qual ++ "<lambda>") params body scope [] ((B.mg "__name__").getD .none) c' ctv)).get? b = some x := fun b x e => Heap.get?_push_of_some _ (hx _ _ (hnoZ _ _ e) (T.here _ _ e))
  refine ⟨hHere _ _ ho, ?_⟩
  refine mk _ _ A _ _ ⟨ao.handled, by have := ao.depth; omega, by have := ao.units; omega⟩ hHere (Heap.get?_push_of_some _ (hx _ _ hne hz1)) ⟨fun a h t news oK cd hkeep ht1 hnews hm hcl' hcd' kc => ?_⟩
  have hkZ : ∀ b x, b ∉ [z1, z2] → s.heap.get? b = some x → h.get? b = some x := fun b x nb e => by
    simp only [List.mem_cons, List.not_mem_nil, or_false, not_or] at nb
    exact hkeep b x nb.1 (Heap.get?_push_of_some _ (hx b x nb.2 e))
  have T2 := T.leaveZ hf hkZ
  have hold : ∀ b x, b ≠ z2 → s.heap.get? b = some x → (h'.push (kla_obj "<lambda>" (env.qual ++ "<lambda>") params body scope [] ((B.mg "__name__").getD .none) c' ctv)).get? b = some x := fun b x nb e => Heap.get?_push_of_some _ (hx b x nb e)
  have nzO : ∀ a, O a → a ≠ z1 ∧ a ≠ z2 := fun a q => by
    have : a ∉ [z1, z2] := fun z => by obtain ⟨⟨o, e⟩, _⟩ := T.plive a z; rw [T.new a q] at e; cases e
    simpa using this
  have rv : Rp h (fun b => False ∨ O b) (.ref a) (KD B) := .abs news ⟨a, oK, cd, rfl, hm, hcl', hcd', kc⟩ fun q mq => by
    obtain ⟨e1, e2, e3⟩ := hnews q mq
    refine ⟨e1, e3, ?_⟩
    rintro (z | z)
    · exact z
    · obtain ⟨x, ex⟩ := T.live _ z
      have := hold _ _ (nzO _ z).2 ex
      dsimp only at e2
      rw [this] at e2; cases e2
  refine wp_store (s := ⟨h, s.gens, s.drawn, t, s.os⟩) (b := .val (KD B)) T2 hst rv fun s₂ m T3 => ?_
  obtain ⟨h₂, tk₂, rfl, k₂⟩ := m.names T2
  have tz : ∀ z, (z = z1 ∨ z = z2) → ∀ x, h.get? z = some x → h₂.get? z = some x := fun z hz x e => k₂ z x (fun qo => by rcases hz with rfl | rfl; exact (nzO _ qo).1 rfl; exact (nzO _ qo).2 rfl) e
  refine q _ _ ?_ ?_ T3
  · obtain ⟨ps, e⟩ := ht1
    exact ⟨ps, tz _ (.inl rfl) _ e⟩
  · exact ⟨_, tz _ (.inr rfl) _ (hkeep _ _ (Ne.symm hne) (Heap.get?_push_of_some _ htb))⟩

theorem bi_isbool {B : Bas} {n : Nat} {b : Bool} : Bi B n (.builtin "isinstance") [.bool b, .val (.type "bool")] (.bool true) := fun A s E Q vs bo ao hh r q => by
  cases r with | cons r rn =>
  cases rn with | cons r' rn =>
  cases rn
  cases rp_val r; cases rp_val r'
  exact PySem.IsiPair.bool_bool (q _ _ (krefl s) fun _ _ => .val _ rfl)
theorem ev_isbool {B : Bas} {n : Nat} {env : Env} {σ : Sto} {e e' : Expr} {p p' : Pos} {b : Bool} (fr : Free B) (hk : env.kindOf (S "isinstance") = some .globalImplicit) (v : EvW B n env σ e (.bool b)) (v' : EvW B n env σ e' (.val (.type "bool")))
    (he : starEach [e, e'] env = (false, eval e env) :: starEach [e'] env := by rfl) (he' : starEach [e'] env = (false, eval e' env) :: starEach [] env := by rfl) (hp : (backTo p (starEach [e'] env)).any (·.1) = false := by rfl)
    (hc : eval (.Call (.Name (S "isinstance") p') [e, e'] [] p) env = (do callWith p (← eval (.Name (S "isinstance") p') env) [] (backTo p (starEach [e, e'] env)) (backToKw p (keywordEach [] env))) := by rfl) : Ev B n env σ (.Call (.Name (S "isinstance") p') [e, e'] [] p) (.bool true) :=
  ev_builtin (bn fr hk boot_isinstance) (evasw_cons v (evasw_cons v' evasw_nil he') he) bi_isbool he hp hc
theorem execs_step {B : Bas} {n : Nat} {A : Around} {env : Env} {σ : Sto} {h₀ : Heap} {P O : Addr → Prop} {s : Shared} {E : Value → Shared → Prop} {st : Stmt} {rest : List Stmt} {R : Fl → Sto → Prop} {Q : Flow → Shared → Prop} (bo : B.Ok) (ao : AOk n A) (T : St B h₀ P env σ O s.heap) (x : Ex1 B n env σ st R)
    (h : ∀ f s', Post B h₀ P env O s R f s' → match f with | .next => wpAny (model B.prog B.w) A (execs rest env) Q E s' | f => Q f s') : wpAny (model B.prog B.w) A (execs (st :: rest) env) Q E s :=
  wpAny_execs_cons (wpAny_mono (x h₀ P O A s E bo ao T) (fun f s' q => h f s' q) fun _ _ q => q)
theorem execs_rest {B : Bas} {n : Nat} {A : Around} {env : Env} {σ : Sto} {h₀ : Heap} {P O : Addr → Prop} {s : Shared} {E : Value → Shared → Prop} {ss : List Stmt} {R : Fl → Sto → Prop} {Q : Flow → Shared → Prop} (bo : B.Ok) (ao : AOk n A) (T : St B h₀ P env σ O s.heap) (x : Ex B n env σ ss R)
    (h : ∀ f s', Post B h₀ P env O s R f s' → Q f s') : wpAny (model B.prog B.w) A (execs ss env) Q E s :=
  wpAny_mono (x h₀ P O A s E bo ao T) (fun f s' q => h f s' q) fun _ _ q => q
theorem cut40 (l : List Int) : D.list (List.take ((some (40 : Int)).elim (D.ofInts l).length (clipAt (D.ofInts l).length) - (none : Option Int).elim 0 (clipAt (D.ofInts l).length)) (List.drop ((none : Option Int).elim 0 (clipAt (D.ofInts l).length)) (D.ofInts l))) = D.list (D.ofInts (l.take 40)) := by
  simp only [Option.elim, List.drop_zero, Nat.sub_zero]
  congr 1
  unfold D.ofInts
  rw [List.map_take, List.length_map]
  by_cases h : l.length ≤ 40
  · rw [List.take_of_length_le, List.take_of_length_le] <;> simp [clipAt] <;> omega
  · congr 1
    simp [clipAt]; omega
theorem filter_false {α : Type} (l : List α) : l.filter (fun _ => false) = [] := by induction l <;> simp_all
theorem law_spec {B : Bas} (fr : Free B) {A : Around} {a1 a2 a3 a4 a5 a6 a7 a8 a9 a10 a11 a12 tw du va ka a c z1 z2 : Addr} (F : Twelve B a1 a2 a3 a4 a5 a6 a7 a8 a9 a10 a11 a12) (Fk : HasDef B "cmp_to_key" ka (defAt pw 13)) (Ft : HasDef B "_law_twelve" tw (defAt pw 15)) (Fd : HasDef B "_law_due" du (defAt pw 16)) (Fv : HasDef B "_law_value" va (defAt pw 17))
    (FF : ∃ o pm doc, B.hB.get? a = some o ∧ o.data = .func (docDef (defAt pw 18).name (defAt pw 18).params (defAt pw 18).body (defAt pw 18).scope pm (.ref c) doc) ∧ B.hB.CodeRec (.ref c) (defAt pw 18).name)
    (C : CodeHd B.hB c z2) (hne : z1 ≠ z2) (hbm : B.hB.BuiltinsAt B.mg z2) (mk : MakeSpec B z1 ka) {l : List Int} (hl : l.length ≤ 63)
    (s : Shared) (E : Value → Shared → Prop) (Q : Value → Shared → Prop) (vs : List Value) (bo : B.Ok) (ao : AOk 60 A) (hh : B.Here s.heap) (hz1 : s.heap.get? z1 = some (tabObj #[])) (hz2 : s.heap.get? z2 = some (tabObj #[])) (hB1 : B.hB.get? z1 = none) (hB2 : B.hB.get? z2 = none) (r : RpAll s.heap (fun x => x ∈ [z1, z2]) vs [.list (D.ofInts l)])
    (q : ∀ h' t, (∃ ps, h'.get? z1 = some (tabObj ps)) → (∃ ps, h'.get? z2 = some (tabObj ps)) → (∀ b o, (hideAll s.heap [z1, z2]).get? b = some o → h'.get? b = some o) → Q (.bool true) ⟨h', s.gens, s.drawn, t, s.os⟩) : wpAny (model B.prog B.w) A (call (.ref a) vs) Q E s := by
  refine lawZ_of (n := 59) (xs := ["script"]) FF rfl (fun pm cd doc vs hvs => ?_) rfl (by decide) (by decide +kernel) rfl rfl s E Q vs bo ao hh ?_ r (fun env A' O s₁ E' fe hcode hf hgl hbi ao' kK T => ?_)
  · match vs, hvs with
    | [v], _ => rfl
  · intro x hx
    simp only [List.mem_cons, List.not_mem_nil, or_false] at hx
    rcases hx with rfl | rfl
    · exact ⟨⟨_, hz1⟩, hB1⟩
    · exact ⟨⟨_, hz2⟩, hB2⟩
  · show wpAny _ _ (execs [_, _, _, _] env) _ _ _
    generalize hnb : l.take 40 ++ [0] = nb
    have hlen : nb.length ≤ 41 ∧ 1 ≤ nb.length := by rw [← hnb]; simp; omega
    have hln : (D.ofInts nb).length = nb.length := ofInts_length nb
    -- the table
    refine execs_step (R := fun fl σ => fl = .next ∧ σ = [("script", .val (.list (D.ofInts l))), ("table", .val (.list (D.ofInts nb)))]) bo ao' T ?_ (fun f s₂ z => ?_)
    · exact ex_assign (d := .list (D.ofInts nb)) (by walk_at "st") (ev_eq (EvN.ev (evn_add (ds := D.ofInts (l.take 40)) (es := D.ofInts [0]) (ev_eq (EvN.ev (evn_cut (ds := D.ofInts l) (lo := none) (hi := some 40) (evl_ev (by walk_at "ev")) evp_none (evp_some (by walk_at "w")) (by rw [ofInts_length]; omega))) (cut40 l)) (EvN.ev (evn_list (by walk_at "as") (by decide))) (by simp [ofInts_length]; omega))) (by rw [ofInts_append, hnb])) ⟨rfl, rfl⟩ (by rfl)
    obtain ⟨fl, σ', O', mv, hfl, ⟨rfl, rfl⟩, hO, T2⟩ := z
    cases f <;> try exact hfl.elim
    dsimp only
    obtain ⟨h2, tk2, rfl, k2⟩ := mv
    obtain ⟨h1, tk1, rfl, k1⟩ := kK
    have nz : ∀ z, z ∈ [z1, z2] → ¬ O z := fun z hz q => by obtain ⟨⟨o, e⟩, _⟩ := T.plive z hz; rw [T.new z q] at e; cases e
    have hz1' : h2.get? z1 = some (tabObj #[]) := k2 _ _ (nz z1 (by simp)) (k1 _ _ hz1)
    have hz2' : h2.get? z2 = some (tabObj #[]) := k2 _ _ (nz z2 (by simp)) (k1 _ _ hz2)
    have nz' : ∀ z, z ∈ [z1, z2] → ¬ O' z := fun z hz q => by obtain ⟨⟨o, e⟩, _⟩ := T2.plive z hz; rw [T2.new z q] at e; cases e
    -- the class
    refine wpAny_execs_cons (key_stmt (n := 19) bo ao' T2 hf hcode hne C hz1' hz2' hbm Fk (by walk_at "gk") (by walk_at "st") (by rfl) mk (by rfl) (fun h3 tk3 ht1 ht2 T3 => ?_) (by rfl))
    -- the turns
    refine execs_rest (R := fun fl _ => fl = .ret (.bool true)) bo ao' T3 ?rest (fun f s₄ z => ?fin)
    case rest =>
      refine ex_sub (τ := [("table", .val (.list (D.ofInts nb))), ("key", .val (KD B))]) ⟨rfl, rfl, trivial⟩ ?_
      refine ex_cons (ex_forS (fun _ => [("table", .val (.list (D.ofInts nb))), ("key", .val (KD B))]) (evit_range (a := 0) (b := ((D.ofInts nb).length : Int)) (ev_rng1 fr (by walk_at "gk") (by walk_at "w")) (by omega) (by omega) (by omega) (by omega)) ⟨rfl, rfl, trivial⟩ ?_ ?_)
      · intro pre d post e
        obtain ⟨rfl, hk⟩ := rngD_split e
        refine ⟨_, asg_name (by walk_at "st"), ?_⟩
        generalize hc0 : pre.length = c at hk ⊢
        have hc : c < nb.length := by omega
        have hpl : place ((c : Int) - 1) nb.length < nb.length := by unfold place; split <;> omega
        generalize hx : nb.getD (place ((c : Int) - 1) nb.length) 0 = x
        generalize hy : nb.getD c 0 = y
        refine ex_cons (ex_assign (d := .int x) (by walk_at "st") (ev_item (ds := D.ofInts nb) (k := 0 + (c : Int) - 1) (by walk_at "ev") (by walk_at "w") (by omega) (by omega) (by omega) ?_) ?_ (by rfl))
        · rw [Int.zero_add, hln, ← hx]; exact ofInts_get hpl
        refine ex_cons (ex_assign (d := .int y) (by walk_at "st") (ev_item (ds := D.ofInts nb) (k := 0 + (c : Int)) (by walk_at "ev") (by walk_at "w") (by omega) (by omega) (by omega) ?_) ?_ (by rfl))
        · rw [Int.zero_add, place_nat, ← hy]; exact ofInts_get hc
        refine ex_sub (τ := [("table", .val (.list (D.ofInts nb))), ("key", .val (KD B)), ("a", .val (.int x)), ("b", .val (.int y))]) ⟨rfl, rfl, rfl, rfl, trivial⟩ ?_
        refine ex_cons (ex_forS (fun _ => [("table", .val (.list (D.ofInts nb))), ("key", .val (KD B)), ("a", .val (.int x)), ("b", .val (.int y))]) (evit_range (a := 0) (b := 4) (ev_rng1 fr (by walk_at "gk") (by walk_at "w")) (by omega) (by omega) (by omega) (by omega)) ⟨rfl, rfl, rfl, rfl, trivial⟩ ?_ ?_)
        · intro pre d post e
          obtain ⟨rfl, hi⟩ := rngD_split e
          refine ⟨_, asg_name (by walk_at "st"), ?_⟩
          generalize hi0 : pre.length = i at hi ⊢
          have hi : i < 4 := by omega
          rw [Int.zero_add]
          refine ex_sub (τ := [("table", .val (.list (D.ofInts nb))), ("key", .val (KD B)), ("a", .val (.int x)), ("b", .val (.int y)), ("i", .val (.int (i : Int)))]) ⟨rfl, rfl, rfl, rfl, rfl, trivial⟩ ?_
          refine ex_cons (ex_forS (fun _ => [("table", .val (.list (D.ofInts nb))), ("key", .val (KD B)), ("a", .val (.int x)), ("b", .val (.int y)), ("i", .val (.int (i : Int)))]) (evit_range (a := 0) (b := 4) (ev_rng1 fr (by walk_at "gk") (by walk_at "w")) (by omega) (by omega) (by omega) (by omega)) ⟨rfl, rfl, rfl, rfl, rfl, trivial⟩ ?_ ?_)
          · intro pre d post e
            obtain ⟨rfl, hj⟩ := rngD_split e
            refine ⟨_, asg_name (by walk_at "st"), ?_⟩
            generalize hj0 : pre.length = j at hj ⊢
            have hj : j < 4 := by omega
            rw [Int.zero_add]
            by_cases hij : i = j
            · subst hij
              refine ex_cons (ex_assign (d := .list ((due12 (keyI i x) (keyI i y)).map D.bool)) (by walk_at "st") (ev_calld Ft (by walk_at "gk") (ds := [valP i x, valP i y]) (evas_cons (ev_calld Fv (by walk_at "gk") (ds := [.int (i : Int), .int x]) (by walk_at "as") (value_spec fr Fv hi)) (evas_cons (ev_calld Fv (by walk_at "gk") (ds := [.int (i : Int), .int y]) (by walk_at "as") (value_spec fr Fv hi)) evas_nil)) (alike_spec fr F Ft (alike_val i hi x y))) ?_ (by rfl))
              refine ex_cons (ex_if (t := false) (tst_eq (tst_cmp (by walk_at "w") (by walk_at "w") cmp_ne) (by simp)) (fun h => nomatch h) fun _ => ?_)
              refine ex_cons (ex_assign (d := .list ((due12 (keyI i x) (keyI i y)).map D.bool)) (by walk_at "st") (ev_ifexp (t := decide (i = 1)) (tst_eq (tst_cmp (by walk_at "w") (by walk_at "w") cmp_eq) ?_) (fun h => ?_) fun h => ?_) ?_ (by rfl))
              · rw [Bool.eq_iff_iff]; simp; omega
              · have h1 : i = 1 := of_decide_eq_true h
                rw [show keyI i x = x.fmod 26 from if_pos h1, show keyI i y = y.fmod 26 from if_pos h1]
                exact ev_calld Fd (by walk_at "gk") (ds := [.int (x.fmod 26), .int (y.fmod 26)]) (by walk_at "as") (due_spec fr Fd)
              · have h1 : ¬ i = 1 := of_decide_eq_false h
                rw [show keyI i x = x from if_neg h1, show keyI i y = y from if_neg h1]
                exact ev_calld Fd (by walk_at "gk") (ds := [.int x, .int y]) (by walk_at "as") (due_spec fr Fd)
              have hbl : (due12 (keyI i x) (keyI i y)).length ≤ 1000000 := by simp [due12]
              generalize due12 (keyI i x) (keyI i y) = bs at hbl ⊢
              refine ex_cons (ex_if (t := false) (tst_eq (tst_or (t := false) (u := false) (tst_cmp (Ev.weak (EvN.ev (evn_comp (ds := bs) [] D.bool (fun _ => false) D.bool (compOk_of fe rfl (by decide +kernel) (by decide +kernel) (by decide +kernel) (by decide +kernel)) ?_ (evit_list (by walk_at "ev")) ?_))) (Ev.weak (EvN.ev (evn_list (ds := [].map D.bool) evas_nil (by decide)))) (cmp_p (t := !(([] : List Bool) == [])) ?_ rfl)) fun _ => tst_eq (tst_cmp (by walk_at "w") (by walk_at "w") (cmp_ne_bools _ _)) (by simp)) rfl) (fun h => nomatch h) fun _ => ex_nil (ex_nil (ex_nil ⟨rfl, rfl, rfl, rfl, rfl, trivial⟩)))
              · exact hbl
              · intro cenv ce k hk
                exact ⟨_, asg_name (by walk_at "st"), SubL.get (τ := []) trivial, tsts_one (tst_eq (tst_not (tst_ev (Ev.weak (ev_isbool fr (by walk_at "gk") (by walk_at "w") (Ev.weak (ev_boot (bn fr (by walk_at "gk") boot_bool) rfl)))) tru_bool)) rfl), fun h => nomatch h⟩
              · rw [filter_false]; exact cmp_ne_bools [] []
            · refine ex_cons (ex_assign (d := .list (List.replicate 12 (.val .notImplemented))) (by walk_at "st") (ev_calld Ft (by walk_at "gk") (ds := [valP i x, valP j y]) (evas_cons (ev_calld Fv (by walk_at "gk") (ds := [.int (i : Int), .int x]) (by walk_at "as") (value_spec fr Fv hi)) (evas_cons (ev_calld Fv (by walk_at "gk") (ds := [.int (j : Int), .int y]) (by walk_at "as") (value_spec fr Fv hj)) evas_nil)) (unlike_spec fr F Ft (unlike_val i j hi hj hij x y))) ?_ (by rfl))
              refine ex_cons (ex_if (t := true) (tst_eq (tst_cmp (by walk_at "w") (by walk_at "w") cmp_ne) (by simp; omega)) (fun _ => ?_) fun h => nomatch h)
              refine ex_cons (ex_if (t := false) (tst_cmp (Ev.weak (EvN.ev (evn_comp (ds := List.range 12) [] (fun _ => D.val .notImplemented) (fun _ => false) (fun _ => D.bool true) (compOk_of fe rfl (by decide +kernel) (by decide +kernel) (by decide +kernel) (by decide +kernel)) (by decide) (evit_list (ev_eq (by walk_at "ev") rfl)) ?_))) (Ev.weak (EvN.ev (evn_list (ds := [].map D.bool) evas_nil (by decide)))) (cmp_p (t := !(([] : List Bool) == [])) ?_ rfl)) (fun h => nomatch h) fun _ => ex_nil (ex_nil (ex_nil ⟨rfl, rfl, rfl, rfl, rfl, trivial⟩)))
              · intro cenv ce k hk
                exact ⟨_, asg_name (by walk_at "st"), SubL.get (τ := []) trivial, tsts_one (tst_cmp (by walk_at "w") (by walk_at "w") cmp_isnot_ni_ni), fun h => nomatch h⟩
              · rw [filter_false]; exact cmp_ne_bools [] []
          · intro υ hυ
            exact ex_sub hυ (ex_nil ⟨rfl, rfl, rfl, rfl, trivial⟩)
        intro υ hυ
        refine ex_sub hυ ?_
        refine ex_cons (ex_if (t := false) (tst_cmp (Ev.weak (EvN.ev (evn_comp (ds := List.range 12) [] (fun _ => D.val .notImplemented) (fun _ => false) (fun _ => D.bool true) (compOk_of fe rfl (by decide +kernel) (by decide +kernel) (by decide +kernel) (by decide +kernel)) (by decide) (evit_list (ev_eq (ev_calld Ft (by walk_at "gk") (ds := [.int y, KO]) (evas_cons (by walk_at "ev") (evas_cons (ev_key rfl (by walk_at "w")) evas_nil)) (unlike_spec fr F Ft (unlike_int (nonI_obj fun o h => plainObj.noPrim h)))) rfl)) ?_))) (Ev.weak (EvN.ev (evn_list (ds := [].map D.bool) evas_nil (by decide)))) (cmp_p (t := !(([] : List Bool) == [])) ?_ rfl)) (fun h => nomatch h) fun _ => ex_nil (ex_nil ⟨rfl, rfl, trivial⟩))
        · intro cenv ce k hk
          exact ⟨_, asg_name (by walk_at "st"), SubL.get (τ := []) trivial, tsts_one (tst_cmp (by walk_at "w") (by walk_at "w") cmp_isnot_ni_ni), fun h => nomatch h⟩
        · rw [filter_false]; exact cmp_ne_bools [] []
      intro υ hυ
      exact ex_sub hυ (ex_cons (ex_return (Ev.ret ev_bool) rfl))
    obtain ⟨fl, σ', O₄, mv, hfl, rfl, hO4, T4⟩ := z
    cases f <;> try exact hfl.elim
    dsimp only
    cases rp_val hfl
    obtain ⟨h4, tk4, rfl, k4⟩ := mv
    obtain ⟨ps1, e1⟩ := ht1
    obtain ⟨ps2, e2⟩ := ht2
    exact q h4 tk4 ⟨ps1, k4 _ _ (nz' z1 (by simp)) e1⟩ ⟨ps2, k4 _ _ (nz' z2 (by simp)) e2⟩ T4.keep

open PySem.W.X
def lastHash (o : Obj) : Int := match o.data with | .dict es _ => (match es.toList.getLast? with | some e => e.hash | none => 0) | _ => 0
def lastTok (o : Obj) : Tok := match o.data with | .dict es _ => (match es.toList.getLast? with | some e => (match e.key with | .str _ t => t | _ => 0) | none => 0) | _ => 0
def putO (es : Array DictEntry) (n : Nat) (x : Str) (v : Value) (hv : Int) (tv : Tok) : Obj := { cls := .type "dict", data := .dict (es.push ⟨hv, .str x tv, v⟩) n }
section
variable {α : Type} {prog : Program} {w : World} {A : Around} {E : Value → Shared → Prop} {Q : α → Shared → Prop} {h₀ h : Heap} {g : Array GenState} {d : Drawn} {t : Nat} {os : OsState} {chg news : List (Addr × Obj)}
theorem m_load (D : Mem h₀ h chg news) (i : Nat) {a : Addr} {q : Option Value} {k : Obj → Sem α} {o : Obj} (hi : news[i]? = some (a, o)) (x : wpAny (model prog w) A (k o) Q E ⟨h, g, d, t, os⟩) : wpAny (model prog w) A (.load a q k) Q E ⟨h, g, d, t, os⟩ :=
  x_load (D.at i a o hi) x
theorem m_loadO (D : Mem h₀ h chg news) {a : Addr} {q : Option Value} {k : Obj → Sem α} {o : Obj} (e : h₀.get? a = some o) (hc : hasCls o = true) (x : wpAny (model prog w) A (k o) Q E ⟨h, g, d, t, os⟩) : wpAny (model prog w) A (.load a q k) Q E ⟨h, g, d, t, os⟩ :=
  x_load (D.keep a o e (by rw [hc]; rfl)) x
theorem m_loadN (D : Mem h₀ h [] news) {a : Addr} {q : Option Value} {k : Obj → Sem α} {o : Obj} (e : h₀.get? a = some o) (x : wpAny (model prog w) A (k o) Q E ⟨h, g, d, t, os⟩) : wpAny (model prog w) A (.load a q k) Q E ⟨h, g, d, t, os⟩ :=
  x_load (D.keep a o e (by rw [show away [] a = true from rfl, Bool.or_true])) x
theorem m_alloc (D : Mem h₀ h chg news) {o : Obj} {k : Addr → Sem α} (hf : o.isFreed = false) (x : ∀ a h', Mem h₀ h' chg ((a, o) :: news) → wpAny (model prog w) A (k a) Q E ⟨h', g, d, t, os⟩) : wpAny (model prog w) A (.alloc o k) Q E ⟨h, g, d, t, os⟩ :=
  wpAny_bind (m := alloc o) (f := k) (wpAny_alloc (x _ _ (D.alloc hf)))
theorem m_update (D : Mem h₀ h chg news) (i : Nat) {a : Addr} {q : Option Value} {f : Obj → Obj} {k : Unit → Sem α} {o : Obj} (hi : news[i]? = some (a, o)) (hf : (f o).isFreed = false) (x : ∀ h', Mem h₀ h' chg (news.set i (a, f o)) → wpAny (model prog w) A (k ()) Q E ⟨h', g, d, t, os⟩) : wpAny (model prog w) A (.update a q f k) Q E ⟨h, g, d, t, os⟩ :=
  wpAny_bind (m := updatePart a q f) (f := k) (wpAny_updatePart (D.at i a o hi) (x _ (D.update hi hf)))
theorem m_call {c : Code} {hd : Option Value} {gg : Bool} {l : List Value} {k : Result → Sem α} {s : Shared} (hnb : hd ≠ some byPass) (x : wpAny (model prog w) ((A.mark hd).under c) (denote PySem.W.XFast.tableX c) (fun fin s' => match fin with | .done f => wpAny (model prog w) A (k (.ok f)) Q E s' | .again c' => c'.quiet = true ∧ codeAny (model prog w) (A.mark hd) c' (fun r s' => wpAny (model prog w) A (k r) Q E s') s') (fun e s' => wpAny (model prog w) A (k (.error e)) Q E s') s) : wpAny (model prog w) A (.call c hd gg l k) Q E s :=
  x_call (x_code (by rw [show table = PySem.W.XFast.tableX from PySem.W.XFast.tableX_eq]; exact wpAny_mono x (fun fin s' h => by cases fin <;> exact h) fun _ _ h => h)) hnb
theorem m_again {c : Code} {R : Result → Shared → Prop} {s : Shared} (hq : c.quiet = true) (x : wpAny (model prog w) (A.under c) (denote PySem.W.XFast.tableX c) (fun fin s' => match fin with | .done f => R (.ok f) s' | .again c' => c'.quiet = true ∧ codeAny (model prog w) A c' R s') (fun e s' => R (.error e) s') s) : c.quiet = true ∧ codeAny (model prog w) A c R s :=
  ⟨hq, x_code (by rw [show table = PySem.W.XFast.tableX from PySem.W.XFast.tableX_eq]; exact x)⟩
theorem m_stack {k : List (Code × Pos) → Sem α} {s : Shared} (x : ∀ st, Lies A st → wpAny (model prog w) A (k st) Q E s) : wpAny (model prog w) A (.stack k) Q E s := fun Γ p hΓ => x _ (lies_of hΓ) Γ p hΓ
theorem m_bool {f t' : Sem α} {M : Bool} {s : Shared} (b : Bool) (e : M = b) (x : wpAny (model prog w) A (@Bool.rec (fun _ => Sem α) f t' b) Q E s) : wpAny (model prog w) A (@Bool.rec (fun _ => Sem α) f t' M) Q E s := by rw [e]; exact x
theorem or_mid (x z : Bool) : (x || true || z) = true := by cases x <;> rfl
theorem m_eq {t₁ t₂ : Sem α} {s : Shared} (e : t₁ = t₂) (x : wpAny (model prog w) A t₂ Q E s) : wpAny (model prog w) A t₁ Q E s := by rw [e]; exact x
theorem filt_self {inst : DecidableEq Value} (a : Addr) : List.filter (fun x => @bne Value (@instBEqOfDecidableEq _ inst) x (.ref a)) [.ref a, .type "object"] = [.type "object"] := by
  simp
theorem m_upd (D : Mem h₀ h chg news) (i : Nat) {a : Addr} {q : Option Value} {f : Obj → Obj} {k : Unit → Sem α} {o : Obj} (hi : news[i]? = some (a, o)) (o' : Obj) (e : f o = o') (hf : o'.isFreed = false) (x : ∀ h', Mem h₀ h' chg (news.set i (a, o')) → wpAny (model prog w) A (k ()) Q E ⟨h', g, d, t, os⟩) : wpAny (model prog w) A (.update a q f k) Q E ⟨h, g, d, t, os⟩ :=
  m_update D i hi (by rw [e]; exact hf) (by rw [e]; exact x)
theorem m_put (D : Mem h₀ h chg news) (i : Nat) {a : Addr} {q : Option Value} {f : Obj → Obj} {k : Unit → Sem α} {o : Obj} (hi : news[i]? = some (a, o)) (es : Array DictEntry) (n : Nat) (y : Str) (v : Value) (e : f o = putO es n y v (lastHash (f o)) (lastTok (f o))) (x : ∀ hv tv h', Mem h₀ h' chg (news.set i (a, putO es n y v hv tv)) → wpAny (model prog w) A (k ()) Q E ⟨h', g, d, t, os⟩) : wpAny (model prog w) A (.update a q f k) Q E ⟨h, g, d, t, os⟩ :=
  m_upd D i hi _ e rfl (x _ _)
theorem m_decF {M : Bool} {f : ¬ (M = true) → Sem α} {t' : M = true → Sem α} {inst : Decidable (M = true)} {s : Shared} (e : M = false) (x : wpAny (model prog w) A (f (by rw [e]; exact Bool.false_ne_true)) Q E s) : wpAny (model prog w) A (@Decidable.rec (M = true) (fun _ => Sem α) f t' inst) Q E s := by
  cases inst with
  | isTrue h => rw [e] at h; cases h
  | isFalse h => exact x
theorem m_decT {M : Bool} {f : ¬ (M = true) → Sem α} {t' : M = true → Sem α} {inst : Decidable (M = true)} {s : Shared} (e : M = true) (x : wpAny (model prog w) A (t' e) Q E s) : wpAny (model prog w) A (@Decidable.rec (M = true) (fun _ => Sem α) f t' inst) Q E s := by
  cases inst with
  | isTrue h => exact x
  | isFalse h => exact absurd e h
theorem cont_self {inst : DecidableEq Value} (C : Addr) (l : List Value) : @List.contains Value (@instBEqOfDecidableEq _ inst) (.ref C :: l) (.ref C) = true := by simp
theorem m_allocE {o : Obj} {k : Addr → Sem α} (hf : o.isFreed = false) (x : wpAny (model prog w) A (k h.objs.size) Q E ⟨h.push o, g, d, t, os⟩) : wpAny (model prog w) A (.alloc o k) Q E ⟨h, g, d, t, os⟩ :=
  wpAny_bind (m := alloc o) (f := k) (wpAny_alloc x)
theorem loop_eq {γ β : Type} {as as' : List γ} (e : as = as') (f : (a : γ) → a ∈ as → β → Sem (ForInStep β)) (b : β) (hh : ∃ bs, bs ++ as = as) : List.forIn'.loop as f as b hh = List.forIn'.loop as' (fun a ha => f a (e ▸ ha)) as' b ⟨[], rfl⟩ := by
  subst e; rfl
theorem after_self {inst : DecidableEq Value} (C : Addr) (l : List Value) : List.drop 1 (List.dropWhile (fun x => @bne Value (@instBEqOfDecidableEq _ inst) x (.ref C)) (.ref C :: l)) = l := by simp
theorem beq_ref_self {inst : DecidableEq Value} (C : Addr) : @BEq.beq Value (@instBEqOfDecidableEq _ inst) (.ref C) (.ref C) = true := by simp
theorem cond_t {γ : Type} (x y : γ) : X.condFn γ true x y = x := rfl
theorem m_fresh {k : Tok → Sem α} (x : wpAny (model prog w) A (k t) Q E ⟨h, g, d, t + 1, os⟩) : wpAny (model prog w) A (.fresh k) Q E ⟨h, g, d, t, os⟩ := x_fresh x
end
local macro_rules | `(tactic| walk_at "qm11c_p1") => `(tactic| first
  | with_reducible refine x_rule ?_ | with_reducible refine x_at ?_ | with_reducible refine x_point ?_ | with_reducible refine x_ask ?_ | with_reducible refine m_fresh ?_ | with_reducible refine x_handled ?_
  | ((with_reducible show wpAny _ _ (Sem.load _ _ _) _ _ _); (conv => arg 3; arg 1; whnf); first | (refine' m_loadN ?D ?e ?_; (case D => with_reducible assumption); (case e => with_reducible assumption)) | (refine' m_loadO ?D ?e ?hc ?_; (case D => with_reducible assumption); (case e => with_reducible assumption); (case hc => first | exact rfl | with_reducible assumption)) | (refine' m_load ?D 0 ?hi ?_; (case D => with_reducible assumption); (case hi => exact rfl)) | (refine' m_load ?D 1 ?hi ?_; (case D => with_reducible assumption); (case hi => exact rfl)) | (refine' m_load ?D 2 ?hi ?_; (case D => with_reducible assumption); (case hi => exact rfl)) | (refine' m_load ?D 3 ?hi ?_; (case D => with_reducible assumption); (case hi => exact rfl)) | (refine' m_load ?D 4 ?hi ?_; (case D => with_reducible assumption); (case hi => exact rfl)) | (refine' m_load ?D 5 ?hi ?_; (case D => with_reducible assumption); (case hi => exact rfl)) | (refine' m_load ?D 6 ?hi ?_; (case D => with_reducible assumption); (case hi => exact rfl)) | (refine' m_load ?D 7 ?hi ?_; (case D => with_reducible assumption); (case hi => exact rfl)) | (refine' m_loadN ?D ?e ?_; (case D => with_reducible assumption); (case e => assumption)))
  | ((with_reducible show wpAny _ _ (Sem.stack _) _ _ _); refine m_stack ?_; intro st L)
  | ((with_reducible show wpAny _ _ (Decidable.rec _ _ _) _ _ _); first | refine m_decF (by kernel_rfl!) ?_ | refine m_decT (by kernel_rfl!) ?_)
  | ((with_reducible show wpAny _ _ (Bool.rec _ _ _) _ _ _); first | refine m_bool false (by kernel_rfl!) ?_ | refine m_bool true (by kernel_rfl!) ?_)
  | ((with_reducible show wpAny _ _ (Sem.bind _ _) _ _ _); refine wpAny_bind ?_) | ((with_reducible show wpAny _ _ (Bind.bind _ _) _ _ _); refine wpAny_bind ?_))
local macro_rules | `(tactic| walk_at "qm11c_y1") => `(tactic| first
  | ((with_reducible show wpAny _ _ (Sem.pure _) _ _ _); refine x_pure ?_; first | show wpAny _ _ _ _ _ _ | refine m_again (by kernel_rfl!) ?_)
  | walk_at "qm11c_p1")
local macro_rules | `(tactic| walk_at "qm11c_p") => `(tactic| (conv => arg 3; whnf); walk_at "qm11c_p1")
local macro_rules | `(tactic| walk_at "qm11c_x1") => `(tactic| first
  | ((with_reducible show wpAny _ _ (Sem.alloc _ _) _ _ _); refine' m_alloc ?D ?hf ?_; (case D => with_reducible assumption); (case hf => exact rfl); intro a h D)
  | ((with_reducible show wpAny _ _ (Sem.call _ _ _ _ _) _ _ _); refine m_call (by simp [byPass]) ?_)
  | walk_at "qm11c_y1")
local macro_rules | `(tactic| walk_at "qm11c_z1") => `(tactic| first
  | ((with_reducible show wpAny _ _ (Sem.call _ _ _ _ _) _ _ _); refine m_call (by simp [byPass]) ?_)
  | walk_at "qm11c_y1")
local macro_rules | `(tactic| walk_at "qm11c_y") => `(tactic| (conv => arg 3; whnf); walk_at "qm11c_y1")
local macro_rules | `(tactic| walk_at "qm11c_z") => `(tactic| (conv => arg 3; whnf); walk_at "qm11c_z1")
local macro_rules | `(tactic| walk_at "qm11c_x") => `(tactic| (conv => arg 3; whnf); walk_at "qm11c_x1")
def kE (hf : Nat → Int) (tf : Nat → Tok) (sl f1 f2 f3 f4 f5 f6 st : Addr) : Array DictEntry := #[⟨hf 0, .str (S "__module__") (tf 0), .str (S "cpy313.functools") (tf 20)⟩, ⟨hf 1, .str (S "__qualname__") (tf 1), .str (S "cmp_to_key.<locals>.K") (tf 21)⟩, ⟨hf 2, .str (S "__firstlineno__") (tf 2), .int 64 (tf 22)⟩, ⟨hf 3, .str (S "__slots__") (tf 3), .ref sl⟩, ⟨hf 4, .str (S "__init__") (tf 4), .ref f1⟩, ⟨hf 5, .str (S "__lt__") (tf 5), .ref f2⟩, ⟨hf 6, .str (S "__gt__") (tf 6), .ref f3⟩, ⟨hf 7, .str (S "__eq__") (tf 7), .ref f4⟩, ⟨hf 8, .str (S "__le__") (tf 8), .ref f5⟩, ⟨hf 9, .str (S "__ge__") (tf 9), .ref f6⟩, ⟨hf 10, .str (S "__hash__") (tf 10), .none⟩, ⟨hf 11, .str (S "__static_attributes__") (tf 11), .ref st⟩]
def kE1 (hf : Nat → Int) (tf : Nat → Tok) (sl f1 f2 f3 f4 f5 f6 st : Addr) : Array DictEntry := #[⟨hf 0, .str (S "__module__") (tf 0), .str (S "cpy313.functools") (tf 20)⟩, ⟨hf 2, .str (S "__firstlineno__") (tf 2), .int 64 (tf 22)⟩, ⟨hf 3, .str (S "__slots__") (tf 3), .ref sl⟩, ⟨hf 4, .str (S "__init__") (tf 4), .ref f1⟩, ⟨hf 5, .str (S "__lt__") (tf 5), .ref f2⟩, ⟨hf 6, .str (S "__gt__") (tf 6), .ref f3⟩, ⟨hf 7, .str (S "__eq__") (tf 7), .ref f4⟩, ⟨hf 8, .str (S "__le__") (tf 8), .ref f5⟩, ⟨hf 9, .str (S "__ge__") (tf 9), .ref f6⟩, ⟨hf 10, .str (S "__hash__") (tf 10), .none⟩, ⟨hf 11, .str (S "__static_attributes__") (tf 11), .ref st⟩]
def deO (C : Addr) (t : Tok) : Obj := { cls := .type "member_descriptor", data := .fields #[.str (S "obj") t, .ref C, .builtin "proto.slot", .builtin "proto.slot#set", .int 0 0] }
def fieldTok (o : Obj) : Tok := match o.data with | .fields vs => (match (vs[0]? : Option Value) with | some (Value.str _ t) => t | _ => 0) | _ => 0
theorem mem_norm0 {h₀ h : Heap} {chg news : List (Addr × Obj)} {a : Addr} {o : Obj} (D : Mem h₀ h chg ((a, o) :: news)) (f : Tok → Obj) (e : o = f (fieldTok o)) : Mem h₀ h chg ((a, f (fieldTok o)) :: news) := e ▸ D
def clsO (N : Addr) (mro : List Value) (hd : Bool) (sn : List Str) (slots : Array (Option Value)) : Obj := { cls := .type "type", data := .cls { name := S "K", bases := [.type "object"], mro := mro, ns := N, qualname := S "cmp_to_key.<locals>.K", hasDict := hd, slotNames := sn }, slots := slots }
local macro_rules | `(tactic| walk_at "qm11c_w") => `(tactic| (conv => arg 3; whnf))
local macro_rules | `(tactic| walk_at "qm11c_u") => `(tactic| ((conv => arg 3; whnf); (conv => arg 3; arg 1; whnf)))

local macro_rules | `(tactic| walk_at "qm11c_v1") => `(tactic| first
  | ((with_reducible show wpAny _ _ (Sem.alloc _ _) _ _ _); refine' m_alloc ?D ?hf ?_; (case D => with_reducible assumption); (case hf => exact rfl); intro a h D)
  | walk_at "qm11c_y1")
local macro_rules | `(tactic| walk_at "qm11c_v") => `(tactic| (conv => arg 3; whnf); walk_at "qm11c_v1")
set_option maxHeartbeats 0 in
theorem super_get {prog : Program} {w : World} {A : Around} {E : Value → Shared → Prop} {Q : Fin → Shared → Prop} {h : Heap} {g d t0 os} {su C N b : Addr} {t : Tok} {nm qn : Tok} {oS : Obj}
    (hsu : h.get? su = some { cls := .type "super", data := .fields #[.ref C, .ref C, .ref C] })
    (hC : h.get? C = some (clsO N [.ref C, .type "object"] false [S "obj"] #[some (.ref b), none, some (.str (S "K") nm), some (.str (S "cmp_to_key.<locals>.K") qn), some (.builtin "object.__new__"), some (.bool false)]))
    (hS : h.get? cStatics = some oS) (hlk : nsLook (S "thirdparty.any") oS = Sem.pure none)
    (q : Q (.done (.ret (.ref h.objs.size))) ⟨h.push { cls := .type "builtin_function_or_method", data := .fields #[.builtin "object.__init_subclass__", .ref C] }, g, d, t0, os⟩) :
    wpAny (model prog w) A (denote PySem.W.XFast.tableX (.builtin "super.__getattribute__" ⟨[.ref su, .str (S "__init_subclass__") t], []⟩)) Q E ⟨h, g, d, t0, os⟩ := by
  have D := Mem.start h
  repeat walk_at "qm11c_z"
  refine m_eq (t₂ := Sem.pure none) ?e ?_
  case e =>
    show PySem.W.XFast.xw12049290149238594875 _ oS = _
    rw [← PySem.W.XFast.xe12049290149238594875]
    exact hlk
  repeat walk_at "qm11c_z"
  walk_at "qm11c_w"
  refine m_eq (loop_eq (after_self _ _) _ _ _) ?_
  repeat walk_at "qm11c_z"
  walk_at "qm11c_w"
  simp only [List.getElem_toArray, List.getElem_cons_succ, List.getElem_cons_zero, beq_ref_self, cond_t]
  repeat walk_at "qm11c_z"
  walk_at "qm11c_w"
  refine' m_allocE ?hf ?_
  case hf => exact rfl
  repeat walk_at "qm11c_z"
  walk_at "qm11c_w"
  refine x_pure ?_
  exact q
set_option maxHeartbeats 0 in
theorem type_new {prog : Program} {w : World} {A : Around} {E : Value → Shared → Prop} {Q : Fin → Shared → Prop} {h : Heap} {g d t0 os} {b n sl f1 f2 f3 f4 f5 f6 st : Addr} {tK to : Tok} {hf : Nat → Int} {tf : Nat → Tok} {fd1 fd2 fd3 fd4 fd5 fd6 : FuncData} {oS : Obj}
    (hS : h.get? cStatics = some oS) (hlk : nsLook (S "thirdparty.any") oS = Sem.pure none)
    (hb : h.get? b = some { cls := .type "tuple", data := .seq #[.type "object"] 0 })
    (hsl : h.get? sl = some { cls := .type "list", data := .seq #[.str (S "obj") to] 0 })
    (hst : h.get? st = some { cls := .type "tuple", data := .seq #[.str (S "obj") (tf 23)] 0 })
    (e1 : h.get? f1 = some { cls := .type "function", data := .func fd1 })
    (e2 : h.get? f2 = some { cls := .type "function", data := .func fd2 })
    (e3 : h.get? f3 = some { cls := .type "function", data := .func fd3 })
    (e4 : h.get? f4 = some { cls := .type "function", data := .func fd4 })
    (e5 : h.get? f5 = some { cls := .type "function", data := .func fd5 })
    (e6 : h.get? f6 = some { cls := .type "function", data := .func fd6 }) (hns : n ≠ sysModules)
    (hn : h.get? n = some { cls := .type "dict", data := .dict (kE hf tf sl f1 f2 f3 f4 f5 f6 st) 12 })
    (q : ∀ bd su de C N aL hv1 hv2 tv1 tv2 tde h' tk, Mem h h' [] [(bd, { cls := .type "builtin_function_or_method", data := .fields #[.builtin "object.__init_subclass__", .ref C] }), (su, { cls := .type "super", data := .fields #[.ref C, .ref C, .ref C] }), (de, deO C tde), (C, clsO N [.ref C, .type "object"] false [S "obj"] #[some (.ref b), none, some (.str (S "K") tK), some (.str (S "cmp_to_key.<locals>.K") (tf 21)), some (.builtin "object.__new__"), some (.bool false)]), (N, putO ((kE1 hf tf sl f1 f2 f3 f4 f5 f6 st).push ⟨hv1, .str (S "obj") tv1, .ref de⟩) 3 (S "__doc__") .none hv2 tv2), (aL, { cls := .type "list", data := .seq #[.str (S "obj") to] 1 })] → Q (.done (.ret (.ref C))) ⟨h', g, d, tk, os⟩) :
    wpAny (model prog w) A (denote PySem.W.XFast.tableX (.builtin "type.__new__" ⟨[.type "type", .str (S "K") tK, .ref b, .ref n], []⟩)) Q E ⟨h, g, d, t0, os⟩ := by
  have D := Mem.start h
  walk_at "qm11c_x"
  walk_at "qm11c_x"
  walk_at "qm11c_x"
  (conv => arg 3; whnf)
  have hns' : (n == sysModules) = false := by simpa using hns
  rw [hns']
  repeat walk_at "qm11c_x"
  walk_at "qm11c_w"
  refine m_bool true (or_mid _ _) ?_
  repeat walk_at "qm11c_x"
  rename_i aL _ _
  walk_at "qm11c_u"
  refine' m_upd ?D 0 ?hi { cls := .type "list", data := .seq #[.str (S "obj") to] 1 } ?e rfl ?_
  case D => with_reducible assumption
  case hi => exact rfl
  case e => kernel_rfl!
  intro _ D
  dsimp only [List.set] at D
  repeat walk_at "qm11c_x"
  walk_at "qm11c_w"
  rw [show PySem.W.XFast.xw10133417225327028743 (S "obj") = some true from by kernel_rfl!]
  repeat walk_at "qm11c_x"
  rename_i N _ _ C _ _
  walk_at "qm11c_u"
  refine' m_upd ?D 0 ?hi (clsO N [] true [] #[some (.ref b)]) ?e rfl ?_
  case D => with_reducible assumption
  case hi => exact rfl
  case e => kernel_rfl!
  intro _ D
  dsimp only [List.set] at D
  repeat walk_at "qm11c_x"
  walk_at "qm11c_u"
  refine' m_upd ?D 0 ?hi (clsO N [] true [] #[some (.ref b), none, some (.str (S "K") tK)]) ?e rfl ?_
  case D => with_reducible assumption
  case hi => exact rfl
  case e => kernel_rfl!
  intro _ D
  dsimp only [List.set] at D
  repeat walk_at "qm11c_x"
  walk_at "qm11c_u"
  refine' m_upd ?D 0 ?hi (clsO N [] true [] #[some (.ref b), none, some (.str (S "K") tK), some (.str (S "cmp_to_key.<locals>.K") (tf 21))]) ?e rfl ?_
  case D => with_reducible assumption
  case hi => exact rfl
  case e => kernel_rfl!
  intro _ D
  dsimp only [List.set] at D
  repeat walk_at "qm11c_x"
  walk_at "qm11c_u"
  refine' m_upd ?D 1 ?hi { cls := .type "dict", data := .dict (kE1 hf tf sl f1 f2 f3 f4 f5 f6 st) 1 } ?e rfl ?_
  case D => with_reducible assumption
  case hi => exact rfl
  case e => kernel_rfl!
  intro _ D
  dsimp only [List.set] at D
  repeat walk_at "qm11c_x"
  walk_at "qm11c_w"
  refine m_eq (congrArg (List.anyM _) (filt_self _)) ?_
  repeat walk_at "qm11c_x"
  walk_at "qm11c_u"
  refine' m_upd ?D 0 ?hi (clsO N [.ref C, .type "object"] true [] #[some (.ref b), none, some (.str (S "K") tK), some (.str (S "cmp_to_key.<locals>.K") (tf 21))]) ?e rfl ?_
  case D => with_reducible assumption
  case hi => exact rfl
  case e => kernel_rfl!
  intro _ D
  dsimp only [List.set] at D
  repeat walk_at "qm11c_x"
  walk_at "qm11c_u"
  refine' m_upd ?D 0 ?hi (clsO N [.ref C, .type "object"] true [] #[some (.ref b), none, some (.str (S "K") tK), some (.str (S "cmp_to_key.<locals>.K") (tf 21)), some (.builtin "object.__new__")]) ?e rfl ?_
  case D => with_reducible assumption
  case hi => exact rfl
  case e => kernel_rfl!
  intro _ D
  dsimp only [List.set] at D
  repeat walk_at "qm11c_x"
  rename_i de _ Dd
  obtain ⟨tde, De⟩ : ∃ tde, Mem _ _ _ ((de, deO C tde) :: _) := ⟨_, mem_norm0 Dd (deO C) (by kernel_rfl!)⟩
  clear Dd
  walk_at "qm11c_u"
  refine' m_put ?D 2 ?hi (kE1 hf tf sl f1 f2 f3 f4 f5 f6 st) 2 (S "obj") (.ref de) ?e ?_
  case D => with_reducible assumption
  case hi => exact rfl
  case e => kernel_rfl!
  intro hv_2_2 tv_2_2 _ D
  dsimp only [List.set] at D
  repeat walk_at "qm11c_x"
  walk_at "qm11c_u"
  refine' m_upd ?D 1 ?hi (clsO N [.ref C, .type "object"] false [S "obj"] #[some (.ref b), none, some (.str (S "K") tK), some (.str (S "cmp_to_key.<locals>.K") (tf 21)), some (.builtin "object.__new__")]) ?e rfl ?_
  case D => with_reducible assumption
  case hi => exact rfl
  case e => kernel_rfl!
  intro _ D
  dsimp only [List.set] at D
  repeat walk_at "qm11c_x"
  walk_at "qm11c_u"
  refine' m_upd ?D 1 ?hi (clsO N [.ref C, .type "object"] false [S "obj"] #[some (.ref b), none, some (.str (S "K") tK), some (.str (S "cmp_to_key.<locals>.K") (tf 21)), some (.builtin "object.__new__"), some (.bool false)]) ?e rfl ?_
  case D => with_reducible assumption
  case hi => exact rfl
  case e => kernel_rfl!
  intro _ D
  dsimp only [List.set] at D
  repeat walk_at "qm11c_x"
  walk_at "qm11c_u"
  refine' m_put ?D 2 ?hi ((kE1 hf tf sl f1 f2 f3 f4 f5 f6 st).push ⟨hv_2_2, .str (S "obj") tv_2_2, .ref de⟩) 3 (S "__doc__") (.none) ?e ?_
  case D => with_reducible assumption
  case hi => exact rfl
  case e => kernel_rfl!
  intro hv_2_3 tv_2_3 _ D
  dsimp only [List.set] at D
  repeat walk_at "qm11c_x"
  walk_at "qm11c_w"
  refine m_bool true (cont_self _ _) ?_
  repeat walk_at "qm11c_x"
  rename_i su _ _
  walk_at "qm11c_u"
  refine' m_upd ?D 0 ?hi { cls := .type "super", data := .fields #[.ref C, .none, .none] } ?e rfl ?_
  case D => with_reducible assumption
  case hi => exact rfl
  case e => kernel_rfl!
  intro _ D
  dsimp only [List.set] at D
  repeat walk_at "qm11c_x"
  walk_at "qm11c_u"
  refine' m_upd ?D 0 ?hi { cls := .type "super", data := .fields #[.ref C, .ref C, .none] } ?e rfl ?_
  case D => with_reducible assumption
  case hi => exact rfl
  case e => kernel_rfl!
  intro _ D
  dsimp only [List.set] at D
  repeat walk_at "qm11c_x"
  walk_at "qm11c_u"
  refine' m_upd ?D 0 ?hi { cls := .type "super", data := .fields #[.ref C, .ref C, .ref C] } ?e rfl ?_
  case D => with_reducible assumption
  case hi => exact rfl
  case e => kernel_rfl!
  intro _ D9
  dsimp only [List.set] at D9
  repeat walk_at "qm11c_v"
  walk_at "qm11c_w"
  refine m_call (by simp [byPass]) ?_
  repeat walk_at "qm11c_p"
  walk_at "qm11c_w"
  refine x_pure ?_
  refine m_again (by kernel_rfl!) ?_
  refine m_eq (congrArg (denote _) (congr (congrArg Code.builtin (show _ = "super.__getattribute__" by kernel_rfl!)) (rfl : _ = _))) ?_
  refine super_get (D9.at 0 _ _ rfl) (D9.at 2 _ _ rfl) (D9.keep _ _ hS (by rw [show away [] cStatics = true from rfl, Bool.or_true])) hlk ?_
  have D := Mem.alloc D9 (o := { cls := .type "builtin_function_or_method", data := .fields #[.builtin "object.__init_subclass__", .ref C] }) rfl
  clear D9
  generalize Heap.push _ _ = h9 at D ⊢
  generalize Array.size _ = bd at D ⊢
  show wpAny _ _ _ _ _ _
  repeat walk_at "qm11c_x"
  walk_at "qm11c_w"
  refine x_pure ?_
  exact q _ _ _ _ _ _ _ _ _ _ _ _ _ D

local macro_rules | `(tactic| walk_at "qm11d_p1") => `(tactic| first
  | with_reducible refine x_rule ?_ | with_reducible refine x_at ?_ | with_reducible refine x_point ?_ | with_reducible refine x_ask ?_ | with_reducible refine m_fresh ?_ | with_reducible refine x_handled ?_
  | ((with_reducible show wpAny _ _ (Sem.load _ _ _) _ _ _); (conv => arg 3; arg 1; whnf); first | (refine' m_loadN ?D ?e ?_; (case D => with_reducible assumption); (case e => with_reducible assumption)) | (refine' m_loadO ?D ?e ?hc ?_; (case D => with_reducible assumption); (case e => with_reducible assumption); (case hc => first | exact rfl | with_reducible assumption)) | (refine' m_load ?D 0 ?hi ?_; (case D => with_reducible assumption); (case hi => exact rfl)) | (refine' m_load ?D 1 ?hi ?_; (case D => with_reducible assumption); (case hi => exact rfl)) | (refine' m_load ?D 2 ?hi ?_; (case D => with_reducible assumption); (case hi => exact rfl)) | (refine' m_load ?D 3 ?hi ?_; (case D => with_reducible assumption); (case hi => exact rfl)) | (refine' m_load ?D 4 ?hi ?_; (case D => with_reducible assumption); (case hi => exact rfl)) | (refine' m_load ?D 5 ?hi ?_; (case D => with_reducible assumption); (case hi => exact rfl)) | (refine' m_load ?D 6 ?hi ?_; (case D => with_reducible assumption); (case hi => exact rfl)) | (refine' m_load ?D 7 ?hi ?_; (case D => with_reducible assumption); (case hi => exact rfl)) | (refine' m_loadN ?D ?e ?_; (case D => with_reducible assumption); (case e => assumption)))
  | ((with_reducible show wpAny _ _ (Sem.stack _) _ _ _); refine m_stack ?_; intro st L)
  | ((with_reducible show wpAny _ _ (Decidable.rec _ _ _) _ _ _); first | refine m_decF (by kernel_rfl!) ?_ | refine m_decT (by kernel_rfl!) ?_)
  | ((with_reducible show wpAny _ _ (Bool.rec _ _ _) _ _ _); first | refine m_bool false (by kernel_rfl!) ?_ | refine m_bool true (by kernel_rfl!) ?_)
  | ((with_reducible show wpAny _ _ (Sem.bind _ _) _ _ _); refine wpAny_bind ?_) | ((with_reducible show wpAny _ _ (Bind.bind _ _) _ _ _); refine wpAny_bind ?_))
local macro_rules | `(tactic| walk_at "qm11d_y1") => `(tactic| first
  | ((with_reducible show wpAny _ _ (Sem.pure _) _ _ _); refine x_pure ?_; first | show wpAny _ _ _ _ _ _ | refine m_again (by kernel_rfl!) ?_)
  | walk_at "qm11d_p1")
local macro_rules | `(tactic| walk_at "qm11d_p") => `(tactic| (conv => arg 3; whnf); walk_at "qm11d_p1")
local macro_rules | `(tactic| walk_at "qm11d_x1") => `(tactic| first
  | ((with_reducible show wpAny _ _ (Sem.alloc _ _) _ _ _); refine' m_alloc ?D ?hf ?_; (case D => with_reducible assumption); (case hf => exact rfl); intro a h D)
  | ((with_reducible show wpAny _ _ (Sem.call _ _ _ _ _) _ _ _); refine m_call (by simp [byPass]) ?_)
  | walk_at "qm11d_y1")
local macro_rules | `(tactic| walk_at "qm11d_z1") => `(tactic| first
  | ((with_reducible show wpAny _ _ (Sem.call _ _ _ _ _) _ _ _); refine m_call (by simp [byPass]) ?_)
  | walk_at "qm11d_y1")
local macro_rules | `(tactic| walk_at "qm11d_y") => `(tactic| (conv => arg 3; whnf); walk_at "qm11d_y1")
local macro_rules | `(tactic| walk_at "qm11d_z") => `(tactic| (conv => arg 3; whnf); walk_at "qm11d_z1")
local macro_rules | `(tactic| walk_at "qm11d_x") => `(tactic| (conv => arg 3; whnf); walk_at "qm11d_x1")
local macro_rules | `(tactic| walk_at "qm11d_w") => `(tactic| (conv => arg 3; whnf))
local macro_rules | `(tactic| walk_at "qm11d_u") => `(tactic| ((conv => arg 3; whnf); (conv => arg 3; arg 1; whnf)))
local macro_rules | `(tactic| walk_at "qm11d_v1") => `(tactic| first
  | ((with_reducible show wpAny _ _ (Sem.alloc _ _) _ _ _); refine' m_alloc ?D ?hf ?_; (case D => with_reducible assumption); (case hf => exact rfl); intro a h D)
  | walk_at "qm11d_y1")
local macro_rules | `(tactic| walk_at "qm11d_v") => `(tactic| (conv => arg 3; whnf); walk_at "qm11d_v1")
local macro_rules | `(tactic| walk_at "qm11d_r1") => `(tactic| first
  | ((with_reducible show wpAny _ _ (Sem.pure _) _ _ _); refine x_pure ?_; show wpAny _ _ _ _ _ _)
  | walk_at "qm11d_p1")
local macro_rules | `(tactic| walk_at "qm11d_r") => `(tactic| (conv => arg 3; whnf); walk_at "qm11d_r1")
set_option maxHeartbeats 0 in
theorem call_type {prog : Program} {w : World} {A : Around} {E : Value → Shared → Prop} {Q : Value → Shared → Prop} {h : Heap} {g d t0 os} {b n sl f1 f2 f3 f4 f5 f6 st : Addr} {tK to : Tok} {hf : Nat → Int} {tf : Nat → Tok} {fd1 fd2 fd3 fd4 fd5 fd6 : FuncData} {oS : Obj}
    (hS : h.get? cStatics = some oS) (hlk : nsLook (S "thirdparty.any") oS = Sem.pure none)
    (hb : h.get? b = some { cls := .type "tuple", data := .seq #[.type "object"] 0 })
    (hsl : h.get? sl = some { cls := .type "list", data := .seq #[.str (S "obj") to] 0 })
    (hst : h.get? st = some { cls := .type "tuple", data := .seq #[.str (S "obj") (tf 23)] 0 })
    (e1 : h.get? f1 = some { cls := .type "function", data := .func fd1 })
    (e2 : h.get? f2 = some { cls := .type "function", data := .func fd2 })
    (e3 : h.get? f3 = some { cls := .type "function", data := .func fd3 })
    (e4 : h.get? f4 = some { cls := .type "function", data := .func fd4 })
    (e5 : h.get? f5 = some { cls := .type "function", data := .func fd5 })
    (e6 : h.get? f6 = some { cls := .type "function", data := .func fd6 }) (hns : n ≠ sysModules)
    (hn : h.get? n = some { cls := .type "dict", data := .dict (kE hf tf sl f1 f2 f3 f4 f5 f6 st) 12 })
    (q : ∀ bd su de C N aL hv1 hv2 tv1 tv2 tde h' tk, Mem h h' [] [(bd, { cls := .type "builtin_function_or_method", data := .fields #[.builtin "object.__init_subclass__", .ref C] }), (su, { cls := .type "super", data := .fields #[.ref C, .ref C, .ref C] }), (de, deO C tde), (C, clsO N [.ref C, .type "object"] false [S "obj"] #[some (.ref b), none, some (.str (S "K") tK), some (.str (S "cmp_to_key.<locals>.K") (tf 21)), some (.builtin "object.__new__"), some (.bool false)]), (N, putO ((kE1 hf tf sl f1 f2 f3 f4 f5 f6 st).push ⟨hv1, .str (S "obj") tv1, .ref de⟩) 3 (S "__doc__") .none hv2 tv2), (aL, { cls := .type "list", data := .seq #[.str (S "obj") to] 1 })] → Q (.ref C) ⟨h', g, d, tk, os⟩) :
    wpAny (model prog w) A (call (.type "type") [.str (S "K") tK, .ref b, .ref n]) Q E ⟨h, g, d, t0, os⟩ := by
  have D := Mem.start h
  walk_at "qm11d_w"
  refine m_call (by simp [byPass]) ?_
  repeat walk_at "qm11d_r"
  walk_at "qm11d_w"
  refine x_pure ?_
  refine m_again (by kernel_rfl!) ?_
  repeat walk_at "qm11d_v"
  walk_at "qm11d_w"
  refine m_call (by simp [byPass]) ?_
  repeat walk_at "qm11d_r"
  walk_at "qm11d_w"
  refine x_pure ?_
  refine m_again ?hq ?_
  case hq => kernel_rfl!
  refine m_eq (congrArg (denote _) (congr (congrArg Code.builtin (show _ = "type.__new__" from ?eid)) (rfl : _ = _))) ?_
  case eid => kernel_rfl!
  refine type_new hS hlk hb hsl hst e1 e2 e3 e4 e5 e6 hns hn ?_
  intro bd su de C N aL hv1 hv2 tv1 tv2 tde h' tk D'
  clear D
  show wpAny _ _ _ _ _ _
  repeat walk_at "qm11d_x"
  walk_at "qm11d_w"
  refine x_pure ?_
  exact q _ _ _ _ _ _ _ _ _ _ _ _ _ D'

local macro_rules | `(tactic| walk_at "qm11e_p1") => `(tactic| first
  | with_reducible refine x_rule ?_ | with_reducible refine x_at ?_ | with_reducible refine x_point ?_ | with_reducible refine x_ask ?_ | with_reducible refine m_fresh ?_ | with_reducible refine x_handled ?_
  | ((with_reducible show wpAny _ _ (Sem.load _ _ _) _ _ _); (conv => arg 3; arg 1; whnf); first | (refine' m_loadO ?D ?e ?hc ?_; (case D => with_reducible assumption); (case e => with_reducible assumption); (case hc => first | exact rfl | with_reducible assumption)) | (refine' m_load ?D 0 ?hi ?_; (case D => with_reducible assumption); (case hi => exact rfl)) | (refine' m_load ?D 1 ?hi ?_; (case D => with_reducible assumption); (case hi => exact rfl)) | (refine' m_load ?D 2 ?hi ?_; (case D => with_reducible assumption); (case hi => exact rfl)) | (refine' m_load ?D 3 ?hi ?_; (case D => with_reducible assumption); (case hi => exact rfl)) | (refine' m_load ?D 4 ?hi ?_; (case D => with_reducible assumption); (case hi => exact rfl)) | (refine' m_load ?D 5 ?hi ?_; (case D => with_reducible assumption); (case hi => exact rfl)) | (refine' m_load ?D 6 ?hi ?_; (case D => with_reducible assumption); (case hi => exact rfl)) | (refine' m_load ?D 7 ?hi ?_; (case D => with_reducible assumption); (case hi => exact rfl)) | (refine' m_loadO ?D ?e ?hc ?_; (case D => with_reducible assumption); (case e => assumption); (case hc => first | exact rfl | assumption)))
  | ((with_reducible show wpAny _ _ (Sem.stack _) _ _ _); refine m_stack ?_; intro st L)
  | ((with_reducible show wpAny _ _ (Decidable.rec _ _ _) _ _ _); first | refine m_decF (by kernel_rfl!) ?_ | refine m_decT (by kernel_rfl!) ?_)
  | ((with_reducible show wpAny _ _ (Bool.rec _ _ _) _ _ _); first | refine m_bool false (by kernel_rfl!) ?_ | refine m_bool true (by kernel_rfl!) ?_)
  | ((with_reducible show wpAny _ _ (Sem.bind _ _) _ _ _); refine wpAny_bind ?_) | ((with_reducible show wpAny _ _ (Bind.bind _ _) _ _ _); refine wpAny_bind ?_))
local macro_rules | `(tactic| walk_at "qm11e_y1") => `(tactic| first
  | ((with_reducible show wpAny _ _ (Sem.pure _) _ _ _); refine x_pure ?_; first | show wpAny _ _ _ _ _ _ | refine m_again (by kernel_rfl!) ?_)
  | walk_at "qm11e_p1")
local macro_rules | `(tactic| walk_at "qm11e_p") => `(tactic| (conv => arg 3; whnf); walk_at "qm11e_p1")
local macro_rules | `(tactic| walk_at "qm11e_x1") => `(tactic| first
  | ((with_reducible show wpAny _ _ (Sem.alloc _ _) _ _ _); refine' m_alloc ?D ?hf ?_; (case D => with_reducible assumption); (case hf => exact rfl); intro a h D)
  | ((with_reducible show wpAny _ _ (Sem.call _ _ _ _ _) _ _ _); refine m_call (by simp [byPass]) ?_)
  | walk_at "qm11e_y1")
local macro_rules | `(tactic| walk_at "qm11e_z1") => `(tactic| first
  | ((with_reducible show wpAny _ _ (Sem.call _ _ _ _ _) _ _ _); refine m_call (by simp [byPass]) ?_)
  | walk_at "qm11e_y1")
local macro_rules | `(tactic| walk_at "qm11e_y") => `(tactic| (conv => arg 3; whnf); walk_at "qm11e_y1")
local macro_rules | `(tactic| walk_at "qm11e_z") => `(tactic| (conv => arg 3; whnf); walk_at "qm11e_z1")
local macro_rules | `(tactic| walk_at "qm11e_x") => `(tactic| (conv => arg 3; whnf); walk_at "qm11e_x1")
local macro_rules | `(tactic| walk_at "qm11e_w") => `(tactic| (conv => arg 3; whnf))
local macro_rules | `(tactic| walk_at "qm11e_u") => `(tactic| ((conv => arg 3; whnf); (conv => arg 3; arg 1; whnf)))
local macro_rules | `(tactic| walk_at "qm11e_v1") => `(tactic| first
  | ((with_reducible show wpAny _ _ (Sem.alloc _ _) _ _ _); refine' m_alloc ?D ?hf ?_; (case D => with_reducible assumption); (case hf => exact rfl); intro a h D)
  | walk_at "qm11e_y1")
local macro_rules | `(tactic| walk_at "qm11e_v") => `(tactic| (conv => arg 3; whnf); walk_at "qm11e_v1")
local macro_rules | `(tactic| walk_at "qm11e_r1") => `(tactic| first
  | ((with_reducible show wpAny _ _ (Sem.pure _) _ _ _); refine x_pure ?_; show wpAny _ _ _ _ _ _)
  | walk_at "qm11e_p1")
local macro_rules | `(tactic| walk_at "qm11e_r") => `(tactic| (conv => arg 3; whnf); walk_at "qm11e_r1")
theorem mem_keeps {h₀ h h' : Heap} {chg news : List (Addr × Obj)} (D : Mem h₀ h chg news) (k : ∀ b o, h.get? b = some o → h'.get? b = some o) : Mem h₀ h' chg news :=
  ⟨fun b o e q => k b o (D.keep b o e q), fun p hp => ⟨k _ _ (D.ch p hp).1, (D.ch p hp).2⟩, D.cd, fun p hp => ⟨k _ _ (D.nw p hp).1, (D.nw p hp).2⟩, D.ord⟩
/-- the def __init__ of the class -/
structure InitFn (fd : FuncData) : Prop where
  body : ∃ p1 p2 p3 p4, fd.body = .stmts [.Assign [.Attribute (.Name (S "self") p1) (S "obj") p2] (.Name (S "obj") p3) p4]
  bind : ∀ x y, bindArgs fd ⟨[x, y], []⟩ = pure [(S "self", x), (S "obj", y)]
  clos : fd.closure = []
  self : fd.scope.names.lookup (S "self") = some .local
  obj : fd.scope.names.lookup (S "obj") = some .local
  co : fd.scope.isCoroutine = false
  gen : fd.scope.isGenerator = false
  kind : fd.scope.kind = .function
theorem ncont_self {inst : DecidableEq Value} (C : Addr) (l : List Value) : (!@List.contains Value (@instBEqOfDecidableEq _ inst) (.ref C :: l) (.ref C)) = false := by simp
set_option maxHeartbeats 0 in
theorem key_call {prog : Program} {w : World} {A : Around} {E : Value → Shared → Prop} {Q : Value → Shared → Prop} {h : Heap} {g d t0 os} {b C N de sl f1 f2 f3 f4 f5 f6 st : Addr} {tK tde tv1 tv2 : Tok} {hv1 hv2 : Int} {hf : Nat → Int} {tf : Nat → Tok} {fd1 : FuncData} {v : Int} {tv : Tok}
    (hC : h.get? C = some (clsO N [.ref C, .type "object"] false [S "obj"] #[some (.ref b), none, some (.str (S "K") tK), some (.str (S "cmp_to_key.<locals>.K") (tf 21)), some (.builtin "object.__new__"), some (.bool false)]))
    (hN : h.get? N = some (putO ((kE1 hf tf sl f1 f2 f3 f4 f5 f6 st).push ⟨hv1, .str (S "obj") tv1, .ref de⟩) 3 (S "__doc__") .none hv2 tv2))
    (hde : h.get? de = some (deO C tde))
    (e1 : h.get? f1 = some { cls := .type "function", data := .func fd1 }) (F : InitFn fd1) (hcd : h.CodeRec fd1.code fd1.qualname) (hlim : h.NoLimit) (hdp : A.depth + 3 < recursionLimit)
    (q : ∀ ko dk h' tk, (∀ b x, h.get? b = some x → h'.get? b = some x) → h.get? ko = none → h'.get? ko = some { cls := .ref C, dict := some dk, slots := #[some (.int v tv)] } → Q (.ref ko) ⟨h', g, d, tk, os⟩) :
    wpAny (model prog w) A (call (.ref C) [.int v tv]) Q E ⟨h, g, d, t0, os⟩ := by
  have D := Mem.start h
  walk_at "qm11e_w"
  refine m_call (by simp [byPass]) ?_
  repeat walk_at "qm11e_v"
  walk_at "qm11e_w"
  refine m_call (by simp [byPass]) ?_
  repeat walk_at "qm11e_v"
  walk_at "qm11e_w"
  refine m_bool false (ncont_self _ _) ?_
  repeat walk_at "qm11e_v"
  walk_at "qm11e_w"
  rename_i dk _ _ ko h2 D2
  refine x_call ?_ (by simp [byPass])
  obtain ⟨p1, p2, p3, p4, hbody⟩ := F.body
  have k2 : ∀ b o, h.get? b = some o → h2.get? b = some o := fun b o e => D2.keep b o e (by rw [show away [] b = true from rfl, Bool.or_true])
  refine codeAny_call_cells (a := f1) (vals := [.ref ko, .int v tv]) (by show A.depth + 1 < recursionLimit; omega) (k2 _ _ e1) rfl (hlim.keeps k2) (hcd.keeps k2) hbody (F.bind _ _) F.clos ?_ ?_ F.co F.gen F.kind
  · intro x hx
    simp only [List.mem_cons, List.not_mem_nil, or_false] at hx
    rcases hx with rfl | rfl
    · exact .inl F.self
    · exact .inl F.obj
  · intro s₁ C1
    obtain ⟨h3, tk3, e3, k3⟩ := C1.done
    subst e3
    have D3 := mem_keeps D2 k3
    clear D2 D
    have kk : (callEnvC fd1 h2.objs.size f1).scope.kind = .function := F.kind
    have ks : (callEnvC fd1 h2.objs.size f1).kindOf (S "self") = some .local := F.self
    have ko' : (callEnvC fd1 h2.objs.size f1).kindOf (S "obj") = some .local := F.obj
    have nd : (([(S "self", Value.ref ko), (S "obj", Value.int v tv)] : List (Str × Value)).map (·.1)).Nodup := by show ([S "self", S "obj"] : List Str).Nodup; decide +kernel
    refine wpAny_execs_cons (plainObj_wpAny_Assign_Attribute (wpAny_Name (wpAny_loadName_local kk ko' C1.toInCall.ns (bindL_get (v := .int v tv) ko' _ _ nd (.tail _ (.head _))) ?_) (by decide +kernel)) (by rfl))
    refine wpAny_Name (wpAny_loadName_local kk ks C1.toInCall.ns (bindL_get (v := .ref ko) ks _ _ nd (.head _)) ?_) (by decide +kernel)
    rw [PySem.W.XFast.xe4178937747021576048]
    repeat walk_at "qm11e_x"
    walk_at "qm11e_w"
    refine m_bool false (ncont_self _ _) ?_
    repeat walk_at "qm11e_x"
    walk_at "qm11e_u"
    refine' m_upd ?D 0 ?hi { cls := .ref C, dict := some dk, slots := #[some (.int v tv)] } ?e rfl ?_
    case D => with_reducible assumption
    case hi => exact rfl
    case e => kernel_rfl!
    intro h4 D4
    dsimp only [List.set] at D4
    clear D3
    repeat walk_at "qm11e_x"
    walk_at "qm11e_w"
    refine x_pure ?_
    exact q ko dk h4 _ (fun b o e => D4.keep b o e (by rw [show away [] b = true from rfl, Bool.or_true])) (D4.nw _ (.head _)).2 (D4.at 0 _ _ rfl)

section
variable {α : Type} {prog : Program} {w : World} {A : Around} {E : Value → Shared → Prop} {Q : α → Shared → Prop} {s : Shared}
theorem m_keep {vs : List Value} {m : Sem α} (x : wpAny (model prog w) A m Q E s) : wpAny (model prog w) A (m.keep vs) Q E s := fun Γ p hΓ => by
  rw [Sem.wp_keep]; exact x Γ p hΓ
theorem m_condF {b : Bool} {x y : Sem α} (e : b = false) (h : wpAny (model prog w) A y Q E s) : wpAny (model prog w) A (X.condFn (Sem α) b x y) Q E s := by rw [e]; exact h
theorem m_condT {b : Bool} {x y : Sem α} (e : b = true) (h : wpAny (model prog w) A x Q E s) : wpAny (model prog w) A (X.condFn (Sem α) b x y) Q E s := by rw [e]; exact h
end
theorem str_noref {es : Array DictEntry} (hk : StrKeys es) : es.any (fun e => e.refKey) = false := by
  rw [Array.any_eq_false]
  intro i hi
  obtain ⟨n, t, e⟩ := hk _ (Array.getElem_mem hi)
  unfold DictEntry.refKey
  rw [e]
  simp
theorem look_ns {o : Obj} {es : Array DictEntry} {ep : Nat} (hd : o.data = .dict es ep) (hk : StrKeys es) (n : Str) : nsLook n o = Sem.pure (nsFind es n) := by
  rw [nsLook_eq]
  unfold nsLookByArray nsFind findBy
  rw [hd]
  dsimp only
  rw [str_noref hk]
  cases es.find? (fun e => e.key.isStr n) <;> rfl
theorem lookAt {o : Obj} {m : Str → Option Value} {n : Str} {r : Option Value} (lk : ∀ n, nsLook n o = Sem.pure (m n)) (hv : m n = r) : ((fun x => (Sem.pure x).bind fun o => PySem.W.XFast.xw12049290149238594875 n o) o) = Sem.pure r := by
  show PySem.W.XFast.xw12049290149238594875 n o = _
  rw [← PySem.W.XFast.xe12049290149238594875, lk, hv]
theorem lookAt0 {o : Obj} {m : Str → Option Value} {n : Str} {r : Option Value} (lk : ∀ n, nsLook n o = Sem.pure (m n)) (hv : m n = r) : ((fun x => (Sem.pure x).bind fun o => nsLook n o) o) = Sem.pure r := by
  show nsLook n o = _
  rw [lk, hv]
abbrev nsO (es : Array DictEntry) (n : Nat) : Obj := { cls := .type "dict", data := .dict es n }
section
variable {M : Model} {A : Around} {E : Value → Shared → Prop} {s : Shared}
theorem wpAny_strHash' {n : Str} {Q : Int → Shared → Prop} (h : ∀ x, Q x s) : wpAny M A (strHash n) Q E s := by
  unfold strHash
  exact wpAny_bind (wpAny_askSetting (wpAny_pure (h _)))
/-- a store in the class's namespace -/
theorem cls_store {env : Env} {N : Addr} {name : Str} {v : Value} {es : Array DictEntry} {n : Nat} {Q : Unit → Shared → Prop} (hl : env.locals = N)
    (hst : storeName env name v = localSet env name v) (hN : s.heap.get? N = some (nsO es n)) (hr : aRefKeyMayBeTheName name es = false) (es' : Int → Tok → Array DictEntry) (n' : Nat)
    (hp : ∀ hh tk, Obj.putName name hh (.str name tk) v (nsO es n) = nsO (es' hh tk) n')
    (h : ∀ hh tk h' t', Heap.SameBut N s.heap h' → h'.get? N = some (nsO (es' hh tk) n') → Q () { s with heap := h', toks := t' }) : wpAny M A (storeName env name v) Q E s := by
  subst hl
  rw [hst]
  unfold localSet
  refine wpAny_bind (wpAny_load hN ?_)
  rw [if_pos (by rfl)]
  unfold nsSet
  refine wpAny_bind (wpAny_strHash' fun hh => wpAny_bind (wpAny_mkText (wpAny_bind (wpAny_loadPart hN ?_))))
  dsimp only
  rw [hr]
  refine wpAny_updatePart hN ?_
  refine h hh s.toks _ _ (Heap.SameBut.update ..) ?_
  have := Heap.get?_update_self (Obj.putName name hh (.str name s.toks) v) hN (by rw [hp]; rfl)
  rw [hp] at this
  exact this
theorem cls_new {env : Env} {N : Addr} {name : Str} {v : Value} {es : Array DictEntry} {n : Nat} {Q : Unit → Shared → Prop} (hl : env.locals = N)
    (hst : storeName env name v = localSet env name v) (hN : s.heap.get? N = some (nsO es n)) (hr : aRefKeyMayBeTheName name es = false)
    (hp : ∀ hh tk, Obj.putName name hh (.str name tk) v (nsO es n) = nsO (es.push ⟨hh, .str name tk, v⟩) (n + 1))
    (h : ∀ hh tk h' t', Heap.SameBut N s.heap h' → h'.get? N = some (nsO (es.push ⟨hh, .str name tk, v⟩) (n + 1)) → Q () { s with heap := h', toks := t' }) : wpAny M A (storeName env name v) Q E s :=
  cls_store hl hst hN hr (fun hh tk => es.push ⟨hh, .str name tk, v⟩) (n + 1) hp h
/-- a def made in a block: its code object is named -/
theorem mk_fn {name qual : Str} {params : Arguments} {body : List Stmt} {scope : Scope} {env : Env} {c P : Addr} {ps : Array Value} {pos : Pos} {firstLine : Nat} {mg : Str → Option Value} {clos : List (Str × Addr)} {Q : Value → Shared → Prop}
    (hcl : closureFor scope env = pure clos) (hge0 : env.globals = mainGlobals) (hg : s.heap.Ns mainGlobals mg) (hcode : env.code = .ref c) (C : CodeHd s.heap c P) (hP : s.heap.get? P = some (tabObj ps)) (ht : TriplesOk ps.toList)
    (hnf : codeAmong pos ps.toList = none) (hgP : mainGlobals ≠ P) (hb : s.heap.BuiltinsAt mg P)
    (h : ∀ c' oc vs t ctv doc h' tk, Heap.ExtBut P s.heap h' → s.heap.objs.size ≤ c' → h'.get? c' = some oc → oc.cls = .type "code" → oc.data = .fields vs → vs[1]? = some (.str qual t) → h'.get? P = some (tabObj (ps ++ #[rawInt pos.line, rawInt pos.col, .ref c'])) →
      Q (.ref h'.objs.size) { s with heap := h'.push (fnMade name qual params body scope clos doc ((mg "__name__").getD .none) c' ctv), toks := tk }) :
    wpAny M A (makeFunction name qual params (.stmts body) scope env [] [] [] pos firstLine) Q E s := by
  obtain ⟨bm, ob, hbm, hne0, _, hneP, hbo, hcls, hdict, hdata⟩ := hb
  have back : ∀ {h' : Heap} {c' : Addr}, h'.CodeRec (.ref c') qual → (∃ P', s.heap.objs.size ≤ P' ∧ h'.IsCode c' P' #[] ∧ h'.TableAt c' P' #[]) → ∃ oc vs t, h'.get? c' = some oc ∧ oc.cls = .type "code" ∧ oc.data = .fields vs ∧ vs[1]? = some (.str qual t) := by
    rintro h' c' ⟨c₂, oc, vs, t, e2, e3, e4, e5⟩ ⟨P', _, _, ⟨o', vs', f1, f2, f3, f4⟩, _⟩
    cases e2
    rw [e3] at f1; cases f1
    exact ⟨oc, vs, t, e3, f2, e4, e5⟩
  rw [makeFunction_eq]
  simp only [List.zip_nil_right, List.filterMap_nil, List.isEmpty_nil, if_true, pure_bind]
  unfold makeTail
  rw [hcl, hge0]
  refine wpAny_bind (wpAny_pure ?_)
  cases clos with
  | nil =>
    simp only [List.isEmpty_nil, if_true]
    refine wpAny_bind (wpAny_pure ?_)
    refine wpAny_bind (wpAny_functionCodeX hcode (C.code hP ht) (C.tab hP) hnf fun c' h' tk hx hge hlt _ hrec htb hnew => ?_)
    have hg' := hg.extBut hx hgP
    refine wpAny_bind (wpAny_builtinsFor hg' hbm hne0 (hx _ _ hneP hbo) hcls hdict hdata ?_)
    refine wpAny_bind (wpAny_nsGet hg' ?_)
    obtain ⟨oc, vs, t, k1, k2, k3, k4⟩ := back hrec hnew
    cases hdoc : docOf body with
    | none => exact wpAny_bind (wpAny_pure (wpAny_newObj_type (h c' oc vs t .none .none h' tk hx hge k1 k2 k3 k4 htb.2) (by size_fits)))
    | some x => exact wpAny_bind (wpAny_mkText (wpAny_newObj_type (h c' oc vs t .none _ h' _ hx hge k1 k2 k3 k4 htb.2) (by size_fits)))
  | cons q r =>
    simp only [List.isEmpty_cons, Bool.false_eq_true, if_false]
    refine wpAny_bind (wpAny_newTextTuple ?_)
    refine wpAny_bind (wpAny_functionCodeX hcode ((C.keeps fun b o e => Heap.get?_push_of_some _ e).code (Heap.get?_push_of_some _ hP) ht) ((C.keeps fun b o e => Heap.get?_push_of_some _ e).tab (Heap.get?_push_of_some _ hP)) hnf fun c' h' tk hx hge hlt _ hrec htb hnew => ?_)
    have hg' := (hg.push _).extBut hx hgP
    have hx' : Heap.ExtBut P s.heap h' := fun b o hb' e => hx b o hb' (Heap.get?_push_of_some _ e)
    have hge1 : s.heap.objs.size + 1 ≤ c' := by rw [Heap.size_push] at hge; exact hge
    have hge' : s.heap.objs.size ≤ c' := Nat.le_of_succ_le hge1
    refine wpAny_bind (wpAny_builtinsFor hg' hbm hne0 (hx' _ _ hneP hbo) hcls hdict hdata ?_)
    refine wpAny_bind (wpAny_nsGet hg' ?_)
    obtain ⟨oc, vs, t, k1, k2, k3, k4⟩ := back hrec (by obtain ⟨P', a, b, c⟩ := hnew; rw [Heap.size_push] at a; exact ⟨P', Nat.le_of_succ_le a, b, c⟩)
    cases hdoc : docOf body with
    | none => exact wpAny_bind (wpAny_pure (wpAny_newObj_type (h c' oc vs t _ .none h' tk hx' hge' k1 k2 k3 k4 htb.2) (by size_fits)))
    | some x => exact wpAny_bind (wpAny_mkText (wpAny_newObj_type (h c' oc vs t _ _ h' _ hx' hge' k1 k2 k3 k4 htb.2) (by size_fits)))
end
/-- the heap while the class's body runs -/
structure CSt (h₀ : Heap) (N zt : Addr) (h : Heap) (es : Array DictEntry) (n : Nat) (ps : Array Value) (fs : List (Addr × Obj)) : Prop where
  keep : ∀ b o, b ≠ N → b ≠ zt → h₀.get? b = some o → h.get? b = some o
  ns : h.get? N = some (nsO es n)
  tab : h.get? zt = some (tabObj ps)
  fs : ∀ p ∈ fs, h.get? p.1 = some p.2 ∧ h₀.get? p.1 = none
section
variable {h₀ h h' : Heap} {N zt : Addr} {es es' : Array DictEntry} {n n' : Nat} {ps ps' : Array Value} {fs : List (Addr × Obj)}
theorem CSt.ne (C : CSt h₀ N zt h es n ps fs) : N ≠ zt := fun q => by
  have := C.ns; rw [q, C.tab] at this; cases this
theorem CSt.there (C : CSt h₀ N zt h es n ps fs) {b : Addr} {o : Obj} (e : h₀.get? b = some o) : ∃ o', h.get? b = some o' := by
  by_cases h1 : b = N
  · subst h1; exact ⟨_, C.ns⟩
  by_cases h2 : b = zt
  · subst h2; exact ⟨_, C.tab⟩
  exact ⟨o, C.keep b o h1 h2 e⟩
theorem CSt.fresh (C : CSt h₀ N zt h es n ps fs) {b : Addr} (hb : h.objs.size ≤ b) : h₀.get? b = none := by
  cases e : h₀.get? b with
  | none => rfl
  | some o => obtain ⟨o', e'⟩ := C.there e; exact absurd (Heap.lt_size e') (Nat.not_lt.mpr hb)
theorem CSt.keeps (C : CSt h₀ N zt h es n ps fs) (k : ∀ b o, h.get? b = some o → h'.get? b = some o) : CSt h₀ N zt h' es n ps fs :=
  ⟨fun b o h1 h2 e => k _ _ (C.keep b o h1 h2 e), k _ _ C.ns, k _ _ C.tab, fun p hp => ⟨k _ _ (C.fs p hp).1, (C.fs p hp).2⟩⟩
theorem CSt.new (C : CSt h₀ N zt h es n ps fs) (k : ∀ b o, h.get? b = some o → h'.get? b = some o) {a : Addr} {o : Obj} (e : h'.get? a = some o) (hn : h₀.get? a = none) : CSt h₀ N zt h' es n ps ((a, o) :: fs) :=
  have D := C.keeps k
  ⟨D.keep, D.ns, D.tab, fun p hp => by rcases List.mem_cons.mp hp with rfl | hp; exact ⟨e, hn⟩; exact D.fs p hp⟩
theorem CSt.store (C : CSt h₀ N zt h es n ps fs) (hn : ∃ o, h₀.get? N = some o) (sb : Heap.SameBut N h h') (e : h'.get? N = some (nsO es' n')) : CSt h₀ N zt h' es' n' ps fs := by
  obtain ⟨oN, eN⟩ := hn
  refine ⟨fun b o h1 h2 e' => (sb.2 b h1).trans (C.keep b o h1 h2 e'), e, (sb.2 zt (Ne.symm C.ne)).trans C.tab, fun p hp => ⟨(sb.2 p.1 fun q => ?_).trans (C.fs p hp).1, (C.fs p hp).2⟩⟩
  have := (C.fs p hp).2
  rw [q, eN] at this; cases this
theorem CSt.code (C : CSt h₀ N zt h es n ps fs) (hz : ∃ o, h₀.get? zt = some o) (hx : Heap.ExtBut zt h h') (e : h'.get? zt = some (tabObj ps')) : CSt h₀ N zt h' es n ps' fs := by
  obtain ⟨oZ, eZ⟩ := hz
  refine ⟨fun b o h1 h2 e' => hx _ _ h2 (C.keep b o h1 h2 e'), hx _ _ C.ne C.ns, e, fun p hp => ⟨hx _ _ (fun q => ?_) (C.fs p hp).1, (C.fs p hp).2⟩⟩
  have := (C.fs p hp).2
  rw [q, eZ] at this; cases this
end
/-- what the class's body asks of the heap that it starts with -/
structure CCtx (h₀ : Heap) (N zt cc : Addr) (mg : Str → Option Value) (env : Env) : Prop where
  locals : env.locals = N
  globals : env.globals = mainGlobals
  code : env.code = .ref cc
  nN : ∃ o, h₀.get? N = some o
  nZ : ∃ o, h₀.get? zt = some o
  hd : CodeHd h₀ cc zt
  ccN : cc ≠ N
  ns : h₀.Ns mainGlobals mg
  gN : mainGlobals ≠ N
  gZ : mainGlobals ≠ zt
  bA : h₀.BuiltinsAt mg zt
  bN : h₀.BuiltinsAt mg N
theorem ns_but {h h' : Heap} {a : Addr} {m : Str → Option Value} (x : h.Ns a m) (k : ∀ o, h.get? a = some o → h'.get? a = some o) : h'.Ns a m :=
  let ⟨o, es, ep, e, r⟩ := x; ⟨o, es, ep, k o e, r⟩
theorem triples_nil : TriplesOk (#[] : Array Value).toList := trivial
theorem triples_push {ps : Array Value} {a b : Int} {v : Value} (h : TriplesOk ps.toList) : TriplesOk (ps ++ #[rawInt a, rawInt b, v]).toList := by
  rw [show (ps ++ #[rawInt a, rawInt b, v]).toList = ps.toList ++ [rawInt a, rawInt b, v] by simp]
  exact TriplesOk_snoc _ _ _ _ h
theorem cdef {prog : Program} {w : World} {A : Around} {E : Value → Shared → Prop} {Q : Flow → Shared → Prop} {h₀ h : Heap} {g d t os} {N zt cc : Addr} {mg : Str → Option Value} {env : Env} {es : Array DictEntry} {n : Nat} {ps : Array Value} {fs : List (Addr × Obj)}
    {name : Str} {params : Arguments} {body : List Stmt} {scope : Scope} {pos : Pos} {clos : List (Str × Addr)} (C : CSt h₀ N zt h es n ps fs) (X : CCtx h₀ N zt cc mg env)
    (hd0 : params.defaults = []) (hk0 : params.kw_defaults = []) (ha : annTrees params none env = []) (hcl : closureFor scope env = pure clos) (ht : TriplesOk ps.toList) (hnf : codeAmong pos ps.toList = none)
    (hst : ∀ v, storeName env name v = localSet env name v) (hr : aRefKeyMayBeTheName name es = false) (hp : ∀ hh tk v, Obj.putName name hh (.str name tk) v (nsO es n) = nsO (es.push ⟨hh, .str name tk, v⟩) (n + 1))
    (q : ∀ f c' oc vs t ctv doc hh tk h' t', oc.cls = .type "code" → oc.data = .fields vs → vs[1]? = some (.str (qualnameIn env name name) t) → TriplesOk (ps ++ #[rawInt pos.line, rawInt pos.col, .ref c']).toList →
      CSt h₀ N zt h' (es.push ⟨hh, .str name tk, .ref f⟩) (n + 1) (ps ++ #[rawInt pos.line, rawInt pos.col, .ref c']) ((f, fnMade name (qualnameIn env name name) params body scope clos doc ((mg "__name__").getD .none) c' ctv) :: (c', oc) :: fs) → Q .next ⟨h', g, d, t', os⟩) :
    wpAny (model prog w) A (exec (.FunctionDef name params body [] none [] scope none name pos) env) Q E ⟨h, g, d, t, os⟩ := by
  obtain ⟨oc0, vs0, file, tf, flags, tg, inF, text, tt, e1, r1, r2, r3, r4, r5, r6, r7, r8, hne⟩ := id X.hd
  obtain ⟨bm, ob, b1, b2, b3, b4, b5, b6, b7, b8⟩ := id X.bA
  obtain ⟨bm', ob', b1', b2', b3', b4', b5', b6', b7', b8'⟩ := id X.bN
  rw [b1] at b1'; cases b1'
  refine nestDef_K hd0 hk0 ha (mk_fn (mg := mg) (P := zt) hcl X.globals (ns_but X.ns fun o e => C.keep _ _ X.gN X.gZ e) X.code
    ⟨oc0, vs0, file, tf, flags, tg, inF, text, tt, C.keep _ _ X.ccN hne e1, r1, r2, r3, r4, r5, r6, r7, r8, hne⟩ C.tab ht hnf X.gZ ⟨bm, ob, b1, b2, b3, b4, C.keep _ _ b4' b4 b5, b6, b7, b8⟩
    fun c' oc vs tq ctv doc h' tk hx hge k1 k2 k3 k4 htb => ?_)
  have C1 := C.code X.nZ hx htb
  have C2 := (C1.new (fun _ _ e => e) k1 (C.fresh hge)).new (fun b o e => Heap.get?_push_of_some (fnMade name (qualnameIn env name name) params body scope clos doc ((mg "__name__").getD .none) c' ctv) e) (Heap.get?_push_size _ rfl) (C1.fresh (Nat.le_refl _))
  refine cls_store X.locals (hst _) C2.ns hr (fun hh tk => es.push ⟨hh, .str name tk, .ref h'.objs.size⟩) (n + 1) (fun hh tk => hp hh tk _) fun hh tk h2 t2 sb e2 => ?_
  exact q _ _ _ _ _ _ _ _ _ _ _ k2 k3 k4 (triples_push ht) (C2.store X.nN sb e2)

set_option linter.constructorNameAsVariable false
def clsBody : List Stmt := match (defAt pw 13).body with | .ClassDef _ _ _ b _ _ _ _ _ _ _ :: _ => b | _ => []
def clsScope : Scope := match (defAt pw 13).body with | .ClassDef _ _ _ _ _ _ sc _ _ _ _ :: _ => sc | _ => default
abbrev cEnv (N cl frm cc : Addr) : Env := { scope := clsScope, locals := N, globals := mainGlobals, cells := [(S "mycmp", cl)], qual := S "cmp_to_key.<locals>.K.", code := .ref cc, frame := some frm, builtins := builtinsNs }
def kfn (i : Nat) (clos : List (Str × Addr)) (doc pm : Value) (c' : Addr) (ctv : Value) : Obj := match clsBody[i]? with
  | some (.FunctionDef name params body _ _ _ scope _ _ _) => fnMade name (S "cmp_to_key.<locals>.K." ++ name) params body scope clos doc pm c' ctv
  | _ => default
def kB (hf : Nat → Int) (tf : Nat → Tok) (sl f1 f2 f3 f4 f5 f6 : Addr) : Array DictEntry := #[⟨hf 0, .str (S "__module__") (tf 0), .str (S "cpy313.functools") (tf 20)⟩, ⟨hf 1, .str (S "__qualname__") (tf 1), .str (S "cmp_to_key.<locals>.K") (tf 21)⟩, ⟨hf 2, .str (S "__firstlineno__") (tf 2), .int 64 (tf 22)⟩, ⟨hf 3, .str (S "__slots__") (tf 3), .ref sl⟩, ⟨hf 4, .str (S "__init__") (tf 4), .ref f1⟩, ⟨hf 5, .str (S "__lt__") (tf 5), .ref f2⟩, ⟨hf 6, .str (S "__gt__") (tf 6), .ref f3⟩, ⟨hf 7, .str (S "__eq__") (tf 7), .ref f4⟩, ⟨hf 8, .str (S "__le__") (tf 8), .ref f5⟩, ⟨hf 9, .str (S "__ge__") (tf 9), .ref f6⟩, ⟨hf 10, .str (S "__hash__") (tf 10), .none⟩]
/-- a def's code object -/
def CodeO (qual : Str) (oc : Obj) : Prop := oc.cls = .type "code" ∧ ∃ vs t, oc.data = .fields vs ∧ vs[1]? = some (.str qual t)
set_option maxHeartbeats 0 in
theorem body_K {prog : Program} {w : World} {A : Around} {E : Value → Shared → Prop} {Q : Flow → Shared → Prop} {h₀ : Heap} {g d t os} {N zt cc cl frm : Addr} {mg : Str → Option Value} {hv0 hv1 hv2 : Int} {tv0 tv1 tv2 t21 t22 : Tok} {vN : Value}
    (X : CCtx h₀ N zt cc mg (cEnv N cl frm cc)) (hz : h₀.get? zt = some (tabObj #[]))
    (hN : h₀.get? N = some (nsO #[⟨hv0, .str (S "__module__") tv0, vN⟩, ⟨hv1, .str (S "__qualname__") tv1, .str (S "cmp_to_key.<locals>.K") t21⟩, ⟨hv2, .str (S "__firstlineno__") tv2, .int 64 t22⟩] 3))
    (q : ∀ (hf : Nat → Int) (tf : Nat → Tok) ts sl f1 f2 f3 f4 f5 f6 c1 c2 c3 c4 c5 c6 oc1 oc2 oc3 oc4 oc5 oc6 d1 d2 d3 d4 d5 d6 v1 v2 v3 v4 v5 v6 ps h' t', CodeO (S "cmp_to_key.<locals>.K.__init__") oc1 → CodeO (S "cmp_to_key.<locals>.K.__lt__") oc2 → CodeO (S "cmp_to_key.<locals>.K.__gt__") oc3 → CodeO (S "cmp_to_key.<locals>.K.__eq__") oc4 → CodeO (S "cmp_to_key.<locals>.K.__le__") oc5 → CodeO (S "cmp_to_key.<locals>.K.__ge__") oc6 →
      CSt h₀ N zt h' (kB hf tf sl f1 f2 f3 f4 f5 f6) 11 ps
        [(f6, kfn 7 [(S "mycmp", cl)] d6 ((mg "__name__").getD .none) c6 v6), (c6, oc6), (f5, kfn 6 [(S "mycmp", cl)] d5 ((mg "__name__").getD .none) c5 v5), (c5, oc5), (f4, kfn 5 [(S "mycmp", cl)] d4 ((mg "__name__").getD .none) c4 v4), (c4, oc4),
         (f3, kfn 4 [(S "mycmp", cl)] d3 ((mg "__name__").getD .none) c3 v3), (c3, oc3), (f2, kfn 3 [(S "mycmp", cl)] d2 ((mg "__name__").getD .none) c2 v2), (c2, oc2), (f1, kfn 2 [] d1 ((mg "__name__").getD .none) c1 v1), (c1, oc1), (sl, { cls := .type "list", data := .seq #[.str (S "obj") ts] 0 })] → Q .next ⟨h', g, d, t', os⟩) :
    wpAny (model prog w) A (execs clsBody (cEnv N cl frm cc)) Q E ⟨h₀, g, d, t, os⟩ := by
  have C0 : CSt h₀ N zt h₀ _ 3 _ [] := ⟨fun _ _ _ _ e => e, hN, hz, fun _ hp => nomatch hp⟩
  refine wpAny_execs_cons (wpAny_Assign_Name (wpAny_Constant_str ?_))
  refine cls_store rfl (by rfl) C0.ns (by kernel_rfl!) (fun _ _ => #[⟨hv0, .str (S "__module__") tv0, .str (S "cpy313.functools") t⟩, ⟨hv1, .str (S "__qualname__") tv1, .str (S "cmp_to_key.<locals>.K") t21⟩, ⟨hv2, .str (S "__firstlineno__") tv2, .int 64 t22⟩]) 3 (fun _ _ => by kernel_rfl!) fun _ _ h1 t1 sb e => ?_
  have C1 := C0.store X.nN sb e
  refine wpAny_execs_cons (wpAny_Assign_Name (wpAny_List ?_))
  refine args_cons (wpAny_Constant_str (k := 0) (pos := ⟨66, 21, 66, 26⟩) ?_) (by rfl)
  refine args_nil ?_
  refine ⟨(show 1 ≤ sizeLine by decide), ?_⟩
  have C2 := C1.new (fun b o e => Heap.get?_push_of_some { cls := .type "list", data := .seq [Value.str (S "obj") t1].toArray } e) (Heap.get?_push_size _ rfl) (C1.fresh (Nat.le_refl _))
  generalize h1.objs.size = sl at C2 ⊢
  generalize h1.push _ = h1' at C2 ⊢
  refine cls_store rfl (by rfl) C2.ns (by kernel_rfl!) (fun hv3 tv3 => #[⟨hv0, .str (S "__module__") tv0, .str (S "cpy313.functools") t⟩, ⟨hv1, .str (S "__qualname__") tv1, .str (S "cmp_to_key.<locals>.K") t21⟩, ⟨hv2, .str (S "__firstlineno__") tv2, .int 64 t22⟩, ⟨hv3, .str (S "__slots__") tv3, .ref sl⟩]) 4 (fun _ _ => by kernel_rfl!) fun hv3 tv3 h3 t3 sb e => ?_
  have C3 := C2.store X.nN sb e
  clear C1 C2 sb e
  show wpAny _ _ (execs _ _) _ _ ⟨h3, g, d, t3, os⟩
  refine wpAny_execs_cons (cdef C3 X rfl rfl rfl (clos := []) (by kernel_rfl!) triples_nil (by kernel_rfl!) (fun _ => by kernel_rfl!) (by kernel_rfl!) (fun _ _ _ => by kernel_rfl!) fun f1 c1 oc1 vs1 tq1 v1 d1 hh1 tk1 hp1 tt1 a1 b1 e1 T1 D1 => ?_)
  clear C3
  replace D1 : CSt h₀ N zt hp1 #[⟨hv0, .str (S "__module__") tv0, .str (S "cpy313.functools") t⟩, ⟨hv1, .str (S "__qualname__") tv1, .str (S "cmp_to_key.<locals>.K") t21⟩, ⟨hv2, .str (S "__firstlineno__") tv2, .int 64 t22⟩, ⟨hv3, .str (S "__slots__") tv3, .ref sl⟩, ⟨hh1, .str (S "__init__") tk1, .ref f1⟩] 5 #[rawInt 68, rawInt 8, .ref c1] _ := D1
  replace T1 : TriplesOk (#[rawInt 68, rawInt 8, .ref c1] : Array Value).toList := T1
  refine wpAny_execs_cons (cdef D1 X rfl rfl rfl (clos := [(S "mycmp", cl)]) (by kernel_rfl!) T1 (by kernel_rfl!) (fun _ => by kernel_rfl!) (by kernel_rfl!) (fun _ _ _ => by kernel_rfl!) fun f2 c2 oc2 vs2 tq2 v2 d2 hh2 tk2 hp2 tt2 a2 b2 e2 T2 D2 => ?_)
  clear D1
  replace D2 : CSt h₀ N zt hp2 #[⟨hv0, .str (S "__module__") tv0, .str (S "cpy313.functools") t⟩, ⟨hv1, .str (S "__qualname__") tv1, .str (S "cmp_to_key.<locals>.K") t21⟩, ⟨hv2, .str (S "__firstlineno__") tv2, .int 64 t22⟩, ⟨hv3, .str (S "__slots__") tv3, .ref sl⟩, ⟨hh1, .str (S "__init__") tk1, .ref f1⟩, ⟨hh2, .str (S "__lt__") tk2, .ref f2⟩] 6 #[rawInt 68, rawInt 8, .ref c1, rawInt 71, rawInt 8, .ref c2] _ := D2
  replace T2 : TriplesOk (#[rawInt 68, rawInt 8, .ref c1, rawInt 71, rawInt 8, .ref c2] : Array Value).toList := T2
  refine wpAny_execs_cons (cdef D2 X rfl rfl rfl (clos := [(S "mycmp", cl)]) (by kernel_rfl!) T2 (by kernel_rfl!) (fun _ => by kernel_rfl!) (by kernel_rfl!) (fun _ _ _ => by kernel_rfl!) fun f3 c3 oc3 vs3 tq3 v3 d3 hh3 tk3 hp3 tt3 a3 b3 e3 T3 D3 => ?_)
  clear D2
  replace D3 : CSt h₀ N zt hp3 #[⟨hv0, .str (S "__module__") tv0, .str (S "cpy313.functools") t⟩, ⟨hv1, .str (S "__qualname__") tv1, .str (S "cmp_to_key.<locals>.K") t21⟩, ⟨hv2, .str (S "__firstlineno__") tv2, .int 64 t22⟩, ⟨hv3, .str (S "__slots__") tv3, .ref sl⟩, ⟨hh1, .str (S "__init__") tk1, .ref f1⟩, ⟨hh2, .str (S "__lt__") tk2, .ref f2⟩, ⟨hh3, .str (S "__gt__") tk3, .ref f3⟩] 7 #[rawInt 68, rawInt 8, .ref c1, rawInt 71, rawInt 8, .ref c2, rawInt 74, rawInt 8, .ref c3] _ := D3
  replace T3 : TriplesOk (#[rawInt 68, rawInt 8, .ref c1, rawInt 71, rawInt 8, .ref c2, rawInt 74, rawInt 8, .ref c3] : Array Value).toList := T3
  refine wpAny_execs_cons (cdef D3 X rfl rfl rfl (clos := [(S "mycmp", cl)]) (by kernel_rfl!) T3 (by kernel_rfl!) (fun _ => by kernel_rfl!) (by kernel_rfl!) (fun _ _ _ => by kernel_rfl!) fun f4 c4 oc4 vs4 tq4 v4 d4 hh4 tk4 hp4 tt4 a4 b4 e4 T4 D4 => ?_)
  clear D3
  replace D4 : CSt h₀ N zt hp4 #[⟨hv0, .str (S "__module__") tv0, .str (S "cpy313.functools") t⟩, ⟨hv1, .str (S "__qualname__") tv1, .str (S "cmp_to_key.<locals>.K") t21⟩, ⟨hv2, .str (S "__firstlineno__") tv2, .int 64 t22⟩, ⟨hv3, .str (S "__slots__") tv3, .ref sl⟩, ⟨hh1, .str (S "__init__") tk1, .ref f1⟩, ⟨hh2, .str (S "__lt__") tk2, .ref f2⟩, ⟨hh3, .str (S "__gt__") tk3, .ref f3⟩, ⟨hh4, .str (S "__eq__") tk4, .ref f4⟩] 8 #[rawInt 68, rawInt 8, .ref c1, rawInt 71, rawInt 8, .ref c2, rawInt 74, rawInt 8, .ref c3, rawInt 77, rawInt 8, .ref c4] _ := D4
  replace T4 : TriplesOk (#[rawInt 68, rawInt 8, .ref c1, rawInt 71, rawInt 8, .ref c2, rawInt 74, rawInt 8, .ref c3, rawInt 77, rawInt 8, .ref c4] : Array Value).toList := T4
  refine wpAny_execs_cons (cdef D4 X rfl rfl rfl (clos := [(S "mycmp", cl)]) (by kernel_rfl!) T4 (by kernel_rfl!) (fun _ => by kernel_rfl!) (by kernel_rfl!) (fun _ _ _ => by kernel_rfl!) fun f5 c5 oc5 vs5 tq5 v5 d5 hh5 tk5 hp5 tt5 a5 b5 e5 T5 D5 => ?_)
  clear D4
  replace D5 : CSt h₀ N zt hp5 #[⟨hv0, .str (S "__module__") tv0, .str (S "cpy313.functools") t⟩, ⟨hv1, .str (S "__qualname__") tv1, .str (S "cmp_to_key.<locals>.K") t21⟩, ⟨hv2, .str (S "__firstlineno__") tv2, .int 64 t22⟩, ⟨hv3, .str (S "__slots__") tv3, .ref sl⟩, ⟨hh1, .str (S "__init__") tk1, .ref f1⟩, ⟨hh2, .str (S "__lt__") tk2, .ref f2⟩, ⟨hh3, .str (S "__gt__") tk3, .ref f3⟩, ⟨hh4, .str (S "__eq__") tk4, .ref f4⟩, ⟨hh5, .str (S "__le__") tk5, .ref f5⟩] 9 #[rawInt 68, rawInt 8, .ref c1, rawInt 71, rawInt 8, .ref c2, rawInt 74, rawInt 8, .ref c3, rawInt 77, rawInt 8, .ref c4, rawInt 80, rawInt 8, .ref c5] _ := D5
  replace T5 : TriplesOk (#[rawInt 68, rawInt 8, .ref c1, rawInt 71, rawInt 8, .ref c2, rawInt 74, rawInt 8, .ref c3, rawInt 77, rawInt 8, .ref c4, rawInt 80, rawInt 8, .ref c5] : Array Value).toList := T5
  refine wpAny_execs_cons (cdef D5 X rfl rfl rfl (clos := [(S "mycmp", cl)]) (by kernel_rfl!) T5 (by kernel_rfl!) (fun _ => by kernel_rfl!) (by kernel_rfl!) (fun _ _ _ => by kernel_rfl!) fun f6 c6 oc6 vs6 tq6 v6 d6 hh6 tk6 hp6 tt6 a6 b6 e6 T6 D6 => ?_)
  clear D5
  replace D6 : CSt h₀ N zt hp6 #[⟨hv0, .str (S "__module__") tv0, .str (S "cpy313.functools") t⟩, ⟨hv1, .str (S "__qualname__") tv1, .str (S "cmp_to_key.<locals>.K") t21⟩, ⟨hv2, .str (S "__firstlineno__") tv2, .int 64 t22⟩, ⟨hv3, .str (S "__slots__") tv3, .ref sl⟩, ⟨hh1, .str (S "__init__") tk1, .ref f1⟩, ⟨hh2, .str (S "__lt__") tk2, .ref f2⟩, ⟨hh3, .str (S "__gt__") tk3, .ref f3⟩, ⟨hh4, .str (S "__eq__") tk4, .ref f4⟩, ⟨hh5, .str (S "__le__") tk5, .ref f5⟩, ⟨hh6, .str (S "__ge__") tk6, .ref f6⟩] 10 #[rawInt 68, rawInt 8, .ref c1, rawInt 71, rawInt 8, .ref c2, rawInt 74, rawInt 8, .ref c3, rawInt 77, rawInt 8, .ref c4, rawInt 80, rawInt 8, .ref c5, rawInt 83, rawInt 8, .ref c6] _ := D6
  replace T6 : TriplesOk (#[rawInt 68, rawInt 8, .ref c1, rawInt 71, rawInt 8, .ref c2, rawInt 74, rawInt 8, .ref c3, rawInt 77, rawInt 8, .ref c4, rawInt 80, rawInt 8, .ref c5, rawInt 83, rawInt 8, .ref c6] : Array Value).toList := T6
  refine wpAny_execs_cons (wpAny_Assign_Name (wpAny_Constant_none ?_))
  refine cls_new rfl (by kernel_rfl!) D6.ns (by kernel_rfl!) (fun _ _ => by kernel_rfl!) fun hh7 tk7 h7 t7 sb e => ?_
  have D7 := D6.store X.nN sb e
  show wpAny _ _ (execs [] _) _ _ ⟨h7, g, d, t7, os⟩
  exact wpAny_execs_nil (q (fun i => [hv0, hv1, hv2, hv3, hh1, hh2, hh3, hh4, hh5, hh6, hh7].getD i 0) (fun i => [tv0, tv1, tv2, tv3, tk1, tk2, tk3, tk4, tk5, tk6, tk7, 0, 0, 0, 0, 0, 0, 0, 0, 0, t, t21, t22].getD i 0) t1 sl f1 f2 f3 f4 f5 f6 c1 c2 c3 c4 c5 c6 oc1 oc2 oc3 oc4 oc5 oc6 d1 d2 d3 d4 d5 d6 v1 v2 v3 v4 v5 v6 _ h7 t7 ⟨a1, _, _, b1, e1⟩ ⟨a2, _, _, b2, e2⟩ ⟨a3, _, _, b3, e3⟩ ⟨a4, _, _, b4, e4⟩ ⟨a5, _, _, b5, e5⟩ ⟨a6, _, _, b6, e6⟩ D7)

/-- a fact that the walker does not see -/
structure Hid (p : Prop) : Prop where
  out : p
section
variable {α : Type} {prog : Program} {w : World} {A : Around} {E : Value → Shared → Prop} {Q : α → Shared → Prop} {h₀ h : Heap} {g : Array GenState} {d : Drawn} {t : Nat} {os : OsState} {news : List (Addr × Obj)}
theorem away_one {z b : Addr} {x : Obj} (ne : b ≠ z) : away [(z, x)] b = true := by
  show (!(Nat.beq z b) && true) = true
  cases q : Nat.beq z b with
  | false => rfl
  | true => exact absurd (Nat.eq_of_beq_eq_true q).symm ne
theorem m_loadZ {z : Addr} {ox : Obj} (D : Mem h₀ h [(z, ox)] news) {a : Addr} {q : Option Value} {k : Obj → Sem α} {o : Obj} (e : h₀.get? a = some o) (ne : a ≠ z) (x : wpAny (model prog w) A (k o) Q E ⟨h, g, d, t, os⟩) : wpAny (model prog w) A (.load a q k) Q E ⟨h, g, d, t, os⟩ :=
  x_load (D.keep a o e (by rw [away_one ne, Bool.or_true])) x
end
local macro_rules | `(tactic| walk_at "qm11i_p1") => `(tactic| first
  | with_reducible refine x_rule ?_ | with_reducible refine x_at ?_ | with_reducible refine x_point ?_ | with_reducible refine x_ask ?_ | with_reducible refine m_fresh ?_ | with_reducible refine x_handled ?_
  | ((with_reducible show wpAny _ _ (Sem.load _ _ _) _ _ _); (conv => arg 3; arg 1; whnf); first | (refine' m_loadN ?D ?e ?_; (case D => with_reducible assumption); (case e => with_reducible assumption)) | (refine' m_loadZ ?D ?e ?hc ?_; (case D => with_reducible assumption); (case e => with_reducible assumption); (case hc => with_reducible assumption)) | (refine' m_load ?D 0 ?hi ?_; (case D => with_reducible assumption); (case hi => exact rfl)) | (refine' m_load ?D 1 ?hi ?_; (case D => with_reducible assumption); (case hi => exact rfl)) | (refine' m_load ?D 2 ?hi ?_; (case D => with_reducible assumption); (case hi => exact rfl)) | (refine' m_load ?D 3 ?hi ?_; (case D => with_reducible assumption); (case hi => exact rfl)) | (refine' m_load ?D 4 ?hi ?_; (case D => with_reducible assumption); (case hi => exact rfl)) | (refine' m_load ?D 5 ?hi ?_; (case D => with_reducible assumption); (case hi => exact rfl)) | (refine' m_load ?D 6 ?hi ?_; (case D => with_reducible assumption); (case hi => exact rfl)) | (refine' m_load ?D 7 ?hi ?_; (case D => with_reducible assumption); (case hi => exact rfl)) | (refine' m_loadN ?D ?e ?_; (case D => with_reducible assumption); (case e => assumption)) | (refine' m_loadZ ?D ?e ?hc ?_; (case D => with_reducible assumption); (case e => assumption); (case hc => assumption)))
  | ((with_reducible show wpAny _ _ (Sem.stack _) _ _ _); refine m_stack ?_; intro st L)
  | ((with_reducible show wpAny _ _ (Decidable.rec _ _ _) _ _ _); first | refine m_decF (by kernel_rfl!) ?_ | refine m_decT (by kernel_rfl!) ?_)
  | ((with_reducible show wpAny _ _ (Bool.rec _ _ _) _ _ _); first | refine m_bool false (by kernel_rfl!) ?_ | refine m_bool true (by kernel_rfl!) ?_)
  | ((with_reducible show wpAny _ _ (Sem.keep _ _) _ _ _); refine m_keep ?_) | ((with_reducible show wpAny _ _ (Sem.onRaise _ _) _ _ _); refine wpAny_onRaise ?_) | ((with_reducible show wpAny _ _ (Sem.attempt _) _ _ _); refine wpAny_attempt ?_)
  | ((with_reducible show wpAny _ _ (Sem.bind _ _) _ _ _); refine wpAny_bind ?_) | ((with_reducible show wpAny _ _ (Bind.bind _ _) _ _ _); refine wpAny_bind ?_))
local macro_rules | `(tactic| walk_at "qm11i_y1") => `(tactic| first
  | ((with_reducible show wpAny _ _ (Sem.pure _) _ _ _); refine x_pure ?_; first | show wpAny _ _ _ _ _ _ | refine m_again (by kernel_rfl!) ?_)
  | walk_at "qm11i_p1")
local macro_rules | `(tactic| walk_at "qm11i_p") => `(tactic| (conv => arg 3; whnf); walk_at "qm11i_p1")
local macro_rules | `(tactic| walk_at "qm11i_x1") => `(tactic| first
  | ((with_reducible show wpAny _ _ (Sem.alloc _ _) _ _ _); refine' m_alloc ?D ?hf ?_; (case D => with_reducible assumption); (case hf => exact rfl); intro a h D)
  | ((with_reducible show wpAny _ _ (Sem.call _ _ _ _ _) _ _ _); refine m_call (by simp [byPass]) ?_)
  | walk_at "qm11i_y1")
local macro_rules | `(tactic| walk_at "qm11i_z1") => `(tactic| first
  | ((with_reducible show wpAny _ _ (Sem.call _ _ _ _ _) _ _ _); refine m_call (by simp [byPass]) ?_)
  | walk_at "qm11i_y1")
local macro_rules | `(tactic| walk_at "qm11i_y") => `(tactic| (conv => arg 3; whnf); walk_at "qm11i_y1")
local macro_rules | `(tactic| walk_at "qm11i_z") => `(tactic| (conv => arg 3; whnf); walk_at "qm11i_z1")
local macro_rules | `(tactic| walk_at "qm11i_x") => `(tactic| (conv => arg 3; whnf); walk_at "qm11i_x1")
local macro_rules | `(tactic| walk_at "qm11i_w") => `(tactic| (conv => arg 3; whnf))
local macro_rules | `(tactic| walk_at "qm11i_u") => `(tactic| ((conv => arg 3; whnf); (conv => arg 3; arg 1; whnf)))
local macro_rules | `(tactic| walk_at "qm11i_v1") => `(tactic| first
  | ((with_reducible show wpAny _ _ (Sem.alloc _ _) _ _ _); refine' m_alloc ?D ?hf ?_; (case D => with_reducible assumption); (case hf => exact rfl); intro a h D)
  | walk_at "qm11i_y1")
local macro_rules | `(tactic| walk_at "qm11i_v") => `(tactic| (conv => arg 3; whnf); walk_at "qm11i_v1")
local macro_rules | `(tactic| walk_at "qm11i_r1") => `(tactic| first
  | ((with_reducible show wpAny _ _ (Sem.pure _) _ _ _); refine x_pure ?_; show wpAny _ _ _ _ _ _)
  | walk_at "qm11i_p1")
local macro_rules | `(tactic| walk_at "qm11i_r") => `(tactic| (conv => arg 3; whnf); walk_at "qm11i_r1")

local macro_rules | `(tactic| walk_at "qm11i_s") => `(tactic| with_reducible first | show wpAny _ _ (PySem.W.XFast.enterX _) _ _ _ | show wpAny _ _ (PySem.W.XFast.xw17169027264674235893 ..) _ _ _ | show wpAny _ _ (PySem.W.XFast.xw6600643334278800223 ..) _ _ _ | show wpAny _ _ (PySem.W.XFast.xw12822647523644345616 ..) _ _ _ | show wpAny _ _ (PySem.W.XFast.xw14069538253670106520 ..) _ _ _ | show wpAny _ _ (PySem.W.XFast.xw7998390705656384164 ..) _ _ _ | show wpAny _ _ (PySem.W.XFast.xw8468629109055619292 ..) _ _ _)
local macro_rules | `(tactic| walk_at "qm11i_g") => `(tactic| (with_reducible (conv => arg 3; whnf)); (fail_if_success (walk_at "qm11i_s")); first | ((with_reducible show wpAny _ _ (Bind.bind _ _) _ _ _); refine wpAny_bind ?_) | ((with_reducible show wpAny _ _ (Sem.bind _ _) _ _ _); refine wpAny_bind ?_) | ((with_reducible show wpAny _ _ (X.condFn _ _ _ _) _ _ _); first | refine m_condF (by kernel_rfl!) ?_ | refine m_condT (by kernel_rfl!) ?_) | ((with_reducible show wpAny _ _ (holding _ _) _ _ _); refine wpAny_holding ?_) | walk_at "qm11i_x")
local macro_rules | `(tactic| walk_at "qm11i_h") => `(tactic| (fail_if_success (with_reducible show wpAny _ _ (PySem.call _ _ _) _ _ _)); walk_at "qm11i_g")
theorem run_body {prog : Program} {w : World} {A : Around} {E : Value → Shared → Prop} {Q : Flow → Shared → Prop} {s : Shared} {stmts : List Stmt} {env : Env} (hb : blockStart stmts env = pure ())
    (h : ∀ A' E', wpAny (model prog w) A' (execs stmts env) Q E' s) : wpAny (model prog w) A (run (.body stmts env)) Q E s := by
  refine wpAny_run (x_code ?_)
  show wpAny _ _ (blockStart stmts env >>= fun _ => (execs stmts env).onRaise (leaving env) >>= fun f => pure (PySem.Fin.done f)) _ _ _
  rw [hb]
  refine wpAny_bind (wpAny_pure (wpAny_bind (wpAny_onRaise (wpAny_mono (h _ _) (fun f s' q => wpAny_pure q) fun _ _ x => x))))
theorem m_grow {M : Model} {A : Around} {E : Value → Shared → Prop} {Q : Unit → Shared → Prop} {h₀ h : Heap} {g d t os} {chg news : List (Addr × Obj)} {a c : Addr} {ps more : Array Value} {f : Array Value → Array Value} (D : Mem h₀ h chg news) (ht : h₀.TableAt c a ps) (hw : away chg a = true) (hn : f ps = ps ++ more)
    (x : ∀ h', Mem h₀ h' ((a, tableObj (ps ++ more)) :: chg) news → Q () ⟨h', g, d, t, os⟩) : wpAny M A (updateFieldsOfTheText a f) Q E ⟨h, g, d, t, os⟩ :=
  wpAny_updateFieldsOfTheText (D.keep a _ ht.2 (by rw [hw, Bool.or_true])) rfl (x _ (D.grow ht hw (by show tableObj (f ps) = _; rw [hn])))
theorem lookT {o : Obj} {m : Str → Option Value} {n : Str} {r : Option Value} (lk : ∀ n, nsLook n o = Sem.pure (m n)) (hv : m n = r) : PySem.W.XFast.xw12049290149238594875 n o = Sem.pure r := by
  rw [← PySem.W.XFast.xe12049290149238594875, lk, hv]
abbrev kEnv (L cl ka c1 : Addr) : Env := newEnv (defAt pw 13).scope L mainGlobals [(S "mycmp", cl)] (S "cmp_to_key.<locals>.") (some ka) (.ref c1) none builtinsNs
def addH (hf : Nat → Int) (x : Int) : Nat → Int := fun i => match i with | 11 => x | i => hf i
def addT (tf : Nat → Tok) (x y : Tok) : Nat → Tok := fun i => match i with | 11 => x | 23 => y | i => tf i
/-- what a made class consists of -/
def keyFs (cl : Addr) (pm : Value) (C b N de sl st f1 f2 f3 f4 f5 f6 c1 c2 c3 c4 c5 c6 : Addr) (oc1 oc2 oc3 oc4 oc5 oc6 : Obj) (d1 d2 d3 d4 d5 d6 v1 v2 v3 v4 v5 v6 : Value) (tK tde tv1 tv2 : Tok) (hv1 hv2 : Int) (hf : Nat → Int) (tf : Nat → Tok) : List (Addr × Obj) :=
    [(C, clsO N [.ref C, .type "object"] false [S "obj"] #[some (.ref b), none, some (.str (S "K") tK), some (.str (S "cmp_to_key.<locals>.K") (tf 21)), some (.builtin "object.__new__"), some (.bool false)]),
      (N, putO ((kE1 hf tf sl f1 f2 f3 f4 f5 f6 st).push ⟨hv1, .str (S "obj") tv1, .ref de⟩) 3 (S "__doc__") .none hv2 tv2), (de, deO C tde), (f1, kfn 2 [] d1 pm c1 v1), (c1, oc1), (f2, kfn 3 [(S "mycmp", cl)] d2 pm c2 v2), (c2, oc2), (f3, kfn 4 [(S "mycmp", cl)] d3 pm c3 v3), (c3, oc3), (f4, kfn 5 [(S "mycmp", cl)] d4 pm c4 v4), (c4, oc4), (f5, kfn 6 [(S "mycmp", cl)] d5 pm c5 v5), (c5, oc5), (f6, kfn 7 [(S "mycmp", cl)] d6 pm c6 v6), (c6, oc6)]
def KeyF (cl : Addr) (pm : Value) (C : Addr) (F : List (Addr × Obj)) : Prop :=
  ∃ (b N de sl st f1 f2 f3 f4 f5 f6 c1 c2 c3 c4 c5 c6 : Addr) (oc1 oc2 oc3 oc4 oc5 oc6 : Obj) (d1 d2 d3 d4 d5 d6 v1 v2 v3 v4 v5 v6 : Value) (tK tde tv1 tv2 : Tok) (hv1 hv2 : Int) (hf : Nat → Int) (tf : Nat → Tok),
    F = keyFs cl pm C b N de sl st f1 f2 f3 f4 f5 f6 c1 c2 c3 c4 c5 c6 oc1 oc2 oc3 oc4 oc5 oc6 d1 d2 d3 d4 d5 d6 v1 v2 v3 v4 v5 v6 tK tde tv1 tv2 hv1 hv2 hf tf ∧
    CodeO (S "cmp_to_key.<locals>.K.__init__") oc1 ∧ CodeO (S "cmp_to_key.<locals>.K.__lt__") oc2 ∧ CodeO (S "cmp_to_key.<locals>.K.__gt__") oc3 ∧ CodeO (S "cmp_to_key.<locals>.K.__eq__") oc4 ∧ CodeO (S "cmp_to_key.<locals>.K.__le__") oc5 ∧ CodeO (S "cmp_to_key.<locals>.K.__ge__") oc6
set_option maxHeartbeats 0 in
theorem class_def {prog : Program} {w : World} {A : Around} {E : Value → Shared → Prop} {Q : Flow → Shared → Prop} {h : Heap} {g d t0 os} {L cl ka c1 z1 : Addr} {oG oB : Obj} {mg mb : Str → Option Value} {rest : List Stmt}
    (hG : h.get? mainGlobals = some oG) (lkG : ∀ n, nsLook n oG = Sem.pure (mg n))
    (hB : h.get? builtinsNs = some oB) (lkB : ∀ n, nsLook n oB = Sem.pure (mb n))
    (b1 : mb (S "__build_class__") = some (.builtin "__build_class__")) (b2 : mb (S "object") = some (.type "object")) (g1 : mg (S "object") = none)
    (C1 : CodeHd h c1 z1) (hz1 : Hid (h.get? z1 = some (tabObj #[])))
    {esG : Array DictEntry} {epG : Nat} (hGd : oG.data = .dict esG epG) (hGk : StrKeys esG) (hGf : ∀ n, nsFind esG n = mg n) (hbA : h.BuiltinsAt mg z1) {vN : Value} (gn : mg (S "__name__") = some vN)
    (hlim : h.NoLimit) (hcz : cStatics ≠ z1) (hdep : A.depth < recursionLimit)
    {oS : Obj} (hS : h.get? cStatics = some oS) (hSl : nsLook (S "thirdparty.any") oS = Sem.pure none)
    {mL : Str → Option Value} (hLn : h.Ns L mL) (hLz : L ≠ z1)
    (q : ∀ C F h' t', KeyF cl ((mg "__name__").getD .none) C F → (∀ b o, b ≠ z1 → b ≠ L → h.get? b = some o → h'.get? b = some o) → (∃ ps, h'.get? z1 = some (tabObj ps)) → (∀ p ∈ F, h'.get? p.1 = some p.2 ∧ h.get? p.1 = none) → h'.Ns L (fun x => if x = S "K" then some (.ref C) else mL x) → Q .next ⟨h', g, d, t', os⟩)
    (st : Stmt) (hst : (defAt pw 13).body = st :: rest)
    : wpAny (model prog w) A (exec st (kEnv L cl ka c1)) Q E ⟨h, g, d, t0, os⟩ := by
  have hst' : st = match (defAt pw 13).body with | s :: _ => s | [] => default := by rw [hst]
  subst hst'
  clear hst
  show wpAny _ _ (exec (.ClassDef _ _ _ _ _ _ _ _ _ _ _) _) _ _ _
  rw [arm_exec_ClassDef]
  rw [PySem.W.XFast.xe1785580099245652887]
  have hGz : mainGlobals ≠ z1 := fun e => by rw [e, hz1.out] at hG; cases hG; cases hGd
  have D := Mem.start h
  repeat walk_at "qm11i_v"
  refine m_eq (lookAt0 lkB b1) ?_
  repeat walk_at "qm11i_v"
  refine m_eq (lookAt0 lkG g1) ?_
  repeat walk_at "qm11i_v"
  refine m_eq (lookAt0 lkB b2) ?_
  repeat walk_at "qm11i_v"
  repeat walk_at "qm11i_x"
  rename_i bT _ _ bp _ _ nsA h1 D1
  have hns : nsA ≠ sysModules := fun e => by
    have o := D1.ord
    simp only [List.map_cons, List.map_nil, List.pairwise_cons, List.mem_cons, List.not_mem_nil, or_false, forall_eq_or_imp, forall_eq] at o
    rw [e] at o
    exact Nat.not_lt_zero _ (Nat.lt_of_lt_of_le o.2.1 (Nat.le_of_lt_succ o.1.1))
  refine m_bool false (by simpa using hns) ?_
  repeat walk_at "qm11i_g"
  (with_reducible (conv => arg 3; whnf))
  rw [← PySem.W.XFast.xe17169027264674235893]
  obtain ⟨oc, vs, file, tf, flags, tg, inF, text, tt, k1, k2, k3, k4, k5, k6, k7, k8, k9, k10⟩ := id C1
  unfold classCode codeAt
  rw [show (kEnv L cl ka c1).code = .ref c1 from rfl, if_neg (show ¬ ((Value.ref c1 == Value.none) = true) from Bool.false_ne_true)]
  refine wpAny_bind (wpAny_fieldsOf (D1.keep _ _ k1 (by rw [show away [] c1 = true from rfl, Bool.or_true])) k3 ?_)
  rw [k5]
  refine wpAny_bind (wpAny_fieldsOf (D1.keep _ _ hz1.out (by rw [show away [] z1 = true from rfl, Bool.or_true])) rfl ?_)
  rw [show codeAmong { line := 64, col := 4, endLine := 85, endCol := 23 } (#[] : Array Value).toList = none from rfl, k6, k7, k8, k9]
  refine wpAny_bind ?_
  have fr : ∀ sc : Scope, sc.names.filter (·.2 == .free) = [(S "mycmp", .free)] → sc.freeNames = [S "mycmp"] := fun sc e => by unfold Scope.freeNames; rw [e]; simp [List.mergeSort]
  rw [fr _ (by kernel_rfl!)]
  repeat walk_at "qm11i_x"
  rename_i fv _ _ zt _ _ cc h2 D2
  refine wpAny_bind (m_grow D2 (more := #[rawInt 64, rawInt 4, .ref cc]) (CodeHd.tab C1 hz1.out) rfl (by first | rfl | kernel_rfl!) fun h3 D3 => ?_)
  refine wpAny_bind (wpAny_fieldsOf (D3.atC 0 _ _ rfl) rfl ?_)
  rw [show codeAmong { line := 64, col := 4, endLine := 85, endCol := 23 } ((#[] ++ #[rawInt 64, rawInt 4, .ref cc] : Array Value)).toList = some (.ref cc) from by first | rfl | simp [codeAmong]]
  refine x_pure ?_
  clear D2
  repeat walk_at "qm11i_g"
  rw [← PySem.W.XFast.xe6600643334278800223]
  obtain ⟨bm, ob, hbm, hne0, _, hneP, hbo, hcls, hdict, hdata⟩ := id hbA
  refine wpAny_builtinsFor (m := mg) ⟨oG, esG, epG, D3.keep _ _ hG ((congrArg (hasCls oG || ·) (away_one hGz)).trans (Bool.or_true _)), hGd, hGk, hGf⟩ hbm hne0 (D3.keep _ _ hbo (by rw [show hasCls ob = true from by unfold hasCls; rw [hcls]]; rfl)) hcls hdict hdata ?_
  repeat walk_at "qm11i_x"
  refine m_eq (lookAt lkG gn) ?_
  walk_at "qm11i_x"
  walk_at "qm11i_x"
  repeat walk_at "qm11i_g"
  walk_at "qm11i_x"
  repeat walk_at "qm11i_g"
  (with_reducible (conv => arg 3; whnf))
  rename_i frm h4 D4
  refine m_eq (congrFun PySem.W.XFast.enterX_eq.symm 0) ?_
  refine wpAny_enterFrame (hlim.at fun o e => D4.keep _ _ e (by rw [away_one hcz, Bool.or_true])) hdep ?_
  clear D3
  repeat walk_at "qm11i_g"
  (with_reducible (conv => arg 3; whnf))
  refine m_eq (lookT lkG gn) ?_
  refine x_pure ?_
  repeat walk_at "qm11i_g"
  (with_reducible (conv => arg 3; whnf))
  repeat walk_at "qm11i_x"
  walk_at "qm11i_u"
  refine' m_put ?D 4 ?hi #[] 1 (S "__module__") vN ?e ?_
  case D => with_reducible assumption
  case hi => exact rfl
  case e => kernel_rfl!
  intro hv0 tv0 h5 D5
  dsimp only [List.set] at D5
  clear D4
  repeat walk_at "qm11i_x"
  walk_at "qm11i_u"
  refine' m_put ?D 4 ?hi #[⟨hv0, .str (S "__module__") tv0, vN⟩] 2 (S "__qualname__") (.str (S "cmp_to_key.<locals>.K") (t0 + 1 + 1 + 1 + 1 + 1 + 1 + 1 + 1 + 1)) ?e ?_
  case D => with_reducible assumption
  case hi => exact rfl
  case e => kernel_rfl!
  intro hv1 tv1 h6 D6
  dsimp only [List.set] at D6
  clear D5
  repeat walk_at "qm11i_x"
  walk_at "qm11i_u"
  refine' m_put ?D 4 ?hi #[⟨hv0, .str (S "__module__") tv0, vN⟩, ⟨hv1, .str (S "__qualname__") tv1, .str (S "cmp_to_key.<locals>.K") (t0 + 1 + 1 + 1 + 1 + 1 + 1 + 1 + 1 + 1)⟩] 3 (S "__firstlineno__") (.int 64 (t0 + 1 + 1 + 1 + 1 + 1 + 1 + 1 + 1 + 1 + 1 + 1)) ?e ?_
  case D => with_reducible assumption
  case hi => exact rfl
  case e => kernel_rfl!
  intro hv2 tv2 h7 D7
  dsimp only [List.set] at D7
  clear D6
  repeat walk_at "qm11i_v"
  (with_reducible (conv => arg 3; whnf))
  refine wpAny_bind (run_body ?hb fun A' E' => ?_)
  case hb => kernel_rfl!
  refine m_eq (t₂ := execs clsBody (cEnv nsA cl frm cc)) (by kernel_rfl!) ?_
  have hncz : cc ≠ zt := D7.ne 1 2 _ _ _ _ rfl rfl rfl
  have hnz : zt ≠ nsA := D7.ne 2 4 _ _ _ _ rfl rfl rfl
  have old : ∀ b o, h.get? b = some o → b ≠ nsA ∧ b ≠ zt := fun b o e => ⟨(D7.ne_old 4 _ _ rfl _ _ e).symm, (D7.ne_old 2 _ _ rfl _ _ e).symm⟩
  have X : CCtx h7 nsA zt cc mg (cEnv nsA cl frm cc) := {
    locals := rfl, globals := rfl, code := rfl
    nN := ⟨_, D7.at 4 _ _ rfl⟩
    nZ := ⟨_, D7.at 2 _ _ rfl⟩
    hd := ⟨_, _, _, _, _, _, _, _, _, D7.at 1 _ _ rfl, rfl, rfl, rfl, rfl, rfl, rfl, rfl, rfl, hncz⟩
    ccN := D7.ne 1 4 _ _ _ _ rfl rfl rfl
    ns := ⟨oG, esG, epG, D7.keep _ _ hG ((congrArg (hasCls oG || ·) (away_one hGz)).trans (Bool.or_true _)), hGd, hGk, hGf⟩
    gN := (old _ _ hG).1
    gZ := (old _ _ hG).2
    bA := ⟨bm, ob, hbm, hne0, by assumption, (old _ _ hbo).2, D7.keep _ _ hbo (by rw [show hasCls ob = true from by unfold hasCls; rw [hcls]]; rfl), hcls, hdict, hdata⟩
    bN := ⟨bm, ob, hbm, hne0, by assumption, (old _ _ hbo).1, D7.keep _ _ hbo (by rw [show hasCls ob = true from by unfold hasCls; rw [hcls]]; rfl), hcls, hdict, hdata⟩ }
  refine body_K X (D7.at 2 _ _ rfl) (D7.at 4 _ _ rfl) ?_
  intro hf tf ts sl f1 f2 f3 f4 f5 f6 c1' c2 c3 c4 c5 c6 oc1 oc2 oc3 oc4 oc5 oc6 d1 d2 d3 d4 d5 d6 v1 v2 v3 v4 v5 v6 ps h8 t8 o1 o2 o3 o4 o5 o6 K
  have D8 := Mem.start h8
  clear D
  repeat walk_at "qm11i_g"
  refine wpAny_onRaise ?_
  show wpAny _ _ (Sem.bind (Sem.bind (Sem.pure _) _) _) _ _ _
  refine wpAny_bind ?_
  refine wpAny_bind ?_
  refine x_pure ?_
  (conv => arg 3; whnf)
  refine x_pure ?_
  repeat walk_at "qm11i_g"
  (with_reducible (conv => arg 3; whnf))
  rename_i sa h9 D9
  have k9 : ∀ b o, h8.get? b = some o → h9.get? b = some o := fun b o e => D9.keep _ _ e (by rw [show away [] b = true from rfl, Bool.or_true])
  have K9 := K.new k9 (D9.at 0 _ _ rfl) (by
    cases e : h7.get? sa with
    | none => rfl
    | some o => obtain ⟨o', e'⟩ := K.there e; have := (D9.nw _ (.head _)).2; rw [e'] at this; cases this)
  refine m_eq (t₂ := storeName (cEnv nsA cl frm cc) (S "__static_attributes__") (.ref sa)) (by rw [← PySem.W.XFast.xe7998390705656384164]; kernel_rfl!) ?_
  refine cls_new rfl (by kernel_rfl!) K9.ns (by kernel_rfl!) (fun _ _ => by kernel_rfl!) fun hh tk h10 t10 sb e10 => ?_
  have K10 := K9.store X.nN sb e10
  clear D8 D9 k9 sb e10
  have D10 := Mem.start h10
  repeat walk_at "qm11i_h"
  refine m_eq (t₂ := call (.type "type") [.str (S "K") t0, .ref bT, .ref nsA]) (by kernel_rfl!) ?_
  have o10 : ∀ b o, b ≠ z1 → h.get? b = some o → h10.get? b = some o := fun b o ne e => K10.keep b o (old b o e).1 (old b o e).2 (D7.keep b o e (by rw [away_one ne, Bool.or_true]))
  have mK := fun p hp => (K10.fs p hp).1
  refine call_type (hf := addH hf hh) (tf := addT tf tk t8) (o10 _ _ hcz hS) hSl (K10.keep _ _ (D7.ne 4 6 _ _ _ _ rfl rfl rfl).symm (D7.ne 2 6 _ _ _ _ rfl rfl rfl).symm (D7.at 6 _ _ rfl))
    (mK (sl, _) (by repeat (first | exact List.Mem.head _ | apply List.Mem.tail)))
    (mK (sa, _) (.head _)) (mK (f1, _) (by repeat (first | exact List.Mem.head _ | apply List.Mem.tail))) (mK (f2, _) (by repeat (first | exact List.Mem.head _ | apply List.Mem.tail))) (mK (f3, _) (by repeat (first | exact List.Mem.head _ | apply List.Mem.tail))) (mK (f4, _) (by repeat (first | exact List.Mem.head _ | apply List.Mem.tail))) (mK (f5, _) (by repeat (first | exact List.Mem.head _ | apply List.Mem.tail))) (mK (f6, _) (by repeat (first | exact List.Mem.head _ | apply List.Mem.tail))) hns K10.ns ?_
  intro bd su de C N aL hva hvb tva tvb tde h' tq D11
  show wpAny _ _ _ _ _ ⟨h', g, d, tq, os⟩
  (conv => arg 3; whnf)
  refine x_pure ?_
  refine wpAny_bind ?_
  (conv => arg 3; whnf)
  refine x_pure ?_
  refine wpAny_bind (wpAny_standAt ?_)
  have k11 : ∀ b o, h10.get? b = some o → h'.get? b = some o := fun b o e => D11.keep b o e (by rw [show away [] b = true from rfl, Bool.or_true])
  have oall : ∀ b o, b ≠ z1 → h.get? b = some o → h'.get? b = some o := fun b o ne e => k11 _ _ (o10 b o ne e)
  have ez10 : h10.get? z1 = some (tableObj (#[] ++ #[rawInt 64, rawInt 4, .ref cc])) := K10.keep _ _ (old _ _ hz1.out).1 (old _ _ hz1.out).2 (D7.atC 0 _ _ rfl)
  have th7 : ∀ b, h7.get? b = none → h.get? b = none := fun b e => by
    cases e' : h.get? b with
    | none => rfl
    | some o => obtain ⟨o', e2⟩ := D7.there e'; rw [e] at e2; cases e2
  have th10 : ∀ b, h10.get? b = none → h.get? b = none := fun b e => by
    cases e' : h.get? b with
    | none => rfl
    | some o =>
      by_cases hb : b = z1
      · subst hb; rw [e] at ez10; cases ez10
      · have := o10 b o hb e'; rw [e] at this; cases this
  obtain ⟨oL0, _, _, eL0, _⟩ := id hLn
  refine wpAny_bind (wpAny_bindName (wpAny_storeName_local (by rfl) (ns_but hLn fun o e => oall _ _ hLz e) fun h12 hn sb => wpAny_pure ?_))
  have neL : ∀ b, h.get? b = none → b ≠ L := fun b e e' => by subst e'; rw [e] at eL0; cases eL0
  have tr1 : ∀ p : Addr × Obj, h'.get? p.1 = some p.2 ∧ h10.get? p.1 = none → h12.get? p.1 = some p.2 ∧ h.get? p.1 = none := fun p x => ⟨(sb.2 _ (neL _ (th10 _ x.2))).trans x.1, th10 _ x.2⟩
  have tr2 : ∀ p : Addr × Obj, h10.get? p.1 = some p.2 ∧ h7.get? p.1 = none → h12.get? p.1 = some p.2 ∧ h.get? p.1 = none := fun p x => ⟨(sb.2 _ (neL _ (th7 _ x.2))).trans (k11 _ _ x.1), th7 _ x.2⟩
  refine q C (keyFs cl ((mg "__name__").getD .none) C bT N de sl sa f1 f2 f3 f4 f5 f6 c1' c2 c3 c4 c5 c6 oc1 oc2 oc3 oc4 oc5 oc6 d1 d2 d3 d4 d5 d6 v1 v2 v3 v4 v5 v6 t0 tde tva tvb hva hvb (addH hf hh) (addT tf tk t8)) h12 _ ⟨bT, N, de, sl, sa, f1, f2, f3, f4, f5, f6, c1', c2, c3, c4, c5, c6, oc1, oc2, oc3, oc4, oc5, oc6, d1, d2, d3, d4, d5, d6, v1, v2, v3, v4, v5, v6, t0, tde, tva, tvb, hva, hvb, addH hf hh, addT tf tk t8, rfl, o1, o2, o3, o4, o5, o6⟩ (fun b o n1 n2 e => (sb.2 _ n2).trans (oall b o n1 e)) ⟨_, (sb.2 _ (Ne.symm hLz)).trans (k11 _ _ ez10)⟩ ?_ hn
  intro p hp
  simp only [keyFs, List.mem_cons, List.not_mem_nil, or_false] at hp
  rcases hp with rfl | rfl | rfl | hp
  · exact tr1 _ (D11.nw (C, _) (by repeat (first | exact List.Mem.head _ | apply List.Mem.tail)))
  · exact tr1 _ (D11.nw (N, _) (by repeat (first | exact List.Mem.head _ | apply List.Mem.tail)))
  · exact tr1 _ (D11.nw (de, _) (by repeat (first | exact List.Mem.head _ | apply List.Mem.tail)))
  · refine tr2 p (K10.fs p ?_)
    simp only [List.mem_cons, List.not_mem_nil, or_false]
    rcases hp with h | h | h | h | h | h | h | h | h | h | h | h <;> simp [h]

theorem codeO_noIter {q : Str} {oc : Obj} (x : CodeO q oc) : ¬ IterObj oc := by
  rintro ⟨nm, vs, hc, _, _, h2, _⟩
  rw [x.1] at hc
  cases hc
  exact h2 rfl
theorem kfn_noIter {i : Nat} {clos : List (Str × Addr)} {doc pm : Value} {c : Addr} {ctv : Value} (hi : i = 2 ∨ i = 3 ∨ i = 4 ∨ i = 5 ∨ i = 6 ∨ i = 7) : ¬ IterObj (kfn i clos doc pm c ctv) := by
  rcases hi with rfl | rfl | rfl | rfl | rfl | rfl <;> (rintro ⟨nm, vs, _, hd, _⟩; cases hd)
theorem KeyF.noIter {cl : Addr} {pm : Value} {C : Addr} {F : List (Addr × Obj)} (x : KeyF cl pm C F) : ∀ q ∈ F, ¬ IterObj q.2 := by
  obtain ⟨b, N, de, sl, st, f1, f2, f3, f4, f5, f6, c1, c2, c3, c4, c5, c6, oc1, oc2, oc3, oc4, oc5, oc6, d1, d2, d3, d4, d5, d6, v1, v2, v3, v4, v5, v6, tK, tde, tv1, tv2, hv1, hv2, hf, tf, rfl, o1, o2, o3, o4, o5, o6⟩ := x
  intro q hq
  simp only [keyFs, List.mem_cons, List.not_mem_nil, or_false] at hq
  rcases hq with rfl | rfl | rfl | rfl | rfl | rfl | rfl | rfl | rfl | rfl | rfl | rfl | rfl | rfl | rfl
  · rintro ⟨nm, vs, _, hd, _⟩; cases hd
  · rintro ⟨nm, vs, _, hd, _⟩; cases hd
  · rintro ⟨nm, vs, hc, hd, _, _, h3⟩; cases hc; exact h3 rfl
  · exact kfn_noIter (by simp)
  · exact codeO_noIter o1
  · exact kfn_noIter (by simp)
  · exact codeO_noIter o2
  · exact kfn_noIter (by simp)
  · exact codeO_noIter o3
  · exact kfn_noIter (by simp)
  · exact codeO_noIter o4
  · exact kfn_noIter (by simp)
  · exact codeO_noIter o5
  · exact kfn_noIter (by simp)
  · exact codeO_noIter o6
theorem KeyF.call {B : Bas} (bo : B.Ok) {cl : Addr} {pm : Value} {C : Addr} {F : List (Addr × Obj)} (x : KeyF cl pm C F) : KeyCall B C F := by
  obtain ⟨b, N, de, sl, st, f1, f2, f3, f4, f5, f6, c1, c2, c3, c4, c5, c6, oc1, oc2, oc3, oc4, oc5, oc6, d1, d2, d3, d4, d5, d6, v1, v2, v3, v4, v5, v6, tK, tde, tv1, tv2, hv1, hv2, hf, tf, rfl, o1, o2, o3, o4, o5, o6⟩ := x
  intro s hh hF A v t Q E ao hq
  obtain ⟨oc, vs, tc, k1, k2⟩ := o1
  have m : ∀ {q}, q ∈ keyFs cl pm C b N de sl st f1 f2 f3 f4 f5 f6 c1 c2 c3 c4 c5 c6 oc1 oc2 oc3 oc4 oc5 oc6 d1 d2 d3 d4 d5 d6 v1 v2 v3 v4 v5 v6 tK tde tv1 tv2 hv1 hv2 hf tf → s.heap.get? q.1 = some q.2 := fun hm => hF _ hm
  unfold keyFs at m
  refine key_call (m (q := (C, _)) (.head _)) (m (q := (N, _)) (.tail _ (.head _))) (m (q := (de, _)) (.tail _ (.tail _ (.head _)))) (m (q := (f1, _)) (.tail _ (.tail _ (.tail _ (.head _))))) ?_ ?_ (bo.nolimit.keeps hh) (by have := ao.depth; omega) fun ko dk h' tk k n e => ?_
  · exact ⟨⟨_, _, _, _, rfl⟩, fun _ _ => rfl, rfl, by kernel_rfl!, by kernel_rfl!, rfl, rfl, rfl⟩
  · exact ⟨c1, oc1, vs, tc, rfl, m (q := (c1, _)) (.tail _ (.tail _ (.tail _ (.tail _ (.head _))))), k1, k2.trans (by kernel_rfl!)⟩
  · exact hq.use ko h' tk _ k n e rfl
theorem make_spec {B : Bas} (bo : B.Ok) {ka z1 c1 : Addr} {o : Obj} {pm doc vN : Value} {oS : Obj} (ho : B.hB.get? ka = some o) (hd : o.data = .func (docDef (S "cmp_to_key") (defAt pw 13).params (defAt pw 13).body (defAt pw 13).scope pm (.ref c1) doc)) (hcd : B.hB.CodeRec (.ref c1) (S "cmp_to_key"))
    (C1 : CodeHd B.hB c1 z1) (hz1 : B.hB.get? z1 = none) (hbm : B.hB.BuiltinsAt B.mg z1) (gn : B.mg (S "__name__") = some vN) (g1 : B.mg (S "object") = none) (hS : B.hB.get? cStatics = some oS) (hSl : nsLook (S "thirdparty.any") oS = Sem.pure none) : MakeSpec B z1 ka := by
  intro s lam A Q E ao hh hz hq
  refine wpAny_call (codeAny_mono (codeAny_call_cells (R := fun res s' => ∃ v, res = .ok (.ret v) ∧ Q v s') (by have := ao.depth; omega) (hh _ _ ho) hd (bo.nolimit.keeps hh) (hcd.keeps hh) rfl (binds := [(S "mycmp", .ref lam)]) (by rfl) rfl ?_ ?_) ?_)
  · intro x hx
    simp only [List.mem_cons, List.not_mem_nil, or_false] at hx
    subst hx
    exact .inr ⟨by kernel_rfl!, by rfl⟩
  · intro s₁ K
    obtain ⟨h1, t1, rfl, k1⟩ := K.done
    have hh1 : ∀ b x, B.hB.get? b = some x → h1.get? b = some x := fun b x e => k1 _ _ (hh _ _ e)
    obtain ⟨oG, esG, epG, eG, hGd, hGk, hGf⟩ := bo.g.keeps hh1
    obtain ⟨oB, esB, epB, eB, hBd, hBk, hBf⟩ := bo.b.keeps hh1
    have nz : ∀ {b x}, B.hB.get? b = some x → b ≠ z1 := fun e q => by rw [q, hz1] at e; cases e
    have hL : s.heap.get? s.heap.objs.size = none := fresh_of (Nat.le_refl _)
    obtain ⟨bm, ob, b1, b2, b3, b4, b5, b6, b7, b8⟩ := hbm
    refine wpAny_execs_cons (class_def (mb := B.mb) (c1 := c1) (z1 := z1) (L := s.heap.objs.size) (cl := s.heap.objs.size + 1) (ka := ka) eG (fun n => by rw [look_ns hGd hGk n, hGf]) eB (fun n => by rw [look_ns hBd hBk n, hBf]) ?_ ?_ g1 (C1.keeps hh1) ⟨k1 _ _ hz⟩ hGd hGk hGf ⟨bm, ob, b1, b2, b3, b4, hh1 _ _ b5, b6, b7, b8⟩ gn (bo.nolimit.keeps hh1) (nz hS) ?_ (hh1 _ _ hS) hSl K.toInCall.ns ?_ (fun C F h' t' kf keep hz' hF hn => ?_) _ rfl)
    · exact (bo.builtins _ (by decide +kernel)).trans (by kernel_rfl!)
    · exact (bo.builtins _ (by decide +kernel)).trans (by kernel_rfl!)
    · have := ao.depth; show A.depth + 1 < _; omega
    · intro e; rw [show s.heap.get? _ = none from hL ▸ (congrArg s.heap.get? e.symm)] at hz; cases hz
    · show wpAny _ _ (execs _ _) _ _ _
      refine wpAny_execs_cons (wpAny_Return_some (wpAny_Name (wpAny_loadName_local (by rfl) (by rfl) hn (if_pos rfl) ?_) (by decide +kernel)))
      refine ⟨_, rfl, ?_⟩
      have back : ∀ b, h1.get? b = none → s.heap.get? b = none := fun b e => by
        cases e' : s.heap.get? b with
        | none => rfl
        | some x => have := k1 _ _ e'; rw [e] at this; cases this
      obtain ⟨oC, cd, hmC, hc1, hc2⟩ : ∃ oC cd, (C, oC) ∈ F ∧ oC.cls = .type "type" ∧ oC.data = .cls cd := by
        obtain ⟨b, N, de, sl, st, f1, f2, f3, f4, f5, f6, c1, c2, c3, c4, c5, c6, oc1, oc2, oc3, oc4, oc5, oc6, d1, d2, d3, d4, d5, d6, v1, v2, v3, v4, v5, v6, tK, tde, tv1, tv2, hv1, hv2, hf, tf, rfl, _⟩ := kf
        exact ⟨_, _, .head _, rfl, rfl⟩
      exact hq.use C h' t' F oC cd (fun b x nb e => keep b x nb (fun q => by rw [q, hL] at e; cases e) (k1 _ _ e)) hz' (fun q hq' => ⟨(hF q hq').1, back _ (hF q hq').2, kf.noIter q hq'⟩) hmC hc1 hc2 (kf.call bo)
  · rintro res s' ⟨v, rfl, z⟩
    exact z

theorem ints_rp {h : Heap} {X : Addr → Prop} : ∀ {vs : List Value} {ns : List Int}, IntsAre vs ns → RpAll h X vs (D.ofInts ns)
  | _, _, .nil => .nil
  | _, _, .cons n t r => .cons (.int n t) (ints_rp r)

theorem has_of {p : Program} {loose : List Str} {mean : ExcName → Option Value} {mg mb : Str → Option Value} {h : Heap} (prog : Program) (w : World) (T : Top p loose mean mg mb h) (x : String) (i : Nat) (f : Def)
    (hd : (recsOf p)[i]?.map (fun d => (d.name, d.params, d.body, d.scope)) = some (f.name, f.params, f.body, f.scope)) (hn : f.name = S x) : ∃ a, HasDef ⟨prog, w, h, mg, mb⟩ x a f := by
  obtain ⟨d, hd1, hd2⟩ := Option.map_eq_some_iff.mp hd
  simp only [Prod.mk.injEq] at hd2
  obtain ⟨h1, h2, h3, h4⟩ := hd2
  obtain ⟨a, o, pm, code, doc, e1, e2, e3, e4⟩ := T.fn d (List.mem_of_getElem? hd1)
  refine ⟨a, ⟨by rw [← hn, ← h1]; exact e1, ⟨o, pm, code, doc, e2, ?_, ?_⟩⟩⟩
  · rw [e3, h1, h2, h3, h4]
  · rw [← h1]; exact e4
theorem free_of {p : Program} {loose : List Str} {mean : ExcName → Option Value} {mg mb : Str → Option Value} {h : Heap} (prog : Program) (w : World) (T : Top p loose mean mg mb h) (hG : Heap)
    (hc : (bnames.all fun x => !(startupNames.contains (S x) || loose.contains (S x) || ((recsOf p).map (·.name)).contains (S x) || ((litsOf p).map (·.1)).contains (S x) || ((clssOf p loose).map (·.name)).contains (S x))) = true) : Free ⟨prog, w, hG, mg, mb⟩ := by
  intro x hx
  have := List.all_eq_true.mp hc x hx
  simp only [Bool.not_eq_true', Bool.or_eq_false_iff] at this
  obtain ⟨⟨⟨⟨a, b⟩, c⟩, d⟩, e⟩ := this
  have nc : ∀ {l : List Str}, l.contains (S x) = false → S x ∉ l := fun h hm => by rw [List.contains_iff_mem.mpr hm] at h; cases h
  exact T.free (S x) (nc a) (nc b) (nc c) (nc d) (nc e)
section
variable {h h' : Heap} {tabs : List (Addr × Addr)}
theorem ghost_rec (hT : TabsAt tabs h) {cd : Value} {q : Str} (x : h.CodeRec cd q) : (ghostOf h tabs).CodeRec cd q := by
  obtain ⟨c, o, vs, t, e1, e2, e3, e4⟩ := x
  refine ⟨c, o, vs, t, e1, ghost_get hT e2 (fun z => ?_), e3, e4⟩
  rw [z] at e3
  cases e3
  cases e4
theorem ghost_def (hT : TabsAt tabs h) {prog : Program} {w : World} {mg mb : Str → Option Value} {x : String} {a : Addr} {f : Def} (H : HasDef ⟨prog, w, h, mg, mb⟩ x a f) : HasDef ⟨prog, w, ghostOf h tabs, mg, mb⟩ x a f := by
  obtain ⟨o, pm, cd, doc, h1, h2, h3⟩ := H.fn.at_
  exact ⟨H.mg, ⟨o, pm, cd, doc, ghost_get hT h1 (fun z => by rw [z] at h2; cases h2), h2, ghost_rec hT h3⟩⟩
theorem ghost_bi (hT : TabsAt tabs h) {p : Program} {loose : List Str} {mean : ExcName → Option Value} {mg mb : Str → Option Value} (T : Top p loose mean mg mb h) {q : Addr × Addr} (hq : q ∈ tabs) : (ghostOf h tabs).BuiltinsAt mg q.2 := by
  obtain ⟨bm, ob, a1, a2, a3, a4, a5, a6⟩ := T.bmain
  refine ⟨bm, ob, a1, a2, fun z => ?_, fun z => ?_, ghost_get hT a3 (fun z => by rw [z] at a4; cases a4), a4, a5, a6⟩
  · obtain ⟨o, es, ep, e, hd, _⟩ := T.g
    rw [z, e] at a3; cases a3; rw [a6] at hd; cases hd
  · have := (hT q hq).2
    rw [z, this] at a3; cases a3; cases a4
theorem ghost_bas (hT : TabsAt tabs h) {p : Program} {loose : List Str} {mean : ExcName → Option Value} {mg mb : Str → Option Value} (T : Top p loose mean mg mb h) (prog : Program) (w : World) : Bas.Ok ⟨prog, w, ghostOf h tabs, mg, mb⟩ :=
  ⟨ghost_ns hT T.g, ghost_ns hT T.b, T.builtins, let ⟨mc, a, r⟩ := T.nolimit; ⟨mc, ghost_ns hT a, r⟩⟩
theorem ghost_old (hT : TabsAt tabs h) (k : ∀ b o, (ghostOf h tabs).get? b = some o → h'.get? b = some o) (gr : ∀ q ∈ tabs, ∃ ps, h'.get? q.2 = some (tabObj ps)) : OldK h h' := by
  refine ⟨fun b o e => ?_, fun b o e => ?_⟩
  · by_cases hb : b ∈ tabs.map (·.2)
    · obtain ⟨q, hq, rfl⟩ := List.mem_map.mp hb
      obtain ⟨ps, hP⟩ := gr q hq
      have e2 := (hT q hq).2
      rw [e] at e2
      cases e2
      exact .inr (.inl ⟨((hT q hq).1.tab (hT q hq).2).isCodeTable, rfl, #[], ps, rfl, by rw [Array.empty_append]; exact hP⟩)
    · exact .inl (k b o (ghost_ne e hb))
  · by_cases hb : b ∈ tabs.map (·.2)
    · obtain ⟨q, hq, rfl⟩ := List.mem_map.mp hb
      obtain ⟨ps, hP⟩ := gr q hq
      exact ⟨_, hP⟩
    · exact ⟨o, k b o (ghost_ne e hb)⟩
end

end Mine
open Mine
set_option maxHeartbeats 8000000 in
theorem PySem.Challenge.cw_dm0115_11_holds : PySem.Challenge.rw_dm0115_11.Holds := by
  w_on; o_law; k_head; (case hw => w_witness2)
  k_fill
  intro w s₀ s₁ mg mb G Y fa o pm cd doc dV kV ho hd hcd hD hmg hg args vals aas hpre hlay hrd hwl hlo
  have KX := km_in_of Y
  km_tabs Y
  refine Ground.open G ?_
  intro T B D TE TW
  km_lay T hmg ho hd cd
  wrow_args hpre hlay hrd hwl hlo
  rename_i ns _ _ _ _ _ _ _ la vs _ hl _ _ _ hI _ hlen _
  have e1 := Dflts.none hD rfl
  have e2 := Dflts.noKw hD
  subst e1; subst e2
  clear B D TE TW
  obtain ⟨a1, H1⟩ := has_of PySem.Challenge.rw_dm0115_11.row.prog w T "_gt_from_lt" 0 (defAt pw 1) (by kernel_rfl) rfl
  obtain ⟨a2, H2⟩ := has_of PySem.Challenge.rw_dm0115_11.row.prog w T "_le_from_lt" 1 (defAt pw 2) (by kernel_rfl) rfl
  obtain ⟨a3, H3⟩ := has_of PySem.Challenge.rw_dm0115_11.row.prog w T "_ge_from_lt" 2 (defAt pw 3) (by kernel_rfl) rfl
  obtain ⟨a4, H4⟩ := has_of PySem.Challenge.rw_dm0115_11.row.prog w T "_ge_from_le" 3 (defAt pw 4) (by kernel_rfl) rfl
  obtain ⟨a5, H5⟩ := has_of PySem.Challenge.rw_dm0115_11.row.prog w T "_lt_from_le" 4 (defAt pw 5) (by kernel_rfl) rfl
  obtain ⟨a6, H6⟩ := has_of PySem.Challenge.rw_dm0115_11.row.prog w T "_gt_from_le" 5 (defAt pw 6) (by kernel_rfl) rfl
  obtain ⟨a7, H7⟩ := has_of PySem.Challenge.rw_dm0115_11.row.prog w T "_lt_from_gt" 6 (defAt pw 7) (by kernel_rfl) rfl
  obtain ⟨a8, H8⟩ := has_of PySem.Challenge.rw_dm0115_11.row.prog w T "_ge_from_gt" 7 (defAt pw 8) (by kernel_rfl) rfl
  obtain ⟨a9, H9⟩ := has_of PySem.Challenge.rw_dm0115_11.row.prog w T "_le_from_gt" 8 (defAt pw 9) (by kernel_rfl) rfl
  obtain ⟨a10, H10⟩ := has_of PySem.Challenge.rw_dm0115_11.row.prog w T "_le_from_ge" 9 (defAt pw 10) (by kernel_rfl) rfl
  obtain ⟨a11, H11⟩ := has_of PySem.Challenge.rw_dm0115_11.row.prog w T "_gt_from_ge" 10 (defAt pw 11) (by kernel_rfl) rfl
  obtain ⟨a12, H12⟩ := has_of PySem.Challenge.rw_dm0115_11.row.prog w T "_lt_from_ge" 11 (defAt pw 12) (by kernel_rfl) rfl
  obtain ⟨ka, Hk⟩ := has_of PySem.Challenge.rw_dm0115_11.row.prog w T "cmp_to_key" 12 (defAt pw 13) (by kernel_rfl) rfl
  obtain ⟨x0, X0⟩ := has_of PySem.Challenge.rw_dm0115_11.row.prog w T "_law_twelve" 13 (defAt pw 15) (by kernel_rfl) rfl
  obtain ⟨x1, X1⟩ := has_of PySem.Challenge.rw_dm0115_11.row.prog w T "_law_due" 14 (defAt pw 16) (by kernel_rfl) rfl
  obtain ⟨x2, X2⟩ := has_of PySem.Challenge.rw_dm0115_11.row.prog w T "_law_value" 15 (defAt pw 17) (by kernel_rfl) rfl
  have fr := free_of PySem.Challenge.rw_dm0115_11.row.prog w T (ghostOf s₁.heap [(104, 100), (130, 128)]) (by decide +kernel)
  have bo := ghost_bas hT9 T PySem.Challenge.rw_dm0115_11.row.prog w
  obtain ⟨ok, pmk, cdk, dock, hok, hdk, hck⟩ := Hk.fn.at_
  have q1 : cdk = .ref 104 := law_code (x := S "cmp_to_key") (c := 104) (P := 100) KX T.g (by kernel_rfl) Hk.mg hok hdk
  subst q1
  have hd1 := hT9 (104, 100) (.head _)
  have hd2 := hT9 (130, 128) (.tail _ (.head _))
  have cg := ghost_code hT9
  have vN := mg_of KX T.g (n := S "__name__") (v := .str (Str.ofString "law_dm0115_11") 306) (by kernel_rfl)
  have nob : mg (S "object") = none := T.free (S "object") (by decide +kernel) (by decide +kernel) (by decide +kernel) (by decide +kernel) (by decide +kernel)
  have hst := KX cStatics _ rfl
  have tz : ∀ q ∈ [((104 : Addr), (100 : Addr)), (130, 128)], ∀ {o : Obj}, s₁.heap.get? q.2 = some o → o = tabObj #[] := fun q hq o e => Option.some.inj (e.symm.trans (hT9 q hq).2)
  have nc : la ∉ [(100 : Addr), 128] := by
    intro hm
    obtain ⟨ol, el, hcl, _⟩ := hl
    simp only [List.mem_cons, List.not_mem_nil, or_false] at hm
    rcases hm with rfl | rfl
    · have := tz _ (.head _) el; rw [this] at hcl; cases hcl
    · have := tz _ (.tail _ (.head _)) el; rw [this] at hcl; cases hcl
  have mk := make_spec bo (z1 := 100) (ghost_get hT9 hok (fun z => by rw [z] at hdk; cases hdk)) hdk (ghost_rec hT9 hck) cg.1 (hideAll_none _ (by simp)) (ghost_bi hT9 T (.head _)) vN nob (ghost_get hT9 hst (fun z => by cases z)) (by rfl)
  refine law_spec fr (A := callerA) ⟨ghost_def hT9 H1, ghost_def hT9 H2, ghost_def hT9 H3, ghost_def hT9 H4, ghost_def hT9 H5, ghost_def hT9 H6, ghost_def hT9 H7, ghost_def hT9 H8, ghost_def hT9 H9, ghost_def hT9 H10, ghost_def hT9 H11, ghost_def hT9 H12⟩ (ghost_def hT9 Hk) (ghost_def hT9 X0) (ghost_def hT9 X1) (ghost_def hT9 X2) (a := fa)
    ⟨o, pm, doc, ghost_get hT9 ho (fun z => by rw [z] at hd; cases hd), hd, ghost_rec hT9 hcd⟩ (z1 := 100) (z2 := 128) cg.2.1 (by decide) (ghost_bi hT9 T (.tail _ (.head _))) mk (l := ns) (by omega) s₁ _ _ [.ref la] bo ⟨rfl, by decide, by decide⟩ (fun _ _ e => of_hideAll _ e) hd1.2 hd2.2 (hideAll_none _ (by simp)) (hideAll_none _ (by simp)) (.cons (.list hl nc (ints_rp hI)) .nil) fun h' t g1 g2 k => ?_
  exact ⟨.inl ⟨.bool true, .bool true, [], rfl, (fun cls => by rfl), ReadsW.bool true, (postW_of (by rfl) (w_eq_bool (w_res rfl) w_lit) (by rfl)), unshared_nil⟩, ghost_old hT9 k (fun q hq => by
    simp only [List.mem_cons, List.not_mem_nil, or_false] at hq
    rcases hq with rfl | rfl
    · exact g1
    · exact g2), rfl, .of_eq hg⟩

