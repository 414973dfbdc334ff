import PyProof.Rows.All
import Wide.All
import OpenK.AllK
import Wide.FinOn
import PySem.Challenge.RW_dm0115_10
open PySem PySem.W PySem.Calls PyProof.Rows
open PySem.W.X
set_option Elab.async false
set_option maxRecDepth 100000
set_option linter.unusedVariables false
set_option linter.unusedSectionVars false
set_option linter.unusedSimpArgs false
namespace Mine

inductive D where
  | int (i : Int)
  | str (x : Str)
  | val (v : Value)
  | tuple (ds : List D)
  | list (ds : List D)
  | range (a b : Int)
  | flt (b : UInt64)
  | obj (p : Obj → Prop)
  | abs (p : Value → List (Addr × Obj) → Prop)

def IterObj (o : Obj) : Prop := ∃ nm vs, o.cls = .type nm ∧ o.data = .fields vs ∧ nm ≠ "range" ∧ nm ≠ "code" ∧ nm ≠ "member_descriptor"

abbrev D.bool (b : Bool) : D := .val (.bool b)
abbrev D.none : D := .val .none

def byVal : Value → Bool
  | .none | .ellipsis | .notImplemented | .bool _ | .type _ | .builtin _ => true
  | _ => false

mutual
inductive Rp (h : Heap) (X : Addr → Prop) : Value → D → Prop
  | int (i t) : Rp h X (.int i t) (.int i)
  | str (x t) : Rp h X (.str x t) (.str x)
  | val (v) : byVal v = true → Rp h X v (.val v)
  | fn (a o f) : h.get? a = some o → o.data = .func f → ¬ X a → Rp h X (.ref a) (.val (.ref a))
  | tuple {a vs ds} : IsTup h a vs.toArray → ¬ X a → RpAll h X vs ds → Rp h X (.ref a) (.tuple ds)
  | list {a vs ds} : h.IsList a vs.toArray → ¬ X a → RpAll h X vs ds → Rp h X (.ref a) (.list ds)
  | range {r a b t u v} : IsRange h r a b 1 t u v → ¬ X r → Rp h X (.ref r) (.range a b)
  | flt (b t) : Rp h X (.float b t) (.flt b)
  | obj {a o p} : h.get? a = some o → p o → ¬ IterObj o → ¬ X a → Rp h X (.ref a) (.obj p)
  | abs {v p} (F : List (Addr × Obj)) : p v F → (∀ q ∈ F, h.get? q.1 = some q.2 ∧ ¬ IterObj q.2 ∧ ¬ X q.1) → Rp h X v (.abs p)
inductive RpAll (h : Heap) (X : Addr → Prop) : List Value → List D → Prop
  | nil : RpAll h X [] []
  | cons {v vs d ds} : Rp h X v d → RpAll h X vs ds → RpAll h X (v :: vs) (d :: ds)
end

theorem IsTup.at' {h h' : Heap} {a : Addr} {its} (x : IsTup h a its) (e : ∀ o, h.get? a = some o → h'.get? a = some o) : IsTup h' a its :=
  let ⟨o, ho, r⟩ := x; ⟨o, e o ho, r⟩

mutual
theorem Rp.mono {h h' : Heap} {X X' : Addr → Prop} (hk : ∀ a o, ¬ X a → h.get? a = some o → h'.get? a = some o) (hx : ∀ a o, ¬ X a → h.get? a = some o → ¬ X' a) :
    ∀ {v d}, Rp h X v d → Rp h' X' v d
  | _, _, .int i t => .int i t
  | _, _, .str x t => .str x t
  | _, _, .val v e => .val v e
  | _, _, .fn a o f ho hd hn => .fn a o f (hk _ _ hn ho) hd (hx _ _ hn ho)
  | _, _, .tuple ht hn hr => .tuple (IsTup.at' ht fun o e => hk _ o hn e) (let ⟨_, ho, _⟩ := ht; hx _ _ hn ho) (RpAll.mono hk hx hr)
  | _, _, .list ht hn hr => .list (ht.at fun o e => hk _ o hn e) (let ⟨_, ho, _⟩ := ht; hx _ _ hn ho) (RpAll.mono hk hx hr)
  | _, _, .range ht hn => .range (hk _ _ hn ht) (hx _ _ hn ht)
  | _, _, .flt b t => .flt b t
  | _, _, .obj ho hp hi hn => .obj (hk _ _ hn ho) hp hi (hx _ _ hn ho)
  | _, _, .abs F hp hq => .abs F hp fun q m => let ⟨a, b, c⟩ := hq q m; ⟨hk _ _ c a, b, hx _ _ c a⟩
theorem RpAll.mono {h h' : Heap} {X X' : Addr → Prop} (hk : ∀ a o, ¬ X a → h.get? a = some o → h'.get? a = some o) (hx : ∀ a o, ¬ X a → h.get? a = some o → ¬ X' a) :
    ∀ {vs ds}, RpAll h X vs ds → RpAll h' X' vs ds
  | _, _, .nil => .nil
  | _, _, .cons a r => .cons (Rp.mono hk hx a) (RpAll.mono hk hx r)
end

section
variable {h h' : Heap} {X X' : Addr → Prop} {v : Value} {d : D} {vs ws : List Value} {ds es : List D}
theorem Rp.keeps (hk : ∀ a o, h.get? a = some o → h'.get? a = some o) (x : Rp h X v d) : Rp h' X v d := x.mono (fun a o _ e => hk a o e) fun _ _ n _ => n
theorem RpAll.keeps (hk : ∀ a o, h.get? a = some o → h'.get? a = some o) (x : RpAll h X vs ds) : RpAll h' X vs ds := x.mono (fun a o _ e => hk a o e) fun _ _ n _ => n
theorem Rp.sub (hs : ∀ a, X' a → X a) (x : Rp h X v d) : Rp h X' v d := x.mono (fun _ _ _ e => e) fun a _ n _ q => n (hs a q)
theorem RpAll.sub (hs : ∀ a, X' a → X a) (x : RpAll h X vs ds) : RpAll h X' vs ds := x.mono (fun _ _ _ e => e) fun a _ n _ q => n (hs a q)
theorem RpAll.length (x : RpAll h X vs ds) : vs.length = ds.length := by
  induction vs generalizing ds with
  | nil => cases x; rfl
  | cons v vs ih => cases x with | cons _ r => simp [ih r]
theorem RpAll.append (x : RpAll h X vs ds) (y : RpAll h X ws es) : RpAll h X (vs ++ ws) (ds ++ es) := by
  induction vs generalizing ds with
  | nil => cases x; exact y
  | cons v vs ih => cases x with | cons a r => exact .cons a (ih r)
theorem RpAll.get (x : RpAll h X vs ds) {k : Nat} {v : Value} (hv : vs[k]? = some v) : ∃ d, ds[k]? = some d ∧ Rp h X v d := by
  induction vs generalizing ds k with
  | nil => simp at hv
  | cons w vs ih =>
    cases x with
    | cons a r =>
      cases k with
      | zero => simp at hv; subst hv; exact ⟨_, rfl, a⟩
      | succ k => simp at hv; simpa using ih r hv
theorem RpAll.get' (x : RpAll h X vs ds) {k : Nat} {d : D} (hd : ds[k]? = some d) : ∃ v, vs[k]? = some v ∧ Rp h X v d := by
  induction vs generalizing ds k with
  | nil => cases x; simp at hd
  | cons w vs ih =>
    cases x with
    | cons a r =>
      cases k with
      | zero => simp at hd; subst hd; exact ⟨_, rfl, a⟩
      | succ k => simp at hd; simpa using ih r hd
theorem RpAll.take (x : RpAll h X vs ds) (k : Nat) : RpAll h X (vs.take k) (ds.take k) := by
  induction vs generalizing ds k with
  | nil => cases x; simp; exact .nil
  | cons w vs ih => cases x with | cons a r => cases k with
    | zero => exact .nil
    | succ k => exact .cons a (ih r k)
theorem RpAll.drop (x : RpAll h X vs ds) (k : Nat) : RpAll h X (vs.drop k) (ds.drop k) := by
  induction vs generalizing ds k with
  | nil => cases x; simp; exact .nil
  | cons w vs ih => cases x with | cons a r => cases k with
    | zero => exact .cons a r
    | succ k => exact ih r k
theorem RpAll.one (x : Rp h X v d) : RpAll h X [v] [d] := .cons x .nil
end

def VarIs (env : Env) (h : Heap) (x : Str) (v : Value) : Prop :=
  (env.kindOf x = some .local ∧ ∃ m, h.Ns env.locals m ∧ m x = some v) ∨
  ((env.kindOf x = some .cell ∨ env.kindOf x = some .free) ∧ ∃ c, env.cells.lookup x = some c ∧ h.IsCell c (some v))

theorem VarIs.keeps {env h h' x v} (y : VarIs env h x v) (hk : ∀ a o, h.get? a = some o → h'.get? a = some o) : VarIs env h' x v := by
  rcases y with ⟨k, m, n, e⟩ | ⟨k, c, l, e⟩
  · exact .inl ⟨k, m, n.keeps hk, e⟩
  · exact .inr ⟨k, c, l, e.keeps hk⟩

inductive Bnd where
  | val (d : D)
  | own (ds : List D)

abbrev Sto := List (String × Bnd)
def Sto.get : Sto → String → Option Bnd
  | [], _ => none
  | (y, b) :: r, x => if y = x then some b else Sto.get r x
def Sto.put : Sto → String → Bnd → Sto
  | [], x, b => [(x, b)]
  | (y, c) :: r, x, b => if y = x then (x, b) :: r else (y, c) :: Sto.put r x b
theorem Sto.get_put (σ : Sto) (x : String) (b : Bnd) (y : String) : (σ.put x b).get y = if x = y then some b else σ.get y := by
  induction σ with
  | nil => simp [Sto.put, Sto.get]
  | cons p r ih =>
    obtain ⟨z, c⟩ := p
    unfold Sto.put
    by_cases hz : z = x
    · subst hz; simp only [if_true, Sto.get]; split <;> rfl
    · simp only [hz, if_false, Sto.get, ih]
      by_cases h1 : z = y
      · subst h1; simp [Ne.symm hz]
      · simp [h1]

abbrev S (x : String) : Str := Str.ofString x

theorem S_inj {x y : String} (h : S x = S y) : x = y := by
  have hx : ∀ s : String, S s = Str.ofStringByList s := fun s => by unfold S; rw [Str.ofString_eq_byList]
  rw [hx, hx] at h
  unfold Str.ofStringByList at h
  injection h with h
  have h' : x.toList.map Char.toNat = y.toList.map Char.toNat := by simpa using h
  have inj : ∀ (a b : List Char), a.map Char.toNat = b.map Char.toNat → a = b := by
    intro a
    induction a with
    | nil => intro b hb; cases b <;> simp at hb ⊢
    | cons c r ih =>
      intro b hb
      cases b with
      | nil => simp at hb
      | cons e t =>
        simp only [List.map_cons, List.cons.injEq] at hb
        rw [ih t hb.2]
        congr 1
        apply Char.ext
        apply UInt32.toNat_inj.mp
        exact hb.1
  exact String.ext (inj _ _ h') 

structure Bas where
  prog : Program
  w : World
  hB : Heap
  mg : Str → Option Value
  mb : Str → Option Value

structure Bas.Ok (B : Bas) : Prop where
  g : B.hB.Ns mainGlobals B.mg
  b : B.hB.Ns builtinsNs B.mb
  builtins : ∀ x : Str, x ≠ "__name__" → B.mb x = bootBuiltins x
  nolimit : B.hB.NoLimit

structure AOk (n : Nat) (A : Around) : Prop where
  handled : A.handled = none
  depth : A.depth + n < recursionLimit
  units : A.units + 5 * n + 100 < cLine

structure EnvOk (env : Env) : Prop where
  kind : env.scope.kind = .function
  globals : env.globals = mainGlobals
  builtins : env.builtins = builtinsNs
  apart : ∀ x y c, env.cells.lookup x = some c → env.cells.lookup y = some c → x = y

def BndIs (env : Env) (h : Heap) (X O : Addr → Prop) (x : String) : Bnd → Prop
  | .val d => ∃ v, VarIs env h (S x) v ∧ Rp h X v d
  | .own ds => ∃ a vs, VarIs env h (S x) (.ref a) ∧ O a ∧ a ≠ env.locals ∧ h.PlainList a vs.toArray ∧ RpAll h X vs ds

structure St (B : Bas) (h₀ : Heap) (P : Addr → Prop) (env : Env) (σ : Sto) (O : Addr → Prop) (h : Heap) : Prop where
  base : ∀ b o, B.hB.get? b = some o → h₀.get? b = some o
  keep : ∀ b o, h₀.get? b = some o → h.get? b = some o
  plive : ∀ a, P a → (∃ o, h₀.get? a = some o) ∧ B.hB.get? a = none
  live : ∀ a, O a → ∃ o, h.get? a = some o
  new : ∀ a, O a → h₀.get? a = none
  ok : EnvOk env
  loc : O env.locals
  ns : ∃ m, h.Ns env.locals m
  cells : ∀ x c, env.cells.lookup x = some c → (∃ v, h.IsCell c v) ∧ (env.func.isSome = true → O c)
  vars : ∀ x b, σ.get x = some b → BndIs env h (fun a => P a ∨ O a) O x b
  apart : ∀ x y ds es a, x ≠ y → σ.get x = some (.own ds) → σ.get y = some (.own es) → VarIs env h (S x) (.ref a) → VarIs env h (S y) (.ref a) → False

theorem St.xlive {B h₀ P env σ O h} (T : St B h₀ P env σ O h) {b : Addr} (q : P b ∨ O b) : (∃ o, h.get? b = some o) ∧ B.hB.get? b = none := by
  rcases q with q | q
  · obtain ⟨⟨o, e⟩, z⟩ := T.plive b q; exact ⟨⟨o, T.keep b o e⟩, z⟩
  · refine ⟨T.live b q, ?_⟩
    cases e : B.hB.get? b with
    | none => rfl
    | some o => have := T.new b q; rw [T.base b o e] at this; cases this

inductive Mov (O : Addr → Prop) (s s' : Shared) : Prop
  | mk (h' : Heap) (tk : Nat) : s' = { s with heap := h', toks := tk } → (∀ b o, ¬ O b → s.heap.get? b = some o → h'.get? b = some o) → Mov O s s'

theorem Mov.refl (O s) : Mov O s s := ⟨s.heap, s.toks, rfl, fun _ _ _ e => e⟩
theorem Mov.of_keeps {O s s'} (k : Keeps s s') : Mov O s s' := let ⟨h', tk, e, k⟩ := k; ⟨h', tk, e, fun b o _ x => k b o x⟩
theorem Mov.trans {O O' : Addr → Prop} {s s' s'' : Shared} (a : Mov O s s') (b : Mov O' s' s'') (hs : ∀ b, O' b → O b ∨ s.heap.get? b = none) : Mov O s s'' := by
  obtain ⟨h', tk, rfl, k⟩ := a
  obtain ⟨h'', tk', rfl, k'⟩ := b
  exact ⟨h'', tk', rfl, fun b o n e => k' b o (fun q => by rcases hs b q with q | q; exact n q; rw [q] at e; cases e) (k b o n e)⟩
theorem krefl (s : Shared) : Keeps s s := ⟨s.heap, s.toks, rfl, fun _ _ e => e⟩
theorem ktok (s : Shared) (t : Nat) : Keeps s { s with toks := t } := ⟨s.heap, t, rfl, fun _ _ e => e⟩
theorem ktrans {s s' s'' : Shared} (a : Keeps s s') (b : Keeps s' s'') : Keeps s s'' := by
  obtain ⟨h', tk, rfl, k⟩ := a
  obtain ⟨h'', tk', rfl, k'⟩ := b
  exact ⟨h'', tk', rfl, fun b o e => k' b o (k b o e)⟩
theorem kpush (s : Shared) (o : Obj) (t : Nat) : Keeps s { s with heap := s.heap.push o, toks := t } := ⟨_, t, rfl, fun _ _ e => Heap.get?_push_of_some _ e⟩
theorem kpush' (s : Shared) (o : Obj) : Keeps s { s with heap := s.heap.push o } := ⟨_, s.toks, rfl, fun _ _ e => Heap.get?_push_of_some _ e⟩
theorem kheap {s s' : Shared} (a : Keeps s s') : ∀ b o, s.heap.get? b = some o → s'.heap.get? b = some o := by obtain ⟨h', tk, rfl, k⟩ := a; exact k
theorem fresh_of {h : Heap} {a : Addr} (ha : h.objs.size ≤ a) : h.get? a = none := by
  cases e : h.get? a with
  | none => rfl
  | some o => exact absurd (Heap.lt_size e) (Nat.not_lt.mpr ha)

section
variable {B : Bas} {h₀ h h' : Heap} {P O : Addr → Prop} {env : Env} {σ : Sto}
theorem VarIs.fn {x : Str} {v w : Value} (a : VarIs env h x v) (b : VarIs env h x w) : v = w := by
  rcases a with ⟨k, m, n, e⟩ | ⟨k, c, l, e⟩ <;> rcases b with ⟨k', m', n', e'⟩ | ⟨k', c', l', e'⟩
  · rw [n.eq_nsMap] at e; rw [n'.eq_nsMap] at e'; rw [e] at e'; exact Option.some.inj e'
  · rcases k' with k' | k' <;> rw [k] at k' <;> cases k'
  · rcases k with k | k <;> rw [k] at k' <;> cases k'
  · rw [l] at l'; cases l'
    obtain ⟨o, ho, hd⟩ := e; obtain ⟨o', ho', hd'⟩ := e'
    rw [ho] at ho'; cases ho'; rw [hd] at hd'; cases hd'; rfl
theorem VarIs.back {x : Str} {v w : Value} (hk : ∀ a o, h.get? a = some o → h'.get? a = some o) (a : VarIs env h x v) (b : VarIs env h' x w) : w = v := (b.fn (a.keeps hk))
theorem BndIs.keeps {X : Addr → Prop} {x : String} {b : Bnd} (hk : ∀ a o, h.get? a = some o → h'.get? a = some o) (y : BndIs env h X O x b) : BndIs env h' X O x b := by
  cases b with
  | val d => obtain ⟨v, a, r⟩ := y; exact ⟨v, a.keeps hk, r.keeps hk⟩
  | own ds => obtain ⟨a, vs, hv, ho, hl, hp, r⟩ := y; exact ⟨a, vs, hv.keeps hk, ho, hl, hp.at fun o e => hk _ o e, r.keeps hk⟩
theorem BndIs.var {X : Addr → Prop} {x : String} {b : Bnd} (y : BndIs env h X O x b) : ∃ v, VarIs env h (S x) v := by
  cases b with
  | val d => obtain ⟨v, a, _⟩ := y; exact ⟨v, a⟩
  | own ds => obtain ⟨a, vs, hv, _⟩ := y; exact ⟨_, hv⟩
theorem St.keeps (T : St B h₀ P env σ O h) (hk : ∀ a o, h.get? a = some o → h'.get? a = some o) : St B h₀ P env σ O h' where
  base := T.base
  keep := fun b o e => hk b o (T.keep b o e)
  plive := T.plive
  live := fun a q => let ⟨o, e⟩ := T.live a q; ⟨o, hk a o e⟩
  new := T.new
  ok := T.ok
  loc := T.loc
  ns := let ⟨m, n⟩ := T.ns; ⟨m, n.keeps hk⟩
  cells := fun x c l => let ⟨⟨v, e⟩, f⟩ := T.cells x c l; ⟨⟨v, e.keeps hk⟩, f⟩
  vars := fun x b e => (T.vars x b e).keeps hk
  apart := fun x y ds es a ne hx hy vx vy => by
    obtain ⟨v, a1⟩ := (T.vars x _ hx).var
    obtain ⟨v', a2⟩ := (T.vars y _ hy).var
    have e1 := a1.back hk vx; have e2 := a2.back hk vy
    subst e1; subst e2
    exact T.apart x y ds es a ne hx hy a1 a2
theorem St.kp {s s' : Shared} (T : St B h₀ P env σ O s.heap) (k : Keeps s s') : St B h₀ P env σ O s'.heap := T.keeps (kheap k)
theorem St.notX (T : St B h₀ P env σ O h) {a : Addr} (ha : h.get? a = none) : ¬ (P a ∨ O a) := by
  rintro (q | q)
  · obtain ⟨⟨o, e⟩, _⟩ := T.plive a q; rw [T.keep _ _ e] at ha; cases ha
  · obtain ⟨o, e⟩ := T.live a q; rw [e] at ha; cases ha
theorem St.notX' (T : St B h₀ P env σ O h) {a : Addr} (ha : h.objs.size ≤ a) : ¬ (P a ∨ O a) := T.notX (fresh_of ha)
end

def Ev (B : Bas) (n : Nat) (env : Env) (σ : Sto) (e : Expr) (d : D) : Prop :=
  ∀ (h₀ : Heap) (P O : Addr → Prop) (A : Around) (s : Shared) (E : Value → Shared → Prop) (Q : Value → Shared → Prop), B.Ok → AOk n A → St B h₀ P env σ O s.heap →
    (∀ v s', Keeps s s' → Rp s'.heap (fun a => P a ∨ O a) v d → Q v s') → wpAny (model B.prog B.w) A (eval e env) Q E s
def EvW (B : Bas) (n : Nat) (env : Env) (σ : Sto) (e : Expr) (d : D) : Prop :=
  ∀ (h₀ : Heap) (P O : Addr → Prop) (A : Around) (s : Shared) (E : Value → Shared → Prop) (Q : Value → Shared → Prop), B.Ok → AOk n A → St B h₀ P env σ O s.heap →
    (∀ v s', Keeps s s' → Rp s'.heap (fun _ => False) v d → Q v s') → wpAny (model B.prog B.w) A (eval e env) Q E s
def EvN (B : Bas) (n : Nat) (env : Env) (σ : Sto) (e : Expr) (ds : List D) : Prop :=
  ∀ (h₀ : Heap) (P O : Addr → Prop) (A : Around) (s : Shared) (E : Value → Shared → Prop) (Q : Value → Shared → Prop), B.Ok → AOk n A → St B h₀ P env σ O s.heap →
    (∀ a vs s', Keeps s s' → s.heap.get? a = none → s'.heap.PlainList a vs.toArray → RpAll s'.heap (fun b => P b ∨ O b ∨ b = a) vs ds → Q (.ref a) s') → wpAny (model B.prog B.w) A (eval e env) Q E s
def EvR (B : Bas) (n : Nat) (env : Env) (σ : Sto) (e : Expr) (d : D) : Prop :=
  ∀ (h₀ : Heap) (P O : Addr → Prop) (A : Around) (s : Shared) (E : Value → Shared → Prop) (Q : Value → Shared → Prop), B.Ok → AOk n A → St B h₀ P env σ O s.heap →
    (∀ v s', Keeps s s' → Rp s'.heap P v d → Q v s') → wpAny (model B.prog B.w) A (eval e env) Q E s

section
variable {B : Bas} {n : Nat} {env : Env} {σ : Sto} {e : Expr} {d : D} {ds : List D}
theorem Ev.weak (x : Ev B n env σ e d) : EvW B n env σ e d := fun h₀ P O A s E Q b a T k => x h₀ P O A s E Q b a T fun v s' ks r => k v s' ks (r.sub fun _ q => q.elim)
theorem Ev.ret (x : Ev B n env σ e d) : EvR B n env σ e d := fun h₀ P O A s E Q b a T k => x h₀ P O A s E Q b a T fun v s' ks r => k v s' ks (r.sub fun _ q => .inl q)
theorem EvN.ev (x : EvN B n env σ e ds) : Ev B n env σ e (.list ds) := fun h₀ P O A s E Q b a T k => x h₀ P O A s E Q b a T fun a vs s' ks hn hp r =>
  k _ s' ks (.list hp.isList (T.notX hn) (r.sub fun b q => q.elim .inl fun q => .inr (.inl q)))
end

theorem wp_name {B : Bas} {h₀ : Heap} {P O : Addr → Prop} {env : Env} {σ : Sto} {A : Around} {s : Shared} {E : Value → Shared → Prop} {Q : Value → Shared → Prop} {x : String} {p : Pos} {v : Value}
    (T : St B h₀ P env σ O s.heap) (hv : VarIs env s.heap (S x) v) (h : Q v s) (hd : (S x == ("__debug__" : Str)) = false) (hc : (S x == ("__classdict__" : Str)) = false) : wpAny (model B.prog B.w) A (eval (.Name (S x) p) env) Q E s := by
  refine wpAny_Name ?_ hd
  rcases hv with ⟨k, m, n, e⟩ | ⟨k | k, c, l, e⟩
  · exact wpAny_loadName_local T.ok.kind k n e h
  · exact wpAny_loadName_cell T.ok.kind k l e h
  · exact wpAny_loadName_free T.ok.kind k l e h hc

theorem plainName {x y : String} (h : x ≠ y) : (S x == S y) = false := by
  rw [beq_eq_false_iff_ne]; exact fun e => h (S_inj e)

section
variable {B : Bas} {n : Nat} {env : Env} {σ : Sto} {x : String} {p : Pos} {d : D} {ds : List D}
theorem ev_name (h : σ.get x = some (.val d)) (h1 : x ≠ "__debug__" := by decide) (h2 : x ≠ "__classdict__" := by decide) : Ev B n env σ (.Name (S x) p) d := by
  intro h₀ P O A s E Q _ _ T k
  obtain ⟨v, hv, r⟩ := T.vars x _ h
  exact wp_name T hv (k v s (krefl s) r) (plainName h1) (plainName h2)
end

def Storable (env : Env) (x : String) : Prop :=
  env.kindOf (S x) = some .local ∨ (env.kindOf (S x) = some .cell ∧ env.func.isSome = true ∧ (env.cells.lookup (S x)).isSome = true)

def NewB (env : Env) (h : Heap) (X O : Addr → Prop) (σ : Sto) (x : String) (v : Value) : Bnd → Prop
  | .val d => Rp h X v d
  | .own ds => ∃ a vs, v = .ref a ∧ O a ∧ a ≠ env.locals ∧ h.PlainList a vs.toArray ∧ RpAll h X vs ds ∧ ∀ y es, y ≠ x → σ.get y = some (.own es) → ¬ VarIs env h (S y) (.ref a)

section
variable {B : Bas} {h₀ h h' : Heap} {P O : Addr → Prop} {env : Env} {σ : Sto}

theorem plain_ne_ns {h : Heap} {a b : Addr} {its m} (p : h.IsList a its) (n : h.Ns b m) : a ≠ b := by
  rintro rfl
  obtain ⟨k, e, _, _, d'⟩ := p; obtain ⟨o, es, ep, e', d, _⟩ := n
  rw [e] at e'; cases e'; rw [d'] at d; cases d
theorem plain_ne_cell {h : Heap} {a b : Addr} {its v} (p : h.IsList a its) (n : h.IsCell b v) : a ≠ b := by
  rintro rfl
  obtain ⟨k, e, _, _, d'⟩ := p; obtain ⟨o, e', d⟩ := n
  rw [e] at e'; cases e'; rw [d'] at d; cases d
theorem ns_ne_cell {h : Heap} {a b : Addr} {m v} (n : h.Ns a m) (c : h.IsCell b v) : a ≠ b := by
  rintro rfl
  obtain ⟨o, es, ep, e, d, _⟩ := n; obtain ⟨o', e', d'⟩ := c
  rw [e] at e'; cases e'; rw [d] at d'; cases d'

theorem St.put (T : St B h₀ P env σ O h) {c : Addr} (hc : O c) (hs : Heap.SameBut c h h') {x : String} {v : Value} {b : Bnd} (hlc : ∃ o, h'.get? c = some o)
    (hx : VarIs env h' (S x) v) (ho : ∀ y w, y ≠ x → VarIs env h (S y) w → VarIs env h' (S y) w) (hl : ∃ m, h'.Ns env.locals m) (hcell : ∀ y k v, env.cells.lookup y = some k → h.IsCell k v → ∃ v, h'.IsCell k v)
    (hp : ∀ a its, h.PlainList a its → a ≠ c) (hb : NewB env h (fun a => P a ∨ O a) O σ x v b) : St B h₀ P env (σ.put x b) O h' := by
  have hk : ∀ a o, ¬ (P a ∨ O a) → h.get? a = some o → h'.get? a = some o := fun a o n e => (hs.2 a (fun q => n (.inr (q ▸ hc)))).trans e
  have old : ∀ y w, y ≠ x → (∃ b, σ.get y = some b) → VarIs env h' (S y) w → VarIs env h (S y) w := by
    rintro y w ne ⟨b, hb⟩ hv
    obtain ⟨w', hw'⟩ := (T.vars y b hb).var
    rw [hv.fn (ho y w' ne hw')]; exact hw'
  have mv : ∀ {v d}, Rp h (fun a => P a ∨ O a) v d → Rp h' (fun a => P a ∨ O a) v d := fun r => r.mono hk fun _ _ n _ => n
  have mva : ∀ {v d}, RpAll h (fun a => P a ∨ O a) v d → RpAll h' (fun a => P a ∨ O a) v d := fun r => r.mono hk fun _ _ n _ => n
  have pl : ∀ {a its}, h.PlainList a its → h'.PlainList a its := fun q => by obtain ⟨k, e⟩ := id q; exact ⟨k, (hs.2 _ (hp _ _ q)).trans e⟩
  refine ⟨T.base, fun b o e => ?_, T.plive, fun a q => ?_, T.new, T.ok, T.loc, hl, fun y k e => ?_, fun y b' e => ?_, fun y z ds es a ne hy hz vy vz => ?_⟩
  · exact (hs.2 b (fun q => by subst q; rw [T.new _ hc] at e; cases e)).trans (T.keep b o e)
  · by_cases q' : a = c
    · subst q'; exact hlc
    · obtain ⟨o, e⟩ := T.live a q; exact ⟨o, (hs.2 a q').trans e⟩
  · obtain ⟨⟨v, q⟩, f⟩ := T.cells y k e
    exact ⟨hcell y k v e q, f⟩
  · rw [Sto.get_put] at e
    by_cases q : x = y
    · subst q
      simp only [if_true] at e; cases e
      cases b with
      | val d => exact ⟨v, hx, mv hb⟩
      | own ds =>
        obtain ⟨a, vs, rfl, h1, h2, h3, h4, _⟩ := hb
        exact ⟨a, vs, hx, h1, h2, pl h3, mva h4⟩
    · simp only [q, if_false] at e
      have := T.vars y b' e
      cases b' with
      | val d => obtain ⟨w, hw, r⟩ := this; exact ⟨w, ho y w (fun e => q e.symm) hw, mv r⟩
      | own ds => obtain ⟨a, vs, hv, h1, h2, h3, h4⟩ := this; exact ⟨a, vs, ho y _ (fun e => q e.symm) hv, h1, h2, pl h3, mva h4⟩
  · rw [Sto.get_put] at hy hz
    by_cases q : x = y
    · subst q
      simp only [if_true] at hy; cases hy
      rw [if_neg ne] at hz
      obtain ⟨a', vs, rfl, h1, h2, h3, h4, h5⟩ := hb
      have := hx.fn vy; cases this
      exact h5 z es (Ne.symm ne) hz (old z _ (Ne.symm ne) ⟨_, hz⟩ vz)
    · rw [if_neg q] at hy
      by_cases q' : x = z
      · subst q'
        simp only [if_true] at hz; cases hz
        obtain ⟨a', vs, rfl, h1, h2, h3, h4, h5⟩ := hb
        have := hx.fn vz; cases this
        exact h5 y ds ne hy (old y _ ne ⟨_, hy⟩ vy)
      · rw [if_neg q'] at hz
        exact T.apart y z ds es a ne hy hz (old y _ (fun e => q e.symm) ⟨_, hy⟩ vy) (old z _ (fun e => q' e.symm) ⟨_, hz⟩ vz)

def Names (env : Env) (b : Addr) : Prop := b = env.locals ∨ (env.func.isSome = true ∧ ∃ x, env.cells.lookup x = some b)
theorem Mov.names {s s' : Shared} (m : Mov (Names env) s s') (T : St B h₀ P env σ O s.heap) : Mov O s s' := by
  obtain ⟨h', tk, e, k⟩ := m
  refine ⟨h', tk, e, fun b o nb => k b o ?_⟩
  rintro (q | ⟨f, x, q⟩)
  · subst q; exact nb T.loc
  · exact nb ((T.cells x b q).2 f)

theorem wp_store {A : Around} {s : Shared} {E : Value → Shared → Prop} {Q : Unit → Shared → Prop} (T : St B h₀ P env σ O s.heap) {x : String} {v : Value} {b : Bnd} (hx : Storable env x) (hb : NewB env s.heap (fun a => P a ∨ O a) O σ x v b)
    (h : ∀ s', Mov (Names env) s s' → St B h₀ P env (σ.put x b) O s'.heap → Q () s') : wpAny (model B.prog B.w) A (storeName env (S x) v) Q E s := by
  obtain ⟨m, n⟩ := T.ns
  rcases hx with hx | ⟨hx, hf, hs⟩
  · refine wpAny_storeName_local hx n (fun h' hn hs => h _ ⟨h', _, rfl, fun b o nb e => (hs.2 b (fun q => nb (.inl q))).trans e⟩ ?_) (by rw [T.ok.kind]; rfl)
    refine T.put T.loc hs (let ⟨o, _, _, e, _⟩ := hn; ⟨o, e⟩) (.inl ⟨hx, _, hn, by simp⟩) ?_ ⟨_, hn⟩ ?_ (fun a its p => plain_ne_ns p.isList n) hb
    · rintro y w ne (⟨k, m', n', e⟩ | ⟨k, c, l, e⟩)
      · refine .inl ⟨k, _, hn, ?_⟩
        rw [n'.eq_nsMap, ← n.eq_nsMap] at e
        rw [if_neg (fun q => ne (S_inj q))]; exact e
      · exact .inr ⟨k, c, l, e.sameBut hs (Ne.symm (ns_ne_cell n e))⟩
    · exact fun y k v _ e => ⟨v, e.sameBut hs (Ne.symm (ns_ne_cell n e))⟩
  · obtain ⟨c, hc⟩ := Option.isSome_iff_exists.mp hs
    obtain ⟨⟨v₀, e₀⟩, ho⟩ := T.cells _ _ hc
    refine wpAny_storeName_cell T.ok.kind hx hc e₀ fun h' hv hs => h _ ⟨h', _, rfl, fun b o nb e => (hs.2 b (fun q => nb (.inr ⟨hf, _, q ▸ hc⟩))).trans e⟩ ?_
    have hL : env.locals ≠ c := ns_ne_cell n e₀
    refine T.put (ho hf) hs (let ⟨o, e, _⟩ := hv; ⟨o, e⟩) (.inr ⟨.inl hx, c, hc, hv⟩) ?_ ⟨m, n.sameBut hs hL⟩ ?_ (fun a its p => plain_ne_cell p.isList e₀) hb
    · rintro y w ne (⟨k, m', n', e⟩ | ⟨k, c', l, e⟩)
      · exact .inl ⟨k, m', n'.sameBut hs hL, e⟩
      · exact .inr ⟨k, c', l, e.sameBut hs (fun q => ne (S_inj (T.ok.apart _ _ c (q ▸ l) hc)))⟩
    · intro y k v l e
      by_cases q : k = c
      · subst q; exact ⟨_, hv⟩
      · exact ⟨v, e.sameBut hs q⟩

theorem St.grow (T : St B h₀ P env σ O h) (hk : ∀ a o, h.get? a = some o → h'.get? a = some o) {a : Addr} (hn : h.get? a = none) (hl : ∃ o, h'.get? a = some o) : St B h₀ P env σ (fun b => O b ∨ b = a) h' := by
  have T' := T.keeps hk
  have mvx : ∀ b o, ¬ (P b ∨ O b) → h.get? b = some o → ¬ (P b ∨ (O b ∨ b = a)) := by
    rintro b o n e (q | q | q)
    · exact n (.inl q)
    · exact n (.inr q)
    · subst q; rw [hn] at e; cases e
  refine ⟨T.base, T'.keep, T.plive, ?_, ?_, T.ok, .inl T.loc, T'.ns, fun x c l => ⟨(T'.cells x c l).1, fun f => .inl ((T'.cells x c l).2 f)⟩, ?_, T'.apart⟩
  · rintro b (q | q)
    · exact T'.live b q
    · subst q; exact hl
  · rintro b (q | q)
    · exact T.new b q
    · subst q
      cases e : h₀.get? b with
      | none => rfl
      | some o => rw [T.keep _ _ e] at hn; cases hn
  · intro x b e
    have := T.vars x b e
    cases b with
    | val d => obtain ⟨v, hv, r⟩ := this; exact ⟨v, hv.keeps hk, r.mono (fun b o _ e => hk b o e) mvx⟩
    | own ds => obtain ⟨a', vs, hv, h1, h2, h3, h4⟩ := this; exact ⟨a', vs, hv.keeps hk, .inl h1, h2, h3.at fun o e => hk _ o e, h4.mono (fun b o _ e => hk b o e) mvx⟩
end

inductive Fl where
  | next | brk | cont
  | ret (d : D)

def FlIs (h : Heap) (P : Addr → Prop) : Flow → Fl → Prop
  | .next, .next => True
  | .brk, .brk => True
  | .cont, .cont => True
  | .ret v, .ret d => Rp h P v d
  | _, _ => False

inductive Post (B : Bas) (h₀ : Heap) (P : Addr → Prop) (env : Env) (O : Addr → Prop) (s : Shared) (R : Fl → Sto → Prop) (f : Flow) (s' : Shared) : Prop
  | mk (fl : Fl) (σ' : Sto) (O' : Addr → Prop) : Mov O s s' → FlIs s'.heap P f fl → R fl σ' → (∀ b, O' b → O b ∨ s.heap.get? b = none) → St B h₀ P env σ' O' s'.heap → Post B h₀ P env O s R f s'

def Ex (B : Bas) (n : Nat) (env : Env) (σ : Sto) (ss : List Stmt) (R : Fl → Sto → Prop) : Prop :=
  ∀ (h₀ : Heap) (P O : Addr → Prop) (A : Around) (s : Shared) (E : Value → Shared → Prop), B.Ok → AOk n A → St B h₀ P env σ O s.heap →
    wpAny (model B.prog B.w) A (execs ss env) (Post B h₀ P env O s R) E s
def Ex1 (B : Bas) (n : Nat) (env : Env) (σ : Sto) (st : Stmt) (R : Fl → Sto → Prop) : Prop :=
  ∀ (h₀ : Heap) (P O : Addr → Prop) (A : Around) (s : Shared) (E : Value → Shared → Prop), B.Ok → AOk n A → St B h₀ P env σ O s.heap →
    wpAny (model B.prog B.w) A (exec st env) (Post B h₀ P env O s R) E s

section
variable {B : Bas} {n : Nat} {env : Env} {σ : Sto} {R : Fl → Sto → Prop}
theorem Post.mono {h₀ P O s f s'} {R' : Fl → Sto → Prop} (x : Post B h₀ P env O s R f s') (h : ∀ fl σ, R fl σ → R' fl σ) : Post B h₀ P env O s R' f s' :=
  let ⟨fl, σ', O', a, b, c, d, e⟩ := x; ⟨fl, σ', O', a, b, h _ _ c, d, e⟩
theorem Post.trans {h₀ P O O' s s₁ f s'} (m : Mov O s s₁) (ho : ∀ b, O' b → O b ∨ s.heap.get? b = none) (x : Post B h₀ P env O' s₁ R f s') : Post B h₀ P env O s R f s' := by
  obtain ⟨fl, σ', O'', a, b, c, d, e⟩ := x
  refine ⟨fl, σ', O'', m.trans a ho, b, c, fun q hq => ?_, e⟩
  rcases d q hq with z | z
  · exact ho q z
  · by_cases hO : O q
    · exact .inl hO
    · refine .inr ?_
      cases w : s.heap.get? q with
      | none => rfl
      | some o =>
        obtain ⟨h', tk, rfl, k⟩ := m
        have := k q o hO w
        rw [z] at this; cases this
theorem ex_nil (h : R .next σ) : Ex B n env σ [] R := fun h₀ P O A s E b a T =>
  wpAny_execs_nil ⟨.next, σ, O, Mov.refl _ _, trivial, h, fun _ q => .inl q, T⟩
theorem ex_cons {st rest} (x : Ex1 B n env σ st fun fl σ' => match fl with | .next => Ex B n env σ' rest R | f => R f σ') : Ex B n env σ (st :: rest) R := by
  intro h₀ P O A s E b a T
  refine wpAny_execs_cons (wpAny_mono (x h₀ P O A s E b a T) (fun f s' q => ?_) fun _ _ q => q)
  obtain ⟨fl, σ', O', m, hf, hr, ho, T'⟩ := q
  cases f with
  | next =>
    cases fl <;> try exact hf.elim
    exact wpAny_mono (hr h₀ P O' A s' E b a T') (fun _ _ q => q.trans m ho) fun _ _ q => q
  | brk => cases fl <;> first | exact hf.elim | exact ⟨_, σ', O', m, hf, hr, ho, T'⟩
  | cont => cases fl <;> first | exact hf.elim | exact ⟨_, σ', O', m, hf, hr, ho, T'⟩
  | ret v => cases fl <;> first | exact hf.elim | exact ⟨_, σ', O', m, hf, hr, ho, T'⟩

theorem ex_return {e : Expr} {d : D} {p : Pos} (x : EvR B n env σ e d) (h : R (.ret d) σ) : Ex1 B n env σ (.Return (some e) p) R := by
  intro h₀ P O A s E b a T
  exact wpAny_Return_some (x h₀ P O A s E _ b a T fun v s' k r => ⟨.ret d, σ, O, Mov.of_keeps k, r, h, fun _ q => .inl q, T.kp k⟩)
theorem ex_assign {x : String} {p p' : Pos} {e : Expr} {d : D} (hx : Storable env x) (v : Ev B n env σ e d) (h : R .next (σ.put x (.val d)))
    (hs : swapsWith e (some (.Name (S x) p')) p.line env = pure false) : Ex1 B n env σ (.Assign [.Name (S x) p'] e p) R := by
  intro h₀ P O A s E b a T
  refine wpAny_Assign_Name (v h₀ P O A s E _ b a T fun v s' k r => ?_) hs
  refine wp_store (b := .val d) (T.kp k) hx r fun s'' m T' => ?_
  exact ⟨.next, _, O, (Mov.of_keeps k).trans (m.names (T.kp k)) (fun _ q => .inl q), trivial, h, fun _ q => .inl q, T'⟩
theorem ex_assignN {x : String} {p p' : Pos} {e : Expr} {ds : List D} (hx : Storable env x) (v : EvN B n env σ e ds) (h : R .next (σ.put x (.own ds)))
    (hs : swapsWith e (some (.Name (S x) p')) p.line env = pure false) : Ex1 B n env σ (.Assign [.Name (S x) p'] e p) R := by
  intro h₀ P O A s E b a T
  refine wpAny_Assign_Name (v h₀ P O A s E _ b a T fun a vs s' k hn hp r => ?_) hs
  have T1 : St B h₀ P env σ (fun b => O b ∨ b = a) s'.heap := T.grow (kheap k) hn (let ⟨_, e⟩ := hp; ⟨_, e⟩)
  have hne : a ≠ env.locals := fun q => by obtain ⟨o, e⟩ := T.live _ T.loc; rw [← q, hn] at e; cases e
  refine wp_store (b := .own ds) T1 hx ⟨a, vs, rfl, .inr rfl, hne, hp, r, ?_⟩ fun s'' m T' => ?_
  · intro y es ne hy hv
    obtain ⟨a', vs', hv', ho, _⟩ := T.vars y _ hy
    have := hv.fn (hv'.keeps (kheap k)); cases this
    obtain ⟨o, e⟩ := T.live _ ho; rw [hn] at e; cases e
  · refine ⟨.next, _, _, (Mov.of_keeps k).trans (m.names T1) ?_, trivial, h, ?_, T'⟩
    · rintro b (q | q)
      · exact .inl q
      · subst q; exact .inr hn
    · rintro b (q | q)
      · exact .inl q
      · subst q; exact .inr hn

theorem ex_freeze {ss} {x : String} {ds : List D} (hx : σ.get x = some (.own ds)) (h : Ex B n env (σ.put x (.val (.list ds))) ss R) : Ex B n env σ ss R := by
  intro h₀ P O A s E b a T
  obtain ⟨a0, vs, hv, ho, hne, hp, r⟩ := T.vars x _ hx
  -- the list's address may change no more
  have hcell : ∀ y c, env.cells.lookup y = some c → a0 ≠ c := fun y c l => by obtain ⟨⟨v, e⟩, _⟩ := T.cells y c l; exact plain_ne_cell hp.isList e
  have T1 : St B h₀ P env (σ.put x (.val (.list ds))) (fun b => O b ∧ b ≠ a0) s.heap := by
    have sub : ∀ b, (P b ∨ (O b ∧ b ≠ a0)) → (P b ∨ O b) := fun b q => q.imp id And.left
    refine ⟨T.base, T.keep, T.plive, fun b q => T.live b q.1, fun b q => T.new b q.1, T.ok, ⟨T.loc, Ne.symm hne⟩, T.ns, fun y c l => ⟨(T.cells y c l).1, fun f => ⟨(T.cells y c l).2 f, Ne.symm (hcell y c l)⟩⟩, ?_, ?_⟩
    · intro y b' e
      rw [Sto.get_put] at e
      by_cases q : x = y
      · subst q; simp only [if_true] at e; cases e
        refine ⟨_, hv, .list hp.isList ?_ (r.sub sub)⟩
        rintro (q | q)
        · obtain ⟨⟨o, e⟩, _⟩ := T.plive _ q; rw [T.new _ ho] at e; cases e
        · exact q.2 rfl
      · rw [if_neg q] at e
        have := T.vars y b' e
        cases b' with
        | val d => obtain ⟨v, hv', r'⟩ := this; exact ⟨v, hv', r'.sub sub⟩
        | own es =>
          obtain ⟨a', vs', hv', h1, h2, h3, h4⟩ := this
          refine ⟨a', vs', hv', ⟨h1, fun e' => ?_⟩, h2, h3, h4.sub sub⟩
          subst e'; exact T.apart x y ds es _ q hx e hv hv'
    · intro y z ds' es' a' ne hy hz vy vz
      rw [Sto.get_put] at hy hz
      by_cases q : x = y
      · subst q; simp only [if_true] at hy; cases hy
      · by_cases q' : x = z
        · subst q'; simp only [if_true] at hz; cases hz
        · rw [if_neg q] at hy; rw [if_neg q'] at hz
          exact T.apart y z ds' es' a' ne hy hz vy vz
  refine wpAny_mono (h h₀ P _ A s E b a T1) (fun f s' q => ?_) fun _ _ q => q
  obtain ⟨fl, σ', O', m, hf, hr, ho', T'⟩ := q
  refine ⟨fl, σ', O', ?_, hf, hr, fun b hb => (ho' b hb).imp And.left id, T'⟩
  obtain ⟨h', tk, e, k⟩ := m
  exact ⟨h', tk, e, fun b o nb => k b o fun q => nb q.1⟩
end

abbrev NoX : Addr → Prop := fun _ => False

theorem rp_int {h X v i} (r : Rp h X v (.int i)) : ∃ t, v = .int i t := by cases r; exact ⟨_, rfl⟩
theorem rp_str {h X v i} (r : Rp h X v (.str i)) : ∃ t, v = .str i t := by cases r; exact ⟨_, rfl⟩
theorem rp_val {h X v w} (r : Rp h X v (.val w)) : v = w := by cases r <;> rfl
theorem rp_list {h X v ds} (r : Rp h X v (.list ds)) : ∃ a vs, v = .ref a ∧ h.IsList a vs.toArray ∧ ¬ X a ∧ RpAll h X vs ds := by cases r with | list a b c => exact ⟨_, _, rfl, a, b, c⟩
theorem rp_tuple {h X v ds} (r : Rp h X v (.tuple ds)) : ∃ a vs, v = .ref a ∧ IsTup h a vs.toArray ∧ ¬ X a ∧ RpAll h X vs ds := by cases r with | tuple a b c => exact ⟨_, _, rfl, a, b, c⟩
theorem rp_range {h X v a b} (r : Rp h X v (.range a b)) : ∃ r t u w, v = .ref r ∧ IsRange h r a b 1 t u w ∧ ¬ X r := by cases r with | range a b => exact ⟨_, _, _, _, rfl, a, b⟩

def Bas.Here (B : Bas) (h : Heap) : Prop := ∀ b o, B.hB.get? b = some o → h.get? b = some o
theorem St.here {B h₀ P env σ O h} (T : St B h₀ P env σ O h) : B.Here h := fun b o e => T.keep b o (T.base b o e)

def Tst (B : Bas) (n : Nat) (env : Env) (σ : Sto) (e : Expr) (p : Bool) : Prop :=
  ∀ (h₀ : Heap) (P O : Addr → Prop) (A : Around) (s : Shared) (E : Value → Shared → Prop) (Q : Bool → Shared → Prop), B.Ok → AOk n A → St B h₀ P env σ O s.heap →
    (∀ s', Keeps s s' → Q p s') → wpAny (model B.prog B.w) A (isTrue e env (eval e env)) Q E s
def Cmp (B : Bas) (n : Nat) (op : CmpOp) (a b : D) (p : Bool) : Prop :=
  ∀ (A : Around) (s : Shared) (E : Value → Shared → Prop) (Q : Value → Shared → Prop) (va vb : Value), B.Ok → AOk n A → B.Here s.heap → Rp s.heap NoX va a → Rp s.heap NoX vb b →
    (∀ s', Keeps s s' → Q (.bool p) s') → wpAny (model B.prog B.w) A (compareOp op va vb) Q E s
def Bin (B : Bas) (n : Nat) (op : Operator) (a b c : D) : Prop :=
  ∀ (A : Around) (s : Shared) (E : Value → Shared → Prop) (Q : Value → Shared → Prop) (va vb : Value), B.Ok → AOk n A → B.Here s.heap → Rp s.heap NoX va a → Rp s.heap NoX vb b →
    (∀ v s', Keeps s s' → (∀ h X, Rp h X v c) → Q v s') → wpAny (model B.prog B.w) A (binaryOp op va vb) Q E s
def Tru (B : Bas) (n : Nat) (a : D) (p : Bool) : Prop :=
  ∀ (A : Around) (s : Shared) (E : Value → Shared → Prop) (Q : Bool → Shared → Prop) (va : Value), B.Ok → AOk n A → B.Here s.heap → Rp s.heap NoX va a →
    (∀ s', Keeps s s' → Q p s') → wpAny (model B.prog B.w) A (truthy va) Q E s
def EvAs (B : Bas) (n : Nat) (env : Env) (σ : Sto) (es : List Expr) (ds : List D) : Prop :=
  ∀ (h₀ : Heap) (P O : Addr → Prop) (A : Around) (s : Shared) (E : Value → Shared → Prop) (Q : List Value → Shared → Prop) (pos : Pos), B.Ok → AOk n A → St B h₀ P env σ O s.heap →
    (∀ vs s', Keeps s s' → RpAll s'.heap (fun a => P a ∨ O a) vs ds → Q vs s') → wpAny (model B.prog B.w) A (spliced (backTo pos (starEach es env))) Q E s
def EvAsW (B : Bas) (n : Nat) (env : Env) (σ : Sto) (es : List Expr) (ds : List D) : Prop :=
  ∀ (h₀ : Heap) (P O : Addr → Prop) (A : Around) (s : Shared) (E : Value → Shared → Prop) (Q : List Value → Shared → Prop) (pos : Pos), B.Ok → AOk n A → St B h₀ P env σ O s.heap →
    (∀ vs s', Keeps s s' → RpAll s'.heap NoX vs ds → Q vs s') → wpAny (model B.prog B.w) A (spliced (backTo pos (starEach es env))) Q E s

section
variable {B : Bas} {n : Nat} {env : Env} {σ : Sto} {e l r : Expr} {d a b c : D} {p p' : Pos}

theorem ev_int {i : Int} {k : Nat} : Ev B n env σ (.Constant (.int i) k p) (.int i) := fun h₀ P O A s E Q _ _ T q => wpAny_Constant_int (q _ _ (ktok s _) (.int _ _))
theorem ev_bool {i : Bool} {k : Nat} : Ev B n env σ (.Constant (.bool i) k p) (.bool i) := fun h₀ P O A s E Q _ _ T q => by
  rw [eval_Constant]; exact wpAny_pure (q _ _ (krefl s) (.val _ rfl))
theorem evas_nil : EvAs B n env σ [] [] := fun h₀ P O A s E Q pos _ _ T q => args_nil (q _ _ (krefl s) .nil)
theorem evas_cons {es : List Expr} {ds : List D} (x : Ev B n env σ e d) (xs : EvAs B n env σ es ds) (he : starEach (e :: es) env = (false, eval e env) :: starEach es env := by rfl) : EvAs B n env σ (e :: es) (d :: ds) :=
  fun h₀ P O A s E Q pos b a T q => args_cons (x h₀ P O A s E _ b a T fun v s₁ k r => xs h₀ P O A s₁ E _ pos b a (T.kp k) fun vs s₂ k₂ rs => q _ _ (ktrans k k₂) (.cons (r.keeps (kheap k₂)) rs)) he
theorem evasw_nil : EvAsW B n env σ [] [] := fun h₀ P O A s E Q pos _ _ T q => args_nil (q _ _ (krefl s) .nil)
theorem evasw_cons {es : List Expr} {ds : List D} (x : EvW B n env σ e d) (xs : EvAsW B n env σ es ds) (he : starEach (e :: es) env = (false, eval e env) :: starEach es env := by rfl) : EvAsW B n env σ (e :: es) (d :: ds) :=
  fun h₀ P O A s E Q pos b a T q => args_cons (x h₀ P O A s E _ b a T fun v s₁ k r => xs h₀ P O A s₁ E _ pos b a (T.kp k) fun vs s₂ k₂ rs => q _ _ (ktrans k k₂) (.cons (r.keeps (kheap k₂)) rs)) he

theorem ev_bin {op : Operator} (x : EvW B n env σ l a) (y : EvW B n env σ r b) (z : Bin B n op a b c) : Ev B n env σ (.BinOp l op r p) c :=
  fun h₀ P O A s E Q bo ao T q => wpAny_BinOp (x h₀ P O A s E _ bo ao T fun va s₁ k₁ r₁ => y h₀ P O A s₁ E _ bo ao (T.kp k₁) fun vb s₂ k₂ r₂ =>
    z A s₂ E Q va vb bo ao ((T.kp k₁).kp k₂).here (r₁.keeps (kheap k₂)) r₂ fun v s₃ k₃ r₃ => q v s₃ (ktrans (ktrans k₁ k₂) k₃) (r₃ _ _))
theorem ev_cmp {op : CmpOp} {t : Bool} (x : EvW B n env σ l a) (y : EvW B n env σ r b) (z : Cmp B n op a b t) (hm : behindInMarks op r = false := by with_unfolding_all rfl) : Ev B n env σ (.Compare l [op] [r] p) (.bool t) :=
  fun h₀ P O A s E Q bo ao T q => wpAny_Compare1 (x h₀ P O A s E _ bo ao T fun va s₁ k₁ r₁ => y h₀ P O A s₁ E _ bo ao (T.kp k₁) fun vb s₂ k₂ r₂ =>
    z A s₂ E Q va vb bo ao ((T.kp k₁).kp k₂).here (r₁.keeps (kheap k₂)) r₂ fun s₃ k₃ => q _ s₃ (ktrans (ktrans k₁ k₂) k₃) (.val _ rfl)) hm
theorem tst_cmp {op : CmpOp} {t : Bool} (x : EvW B n env σ l a) (y : EvW B n env σ r b) (z : Cmp B n op a b t) (hm : behindInMarks op r = false := by with_unfolding_all rfl) : Tst B n env σ (.Compare l [op] [r] p) t :=
  fun h₀ P O A s E Q bo ao T q => wpAny_isTrue_Compare1 (x h₀ P O A s E _ bo ao T fun va s₁ k₁ r₁ => y h₀ P O A s₁ E _ bo ao (T.kp k₁) fun vb s₂ k₂ r₂ =>
    z A s₂ E _ va vb bo ao ((T.kp k₁).kp k₂).here (r₁.keeps (kheap k₂)) r₂ fun s₃ k₃ => wpAny_truthy_bool (q s₃ (ktrans (ktrans k₁ k₂) k₃))) hm
theorem tst_ev {t : Bool} (x : EvW B n env σ e d) (y : Tru B n d t) (he : ∀ whole, isTrue e env whole = (do let v ← whole; standAt e.pos; holding [v] (truthy v)) := by intro _; rfl) : Tst B n env σ e t :=
  fun h₀ P O A s E Q bo ao T q => isTrue_plain (x h₀ P O A s E _ bo ao T fun va s₁ k₁ r₁ => y A s₁ E _ va bo ao (T.kp k₁).here r₁ fun s₂ k₂ => q s₂ (ktrans k₁ k₂)) (he _)
theorem tst_not {t : Bool} (x : Tst B n env σ e t) : Tst B n env σ (.UnaryOp .Not e p) (!t) :=
  fun h₀ P O A s E Q bo ao T q => isTrue_not (x h₀ P O A s E _ bo ao T fun s' k => q s' k)
theorem tst_eq {t u : Bool} (x : Tst B n env σ e t) (h : t = u) : Tst B n env σ e u := h ▸ x
theorem ev_eq {d'} (x : Ev B n env σ e d) (h : d = d') : Ev B n env σ e d' := h ▸ x

theorem ev_and {e₁ e₂ : Expr} {t u : Bool} (x : Ev B n env σ e₁ (.bool t)) (y : t = true → Ev B n env σ e₂ (.bool u)) : Ev B n env σ (.BoolOp .And [e₁, e₂] p) (.bool (t && u)) :=
  fun h₀ P O A s E Q bo ao T q => BoolOp_and (x h₀ P O A s E _ bo ao T fun v s' k r => by
    cases rp_val r
    refine wpAny_truthy_bool ?_
    cases t with
    | false => exact q _ s' k (.val _ rfl)
    | true => exact BoolOp_one (y rfl h₀ P O A s' E _ bo ao (T.kp k) fun v s'' k' r' => q v s'' (ktrans k k') r'))
theorem ev_or {e₁ e₂ : Expr} {t u : Bool} (x : Ev B n env σ e₁ (.bool t)) (y : t = false → Ev B n env σ e₂ (.bool u)) : Ev B n env σ (.BoolOp .Or [e₁, e₂] p) (.bool (t || u)) :=
  fun h₀ P O A s E Q bo ao T q => BoolOp_or (x h₀ P O A s E _ bo ao T fun v s' k r => by
    cases rp_val r
    refine wpAny_truthy_bool ?_
    cases t with
    | true => exact q _ s' k (.val _ rfl)
    | false => exact BoolOp_one (y rfl h₀ P O A s' E _ bo ao (T.kp k) fun v s'' k' r' => q v s'' (ktrans k k') r'))
theorem ev_not {t : Bool} (x : EvW B n env σ e d) (y : Tru B n d t) : Ev B n env σ (.UnaryOp .Not e p) (.bool (!t)) :=
  fun h₀ P O A s E Q bo ao T q => UnaryOp_ (x h₀ P O A s E _ bo ao T fun v s' k r => not_of (y A s' E _ v bo ao (T.kp k).here r fun s'' k' => q _ s'' (ktrans k k') (.val _ rfl)))
end

section
variable {B : Bas} {n : Nat} {i j : Int}
theorem tru_bool {b : Bool} : Tru B n (.bool b) b := fun A s E Q va bo ao hh r q => by cases rp_val r; exact wpAny_truthy_bool (q s (krefl s))
theorem bin_sub : Bin B n .Sub (.int i) (.int j) (.int (i - j)) := fun A s E Q va vb bo ao hh r r' q => by
  obtain ⟨t, rfl⟩ := rp_int r; obtain ⟨u, rfl⟩ := rp_int r'; exact sub_int (q _ _ (ktok _ _) fun _ _ => .int _ _)
theorem bin_mod (hj : j ≠ 0) : Bin B n .Mod (.int i) (.int j) (.int (i.fmod j)) := fun A s E Q va vb bo ao hh r r' q => by
  obtain ⟨t, rfl⟩ := rp_int r; obtain ⟨u, rfl⟩ := rp_int r'; exact mod_int' hj (q _ _ (ktok _ _) fun _ _ => .int _ _)
theorem cmp_eq : Cmp B n .Eq (.int i) (.int j) (i == j) := fun A s E Q va vb bo ao hh r r' q => by
  obtain ⟨t, rfl⟩ := rp_int r; obtain ⟨u, rfl⟩ := rp_int r'; exact eq_int (q _ (krefl _))
theorem cmp_ne : Cmp B n .NotEq (.int i) (.int j) (i != j) := fun A s E Q va vb bo ao hh r r' q => by
  obtain ⟨t, rfl⟩ := rp_int r; obtain ⟨u, rfl⟩ := rp_int r'; exact ne_int (q _ (krefl _))
theorem cmp_lt : Cmp B n .Lt (.int i) (.int j) (decide (i < j)) := fun A s E Q va vb bo ao hh r r' q => by
  obtain ⟨t, rfl⟩ := rp_int r; obtain ⟨u, rfl⟩ := rp_int r'; exact lt_int (q _ (krefl _))
theorem cmp_le : Cmp B n .LtE (.int i) (.int j) (decide (i ≤ j)) := fun A s E Q va vb bo ao hh r r' q => by
  obtain ⟨t, rfl⟩ := rp_int r; obtain ⟨u, rfl⟩ := rp_int r'; exact le_int (q _ (krefl _))
theorem cmp_gt : Cmp B n .Gt (.int i) (.int j) (decide (j < i)) := fun A s E Q va vb bo ao hh r r' q => by
  obtain ⟨t, rfl⟩ := rp_int r; obtain ⟨u, rfl⟩ := rp_int r'; exact gt_int (q _ (krefl _))
theorem cmp_ge : Cmp B n .GtE (.int i) (.int j) (decide (j ≤ i)) := fun A s E Q va vb bo ao hh r r' q => by
  obtain ⟨t, rfl⟩ := rp_int r; obtain ⟨u, rfl⟩ := rp_int r'; exact ge_int (q _ (krefl _))
end

section
variable {B : Bas} {n : Nat} {env : Env} {σ : Sto} {e l r : Expr} {R : Fl → Sto → Prop} {p : Pos}
theorem ex_if {t : Bool} {body orelse : List Stmt} (x : Tst B n env σ e t) (y : t = true → Ex B n env σ body R) (z : t = false → Ex B n env σ orelse R) : Ex1 B n env σ (.If e body orelse p) R := by
  intro h₀ P O A s E bo ao T
  refine wpAny_If (x h₀ P O A s E _ bo ao T fun s' k => ?_)
  cases t with
  | false => exact wpAny_mono (z rfl h₀ P O A s' E bo ao (T.kp k)) (fun _ _ q => q.trans (Mov.of_keeps k) fun _ q => .inl q) fun _ _ q => q
  | true => exact wpAny_mono (y rfl h₀ P O A s' E bo ao (T.kp k)) (fun _ _ q => q.trans (Mov.of_keeps k) fun _ q => .inl q) fun _ _ q => q

theorem fresh_kp {s s' : Shared} (k : Keeps s s') : s.heap.get? s'.heap.objs.size = none := by
  cases e : s.heap.get? s'.heap.objs.size with
  | none => rfl
  | some o => exact absurd (Heap.lt_size (kheap k _ _ e)) (Nat.lt_irrefl _)
theorem szLine {k : Nat} (h : k ≤ 1000000) : k ≤ sizeLine := Nat.le_trans h (by decide)
theorem RpAll.beside {h : Heap} {P O : Addr → Prop} {vs ds} (r : RpAll h (fun a => P a ∨ O a) vs ds) (o : Obj) : RpAll (h.push o) (fun b => P b ∨ O b ∨ b = h.objs.size) vs ds :=
  r.mono (fun a o _ e => Heap.get?_push_of_some _ e) fun a o n e q => by
    rcases q with q | q | q
    · exact n (.inl q)
    · exact n (.inr q)
    · subst q; exact absurd (Heap.lt_size e) (Nat.lt_irrefl _)
theorem wp_newList {B : Bas} {n : Nat} {h₀ : Heap} {P O : Addr → Prop} {env : Env} {σ : Sto} {A : Around} {s s' : Shared} {E : Value → Shared → Prop} {Q : Value → Shared → Prop} {vs : List Value} {ds : List D}
    (k : Keeps s s') (r : RpAll s'.heap (fun a => P a ∨ O a) vs ds) (hsz : ds.length ≤ 1000000)
    (q : ∀ a vs s', Keeps s s' → s.heap.get? a = none → s'.heap.PlainList a vs.toArray → RpAll s'.heap (fun b => P b ∨ O b ∨ b = a) vs ds → Q (.ref a) s') : wpAny (model B.prog B.w) A (newList vs) Q E s' :=
  wpAny_newObj_type (q _ vs _ (ktrans k (kpush' _ _)) (fresh_kp k) ⟨_, Heap.get?_push_size _ rfl⟩ (r.beside _)) (by show vs.toArray.size ≤ sizeLine; rw [List.size_toArray, r.length]; exact szLine hsz)
theorem evn_list {es : List Expr} {ds : List D} (x : EvAs B n env σ es ds) (hsz : ds.length ≤ 1000000) : EvN B n env σ (.List es p) ds :=
  fun h₀ P O A s E Q bo ao T q => List_ (x h₀ P O A s E _ p bo ao T fun vs s' k r => wp_newList (n := n) (h₀ := h₀) (env := env) (σ := σ) k r hsz q)
theorem ev_tuple {es : List Expr} {ds : List D} {i : Nat} (x : EvAs B n env σ es ds) (hsz : ds.length ≤ 1000000) : Ev B n env σ (.Tuple es i p) (.tuple ds) :=
  fun h₀ P O A s E Q bo ao T q => Tuple_ (x h₀ P O A s E _ p bo ao T fun vs s' k r => wpAny_newObj_type
    (q _ _ (ktrans k (kpush' _ _)) (.tuple ⟨_, Heap.get?_push_size _ rfl, rfl, 0, rfl⟩ ((T.kp k).notX' (Nat.le_refl _)) (r.keeps fun a o e => Heap.get?_push_of_some _ e)))
    (by show vs.toArray.size ≤ sizeLine; rw [List.size_toArray, r.length]; exact szLine hsz))
end

section
variable {B : Bas} {n : Nat} {env : Env} {σ : Sto} {e l r i : Expr} {p : Pos}
def place (k : Int) (m : Nat) : Nat := if k < 0 then (k + m).toNat else k.toNat
theorem wp_item {A : Around} {s : Shared} {E : Value → Shared → Prop} {Q : Value → Shared → Prop} {a : Addr} {vs : List Value} {k : Int} {t : Tok} {v : Value} (hl : s.heap.IsList a vs.toArray)
    (h1 : -(vs.length : Int) ≤ k) (h2 : k < vs.length) (hsz : vs.length ≤ 1000000) (hv : vs[place k vs.length]? = some v) (q : Q v s) : wpAny (model B.prog B.w) A (getItem (.ref a) (.int k t)) Q E s := by
  unfold place at hv
  by_cases h0 : k < 0
  · rw [if_pos h0] at hv
    exact wpAny_getItem_list_neg hl h0 (by simpa using h1) (by omega) (by simpa using hv) q
  · rw [if_neg h0] at hv
    exact wpAny_getItem_list hl (by omega) (by omega) (by simpa using hv) q

theorem ev_item {ds : List D} {k : Int} {d : D} (x : Ev B n env σ l (.list ds)) (y : EvW B n env σ i (.int k)) (h1 : -(ds.length : Int) ≤ k) (h2 : k < ds.length) (hsz : ds.length ≤ 1000000) (hd : ds[place k ds.length]? = some d)
    (hs : ∀ a u, subscripted i false (.ref a) (.int k u) = operate [.ref a, .int k u] (getItem (.ref a) (.int k u)) := by intro _ _; with_unfolding_all rfl) : Ev B n env σ (.Subscript l i p) d :=
  fun h₀ P O A s E Q bo ao T q => Subscript_ (x h₀ P O A s E _ bo ao T fun v s₁ k₁ r₁ => y h₀ P O A s₁ E _ bo ao (T.kp k₁) fun w s₂ k₂ r₂ => by
    obtain ⟨t, rfl⟩ := rp_int r₂
    obtain ⟨a, vs, rfl, hl, ha, rs⟩ := rp_list (r₁.keeps (kheap k₂))
    have hlen := rs.length
    obtain ⟨v, hv, rv⟩ := rs.get' hd
    exact tail_any hl.typeIs slot_list_getitem.lookup (wp_item hl (by omega) (by omega) (by omega) (by rw [hlen]; exact hv) (q v s₂ (ktrans k₁ k₂) rv)) (hs _ _))
theorem wp_glob {h₀ : Heap} {P O : Addr → Prop} {A : Around} {s : Shared} {E : Value → Shared → Prop} {Q : Value → Shared → Prop} {x : String} {v : Value} (bo : B.Ok) (T : St B h₀ P env σ O s.heap) (hx : env.kindOf (S x) = some .globalImplicit)
    (hv : B.mg (S x) = some v) (h : Q v s) (hd : x ≠ "__debug__") : wpAny (model B.prog B.w) A (eval (.Name (S x) p) env) Q E s :=
  Name_function_global T.ok.kind hx (loadGlobal_global (by rw [T.ok.globals]; exact bo.g.keeps T.here) hv h) (plainName hd)
theorem wp_boot {h₀ : Heap} {P O : Addr → Prop} {A : Around} {s : Shared} {E : Value → Shared → Prop} {Q : Value → Shared → Prop} {x : String} {v : Value} (bo : B.Ok) (T : St B h₀ P env σ O s.heap) (hx : env.kindOf (S x) = some .globalImplicit)
    (hm : B.mg (S x) = none) (hv : bootBuiltins (S x) = some v) (h : Q v s) (hd : x ≠ "__debug__") (hn : x ≠ "__name__") : wpAny (model B.prog B.w) A (eval (.Name (S x) p) env) Q E s :=
  Name_function_global T.ok.kind hx (loadGlobal_builtin (by rw [T.ok.globals]; exact bo.g.keeps T.here) hm (by rw [T.ok.builtins]; exact bo.b.keeps T.here) ((bo.builtins _ (fun q => hn (S_inj q))).trans hv) h) (plainName hd)

structure BootName (B : Bas) (env : Env) (x : String) (v : Value) : Prop where
  kind : env.kindOf (S x) = some .globalImplicit
  miss : B.mg (S x) = none
  boot : bootBuiltins (S x) = some v
  d : x ≠ "__debug__"
  n : x ≠ "__name__"
theorem ev_boot {x : String} {v : Value} (hx : BootName B env x v) (hv : byVal v = true) : Ev B n env σ (.Name (S x) p) (.val v) :=
  fun h₀ P O A s E Q bo ao T q => wp_boot bo T hx.kind hx.miss hx.boot (q _ _ (krefl s) (.val _ hv)) hx.d hx.n

def Bi (B : Bas) (n : Nat) (f : Value) (ds : List D) (d : D) : Prop :=
  ∀ (A : Around) (s : Shared) (E : Value → Shared → Prop) (Q : Value → Shared → Prop) (vs : List Value), B.Ok → AOk n A → B.Here s.heap → RpAll s.heap NoX vs ds →
    (∀ v s', Keeps s s' → (∀ h X, Rp h X v d) → Q v s') → wpAny (model B.prog B.w) A (call f vs) Q E s
theorem ev_builtin {x id : String} {es : List Expr} {ds : List D} {d : D} {p' : Pos} (hx : BootName B env x (.builtin id)) (a : EvAsW B n env σ (e :: es) ds) (f : Bi B n (.builtin id) ds d)
    (he : starEach (e :: es) env = (false, eval e env) :: starEach es env := by rfl) (hp : (backTo p (starEach es env)).any (·.1) = false := by rfl)
    (hc : eval (.Call (.Name (S x) p') (e :: es) [] p) env = (do callWith p (← eval (.Name (S x) p') env) [] (backTo p (starEach (e :: es) env)) (backToKw p (keywordEach [] env))) := by rfl) : Ev B n env σ (.Call (.Name (S x) p') (e :: es) [] p) d :=
  fun h₀ P O A s E Q bo ao T q => Call_ (wp_boot bo T hx.kind hx.miss hx.boot (callWith_builtin1 (a h₀ P O A s E _ p bo ao T fun vs s₁ k r => f A s₁ E _ vs bo ao (T.kp k).here r fun v s₂ k₂ r₂ => q v s₂ (ktrans k k₂) (r₂ _ _)) he hp) hx.d hx.n) hc

theorem bi_len {ds : List D} (hsz : ds.length ≤ 1000000) : Bi B n (.builtin "len") [.list ds] (.int ds.length) := fun A s E Q vs bo ao hh r q => by
  cases r with | cons r rn =>
  cases rn
  obtain ⟨a, vs, rfl, hl, _, rs⟩ := rp_list r
  have hlen := rs.length
  refine len_list hl (by simp only [List.size_toArray]; omega) (q _ _ (ktok _ _) fun _ _ => ?_)
  simp only [List.size_toArray, hlen]; exact .int _ _
end

mutual
theorem Rp.stepX {h h' : Heap} {X X' : Addr → Prop} (hk : ∀ a o, ¬ X a → ¬ IterObj o → h.get? a = some o → h'.get? a = some o) (hx : ∀ a o, ¬ X a → h.get? a = some o → ¬ X' a) : ∀ {v d}, Rp h X v d → Rp h' X' v d
  | _, _, .int i t => .int i t
  | _, _, .str x t => .str x t
  | _, _, .val v e => .val v e
  | _, _, .fn a o f ho hd hn => .fn a o f (hk _ _ hn (by rintro ⟨nm, vs, _, e, _⟩; rw [hd] at e; cases e) ho) hd (hx _ _ hn ho)
  | _, _, .tuple ht hn hr => .tuple (by obtain ⟨o, ho, hc, n, hd⟩ := ht; exact ⟨o, hk _ _ hn (by rintro ⟨nm, vs, _, e, _⟩; rw [hd] at e; cases e) ho, hc, n, hd⟩) (let ⟨_, ho, _⟩ := ht; hx _ _ hn ho) (RpAll.stepX hk hx hr)
  | _, _, .list ht hn hr => .list (by obtain ⟨o, ho, hc, n, hd⟩ := ht; exact ⟨o, hk _ _ hn (by rintro ⟨nm, vs, _, e, _⟩; rw [hd] at e; cases e) ho, hc, n, hd⟩) (let ⟨_, ho, _⟩ := ht; hx _ _ hn ho) (RpAll.stepX hk hx hr)
  | _, _, .range ht hn => .range (hk _ _ hn (by rintro ⟨nm, vs, c, _, e⟩; cases c; exact e.1 rfl) ht) (hx _ _ hn ht)
  | _, _, .flt b t => .flt b t
  | _, _, .obj ho hp hi hn => .obj (hk _ _ hn hi ho) hp hi (hx _ _ hn ho)
  | _, _, .abs F hp hq => .abs F hp fun q m => let ⟨a, b, c⟩ := hq q m; ⟨hk _ _ c b a, b, hx _ _ c a⟩
theorem RpAll.stepX {h h' : Heap} {X X' : Addr → Prop} (hk : ∀ a o, ¬ X a → ¬ IterObj o → h.get? a = some o → h'.get? a = some o) (hx : ∀ a o, ¬ X a → h.get? a = some o → ¬ X' a) : ∀ {vs ds}, RpAll h X vs ds → RpAll h' X' vs ds
  | _, _, .nil => .nil
  | _, _, .cons a r => .cons (Rp.stepX hk hx a) (RpAll.stepX hk hx r)
end
theorem Rp.step {h h' : Heap} {X : Addr → Prop} (hk : ∀ a o, ¬ IterObj o → h.get? a = some o → h'.get? a = some o) {v d} (r : Rp h X v d) : Rp h' X v d := r.stepX (fun a o _ => hk a o) fun _ _ n _ => n
theorem RpAll.step {h h' : Heap} {X : Addr → Prop} (hk : ∀ a o, ¬ IterObj o → h.get? a = some o → h'.get? a = some o) {v d} (r : RpAll h X v d) : RpAll h' X v d := r.stepX (fun a o _ => hk a o) fun _ _ n _ => n

section
variable {B : Bas} {h₀ h h' : Heap} {P O : Addr → Prop} {env : Env} {σ : Sto}
theorem ns_step {a m} (hk : ∀ a o, ¬ IterObj o → h.get? a = some o → h'.get? a = some o) (n : h.Ns a m) : h'.Ns a m := by
  obtain ⟨o, es, ep, e, d, r⟩ := n
  exact ⟨o, es, ep, hk _ _ (by rintro ⟨nm, vs, _, e, _⟩; rw [d] at e; cases e) e, d, r⟩
theorem cell_step {a m} (hk : ∀ a o, ¬ IterObj o → h.get? a = some o → h'.get? a = some o) (n : h.IsCell a m) : h'.IsCell a m := by
  obtain ⟨o, e, d⟩ := n
  exact ⟨o, hk _ _ (by rintro ⟨nm, vs, _, e, _⟩; rw [d] at e; cases e) e, d⟩
theorem plist_step {a m} (hk : ∀ a o, ¬ IterObj o → h.get? a = some o → h'.get? a = some o) (n : h.PlainList a m) : h'.PlainList a m := by
  obtain ⟨k, e⟩ := n
  exact ⟨k, hk _ _ (by rintro ⟨nm, vs, _, e, _⟩; cases e) e⟩
theorem var_step {x v} (hk : ∀ a o, ¬ IterObj o → h.get? a = some o → h'.get? a = some o) (y : VarIs env h x v) : VarIs env h' x v := by
  rcases y with ⟨k, m, n, e⟩ | ⟨k, c, l, e⟩
  · exact .inl ⟨k, m, ns_step hk n, e⟩
  · exact .inr ⟨k, c, l, cell_step hk e⟩
theorem St.step (T : St B h₀ P env σ O h) (hk : ∀ a o, ¬ IterObj o → h.get? a = some o → h'.get? a = some o) (hb : ∀ b o, h₀.get? b = some o → h'.get? b = some o) (ho : ∀ a, O a → ∃ o, h'.get? a = some o) : St B h₀ P env σ O h' where
  base := T.base
  keep := hb
  plive := T.plive
  live := ho
  new := T.new
  ok := T.ok
  loc := T.loc
  ns := let ⟨m, n⟩ := T.ns; ⟨m, ns_step hk n⟩
  cells := fun x c l => let ⟨⟨v, e⟩, f⟩ := T.cells x c l; ⟨⟨v, cell_step hk e⟩, f⟩
  vars := fun x b e => by
    have := T.vars x b e
    cases b with
    | val d => obtain ⟨v, hv, r⟩ := this; exact ⟨v, var_step hk hv, r.step hk⟩
    | own ds => obtain ⟨a, vs, hv, h1, h2, h3, h4⟩ := this; exact ⟨a, vs, var_step hk hv, h1, h2, plist_step hk h3, h4.step hk⟩
  apart := fun x y ds es a ne hx hy vx vy => by
    obtain ⟨v, a1⟩ := (T.vars x _ hx).var
    obtain ⟨v', a2⟩ := (T.vars y _ hy).var
    have e1 := (var_step hk a1).fn vx; have e2 := (var_step hk a2).fn vy
    subst e1; subst e2
    exact T.apart x y ds es a ne hx hy a1 a2
end

structure Iter (B : Bas) (A : Around) (I : Addr) (fp wr : List Addr) (m : Nat) (Pv : Nat → Value → Prop) (Si : Nat → Heap → Prop) : Prop where
  W : Walks B.prog B.w A I fp wr m Pv Si
  go : ∀ i (s : Shared) target v (Q : Unit → Shared → Prop) (E : Value → Shared → Prop), Si i s.heap → Q () s → wpAny (model B.prog B.w) A (letOwnedTupleGo target (.ref I) v) Q E s
  live : ∀ i h, Si i h → ∀ b ∈ fp, ∃ o, h.get? b = some o
  kind : ∀ i h, Si i h → ∀ b ∈ wr, ∃ o, h.get? b = some o ∧ IterObj o

theorem wp_letGo {M : Model} {A : Around} {E : Value → Shared → Prop} {s : Shared} {Q : Unit → Shared → Prop} {target : Expr} {I : Addr} {v : Value} {o : Obj} {nm : String} {vs : Array Value} (ho : s.heap.get? I = some o) (hc : o.cls = .type nm)
    (hd : o.data = .fields vs) (hn : ["enumerate", "zip", "dict_itemiterator", "dict_reverseitemiterator", "odict_iterator", "itertools.zip_longest", "itertools.pairwise"].contains nm = false) (h : Q () s) :
    wpAny M A (letOwnedTupleGo target (.ref I) v) Q E s := by
  have key : wpAny M A (do let o ← load I
                           match o.cls, o.data with
                           | .type n, .fields vs =>
                             if ["enumerate", "zip", "dict_itemiterator", "dict_reverseitemiterator", "odict_iterator", "itertools.zip_longest", "itertools.pairwise"].contains n && vs[0]? == some (rawInt (match v with | .ref a => a | _ => 0)) then
                               rule "for.unpacks-the-owned-tuple"
                               updateField I 0 .none
                           | _, _ => pure ()) Q E s := by
    refine wpAny_bind (wpAny_load ho ?_)
    rw [hc, hd]
    simp only [hn, Bool.false_and, Bool.false_eq_true, if_false]
    exact wpAny_pure h
  unfold letOwnedTupleGo
  cases target <;> first | exact wpAny_pure h | (cases v <;> first | exact wpAny_pure h | exact key)

theorem iter_list {B : Bas} {A : Around} (hh : A.handled = none) (I ax : Addr) (hne : ax ≠ I) (items : Array Value) :
    Iter B A I [I, ax] [I] items.size (fun i v => items[i]? = some v) (fun i h => h.IsListIter I ax i ∧ h.IsList ax items) where
  W := Walks.list hh I ax hne items
  go := fun i s target v Q E st q => by obtain ⟨o, ho, hc, hd⟩ := st.1; exact wp_letGo ho hc hd (by decide) q
  live := fun i h st b hb => by
    rcases List.mem_cons.mp hb with rfl | hb
    · obtain ⟨o, ho, _⟩ := st.1; exact ⟨o, ho⟩
    · rw [List.mem_singleton.mp hb]; obtain ⟨o, ho, _⟩ := st.2; exact ⟨o, ho⟩
  kind := fun i h st b hb => by rw [List.mem_singleton.mp hb]; obtain ⟨o, ho, hc, hd⟩ := st.1; exact ⟨o, ho, _, _, hc, hd, by decide⟩
theorem iter_range {B : Bas} {A : Around} (hh : A.handled = none) (I : Addr) (a c : Int) (n : Nat) :
    Iter B A I [I] [I] n (fun i v => i < n ∧ ∃ t, v = .int (a + i * c) t) (fun i h => IsRangeIter h I (a + (i : Nat) * c) ((n : Int) - (i : Nat)) c) where
  W := (Walks.range hh I a c n).bound
  go := fun i s target v Q E st q => wp_letGo st rfl rfl (by decide) q
  live := fun i h st b hb => by rw [List.mem_singleton.mp hb]; exact ⟨_, st⟩
  kind := fun i h st b hb => by rw [List.mem_singleton.mp hb]; exact ⟨_, st, _, _, rfl, rfl, by decide⟩

def EvIt (f : Bool) (B : Bas) (n : Nat) (env : Env) (σ : Sto) (e : Expr) (ds : List D) : Prop :=
  ∀ (h₀ : Heap) (P O : Addr → Prop) (A : Around) (s : Shared) (E : Value → Shared → Prop) (Q : Value → Shared → Prop), B.Ok → AOk n A → St B h₀ P env σ O s.heap →
    (∀ s₂ I fp wr Pv Si, Keeps s s₂ → Iter B A I fp wr ds.length Pv Si → Si 0 s₂.heap → (∀ b ∈ wr, s.heap.get? b = none) → (∀ b ∈ fp, b < s₂.heap.objs.size) → (f = true → ∀ b ∈ fp, ¬ (P b ∨ O b)) →
      (∀ i v, Pv i v → ∃ d, ds[i]? = some d ∧ Rp s₂.heap (fun a => P a ∨ O a) v d) → Q (.ref I) s₂) →
    wpAny (model B.prog B.w) A (eval e env) (fun x s₁ => wpAny (model B.prog B.w) A (pyIter x) Q E s₁) E s

def rngD (a b : Int) : List D := (List.range (b - a).toNat).map fun (i : Nat) => D.int (a + i)

section
variable {B : Bas} {n : Nat} {env : Env} {σ : Sto} {e : Expr}
theorem EvIt.weak {ds} (x : EvIt true B n env σ e ds) : EvIt false B n env σ e ds := fun h₀ P O A s E Q bo ao T q => x h₀ P O A s E Q bo ao T fun s₂ I fp wr Pv Si k it st hw hb hf hr => q s₂ I fp wr Pv Si k it st hw hb (fun e => nomatch e) hr

theorem evit_list {f ds} (x : Ev B n env σ e (.list ds)) : EvIt f B n env σ e ds := fun h₀ P O A s E Q bo ao T q =>
  x h₀ P O A s E _ bo ao T fun v s₁ k₁ r => by
    obtain ⟨a, vs, rfl, hl, ha, rs⟩ := rp_list r
    have hne : a ≠ s₁.heap.objs.size := by obtain ⟨o, e, _⟩ := hl; exact Nat.ne_of_lt (Heap.lt_size e)
    have hlen : vs.toArray.size = ds.length := by rw [List.size_toArray]; exact rs.length
    refine wpAny_pyIter_list hl (q _ _ [s₁.heap.objs.size, a] [s₁.heap.objs.size] (fun i v => vs.toArray[i]? = some v) (fun i h => h.IsListIter s₁.heap.objs.size a i ∧ h.IsList a vs.toArray) (ktrans k₁ (kpush' _ _)) (hlen ▸ iter_list ao.handled _ a hne vs.toArray) ⟨⟨_, Heap.get?_push_size _ rfl, rfl, rfl⟩, hl.at fun o e => Heap.get?_push_of_some _ e⟩ ?_ ?_ ?_ ?_)
    · intro b hb; rw [List.mem_singleton.mp hb]; exact fresh_kp k₁
    · intro b hb
      show b < (s₁.heap.push _).objs.size
      rw [Heap.size_push]
      rcases List.mem_cons.mp hb with rfl | hb
      · exact Nat.lt_succ_self _
      · rw [List.mem_singleton.mp hb]; obtain ⟨o, e, _⟩ := hl; exact Nat.lt_succ_of_lt (Heap.lt_size e)
    · intro _ b hb
      rcases List.mem_cons.mp hb with rfl | hb
      · exact (T.kp k₁).notX' (Nat.le_refl _)
      · rw [List.mem_singleton.mp hb]; exact ha
    · intro i v hv
      obtain ⟨d, hd, r⟩ := rs.get (k := i) (v := v) (by simpa using hv)
      exact ⟨d, hd, r.keeps fun a o e => Heap.get?_push_of_some _ e⟩
theorem evit_range {f} {a b : Int} (x : Ev B n env σ e (.range a b)) (ha : -1000000 ≤ a) (ha' : a ≤ 1000000) (hb : -1000000 ≤ b) (hb' : b ≤ 1000000) : EvIt f B n env σ e (rngD a b) := fun h₀ P O A s E Q bo ao T q =>
  x h₀ P O A s E _ bo ao T fun v s₁ k₁ r => by
    obtain ⟨r, t, u, w, rfl, hr, hx⟩ := rp_range r
    have hlen : (rngD a b).length = (b - a).toNat := by simp [rngD]
    have hsz : Builtin.Range.rangeSize a b 1 = (((b - a).toNat : Nat) : Int) := by rw [rangeSize_one]; split <;> omega
    refine wpAny_pyIter_range hr (small_one (by omega) (by omega) (by omega) (by omega)) (q _ _ [s₁.heap.objs.size] [s₁.heap.objs.size] (fun i v => i < (b - a).toNat ∧ ∃ t, v = .int (a + i * 1) t) (fun i h => IsRangeIter h s₁.heap.objs.size (a + (i : Nat) * 1) (((b - a).toNat : Int) - (i : Nat)) 1) (ktrans k₁ (kpush' _ _)) (by rw [hlen]; exact iter_range ao.handled _ a 1 (b - a).toNat) ?_ ?_ ?_ ?_ ?_)
    · dsimp only; rw [hsz]; simpa using Heap.get?_push_size _ rfl
    · intro b hb; rw [List.mem_singleton.mp hb]; exact fresh_kp k₁
    · intro b hb
      show b < (s₁.heap.push _).objs.size
      rw [Heap.size_push, List.mem_singleton.mp hb]; exact Nat.lt_succ_self _
    · intro _ b hb; rw [List.mem_singleton.mp hb]; exact (T.kp k₁).notX' (Nat.le_refl _)
    · rintro i v ⟨hi, t, rfl⟩
      refine ⟨.int (a + i), by simp [rngD, List.getElem?_range hi], ?_⟩
      rw [Int.mul_one]; exact .int _ _

def Asg (B : Bas) (n : Nat) (env : Env) (σ : Sto) (target : Expr) (d : D) (σ' : Sto) : Prop :=
  ∀ (h₀ : Heap) (P O : Addr → Prop) (A : Around) (s : Shared) (E : Value → Shared → Prop) (Q : Unit → Shared → Prop) (v : Value), B.Ok → AOk n A → St B h₀ P env σ O s.heap → Rp s.heap (fun a => P a ∨ O a) v d →
    (∀ s', Mov (Names env) s s' → St B h₀ P env σ' O s'.heap → Q () s') → wpAny (model B.prog B.w) A (assign target env v) Q E s
theorem asg_name {x : String} {p : Pos} {d : D} (hx : Storable env x) : Asg B n env σ (.Name (S x) p) d (σ.put x (.val d)) := fun h₀ P O A s E Q v bo ao T r q =>
  wpAny_assign_Name (wp_store (b := .val d) T hx r q)

def Asgs (B : Bas) (n : Nat) (env : Env) (σ : Sto) (ts : List Expr) (ds : List D) (σ' : Sto) : Prop :=
  ∀ (h₀ : Heap) (P O : Addr → Prop) (A : Around) (s : Shared) (E : Value → Shared → Prop) (Q : Unit → Shared → Prop) (vs : List Value), B.Ok → AOk n A → St B h₀ P env σ O s.heap → RpAll s.heap (fun a => P a ∨ O a) vs ds →
    (∀ s', Mov (Names env) s s' → St B h₀ P env σ' O s'.heap → Q () s') → wpAny (model B.prog B.w) A (assignInOrder ((assignEach ts env).map (·.2)) vs) Q E s
theorem asgs_nil : Asgs B n env σ [] [] σ := fun h₀ P O A s E Q vs bo ao T r q => by cases r; exact wpAny_pure (q s (Mov.refl _ _) T)
theorem asgs_cons {t : Expr} {ts : List Expr} {d : D} {ds : List D} {σ₁ σ₂ : Sto} (x : Asg B n env σ t d σ₁) (y : Asgs B n env σ₁ ts ds σ₂) (he : (assignEach (t :: ts) env).map (·.2) = assign t env :: (assignEach ts env).map (·.2) := by rfl) : Asgs B n env σ (t :: ts) (d :: ds) σ₂ :=
  fun h₀ P O A s E Q vs bo ao T r q => by
    cases r with | cons r rs =>
    rw [he]
    refine wpAny_bind (wpAny_holding (x h₀ P O A s E _ _ bo ao T r fun s₁ m₁ T₁ => ?_))
    refine y h₀ P O A s₁ E _ _ bo ao T₁ ?_ fun s₂ m₂ T₂ => q s₂ (m₁.trans m₂ fun _ q => .inl q) T₂
    obtain ⟨h', tk, rfl, k⟩ := m₁.names T
    exact rs.mono (fun a o n e => k a o (fun q => n (.inr q)) e) fun _ _ n _ => n
theorem asg_tuple {ts : List Expr} {ds : List D} {σ' : Sto} {k : Nat} {p : Pos} (x : Asgs B n env σ ts ds σ') (hn : (assignEach ts env).length = ds.length := by rfl) (hstar : (assignEach ts env).findIdx? (·.1) = none := by rfl) : Asg B n env σ (.Tuple ts k p) (.tuple ds) σ' :=
  fun h₀ P O A s E Q v bo ao T r q => by
    obtain ⟨a, vs, rfl, ht, ha, rs⟩ := rp_tuple r
    refine assign_Tuple_tuple ao.handled ht (by rw [hn, List.size_toArray, rs.length]) hstar fun h' he => ?_
    have k : Keeps s { s with heap := h' } := ⟨h', s.toks, rfl, fun b o e => he b o (Nat.ne_of_lt (Heap.lt_size e)) e⟩
    exact x h₀ P O A _ E _ _ bo ao (T.kp k) (rs.keeps (kheap k)) fun s' m T' => q s' ((Mov.of_keeps k).trans m fun _ q => .inl q) T'
end

section
variable {B : Bas} {n : Nat} {env : Env} {σ : Sto} {R : Fl → Sto → Prop}

theorem take_split {α : Type} {ds : List α} {i : Nat} {d : α} (h : ds[i]? = some d) : ds = ds.take i ++ d :: ds.drop (i + 1) ∧ ds.take (i + 1) = ds.take i ++ [d] := by
  have hs : ds.take (i + 1) = ds.take i ++ [d] := by simp [List.take_add_one, h]
  refine ⟨?_, hs⟩
  have := List.take_append_drop (i + 1) ds
  rw [hs, List.append_assoc] at this
  exact this.symm

theorem ex_for {target iter : Expr} {body : List Stmt} {p : Pos} {ds : List D} (Inv : List D → Sto → Prop) (x : EvIt true B n env σ iter ds) (h0 : Inv [] σ)
    (turn : ∀ pre d post σ', ds = pre ++ d :: post → Inv pre σ' → ∃ σ'', Asg B n env σ' target d σ'' ∧
      Ex B n env σ'' body (fun fl τ => match fl with | .next => Inv (pre ++ [d]) τ | .cont => Inv (pre ++ [d]) τ | .brk => R .next τ | .ret v => R (.ret v) τ))
    (done : ∀ σ', Inv ds σ' → R .next σ') (hs : ∀ x, foldedSetIterable iter env x = pure x := by intro _; rfl) : Ex1 B n env σ (.For target iter body [] p) R := by
  intro h₀ P O A s E bo ao T
  refine wpAny_For (x h₀ P O A s E _ bo ao T fun s₂ I fp wr Pv Si k it st hw hb hf hr => ?_) hs
  have hf := hf rfl
  have T₂ := T.kp k
  have hlive := it.live 0 _ st
  obtain ⟨IV, hIV⟩ : ∃ I : Nat → Shared → Prop, ∀ kk s', I kk s' ↔ (∃ i σ' O', kk = ds.length + 1 - i ∧ i ≤ ds.length ∧ (∃ h' tk, s' = { s₂ with heap := h', toks := tk }) ∧ Si i s'.heap ∧ St B h₀ P env σ' O' s'.heap ∧ Inv (ds.take i) σ' ∧
      (∀ b o, ¬ O b → b ∉ wr → s₂.heap.get? b = some o → s'.heap.get? b = some o) ∧ (∀ b, O' b → O b ∨ s₂.heap.get? b = none)) := ⟨_, fun _ _ => Iff.rfl⟩
  refine codeAny_forLoop_any IV ?_ (ds.length + 1) ((hIV _ _).mpr ⟨0, σ, O, rfl, Nat.zero_le _, ⟨s₂.heap, s₂.toks, rfl⟩, st, T₂, by simpa using h0, fun _ _ _ _ e => e, fun _ q => .inl q⟩)
  intro kk s' hI0
  replace hI0 := (hIV _ _).mp hI0
  obtain ⟨i, σ', O', rfl, hi, ⟨hh, tk, rfl⟩, st', T', hI, hk, hO⟩ := hI0
  have fpO : ∀ b ∈ fp, ¬ O' b := fun b hbf q => by
    rcases hO b q with q | q
    · exact hf b hbf (.inr q)
    · obtain ⟨o, e⟩ := hlive b hbf; rw [q] at e; cases e
  have wrO : ∀ b ∈ wr, ¬ O' b := fun b hbw => fpO b (it.W.sub b hbw)
  -- what is kept at the end
  have fin : ∀ (O'' : Addr → Prop) (s'' : Shared), (∃ h' tk, s'' = { s₂ with heap := h', toks := tk }) → (∀ b o, ¬ O b → b ∉ wr → s₂.heap.get? b = some o → s''.heap.get? b = some o) → (∀ b, O'' b → O b ∨ s₂.heap.get? b = none) →
      Mov O s s'' ∧ ∀ b, O'' b → O b ∨ s.heap.get? b = none := by
    rintro O'' s'' ⟨h', tk', rfl⟩ hk' hO'
    obtain ⟨h2, tk2, rfl, k2⟩ := k
    refine ⟨⟨h', tk', rfl, fun b o nb e => hk' b o nb (fun hbw => by rw [hw b hbw] at e; cases e) (k2 b o e)⟩, fun b q => (hO' b q).imp id fun q => ?_⟩
    cases e : s.heap.get? b with
    | none => rfl
    | some o => rw [k2 b o e] at q; cases q
  -- the iterator goes on
  have stepSt : ∀ h₁ : Heap, (∀ b o, b ∉ wr → hh.get? b = some o → h₁.get? b = some o) → St B h₀ P env σ' O' h₁ := fun h₁ hk₁ =>
    T'.step (fun a o ni e => hk₁ a o (fun hbw => by obtain ⟨o', e', q⟩ := it.kind i _ st' a hbw; rw [e] at e'; cases e'; exact ni q) e)
      (fun b o e => hk₁ b o (fun hbw => by have := hw b hbw; rw [T.keep b o e] at this; cases this) (T'.keep b o e))
      (fun a q => by obtain ⟨o, e⟩ := T'.live a q; exact ⟨o, hk₁ a o (fun hbw => wrO a hbw q) e⟩)
  by_cases hlt : i < ds.length
  · refine it.W.item i _ _ _ hlt st' fun v h₁ tk₁ hPv st₁ hk₁ => ?_
    obtain ⟨d, hd, rd⟩ := hr i v hPv
    obtain ⟨e1, e2⟩ := take_split hd
    have T₁ := stepSt h₁ hk₁
    refine it.go _ _ _ _ _ _ st₁ ?_
    obtain ⟨σ'', hasg, hex⟩ := turn _ d _ σ' e1 hI
    have rd' : Rp h₁ (fun a => P a ∨ O' a) v d := by
      refine Rp.step (fun a o ni e => hk₁ a o (fun hbw => by obtain ⟨o', e', q⟩ := it.kind i _ st' a hbw; rw [e] at e'; cases e'; exact ni q) e) (rd.stepX (h' := hh) (X' := fun a => P a ∨ O' a) (fun a o na ni e => ?_) (fun a o na e q => ?_))
      · exact hk a o (fun q => na (.inr q)) (fun haw => by obtain ⟨o', e', q⟩ := it.kind 0 _ st a haw; rw [e] at e'; cases e'; exact ni q) e
      · rcases q with q | q
        · exact na (.inl q)
        · rcases hO a q with q | q
          · exact na (.inr q)
          · rw [q] at e; cases e
    refine hasg h₀ P O' A _ _ _ v bo ao T₁ rd' fun s₃ m₃ T₃ => ?_
    refine wpAny_mono (hex h₀ P O' A s₃ _ bo ao T₃) (fun f s₄ q => ?_) fun _ _ q => q
    obtain ⟨fl, τ, O₄, m₄, hfl, hR, hO₄, T₄⟩ := q
    obtain ⟨h3, tk3, rfl, k3⟩ := m₃.names T₁
    obtain ⟨h4, tk4, rfl, k4⟩ := m₄
    have keepAll : ∀ b o, ¬ O' b → h₁.get? b = some o → h4.get? b = some o := fun b o nb e => k4 b o nb (k3 b o nb e)
    have hk4 : ∀ b o, ¬ O b → b ∉ wr → s₂.heap.get? b = some o → h4.get? b = some o := fun b o nb nw e =>
      keepAll b o (fun q => (hO b q).elim nb fun q => by rw [q] at e; cases e) (hk₁ b o nw (hk b o nb nw e))
    have hO4 : ∀ b, O₄ b → O b ∨ s₂.heap.get? b = none := fun b q => by
      rcases hO₄ b q with q | q
      · exact hO b q
      · by_cases hOb : O b
        · exact .inl hOb
        · by_cases hbw : b ∈ wr
          · obtain ⟨o, e⟩ := it.live _ _ st₁ b (it.W.sub b hbw)
            have : h3.get? b = some o := k3 b o (wrO b hbw) e
            rw [this] at q; cases q
          · refine .inr ?_
            cases e : s₂.heap.get? b with
            | none => rfl
            | some o =>
              have h5 := hk₁ b o hbw (hk b o hOb hbw e)
              by_cases ho' : O' b
              · rcases hO b ho' with z | z
                · exact absurd z hOb
                · rw [z] at e; cases e
              · have := k3 b o ho' h5
                rw [this] at q; cases q
    have stN : Si (i + 1) h4 := it.W.frame _ _ _ st₁ fun b hbf o e => keepAll b o (fpO b hbf) e
    obtain ⟨mv, mo⟩ := fin O₄ _ ⟨h4, tk4, rfl⟩ hk4 hO4
    cases f with
    | next =>
      cases fl <;> try exact hfl.elim
      exact ⟨_, by omega, (hIV _ _).mpr ⟨i + 1, τ, O₄, rfl, hlt, ⟨h4, tk4, rfl⟩, stN, T₄, e2 ▸ hR, hk4, hO4⟩⟩
    | cont =>
      cases fl <;> try exact hfl.elim
      exact ⟨_, by omega, (hIV _ _).mpr ⟨i + 1, τ, O₄, rfl, hlt, ⟨h4, tk4, rfl⟩, stN, T₄, e2 ▸ hR, hk4, hO4⟩⟩
    | brk =>
      cases fl <;> try exact hfl.elim
      exact ⟨.next, τ, O₄, mv, trivial, hR, mo, T₄⟩
    | ret w =>
      cases fl <;> try exact hfl.elim
      exact ⟨.ret _, τ, O₄, mv, hfl, hR, mo, T₄⟩
  · have hi' : i = ds.length := by omega
    subst hi'
    rw [List.take_length] at hI
    refine it.W.done _ _ _ st' fun h₁ tk₁ hk₁ => ?_
    have hk1 : ∀ b o, ¬ O b → b ∉ wr → s₂.heap.get? b = some o → h₁.get? b = some o := fun b o nb nw e => hk₁ b o nw (hk b o nb nw e)
    obtain ⟨mv, mo⟩ := fin O' { s₂ with heap := h₁, toks := tk₁ } ⟨h₁, tk₁, rfl⟩ hk1 hO
    exact wpAny_execs_nil ⟨.next, σ', O', mv, trivial, done _ hI, mo, stepSt h₁ hk₁⟩
end

section
variable {B : Bas} {n : Nat} {env : Env} {σ : Sto} {R : Fl → Sto → Prop}

end

def FnS (B : Bas) (n : Nat) (a : Addr) (ds : List D) (d : D) : Prop :=
  ∀ (P : Addr → Prop) (A : Around) (s : Shared) (E : Value → Shared → Prop) (Q : Value → Shared → Prop) (vs : List Value), B.Ok → AOk n A → B.Here s.heap → (∀ x, P x → (∃ o, s.heap.get? x = some o) ∧ B.hB.get? x = none) → RpAll s.heap P vs ds →
    (∀ v s', Keeps s s' → Rp s'.heap P v d → Q v s') → wpAny (model B.prog B.w) A (call (.ref a) vs) Q E s

structure FnAt (B : Bas) (a : Addr) (name : Str) (params : Arguments) (body : List Stmt) (scope : Scope) : Prop where
  at_ : ∃ o pm cd doc, B.hB.get? a = some o ∧ o.data = .func (docDef name params body scope pm cd doc) ∧ B.hB.CodeRec cd name

structure FEnv (sc : Scope) (env : Env) : Prop where
  scope : env.scope = sc
  func : env.func.isSome = true
  cells : ∀ x, sc.names.lookup x = some .cell → (env.cells.lookup x).isSome = true

theorem bindL_get {kindOf : Str → Option NameKind} {x : Str} {v : Value} (hk : kindOf x = some .local) : ∀ (binds : List (Str × Value)) (m : Str → Option Value), (binds.map (·.1)).Nodup → (x, v) ∈ binds → bindL kindOf binds m x = some v := by
  have other : ∀ (binds : List (Str × Value)) (m : Str → Option Value), x ∉ binds.map (·.1) → bindL kindOf binds m x = m x := by
    intro binds
    induction binds with
    | nil => intro m _; rfl
    | cons p r ih =>
      obtain ⟨y, w⟩ := p
      intro m hn
      simp only [List.map_cons, List.mem_cons, not_or] at hn
      unfold bindL
      rw [ih _ hn.2]
      split
      · exact if_neg hn.1
      · rfl
  intro binds
  induction binds with
  | nil => intro m _ h; cases h
  | cons p r ih =>
    obtain ⟨y, w⟩ := p
    intro m hn hm
    simp only [List.map_cons, List.nodup_cons] at hn
    unfold bindL
    rcases List.mem_cons.mp hm with e | hm
    · cases e
      rw [other _ _ hn.1, if_pos hk]; exact if_pos rfl
    · exact ih _ hn.2 hm
theorem bindC_get {kindOf : Str → Option NameKind} {x : Str} {v : Value} (hk : kindOf x ≠ some .local) : ∀ (binds : List (Str × Value)) (m : Str → Option Value), (binds.map (·.1)).Nodup → (x, v) ∈ binds → bindC kindOf binds m x = some v := by
  have other : ∀ (binds : List (Str × Value)) (m : Str → Option Value), x ∉ binds.map (·.1) → bindC kindOf binds m x = m x := by
    intro binds
    induction binds with
    | nil => intro m _; rfl
    | cons p r ih =>
      obtain ⟨y, w⟩ := p
      intro m hn
      simp only [List.map_cons, List.mem_cons, not_or] at hn
      unfold bindC
      rw [ih _ hn.2]
      split
      · rfl
      · exact if_neg hn.1
  intro binds
  induction binds with
  | nil => intro m _ h; cases h
  | cons p r ih =>
    obtain ⟨y, w⟩ := p
    intro m hn hm
    simp only [List.map_cons, List.nodup_cons] at hn
    unfold bindC
    rcases List.mem_cons.mp hm with e | hm
    · cases e
      rw [other _ _ hn.1, if_neg hk]; exact if_pos rfl
    · exact ih _ hn.2 hm

theorem cellsFrom_some : ∀ (names : List (Str × NameKind)) (k : Nat) (acc : List (Str × Addr)) (x : Str), (names.lookup x = some .cell ∨ (acc.lookup x).isSome = true) → ((cellsFrom k names acc).lookup x).isSome = true := by
  intro names
  induction names with
  | nil => intro k acc x h; rcases h with h | h; cases h; exact h
  | cons p r ih =>
    obtain ⟨y, kd⟩ := p
    intro k acc x h
    unfold cellsFrom
    by_cases hx : x = y
    · subst hx
      rcases h with h | h
      · simp only [List.lookup_cons, beq_self_eq_true] at h
        cases h
        exact ih _ _ _ (.inr (by simp [List.lookup_cons]))
      · split
        · exact ih _ _ _ (.inr (by simp [List.lookup_cons]))
        · exact ih _ _ _ (.inr h)
    · have hb : (x == y) = false := by simpa using hx
      split
      · refine ih _ _ _ (h.imp (fun h => by simpa [List.lookup_cons, hb] using h) fun h => by simpa [List.lookup_cons, hb] using h)
      · refine ih _ _ _ (h.imp (fun h => by simpa [List.lookup_cons, hb] using h) id)

theorem lookup_apart {cs : List (Str × Addr)} (hp : cs.Pairwise fun x y => x.2 ≠ y.2) : ∀ {x y c}, cs.lookup x = some c → cs.lookup y = some c → x = y := by
  induction cs with
  | nil => intro x y c h; cases h
  | cons p r ih =>
    obtain ⟨z, w⟩ := p
    intro x y c hx hy
    rw [List.pairwise_cons] at hp
    simp only [List.lookup_cons] at hx hy
    split at hx <;> split at hy
    · rename_i h1 _ h2; rw [beq_iff_eq.mp h1, beq_iff_eq.mp h2]
    · cases hx; exact absurd rfl (hp.1 (y, w) (PySem.mem_of_lookup hy))
    · cases hy; exact absurd rfl (hp.1 (x, w) (PySem.mem_of_lookup hx))
    · exact ih hp.2 hx hy

def binds0 (xs : List String) (ds : List D) : Sto := (xs.zip ds).map fun p => (p.1, Bnd.val p.2)

theorem binds0_get {xs : List String} {ds : List D} {h : Heap} {X : Addr → Prop} {vs : List Value} (r : RpAll h X vs ds) (hl : xs.length = ds.length) {x : String} {b : Bnd} (hb : (binds0 xs ds).get x = some b) :
    ∃ d v, b = .val d ∧ Rp h X v d ∧ (S x, v) ∈ (xs.map S).zip vs := by
  induction xs generalizing ds vs with
  | nil => simp [binds0, Sto.get] at hb
  | cons y ys ih =>
    cases r with
    | nil => simp at hl
    | cons r rs =>
      simp only [binds0, List.zip_cons_cons, List.map_cons, Sto.get] at hb
      by_cases hy : y = x
      · subst hy
        simp only [if_true] at hb
        exact ⟨_, _, (Option.some.inj hb).symm, r, by simp⟩
      · rw [if_neg hy] at hb
        obtain ⟨d, v, e, r', m⟩ := ih rs (by simpa using hl) hb
        exact ⟨d, v, e, r', by simp [m]⟩

theorem fns_of {B : Bas} {n : Nat} {a : Addr} {name : Str} {params : Arguments} {body : List Stmt} {scope : Scope} {xs : List String} {ds : List D} {d : D} (F : FnAt B a name params body scope) (hk : scope.kind = .function)
    (hbind : ∀ pm cd doc vs, vs.length = xs.length → bindArgs (docDef name params body scope pm cd doc) ⟨vs, []⟩ = pure ((xs.map S).zip vs)) (hlen : xs.length = ds.length) (hnd : xs.Nodup)
    (hkind : ∀ x ∈ xs, scope.names.lookup (S x) = some .local ∨ scope.names.lookup (S x) = some .cell)
    (h : ∀ env, FEnv scope env → Ex B n env (binds0 xs ds) body fun fl _ => match fl with | .ret e => e = d | .next => d = .none | _ => False)
    (hco : scope.isCoroutine = false := by rfl) (hgen : scope.isGenerator = false := by rfl) : FnS B (n + 1) a ds d := by
  intro P A s E Q vs bo ao hh hP r q
  obtain ⟨o, pm, cd, doc, ho, hd, hcd⟩ := F.at_
  have hvl : vs.length = xs.length := by rw [r.length, hlen]
  refine wpAny_call (codeAny_mono (codeAny_call_cells (R := fun res s' => ∃ v, res = .ok (.ret v) ∧ Keeps s s' ∧ Rp s'.heap P v d) (by have := ao.depth; omega) (hh _ _ ho) hd (bo.nolimit.keeps hh) (hcd.keeps hh) rfl (hbind pm cd doc vs hvl) rfl ?_ ?_ hco hgen hk) ?_)
  · intro x hx
    obtain ⟨y, hy, e⟩ : ∃ y ∈ xs, x.1 = S y := by
      have := List.of_mem_zip hx
      obtain ⟨y, hy, e⟩ := List.mem_map.mp this.1
      exact ⟨y, hy, e.symm⟩
    rw [e]
    rcases hkind y hy with q | q
    · exact .inl q
    · exact .inr ⟨q, cellsFrom_some _ _ _ _ (.inl q)⟩
  · intro s₁ C
    generalize henv : callEnvC (docDef name params body scope pm cd doc) s.heap.objs.size a = env at C
    have hsc : env.scope = scope := by rw [← henv]; rfl
    have hloc : env.locals = s.heap.objs.size := by rw [← henv]; rfl
    have hfn : env.func.isSome = true := by rw [← henv]; rfl
    have hgl : env.globals = mainGlobals := by rw [← henv]; rfl
    have hbi : env.builtins = builtinsNs := by rw [← henv]; rfl
    have hcells : env.cells = cellsFrom (s.heap.objs.size + 1) scope.names [] := by rw [← henv]; rfl
    have fe : FEnv scope env := ⟨hsc, hfn, fun x hx => by rw [hcells]; exact cellsFrom_some _ _ _ _ (.inl hx)⟩
    have kK : Keeps s s₁ := C.toInCall.done
    have nodup : (((xs.map S).zip vs).map (·.1)).Nodup := by
      rw [List.map_fst_zip (by simp [hvl])]
      exact List.Pairwise.map S (fun a b ne e => ne (S_inj e)) hnd
    have T : St B s.heap P env (binds0 xs ds) (fun b => b = env.locals ∨ ∃ x, env.cells.lookup x = some b) s₁.heap := by
      have notold : ∀ b, s.heap.objs.size ≤ b → s.heap.get? b = none := fun b hb => fresh_of hb
      have hnew : ∀ b, (b = env.locals ∨ ∃ x, env.cells.lookup x = some b) → s.heap.get? b = none := by
        rintro b (e | ⟨x, hx⟩)
        · subst e; exact notold _ (Nat.le_of_eq hloc.symm)
        · have := C.above x b (PySem.mem_of_lookup hx); exact notold _ (Nat.le_of_lt (by rw [hloc] at this; exact this))
      have rx : RpAll s₁.heap (fun b => P b ∨ (b = env.locals ∨ ∃ x, env.cells.lookup x = some b)) vs ds := r.mono (fun a o _ e => kheap kK a o e) fun a o np e => by
        rintro (q | q)
        · exact np q
        · rw [hnew a q] at e; cases e
      refine ⟨hh, C.toInCall.keep, hP, ?_, hnew, ⟨by rw [hsc]; exact hk, hgl, hbi, fun x y c h1 h2 => lookup_apart C.apart h1 h2⟩, .inl rfl, ⟨_, C.toInCall.ns⟩, fun x c l => ⟨⟨_, C.cell x c l⟩, fun _ => .inr ⟨x, l⟩⟩, fun x b hb => ?_, ?_⟩
      · rintro b (e | ⟨x, hx⟩)
        · subst e; obtain ⟨o, _, _, e, _⟩ := C.toInCall.ns; exact ⟨o, e⟩
        · obtain ⟨o, e, _⟩ := C.cell x b hx; exact ⟨o, e⟩
      · obtain ⟨d', v, rfl, rv, hm⟩ := binds0_get rx hlen hb
        refine ⟨v, ?_, rv⟩
        have hxm : x ∈ xs := by
          have := (List.of_mem_zip hm).1
          obtain ⟨y, hy, e⟩ := List.mem_map.mp this
          rwa [← S_inj e]
        rcases hkind x hxm with kx | kx
        · refine .inl ⟨by unfold Env.kindOf; rw [hsc]; exact kx, _, C.toInCall.ns, ?_⟩
          exact bindL_get (by unfold Env.kindOf; rw [hsc]; exact kx) _ _ nodup hm
        · obtain ⟨c, hc⟩ := Option.isSome_iff_exists.mp (fe.cells _ kx)
          refine .inr ⟨.inl (by unfold Env.kindOf; rw [hsc]; exact kx), c, hc, ?_⟩
          have := C.cell _ _ hc
          rwa [bindC_get (by unfold Env.kindOf; rw [hsc, kx]; intro q; cases q) _ _ nodup hm] at this
      · intro x y ds' es a' ne hx
        obtain ⟨_, _, e, _⟩ := binds0_get r hlen hx; cases e
    refine wpAny_mono (h env fe s.heap P _ _ s₁ _ bo ⟨ao.handled, by have := ao.depth; show A.depth + 1 + n < _; omega, by have := ao.units; show A.units + 3 + 5 * n + 100 < _; omega⟩ T) (fun f s' z => ?_) fun _ _ z => z
    obtain ⟨fl, σ', O', mv, hfl, hR, hO, T'⟩ := z
    have kk : Keeps s s' := by
      obtain ⟨h', tk', rfl, k'⟩ := mv
      obtain ⟨h1, tk1, rfl, k1⟩ := kK
      exact ⟨h', tk', rfl, T'.keep⟩
    cases f with
    | ret v =>
      cases fl <;> try exact hfl.elim
      cases hR
      exact ⟨v, rfl, kk, hfl⟩
    | next =>
      cases fl <;> try exact hfl.elim
      cases hR
      exact ⟨.none, rfl, kk, .val _ rfl⟩
    | brk => cases fl <;> first | exact hfl.elim | exact hR.elim
    | cont => cases fl <;> first | exact hfl.elim | exact hR.elim
  · rintro res s' ⟨v, rfl, kk, rv⟩
    exact q v s' kk rv

section
variable {B : Bas} {n : Nat} {env : Env} {σ : Sto} {h₀ h h' : Heap} {P O : Addr → Prop}
theorem St.forget {σ' : Sto} (T : St B h₀ P env σ O h) (hs : ∀ x b, σ'.get x = some b → σ.get x = some b) : St B h₀ P env σ' O h :=
  ⟨T.base, T.keep, T.plive, T.live, T.new, T.ok, T.loc, T.ns, T.cells, fun x b e => T.vars x b (hs x b e), fun x y ds es a ne hx hy => T.apart x y ds es a ne (hs _ _ hx) (hs _ _ hy)⟩
theorem St.chg (T : St B h₀ P env σ O h) {c : Addr} (hc : O c) (hs : Heap.SameBut c h h') (hlc : ∃ o, h'.get? c = some o) (hl : c ≠ env.locals) (hcell : ∀ y k, env.cells.lookup y = some k → k ≠ c)
    (hv : ∀ x ds, σ.get x = some (.own ds) → ¬ VarIs env h (S x) (.ref c)) : St B h₀ P env σ O h' := by
  have hk : ∀ a o, ¬ (P a ∨ O a) → h.get? a = some o → h'.get? a = some o := fun a o n e => (hs.2 a (fun q => n (.inr (q ▸ hc)))).trans e
  have mvv : ∀ {x w}, VarIs env h x w → VarIs env h' x w := by
    rintro x w (⟨kd, m, nn, e⟩ | ⟨kd, k, l, e⟩)
    · exact .inl ⟨kd, m, nn.sameBut hs (Ne.symm hl), e⟩
    · exact .inr ⟨kd, k, l, e.sameBut hs (hcell _ _ l)⟩
  have bck : ∀ {x w}, (∃ b, σ.get x = some b) → VarIs env h' (S x) w → VarIs env h (S x) w := by
    rintro x w ⟨b, hb⟩ hw
    obtain ⟨w', hw'⟩ := (T.vars x b hb).var
    rw [hw.fn (mvv hw')]; exact hw'
  have mv : ∀ {v d}, Rp h (fun a => P a ∨ O a) v d → Rp h' (fun a => P a ∨ O a) v d := fun r => r.mono hk fun _ _ n _ => n
  have mva : ∀ {v d}, RpAll h (fun a => P a ∨ O a) v d → RpAll h' (fun a => P a ∨ O a) v d := fun r => r.mono hk fun _ _ n _ => n
  refine ⟨T.base, fun b o e => ?_, T.plive, fun a q => ?_, T.new, T.ok, T.loc, let ⟨m, nn⟩ := T.ns; ⟨m, nn.sameBut hs (Ne.symm hl)⟩, fun y k e => ?_, fun y b' e => ?_, fun y z ds es a ne hy hz vy vz => ?_⟩
  · exact (hs.2 b (fun q => by subst q; rw [T.new _ hc] at e; cases e)).trans (T.keep b o e)
  · by_cases q' : a = c
    · subst q'; exact hlc
    · obtain ⟨o, e⟩ := T.live a q; exact ⟨o, (hs.2 a q').trans e⟩
  · obtain ⟨⟨v, q⟩, f⟩ := T.cells y k e
    exact ⟨⟨v, q.sameBut hs (hcell _ _ e)⟩, f⟩
  · have := T.vars y b' e
    cases b' with
    | val d => obtain ⟨w, hw, r⟩ := this; exact ⟨w, mvv hw, mv r⟩
    | own ds =>
      obtain ⟨a, vs, hw, h1, h2, h3, h4⟩ := this
      refine ⟨a, vs, mvv hw, h1, h2, ?_, mva h4⟩
      have ha : a ≠ c := fun q => hv y ds e (q ▸ hw)
      obtain ⟨o, ho⟩ := h3
      exact ⟨o, (hs.2 a ha).trans ho⟩
  · exact T.apart y z ds es a ne hy hz (bck ⟨_, hy⟩ vy) (bck ⟨_, hz⟩ vz)
end

theorem St.lose {B : Bas} {env : Env} {σ : Sto} {h₀ h h' : Heap} {P O : Addr → Prop} {C : Addr} {m : Str → Option Value} (T : St B h₀ P env σ (fun b => O b ∨ b = C) h) (hs : Heap.SameBut C h h') (hn : h.Ns C m) (hl : env.locals ≠ C) (hcell : ∀ y k, env.cells.lookup y = some k → k ≠ C) (hC : ¬ O C) : St B h₀ P env σ O h' := by
  have up : ∀ a o, a ≠ C → h.get? a = some o → h'.get? a = some o := fun a o ne e => (hs.2 a ne).trans e
  have hk : ∀ a o, ¬ (P a ∨ (O a ∨ a = C)) → h.get? a = some o → h'.get? a = some o := fun a o n e => up a o (fun q => n (.inr (.inr q))) e
  have hx : ∀ a o, ¬ (P a ∨ (O a ∨ a = C)) → h.get? a = some o → ¬ (P a ∨ O a) := fun a o n _ q => n (q.imp id .inl)
  have locO : O env.locals := by rcases T.loc with q | q; exact q; exact absurd q hl
  have mvv : ∀ {x w}, VarIs env h x w → VarIs env h' x w := by
    rintro x w (⟨kd, m, nn, e⟩ | ⟨kd, k, l, e⟩)
    · exact .inl ⟨kd, m, nn.sameBut hs hl, e⟩
    · exact .inr ⟨kd, k, l, e.sameBut hs (hcell _ _ l)⟩
  have bck : ∀ {x w}, (∃ b, σ.get x = some b) → VarIs env h' (S x) w → VarIs env h (S x) w := by
    rintro x w ⟨b, hb⟩ hw
    obtain ⟨w', hw'⟩ := (T.vars x b hb).var
    rw [hw.fn (mvv hw')]; exact hw'
  refine ⟨T.base, fun b o e => up b o (fun q => by rw [q, T.new C (.inr rfl)] at e; cases e) (T.keep b o e), T.plive, fun a q => ?_, fun a q => T.new a (.inl q), T.ok, locO, let ⟨m, nn⟩ := T.ns; ⟨m, nn.sameBut hs hl⟩, fun y k e => ?_, fun y b' e => ?_, fun y z ds es a ne hy hz vy vz => ?_⟩
  · obtain ⟨o, e⟩ := T.live a (.inl q); exact ⟨o, up a o (fun e' => hC (e' ▸ q)) e⟩
  · obtain ⟨⟨v, q⟩, g⟩ := T.cells y k e
    exact ⟨⟨v, q.sameBut hs (hcell _ _ e)⟩, fun f => (g f).elim id fun q => absurd q (hcell _ _ e)⟩
  · have := T.vars y b' e
    cases b' with
    | val d => obtain ⟨w, hw, r⟩ := this; exact ⟨w, mvv hw, r.mono hk hx⟩
    | own ds =>
      obtain ⟨a, vs, hw, h1, h2, h3, h4⟩ := this
      have ha : a ≠ C := plain_ne_ns h3.isList hn
      refine ⟨a, vs, mvv hw, h1.elim id fun q => absurd q ha, h2, ?_, h4.mono hk hx⟩
      obtain ⟨o, ho⟩ := h3
      exact ⟨o, up a _ ha ho⟩
  · exact T.apart y z ds es a ne hy hz (bck ⟨_, hy⟩ vy) (bck ⟨_, hz⟩ vz)

def Tsts (B : Bas) (n : Nat) (env : Env) (σ : Sto) (ifs : List Expr) (p : Bool) : Prop :=
  ∀ (h₀ : Heap) (P O : Addr → Prop) (A : Around) (s : Shared) (E : Value → Shared → Prop) (Q : Bool → Shared → Prop), B.Ok → AOk n A → St B h₀ P env σ O s.heap →
    (∀ s', Keeps s s' → Q p s') → wpAny (model B.prog B.w) A (forIn ifs true fun c r => if r = true then do let ok ← isTrue c env (eval c env); pure (ForInStep.yield ok) else pure (ForInStep.yield r)) Q E s
theorem tsts_nil {B n env σ} : Tsts B n env σ [] true := fun h₀ P O A s E Q bo ao T q => wpAny_pure (q s (krefl s))
theorem tsts_one {B n env σ c p} (x : Tst B n env σ c p) : Tsts B n env σ [c] p := fun h₀ P O A s E Q bo ao T q => by
  rw [List.forIn_cons]
  simp only [if_true]
  refine wpAny_bind (wpAny_bind (x h₀ P O A s E _ bo ao T fun s' k => wpAny_pure ?_))
  exact wpAny_pure (q s' k)

structure CEnv (sc : Scope) (cenv : Env) : Prop where
  loc : ∀ x, sc.names.lookup x = some .local → cenv.kindOf x = some .local
  glob : ∀ x, sc.names.lookup x = some .globalImplicit → cenv.kindOf x = some .globalImplicit

def capt (σ : Sto) (caps : List String) : Sto := caps.filterMap fun x => match σ.get x with | some (.val d) => some (x, .val d) | _ => none

theorem capt_get {σ : Sto} {caps : List String} {x : String} {b : Bnd} (h : (capt σ caps).get x = some b) : x ∈ caps ∧ ∃ d, b = .val d ∧ σ.get x = some (.val d) := by
  induction caps with
  | nil => cases h
  | cons y r ih =>
    unfold capt at h
    rw [List.filterMap_cons] at h
    have rest : (capt σ r).get x = some b → x ∈ y :: r ∧ ∃ d, b = .val d ∧ σ.get x = some (.val d) := fun h => (ih h).imp (List.mem_cons_of_mem _) id
    split at h
    · exact rest h
    · rename_i p hp
      split at hp
      · cases hp
        rename_i d hd
        unfold Sto.get at h
        by_cases hy : y = x
        · subst hy; rw [if_pos rfl] at h; cases h
          exact ⟨List.mem_cons_self .., _, rfl, hd⟩
        · rw [if_neg hy] at h; exact rest h
      · cases hp

theorem lookup_relabel {env : Env} {k : NameKind} (hk : k ≠ .free) : ∀ {names : List (Str × NameKind)} {x : Str}, names.lookup x = some k →
    (names.map fun (n, k) => if (k == NameKind.free && env.scope.kind == .function && env.kindOf n == some .cell) then (n, NameKind.cell) else (n, k)).lookup x = some k
  | [], _, h => by simp at h
  | (m, j) :: r, x, h => by
    have ih := @lookup_relabel env k hk r x
    show List.lookup x ((if (j == NameKind.free && env.scope.kind == .function && env.kindOf m == some .cell) = true then (m, NameKind.cell) else (m, j)) :: _) = _
    cases hx : x == m with
    | true =>
      simp only [List.lookup_cons, hx] at h
      cases h
      have : (k == NameKind.free) = false := by simpa using hk
      rw [this]
      simp [List.lookup_cons, hx]
    | false =>
      simp only [List.lookup_cons, hx] at h
      by_cases hc : (j == NameKind.free && env.scope.kind == .function && env.kindOf m == some .cell) = true
      · rw [if_pos hc]; simp only [List.lookup_cons, hx]; exact ih h
      · rw [if_neg hc]; simp only [List.lookup_cons, hx]; exact ih h
theorem lookup_relabel_free {env : Env} : ∀ {names : List (Str × NameKind)} {x : Str}, names.lookup x = some .free →
    (names.map fun (n, k) => if (k == NameKind.free && env.scope.kind == .function && env.kindOf n == some .cell) then (n, NameKind.cell) else (n, k)).lookup x = some .cell ∨
    (names.map fun (n, k) => if (k == NameKind.free && env.scope.kind == .function && env.kindOf n == some .cell) then (n, NameKind.cell) else (n, k)).lookup x = some .free
  | [], _, h => by simp at h
  | (m, j) :: r, x, h => by
    have ih := @lookup_relabel_free env r x
    show List.lookup x ((if (j == NameKind.free && env.scope.kind == .function && env.kindOf m == some .cell) = true then (m, NameKind.cell) else (m, j)) :: _) = _ ∨ List.lookup x ((if (j == NameKind.free && env.scope.kind == .function && env.kindOf m == some .cell) = true then (m, NameKind.cell) else (m, j)) :: _) = _
    cases hx : x == m with
    | true =>
      simp only [List.lookup_cons, hx] at h
      cases h
      split <;> simp [List.lookup_cons, hx]
    | false =>
      simp only [List.lookup_cons, hx] at h
      split <;> (simp only [List.lookup_cons, hx]; exact ih h)

def closG (env : Env) : List (Str × NameKind) → List (Str × Addr) → List (Str × Addr)
  | [], acc => acc
  | (x, k) :: r, acc => closG env r (if k == .free then (x, (env.cells.lookup x).getD 0) :: acc else acc)
theorem closureFor_eq {sc : Scope} {env : Env} (h : ∀ x ∈ sc.names, x.2 = .free → (env.cells.lookup x.1).isSome = true) : closureFor sc env = pure (closG env sc.names []) := by
  have key : ∀ (names : List (Str × NameKind)) (acc : List (Str × Addr)), (∀ x ∈ names, x.2 = .free → (env.cells.lookup x.1).isSome = true) →
      (forIn names acc fun (x : Str × NameKind) (r : List (Str × Addr)) => (if x.2 == .free then do let __do_lift ← cellOf env x.1; pure (ForInStep.yield ((x.1, __do_lift) :: r)) else pure (ForInStep.yield r) : Sem (ForInStep (List (Str × Addr))))) = (pure (closG env names acc) : Sem (List (Str × Addr))) := by
    intro names
    induction names with
    | nil => intro acc _; rfl
    | cons p r ih =>
      intro acc hn
      obtain ⟨x, k⟩ := p
      rw [List.forIn_cons]
      by_cases hk : k = .free
      · subst hk
        obtain ⟨c, hc⟩ := Option.isSome_iff_exists.mp (hn (x, .free) (List.mem_cons_self ..) rfl)
        have : cellOf env x = pure c := by unfold cellOf; rw [hc]
        simp only [beq_self_eq_true, if_true, this, pure_bind]
        rw [ih _ fun y hy => hn y (List.mem_cons_of_mem _ hy)]
        simp [closG, hc]
      · have : (k == NameKind.free) = false := by simpa using hk
        simp only [this, Bool.false_eq_true, if_false, pure_bind]
        rw [ih _ fun y hy => hn y (List.mem_cons_of_mem _ hy)]
        simp [closG, this]
  simp only [closureFor]
  rw [key _ _ h]
  rfl
theorem closG_sub {env : Env} {names : List (Str × NameKind)} {acc : List (Str × Addr)} (h : ∀ x ∈ names, x.2 = .free → (env.cells.lookup x.1).isSome = true) (ha : ∀ x c, acc.lookup x = some c → env.cells.lookup x = some c) :
    ∀ x c, (closG env names acc).lookup x = some c → env.cells.lookup x = some c := by
  induction names generalizing acc with
  | nil => exact ha
  | cons p r ih =>
    obtain ⟨y, k⟩ := p
    unfold closG
    refine ih (fun z hz => h z (List.mem_cons_of_mem _ hz)) ?_
    intro x c hx
    split at hx
    · rename_i hk
      rw [List.lookup_cons] at hx
      split at hx
      · rename_i e
        cases hx
        obtain ⟨c, hc⟩ := Option.isSome_iff_exists.mp (h (y, k) (List.mem_cons_self ..) (by simpa using hk))
        have e' := beq_iff_eq.mp e
        subst e'
        rw [hc]; rfl
      · exact ha x c hx
    · exact ha x c hx
theorem closG_free {env : Env} {names : List (Str × NameKind)} {acc : List (Str × Addr)} {x : Str} (hx : (x, NameKind.free) ∈ names ∨ (acc.lookup x).isSome = true) : ((closG env names acc).lookup x).isSome = true := by
  induction names generalizing acc with
  | nil => rcases hx with hx | hx; cases hx; exact hx
  | cons p r ih =>
    obtain ⟨y, k⟩ := p
    unfold closG
    refine ih ?_
    rcases hx with hx | hx
    · rcases List.mem_cons.mp hx with e | e
      · cases e; right; simp
      · exact .inl e
    · right
      split
      · rw [List.lookup_cons]; split <;> first | rfl | exact hx
      · exact hx

section
variable {B : Bas} {n : Nat} {env : Env} {σ : Sto}

theorem comp_loop {R : Result → Shared → Prop} {A : Around} {s : Shared} {elt target iter : Expr} {ifs : List Expr} {scope : Scope} {pos : Pos} {it acc : Value} {env : Env} (I : Nat → Shared → Prop)
    (turn : ∀ n s, I n s → wpAny (model B.prog B.w) A (pyNext it) (fun r s₁ => match r with
      | none => R (.ok .next) s₁
      | some v => wpAny (model B.prog B.w) A (letOwnedTupleGo target it v) (fun _ s₁' => wpAny (model B.prog B.w) A (assign target env v) (fun _ s₂ =>
          wpAny (model B.prog B.w) A (forIn ifs true fun c r => if r = true then do let ok ← isTrue c env (eval c env); pure (ForInStep.yield ok) else pure (ForInStep.yield r)) (fun ok s₃ =>
            if ok = true then wpAny (model B.prog B.w) A (eval elt env) (fun x s₄ =>
              wpAny (model B.prog B.w) A (call (.builtin "list.append") [acc, x]) (fun _ s₅ => ∃ m, m < n ∧ I m s₅) (notedBy (model B.prog B.w) A env fun e s' => R (.error e) s') s₄) (notedBy (model B.prog B.w) A env fun e s' => R (.error e) s') s₃
            else ∃ m, m < n ∧ I m s₃) (notedBy (model B.prog B.w) A env fun e s' => R (.error e) s') s₂) (notedBy (model B.prog B.w) A env fun e s' => R (.error e) s') s₁') (notedBy (model B.prog B.w) A env fun e s' => R (.error e) s') s₁) (notedBy (model B.prog B.w) A env fun e s' => R (.error e) s') s)
    (n : Nat) (h : I n s) : codeAny (model B.prog B.w) A (.compLoop (.ListComp elt [⟨target, iter, ifs, 0⟩] scope pos) 0 it acc env) R s := by
  refine codeAny_loop rfl I (fun n s hI => ?_) n h
  show wpAny _ A ((compTurn (.ListComp elt [⟨target, iter, ifs, 0⟩] scope pos) 0 it acc env).onRaise (fun x => do noteFrame x env; theTreesLotGoes x)) _ _ s
  refine wpAny_noted ?_
  rw [compTurn_list]
  refine wpAny_bind (wpAny_standAt (wpAny_bind (wpAny_mono (turn n s hI) (fun r s₁ h₁ => ?_) fun _ _ h' => h')))
  cases r with
  | none => exact wpAny_pure h₁
  | some v =>
    refine wpAny_bind (wpAny_mono h₁ (fun _ s₁' h₁' => ?_) fun _ _ h' => h')
    refine wpAny_bind (wpAny_mono h₁' (fun _ s₂ h₂ => wpAny_bind (wpAny_mono h₂ (fun ok s₃ h₃ => ?_) fun _ _ h' => h')) fun _ _ h' => h')
    cases ok with
    | false => exact wpAny_pure ⟨rfl, h₃⟩
    | true =>
      exact wpAny_bind (wpAny_bind (wpAny_mono h₃ (fun x s₄ h₄ => wpAny_bind (wpAny_mono h₄ (fun _ s₅ h₅ => wpAny_pure (wpAny_pure ⟨rfl, h₅⟩)) fun _ _ h' => h')) fun _ _ h' => h'))

structure CompOk (sc : Scope) (env : Env) (caps : List String) : Prop where
  kind : sc.kind = .function
  nocell : ∀ y ∈ sc.names, y.2 ≠ .cell
  locals : ∀ y ∈ sc.names, y.2 = .local → sc.names.lookup y.1 = some .local
  free : ∀ x ∈ sc.names, x.2 = .free → (env.cells.lookup x.1).isSome = true
  caps : ∀ x ∈ caps, sc.names.lookup (S x) = some .free ∧ (env.kindOf (S x) = some .cell ∨ env.kindOf (S x) = some .free)

theorem comp_core {elt target iter : Expr} {ifs : List Expr} {sc : Scope} {pos : Pos} {α : Type} {ds : List α} {caps : List String} (g : α → D) (p : α → Bool) (f : α → D) (ok : CompOk sc env caps) (hsz : ds.length ≤ 1000000)
    (turn : ∀ cenv, CEnv sc cenv → ∀ d ∈ ds, ∃ σd, Asg B n cenv (capt σ caps) target (g d) σd ∧ (∀ x b, (capt σ caps).get x = some b → σd.get x = some b) ∧ Tsts B n cenv σd ifs (p d) ∧ (p d = true → Ev B n cenv σd elt (f d)))
    {h₀ : Heap} {P O : Addr → Prop} {A : Around} {s s₂ : Shared} {E : Value → Shared → Prop} (bo : B.Ok) (ao : AOk n A) (T : St B h₀ P env σ O s.heap) (k₂ : Keeps s s₂) {I : Addr} {fp wr : List Addr} {Pv : Nat → Value → Prop} {Si : Nat → Heap → Prop}
    (it : Iter B A I fp wr ds.length Pv Si) (st : Si 0 s₂.heap) (hw : ∀ b ∈ wr, s.heap.get? b = none) (hfp : ∀ b ∈ fp, b < s₂.heap.objs.size) (hr : ∀ i v, Pv i v → ∃ d, ds[i]? = some d ∧ Rp s₂.heap (fun a => P a ∨ O a) v (g d))
    {RR : Value → Addr → Result → Shared → Prop}
    (hRR : ∀ Da C h' tk m' (ys : List Value), s₂.heap.get? Da = none → s₂.heap.get? C = none → Da ≠ C → h'.Ns C m' → h'.PlainList Da ys.toArray → RpAll h' (fun b => P b ∨ O b ∨ b = Da ∨ b = C) ys ((ds.filter p).map f) →
      (∀ b o, b ∉ wr → s₂.heap.get? b = some o → h'.get? b = some o) → RR (.ref Da) C (.ok .next) { s₂ with heap := h', toks := tk }) :
    wpAny (model B.prog B.w) A (newList []) (fun acc s₃ => wpAny (model B.prog B.w) A (newFunctionEnv sc env.globals (closG env sc.names []) [] env.qual none .none (some env)) (fun cenv s₄ =>
      codeAny (model B.prog B.w) A (.compStart (.ListComp elt [⟨target, iter, ifs, 0⟩] sc pos) 0 (.ref I) acc { cenv with scope := relabel sc env }) (RR acc cenv.locals) s₄) E s₃) E s₂ := by
  refine wpAny_newObj_type (wpAny_newFunctionEnv ok.nocell (by intro y hy; simp at hy) (fun h₁ hns₁ hsb₁ => ?_) ok.kind)
  dsimp only at hns₁ hsb₁ ⊢
  generalize hH2 : s₂.heap.push { cls := .type "list", dict := none, data := .seq ([] : List Value).toArray } = H2 at hns₁ hsb₁ ⊢
  have hCsz : H2.objs.size = s₂.heap.objs.size + 1 := by rw [← hH2, Heap.size_push]
  generalize hC : H2.objs.size = C at hns₁ hsb₁ hCsz ⊢
  generalize hD : s₂.heap.objs.size = Da at hCsz ⊢
  have hDC : Da ≠ C := by omega
  have Dnew : s₂.heap.get? Da = none := fresh_of (by omega)
  have Cnew : s₂.heap.get? C = none := fresh_of (by omega)
  have old : ∀ b o, s₂.heap.get? b = some o → h₁.get? b = some o := fun b o e => hsb₁.extBut b o (fun q => by subst q; rw [Cnew] at e; cases e) (Heap.get?_push_of_some _ (hH2 ▸ Heap.get?_push_of_some _ e))
  have hacc : h₁.PlainList Da #[] := by
    refine ⟨_, hsb₁.extBut _ _ hDC (Heap.get?_push_of_some _ (hH2 ▸ hD ▸ Heap.get?_push_size _ rfl))⟩
  show codeAny _ A (.compStart (.ListComp elt [⟨target, iter, ifs, 0⟩] sc pos) 0 (.ref I) (.ref Da) (compEnvC sc (closG env sc.names []) C env)) (RR (.ref Da) C) { s₂ with heap := h₁, toks := s₂.toks + 0 }
  generalize hce : compEnvC sc (closG env sc.names []) C env = cenv
  have cscope : cenv.scope = relabel sc env := by rw [← hce]; rfl
  have clocals : cenv.locals = C := by rw [← hce]; rfl
  have cglobals : cenv.globals = env.globals := by rw [← hce]; rfl
  have cbuiltins : cenv.builtins = env.builtins := by rw [← hce]; rfl
  have ccells : cenv.cells = closG env sc.names [] := by rw [← hce]; rfl
  have cfunc : cenv.func = none := by rw [← hce]; rfl
  have csub : ∀ x c, cenv.cells.lookup x = some c → env.cells.lookup x = some c := by rw [ccells]; exact closG_sub ok.free (by intro x c h; cases h)
  have CE : CEnv sc cenv := ⟨fun x h => by unfold Env.kindOf; rw [cscope]; exact lookup_relabel (by decide) h, fun x h => by unfold Env.kindOf; rw [cscope]; exact lookup_relabel (by decide) h⟩
  have T₂ := T.kp k₂
  have sD : s.heap.get? Da = none := by
    cases e : s.heap.get? Da with
    | none => rfl
    | some o => rw [kheap k₂ _ _ e] at Dnew; cases Dnew
  have sC : s.heap.get? C = none := by
    cases e : s.heap.get? C with
    | none => rfl
    | some o => rw [kheap k₂ _ _ e] at Cnew; cases Cnew
  have hx2 : ∀ a o, ¬ (P a ∨ O a) → s₂.heap.get? a = some o → ¬ ((P a ∨ O a) ∨ (a = C ∨ a = Da)) := by
    rintro a o na e (q | q | q)
    · exact na q
    · subst q; rw [Cnew] at e; cases e
    · subst q; rw [Dnew] at e; cases e
  have T0 : St B s.heap (fun b => P b ∨ O b) cenv (capt σ caps) (fun b => b = C ∨ b = Da) h₁ := by
    refine ⟨T.here, fun b o e => old b o (kheap k₂ b o e), ?_, ?_, ?_, ⟨?_, by rw [cglobals]; exact T.ok.globals, by rw [cbuiltins]; exact T.ok.builtins, fun x y c h1 h2 => T.ok.apart x y c (csub _ _ h1) (csub _ _ h2)⟩, .inl clocals, ⟨_, clocals ▸ hns₁⟩, ?_, ?_, ?_⟩
    · exact fun b q => T.xlive q
    · rintro b (q | q)
      · subst q; obtain ⟨o, _, _, e, _⟩ := hns₁; exact ⟨o, e⟩
      · subst q; obtain ⟨o, e⟩ := hacc; exact ⟨_, e⟩
    · rintro b (q | q)
      · subst q; exact sC
      · subst q; exact sD
    · rw [cscope]; exact ok.kind
    · intro x c l
      obtain ⟨⟨v, e⟩, _⟩ := T₂.cells x c (csub x c l)
      exact ⟨⟨v, e.keeps old⟩, fun q => by rw [cfunc] at q; cases q⟩
    · intro x b hb
      obtain ⟨hxc, d, rfl, hσ⟩ := capt_get hb
      obtain ⟨v, hv, r⟩ := T₂.vars x _ hσ
      obtain ⟨h1, h2⟩ := ok.caps x hxc
      refine ⟨v, ?_, r.mono (fun a o _ e => old a o e) hx2⟩
      have hin : (S x, NameKind.free) ∈ sc.names := PySem.mem_of_lookup h1
      obtain ⟨c, hc⟩ := Option.isSome_iff_exists.mp (closG_free (env := env) (acc := []) (.inl hin))
      rw [← ccells] at hc
      refine .inr ⟨?_, c, hc, ?_⟩
      · unfold Env.kindOf; rw [cscope]; exact lookup_relabel_free h1
      · rcases hv with ⟨kd, _⟩ | ⟨kd, c', l, e⟩
        · rcases h2 with h2 | h2 <;> rw [h2] at kd <;> cases kd
        · rw [csub _ _ hc] at l; cases l; exact e.keeps old
    · intro x y ds' es a ne hx
      obtain ⟨_, _, e, _⟩ := capt_get hx; cases e
  have st₁ : Si 0 h₁ := it.W.frame _ _ _ st fun b _ o e => old b o e
  have loop : ∀ s₃ : Shared, s₃ = { s₂ with heap := h₁, toks := s₂.toks + 0 } → codeAny (model B.prog B.w) A (.compLoop (.ListComp elt [⟨target, iter, ifs, 0⟩] sc pos) 0 (.ref I) (.ref Da) cenv) (RR (.ref Da) C) s₃ := by
    rintro s₃ rfl
    have fpD : ∀ b ∈ fp, b ≠ Da := fun b hb q => by have := hfp b hb; rw [hD, q] at this; exact Nat.lt_irrefl _ this
    have fpC : ∀ b ∈ fp, b ≠ C := fun b hb q => by have := hfp b hb; rw [hD, q, hCsz] at this; exact Nat.lt_irrefl _ (Nat.lt_of_succ_lt this)
    obtain ⟨IV, hIV⟩ : ∃ I : Nat → Shared → Prop, ∀ kk s', I kk s' ↔ (∃ i ys, kk = ds.length + 1 - i ∧ i ≤ ds.length ∧ (∃ h' tk, s' = { s₂ with heap := h', toks := tk }) ∧ Si i s'.heap ∧
        St B s.heap (fun b => P b ∨ O b) cenv (capt σ caps) (fun b => b = C ∨ b = Da) s'.heap ∧ s'.heap.PlainList Da (List.toArray ys) ∧ RpAll s'.heap (fun a => (P a ∨ O a) ∨ (a = C ∨ a = Da)) ys (((ds.take i).filter p).map f) ∧
        (∀ b o, b ∉ wr → s₂.heap.get? b = some o → s'.heap.get? b = some o)) := ⟨_, fun _ _ => Iff.rfl⟩
    refine comp_loop IV ?_ (ds.length + 1) ((hIV _ _).mpr ⟨0, [], rfl, Nat.zero_le _, ⟨_, _, rfl⟩, st₁, T0, hacc, by simpa using RpAll.nil, fun b o _ e => old b o e⟩)
    intro kk s' hI0
    replace hI0 := (hIV _ _).mp hI0
    obtain ⟨i, ys, rfl, hi, ⟨hh, tk, rfl⟩, st', T', hl', hy', hk'⟩ := hI0
    have stepSt : ∀ h₁ : Heap, (∀ b o, b ∉ wr → hh.get? b = some o → h₁.get? b = some o) → ∀ b o, ¬ IterObj o → hh.get? b = some o → h₁.get? b = some o := fun h₁ hk₁ a o ni e =>
      hk₁ a o (fun hbw => by obtain ⟨o', e', q⟩ := it.kind i _ st' a hbw; rw [e] at e'; cases e'; exact ni q) e
    have goSt : ∀ h₁ : Heap, (∀ b o, b ∉ wr → hh.get? b = some o → h₁.get? b = some o) → St B s.heap (fun b => P b ∨ O b) cenv (capt σ caps) (fun b => b = C ∨ b = Da) h₁ := fun h₁ hk₁ => by
      refine T'.step (stepSt h₁ hk₁) (fun b o e => hk₁ b o (fun hbw => by have := hw b hbw; rw [e] at this; cases this) (T'.keep b o e)) ?_
      rintro a q
      obtain ⟨o, e⟩ := T'.live a q
      refine ⟨o, hk₁ a o (fun hbw => ?_) e⟩
      rcases q with q | q
      · exact fpC a (it.W.sub a hbw) q
      · exact fpD a (it.W.sub a hbw) q
    by_cases hlt : i < ds.length
    · refine it.W.item i _ _ _ hlt st' fun v h₂ tk₂ hPv st₂ hk₂ => ?_
      obtain ⟨d, hd, rd⟩ := hr i v hPv
      obtain ⟨e1, e2⟩ := take_split hd
      have Tn := goSt h₂ hk₂
      have rd' : Rp h₂ (fun a => (P a ∨ O a) ∨ (a = C ∨ a = Da)) v (g d) := (rd.stepX (h' := hh) (fun a o na ni e => hk' a o (fun haw => by obtain ⟨o', e', q⟩ := it.kind 0 _ st a haw; rw [e] at e'; cases e'; exact ni q) e) hx2).step (stepSt h₂ hk₂)
      obtain ⟨σd, ha, hfor, hts, hel⟩ := turn cenv CE d (List.mem_of_getElem? hd)
      refine it.go _ _ _ _ _ _ st₂ (ha _ _ _ A _ _ _ v bo ao Tn rd' fun s₃ m₃ T₃ => ?_)
      -- Da stands through the stores
      have hnD : ¬ Names cenv Da := by
        rintro (q | ⟨q, _⟩)
        · rw [clocals] at q; exact hDC q
        · rw [cfunc] at q; cases q
      obtain ⟨h3, tk3, rfl, k3⟩ := m₃
      have hl3 : h3.PlainList Da ys.toArray := by
        have := plist_step (stepSt h₂ hk₂) hl'
        obtain ⟨o, e⟩ := this
        exact ⟨o, k3 _ _ hnD e⟩
      have nm : ∀ b, Names cenv b → b = C := by
        rintro b (q | ⟨q, _⟩)
        · rw [clocals] at q; exact q
        · rw [cfunc] at q; cases q
      have hy3 : RpAll h3 (fun a => (P a ∨ O a) ∨ (a = C ∨ a = Da)) ys (((ds.take i).filter p).map f) := (hy'.step (stepSt h₂ hk₂)).mono (fun a o na e => k3 a o (fun q => na (.inr (.inl (nm a q)))) e) fun _ _ n _ => n
      have st3 : Si (i + 1) h3 := it.W.frame _ _ _ st₂ fun b hb o e => k3 b o (fun q => fpC b hb (nm b q)) e
      have hk3 : ∀ b o, b ∉ wr → s₂.heap.get? b = some o → h3.get? b = some o := fun b o nw e => k3 b o (fun q => by rw [nm b q, Cnew] at e; cases e) (hk₂ b o nw (hk' b o nw e))
      refine hts _ _ _ A _ _ _ bo ao T₃ fun s₄ k₄ => ?_
      have T₄ := T₃.kp k₄
      have hlen : ys.length ≤ 1000000 := by
        rw [hy'.length, List.length_map]
        exact Nat.le_trans (List.length_filter_le _ _) (Nat.le_trans (by rw [List.length_take]; omega) hsz)
      cases hp : p d with
      | false =>
        simp only [Bool.false_eq_true, if_false]
        obtain ⟨h4, tk4, rfl, k4⟩ := k₄
        refine ⟨ds.length + 1 - (i + 1), by omega, (hIV _ _).mpr ⟨i + 1, ys, rfl, hlt, ⟨h4, tk4, rfl⟩, it.W.frame _ _ _ st3 fun b _ o e => k4 b o e, T₄.forget hfor, hl3.at fun o e => k4 _ o e, ?_, fun b o nw e => k4 b o (hk3 b o nw e)⟩⟩
        rw [e2, List.filter_append]
        simp only [List.filter_cons, hp, Bool.false_eq_true, if_false, List.filter_nil, List.append_nil]
        exact hy3.keeps k4
      | true =>
        simp only [if_true]
        refine hel hp _ _ _ A _ _ _ bo ao T₄ fun w s₅ k₅ rw' => ?_
        obtain ⟨h5, tk5, rfl, k5⟩ := ktrans k₄ k₅
        have hl5 : h5.PlainList Da ys.toArray := hl3.at fun o e => k5 _ o e
        refine wpAny_list_append_plain hl5 (fun h6 hl6 hs6 => ?_) (by rw [List.size_toArray]; exact szLine hlen)
        have hk6 : ∀ a o, a ≠ Da → h5.get? a = some o → h6.get? a = some o := fun a o ne e => (hs6.2 a ne).trans e
        have T₅ : St B s.heap (fun b => P b ∨ O b) cenv (capt σ caps) (fun b => b = C ∨ b = Da) h5 := (T₃.keeps k5).forget hfor
        refine ⟨ds.length + 1 - (i + 1), by omega, (hIV _ _).mpr ⟨i + 1, ys ++ [w], rfl, hlt, ⟨h6, tk5, rfl⟩, it.W.frame _ _ _ st3 fun b hb o e => hk6 b o (fpD b hb) (k5 b o e), ?_, ?_, ?_, fun b o nw e => hk6 b o (fun q => by rw [q, Dnew] at e; cases e) (k5 b o (hk3 b o nw e))⟩⟩
        · refine T₅.chg (.inr rfl) hs6 (by obtain ⟨o, e⟩ := hl6; exact ⟨_, e⟩) (by rw [clocals]; exact hDC) ?_ ?_
          · intro y c l q
            obtain ⟨⟨v', e'⟩, _⟩ := T₅.cells y c l
            exact plain_ne_cell hl5.isList e' q.symm
          · intro x es hx
            obtain ⟨_, _, e, _⟩ := capt_get hx; cases e
        · simpa using hl6
        · rw [e2, List.filter_append, List.map_append]
          simp only [List.filter_cons, hp, if_true, List.filter_nil, List.map_cons, List.map_nil]
          have up : ∀ a o, ¬ ((P a ∨ O a) ∨ (a = C ∨ a = Da)) → h5.get? a = some o → h6.get? a = some o := fun a o na e => hk6 a o (fun q => na (.inr (.inr q))) e
          exact ((hy3.keeps k5).mono up fun _ _ n _ => n).append (.one (rw'.mono up fun _ _ n _ => n))
    · have hi' : i = ds.length := by omega
      subst hi'
      rw [List.take_length] at hy'
      refine it.W.done _ _ _ st' fun h₂ tk₂ hk₂ => ?_
      obtain ⟨m', hn'⟩ := (goSt h₂ hk₂).ns
      rw [clocals] at hn'
      refine hRR Da C h₂ tk₂ m' ys Dnew Cnew hDC hn' (plist_step (stepSt h₂ hk₂) hl') ((hy'.step (stepSt h₂ hk₂)).sub ?_) fun b o nw e => hk₂ b o nw (hk' b o nw e)
      rintro b (q | q | q | q)
      · exact .inl (.inl q)
      · exact .inl (.inr q)
      · exact .inr (.inr q)
      · exact .inr (.inl q)
  exact codeAny_compStart_list (loop _ rfl) (it.W.self 0 _ _ _ st₁ (loop _ rfl))

theorem evn_comp {elt target iter : Expr} {ifs : List Expr} {sc : Scope} {pos : Pos} {α : Type} {ds : List α} (caps : List String) (g : α → D) (p : α → Bool) (f : α → D) (ok : CompOk sc env caps) (hsz : ds.length ≤ 1000000) (it : EvIt false B n env σ iter (ds.map g))
    (turn : ∀ cenv, CEnv sc cenv → ∀ d ∈ ds, ∃ σd, Asg B n cenv (capt σ caps) target (g d) σd ∧ (∀ x b, (capt σ caps).get x = some b → σd.get x = some b) ∧ Tsts B n cenv σd ifs (p d) ∧ (p d = true → Ev B n cenv σd elt (f d)))
    (hs : ∀ x, foldedSetIterable iter env x = pure x := by intro _; rfl) : EvN B n env σ (.ListComp elt [⟨target, iter, ifs, 0⟩] sc pos) ((ds.filter p).map f) := by
  intro h₀ P O A s E Q bo ao T q
  rw [eval_ListComp]
  refine wpAny_comprehension_free (use := none) rfl hs (closureFor_eq ok.free) ok.kind ok.locals (it h₀ P O A s E _ bo ao T fun s₂ I fp wr Pv Si k₂ iit st hw hfp _ hr₀ => ?_)
  rw [List.length_map] at iit
  have hr : ∀ i v, Pv i v → ∃ d, ds[i]? = some d ∧ Rp s₂.heap (fun a => P a ∨ O a) v (g d) := fun i v h => by
    obtain ⟨d, hd, r⟩ := hr₀ i v h
    rw [List.getElem?_map] at hd
    obtain ⟨x, hx, rfl⟩ := Option.map_eq_some_iff.mp hd
    exact ⟨x, hx, r⟩
  refine comp_core (RR := fun acc C => compPost (model B.prog B.w) A E none Q acc C) g p f ok hsz turn bo ao T k₂ iit st hw hfp hr ?_
  intro Da C h' tk m' ys hD hC hDC hn hl hy hk
  refine ⟨m', hn, fun h'' hs'' => ?_⟩
  have up : ∀ a o, a ≠ C → h'.get? a = some o → h''.get? a = some o := fun a o ne e => (hs''.2 a ne).trans e
  refine q Da ys _ ?_ ?_ ?_ ?_
  · obtain ⟨h2, tk2, rfl, k2⟩ := k₂
    exact ⟨h'', tk, rfl, fun b o e => up b o (fun q => by rw [q] at e; rw [k2 _ _ e] at hC; cases hC) (hk b o (fun q => by rw [hw b q] at e; cases e) (k2 b o e))⟩
  · cases e : s.heap.get? Da with
    | none => rfl
    | some o => rw [kheap k₂ _ _ e] at hD; cases hD
  · obtain ⟨o, e⟩ := hl; exact ⟨o, up _ _ hDC e⟩
  · refine hy.mono (fun a o na e => up a o (fun q => na (.inr (.inr (.inr q)))) e) fun a o na _ q => na ?_
    rcases q with q | q | q
    · exact .inl q
    · exact .inr (.inl q)
    · exact .inr (.inr (.inl q))

theorem ex_assign_comp {R : Fl → Sto → Prop} {x : String} {px spos : Pos} {elt target iter : Expr} {ifs : List Expr} {sc : Scope} {pos : Pos} {α : Type} {ds : List α} (caps : List String) (g : α → D) (p : α → Bool) (f : α → D) (ok : CompOk sc env caps) (hsz : ds.length ≤ 1000000) (it : EvIt false B n env σ iter (ds.map g))
    (turn : ∀ cenv, CEnv sc cenv → ∀ d ∈ ds, ∃ σd, Asg B n cenv (capt σ caps) target (g d) σd ∧ (∀ x b, (capt σ caps).get x = some b → σd.get x = some b) ∧ Tsts B n cenv σd ifs (p d) ∧ (p d = true → Ev B n cenv σd elt (f d)))
    (hx : env.kindOf (S x) = some .local) (hsw : swapsWith (.ListComp elt [⟨target, iter, ifs, 0⟩] sc pos) (some (.Name (S x) px)) spos.line env = pure true) (h : R .next (σ.put x (.own ((ds.filter p).map f))))
    (hs : ∀ x, foldedSetIterable iter env x = pure x := by intro _; rfl) : Ex1 B n env σ (.Assign [.Name (S x) px] (.ListComp elt [⟨target, iter, ifs, 0⟩] sc pos) spos) R := by
  intro h₀ P O A s E bo ao T
  rw [exec_Assign_Name_used _ _ _ _ hsw]
  refine wpAny_bind (wpAny_standAt (wpAny_bind ?_))
  show wpAny _ A (do let _ ← comprehension (.ListComp elt [⟨target, iter, ifs, 0⟩] sc pos) sc env _ (newList []) false (eval iter env) (some (assign (.Name (S x) px) env))) _ _ s
  refine wpAny_bind (wpAny_mono (wpAny_comprehension_free (use := some (assign (.Name (S x) px) env)) (Q := fun _ s' => Post B h₀ P env O s R .next s') rfl hs (closureFor_eq ok.free) ok.kind ok.locals (it h₀ P O A s E _ bo ao T fun s₂ I fp wr Pv Si k₂ iit st hw hfp _ hr₀ => ?_)) (fun _ s' hq => wpAny_pure (wpAny_pure hq)) fun _ _ e => e)
  rw [List.length_map] at iit
  have hr : ∀ i v, Pv i v → ∃ d, ds[i]? = some d ∧ Rp s₂.heap (fun a => P a ∨ O a) v (g d) := fun i v h => by
    obtain ⟨d, hd, r⟩ := hr₀ i v h
    rw [List.getElem?_map] at hd
    obtain ⟨z, hz, rfl⟩ := Option.map_eq_some_iff.mp hd
    exact ⟨z, hz, r⟩
  refine comp_core (RR := fun acc C => compPost (model B.prog B.w) A E (some (assign (.Name (S x) px) env)) (fun _ s' => Post B h₀ P env O s R .next s') acc C) g p f ok hsz turn bo ao T k₂ iit st hw hfp hr ?_
  intro Da C h' tk m' ys hD hC hDC hn hl hy hk
  show wpAny _ A (assign (.Name (S x) px) env (.ref Da)) _ _ _
  have kk : Keeps s { s₂ with heap := h', toks := tk } := by
    obtain ⟨h2, tk2, rfl, k2⟩ := k₂
    exact ⟨h', tk, rfl, fun b o e => hk b o (fun q => by rw [hw b q] at e; cases e) (k2 b o e)⟩
  have sD : s.heap.get? Da = none := by
    cases e : s.heap.get? Da with
    | none => rfl
    | some o => rw [kheap k₂ _ _ e] at hD; cases hD
  have sC : s.heap.get? C = none := by
    cases e : s.heap.get? C with
    | none => rfl
    | some o => rw [kheap k₂ _ _ e] at hC; cases hC
  have T1 : St B h₀ P env σ (fun b => O b ∨ b = Da) h' := T.grow (kheap kk) sD (let ⟨_, e⟩ := hl; ⟨_, e⟩)
  have T2 : St B h₀ P env σ (fun b => (O b ∨ b = Da) ∨ b = C) h' := by
    have Tb := T.grow (h' := h') (kheap kk) sC (by obtain ⟨o, _, _, e, _⟩ := hn; exact ⟨o, e⟩)
    -- both new addresses at once
    have mvx : ∀ b o, ¬ (P b ∨ O b) → s.heap.get? b = some o → ¬ (P b ∨ ((O b ∨ b = Da) ∨ b = C)) := by
      rintro b o nb e (q | (q | q) | q)
      · exact nb (.inl q)
      · exact nb (.inr q)
      · rw [q, sD] at e; cases e
      · rw [q, sC] at e; cases e
    refine ⟨T.base, T1.keep, T.plive, ?_, ?_, T.ok, .inl T1.loc, T1.ns, fun y c l => ⟨(T1.cells y c l).1, fun g => .inl ((T1.cells y c l).2 g)⟩, ?_, T1.apart⟩
    · rintro b (q | q)
      · exact T1.live b q
      · exact Tb.live b (.inr q)
    · rintro b (q | q)
      · exact T1.new b q
      · exact Tb.new b (.inr q)
    · intro y b e
      have := T.vars y b e
      cases b with
      | val d => obtain ⟨v, hv, r⟩ := this; exact ⟨v, hv.keeps (kheap kk), r.mono (fun b o _ e => kheap kk b o e) mvx⟩
      | own es => obtain ⟨a', vs, hv, h1, h2, h3, h4⟩ := this; exact ⟨a', vs, hv.keeps (kheap kk), .inl (.inl h1), h2, h3.at fun o e => kheap kk _ o e, h4.mono (fun b o _ e => kheap kk b o e) mvx⟩
  have hne : Da ≠ env.locals := fun q => by obtain ⟨o, e⟩ := T.live _ T.loc; rw [← q, sD] at e; cases e
  have hLC : env.locals ≠ C := fun q => by obtain ⟨o, e⟩ := T.live _ T.loc; rw [q, sC] at e; cases e
  refine wpAny_assign_Name (wp_store (b := .own ((ds.filter p).map f)) (s := { s₂ with heap := h', toks := tk }) T2 (.inl hx) ⟨Da, ys, rfl, .inl (.inr rfl), hne, hl, ?_, ?_⟩ fun s₃ m₃ T₃ => ?_)
  · refine hy.sub ?_
    rintro b (q | (q | q) | q)
    · exact .inl q
    · exact .inr (.inl q)
    · exact .inr (.inr (.inl q))
    · exact .inr (.inr (.inr q))
  · intro y es ne hy' hv
    obtain ⟨a', vs', hv', ho, _⟩ := T.vars y _ hy'
    have := hv.fn (hv'.keeps (kheap kk)); cases this
    obtain ⟨o, e⟩ := T.live _ ho; rw [sD] at e; cases e
  · obtain ⟨h3, tk3, rfl, k3⟩ := m₃
    have cellC : ∀ y k, env.cells.lookup y = some k → k ≠ C := fun y k l q => by
      obtain ⟨⟨v, e⟩, _⟩ := T.cells y k l
      obtain ⟨o, e, _⟩ := e
      rw [q, sC] at e; cases e
    have nC : ¬ Names env C := by
      rintro (q | ⟨_, y, q⟩)
      · exact hLC q.symm
      · exact cellC _ _ q rfl
    have hn3 : h3.Ns C m' := hn.at' fun o e => k3 _ o nC e
    refine ⟨m', hn3, fun h4 hs4 => ?_⟩
    have T₄ : St B h₀ P env (σ.put x (.own ((ds.filter p).map f))) (fun b => O b ∨ b = Da) h4 := T₃.lose hs4 hn3 hLC cellC (by
      rintro (q | q)
      · obtain ⟨o, e⟩ := T.live _ q; rw [sC] at e; cases e
      · exact hDC q.symm)
    refine ⟨.next, _, _, ?_, trivial, h, ?_, T₄⟩
    · obtain ⟨h1, tk1, e1, k1⟩ := kk
      refine ⟨h4, tk3, ?_, fun b o nb e => (hs4.2 b (fun q => by rw [q, sC] at e; cases e)).trans (k3 b o (fun q => ?_) ?_)⟩
      · obtain ⟨h2, tk2, rfl, k2⟩ := k₂; rfl
      · rcases q with q | ⟨q, y, l⟩
        · exact nb (q ▸ T.loc)
        · exact nb ((T.cells y b l).2 q)
      · obtain ⟨h2, tk2, rfl, k2⟩ := k₂
        exact hk b o (fun q => by rw [hw b q] at e; cases e) (k2 b o e)
    · rintro b (q | q)
      · exact .inl q
      · rw [q]; exact .inr sD
end

section
variable {B : Bas} {n : Nat} {env : Env} {σ : Sto} {e : Expr} {p p' : Pos}

theorem ev_call {x : String} {a : Addr} {es : List Expr} {ds : List D} {d : D} {o : Obj} {fd : FuncData} (hk : env.kindOf (S x) = some .globalImplicit) (hx : B.mg (S x) = some (.ref a)) (ho : B.hB.get? a = some o) (hd : o.data = .func fd)
    (as : EvAs B n env σ (e :: es) ds) (f : FnS B n a ds d) (hn : x ≠ "__debug__" := by decide) (he : starEach (e :: es) env = (false, eval e env) :: starEach es env := by rfl)
    (hc : eval (.Call (.Name (S x) p') (e :: es) [] p) env = (do callWith p (← eval (.Name (S x) p') env) [] (backTo p (starEach (e :: es) env)) (backToKw p (keywordEach [] env))) := by rfl) : Ev B n env σ (.Call (.Name (S x) p') (e :: es) [] p) d :=
  fun h₀ P O A s E Q bo ao T q => Call_ (wp_glob bo T hk hx (callWith_def hd (as h₀ P O A s E _ p bo ao T fun vs s₁ k r => ⟨(T.kp k).here _ _ ho, f _ A s₁ E _ vs bo ao (T.kp k).here (fun b z => (T.kp k).xlive z) r fun v s₂ k₂ r₂ => q v s₂ (ktrans k k₂) r₂⟩) he) hn) hc
theorem cmp_is_bool_ni {b : Bool} : Cmp B n .Is (.bool b) (.val .notImplemented) false := fun A s E Q va vb bo ao hh r r' q => by
  cases rp_val r; cases rp_val r'; exact wpAny_pure (a := Value.bool (Value.bool b == Value.notImplemented)) (q s (krefl s))
end

section
variable {B : Bas} {n : Nat} {env : Env} {σ : Sto} {e l r : Expr} {p p' : Pos}

theorem wp_addList {A : Around} {s : Shared} {E : Value → Shared → Prop} {a b : Addr} {vs ws : List Value} {Q : Value → Shared → Prop} (hl : s.heap.IsList a vs.toArray) (hb : s.heap.IsList b ws.toArray)
    (h : Q (.ref s.heap.objs.size) { s with heap := s.heap.push { cls := .type "list", data := .seq (vs ++ ws).toArray } }) (hsz : vs.length + ws.length ≤ 1000000) :
    wpAny (model B.prog B.w) A (binaryOp .Add (.ref a) (.ref b)) Q E s := by
  obtain ⟨⟨cls, dd, data, sl⟩, ho, hc, k, hd⟩ := id hl
  obtain ⟨⟨cls2, dd2, data2, sl2⟩, ho2, hc2, k2, hd2⟩ := id hb
  simp only at hc hd hc2 hd2; subst hc hd hc2 hd2
  have e : vs.toArray ++ ws.toArray = (vs ++ ws).toArray := by simp
  refine concat_meets ⟨_, ho, rfl⟩ ⟨_, ho2, rfl⟩ noFill_list_add seq_list_add PySem.F.slot_list_add PySem.F.entry_list_add (PySem.F.args_list_add_2 _ _) (list_addW a b vs.toArray ws.toArray k k2 dd dd2 sl sl2 (by simp only [List.size_toArray]; exact szLine hsz)) ⟨ho, ho2, ?_⟩
  rw [e]; exact h
theorem evn_add {ds es : List D} (x : Ev B n env σ l (.list ds)) (y : Ev B n env σ r (.list es)) (hsz : ds.length + es.length ≤ 1000000) : EvN B n env σ (.BinOp l .Add r p) (ds ++ es) :=
  fun h₀ P O A s E Q bo ao T q => wpAny_BinOp (x h₀ P O A s E _ bo ao T fun va s₁ k₁ r₁ => y h₀ P O A s₁ E _ bo ao (T.kp k₁) fun vb s₂ k₂ r₂ => by
    obtain ⟨a, vs, rfl, hl, _, rs⟩ := rp_list (r₁.keeps (kheap k₂))
    obtain ⟨b, ws, rfl, hb, _, qs⟩ := rp_list r₂
    have h1 := rs.length; have h2 := qs.length
    refine wp_addList hl hb (q _ (vs ++ ws) _ (ktrans (ktrans k₁ k₂) (kpush' _ _)) (fresh_kp (ktrans k₁ k₂)) ⟨_, Heap.get?_push_size _ rfl⟩ ((rs.append qs).beside _)) (by omega))

theorem flatten_replicate {α} (k : Nat) (items : Array α) : (List.foldl (fun x1 x2 => x1 ++ x2) #[] (List.replicate k items)).toList = (List.replicate k items.toList).flatten := by
  have : ∀ (acc : Array α), (List.foldl (fun x1 x2 => x1 ++ x2) acc (List.replicate k items)).toList = acc.toList ++ (List.replicate k items.toList).flatten := by
    induction k with
    | zero => intro acc; simp
    | succ k ih => intro acc; rw [List.replicate_succ, List.foldl_cons, ih, List.replicate_succ, List.flatten_cons]; simp
  simpa using this #[]
theorem RpAll.rep {h X vs ds} (r : RpAll h X vs ds) : ∀ k, RpAll h X (List.replicate k vs).flatten (List.replicate k ds).flatten
  | 0 => .nil
  | k + 1 => by rw [List.replicate_succ, List.replicate_succ, List.flatten_cons, List.flatten_cons]; exact r.append (r.rep k)
theorem evn_mul {ds : List D} {i : Int} (x : Ev B n env σ l (.list ds)) (y : EvW B n env σ r (.int i)) (h1 : -1000000 ≤ i) (h2 : i ≤ 1000000) (hsz : ds.length * i.toNat ≤ 1000000) (hne : ds ≠ []) : EvN B n env σ (.BinOp l .Mult r p) (List.replicate i.toNat ds).flatten :=
  fun h₀ P O A s E Q bo ao T q => wpAny_BinOp (x h₀ P O A s E _ bo ao T fun va s₁ k₁ r₁ => y h₀ P O A s₁ E _ bo ao (T.kp k₁) fun vb s₂ k₂ r₂ => by
    obtain ⟨a, vs, rfl, hl, _, rs⟩ := rp_list (r₁.keeps (kheap k₂))
    obtain ⟨u, rfl⟩ := rp_int r₂
    have hlen := rs.length
    obtain ⟨⟨cls, dd, data, sl⟩, ho, hc, k, hd⟩ := id hl
    simp only at hc hd; subst hc hd
    have hvs : vs ≠ [] := fun q => hne (by rw [q] at hlen; exact List.length_eq_zero_iff.mp hlen.symm)
    have hs2 : vs.toArray.size * i.toNat ≤ 1000000 := by rw [List.size_toArray, hlen]; exact hsz
    refine wpAny_binaryOp_repeat_ref (T := "list") (U := "int") (by decide) ⟨_, ho, rfl⟩ (fun s' => typeIs_int s' i u) noFill_list_mul F.fills_int_mul F.slot_int_rmul repeat_list F.slot_int_index.lookup
      (call_meets F.slot_int_rmul (typeIs_int s₂ i u) F.entry_int_rmul (F.args_int_rmul_2 _ _) (lm_int_rmul_list_any i u a vs.toArray k dd sl)
        ⟨ho, rfl, ⟨_, ho, rfl⟩, call_meets F.slot_list_mul ⟨_, ho, rfl⟩ F.entry_list_mul (F.args_list_mul_2 _ _)
          (lm_list_mul_any a vs.toArray k dd sl i u (by simp [Builtin.List.listFitsIndex]; omega) (by omega) (by simp [Builtin.List.listTooLong, sizeLine]; simp at hs2; omega)) ⟨ho, ?_⟩⟩)
    have e : (List.foldl (fun x1 x2 => x1 ++ x2) #[] (List.replicate (if vs.toArray.isEmpty = true then 0 else i.toNat) vs.toArray)) = ((List.replicate i.toNat vs).flatten).toArray := by
      rw [if_neg (by simpa using hvs)]
      apply Array.toList_inj.mp
      rw [flatten_replicate]
    rw [e]
    exact q _ _ _ (ktrans (ktrans k₁ k₂) (kpush' _ _)) (fresh_kp (ktrans k₁ k₂)) ⟨_, Heap.get?_push_size _ rfl⟩ ((rs.rep i.toNat).beside _))

theorem ev_range1 {x : String} {i : Int} (hx : BootName B env x (.type "range")) (a : EvW B n env σ e (.int i))
    (he : starEach [e] env = (false, eval e env) :: starEach [] env := by rfl)
    (hc : eval (.Call (.Name (S x) p') [e] [] p) env = (do callWith p (← eval (.Name (S x) p') env) [] (backTo p (starEach [e] env)) (backToKw p (keywordEach [] env))) := by rfl) : Ev B n env σ (.Call (.Name (S x) p') [e] [] p) (.range 0 i) :=
  fun h₀ P O A s E Q bo ao T q => Call_ (wp_boot bo T hx.kind hx.miss hx.boot (PyProof.Rows.callWith_type1 (evasw_cons a evasw_nil he h₀ P O A s E _ p bo ao T fun vs s₁ k r => by
    cases r with | cons r rn =>
    cases rn
    obtain ⟨t, rfl⟩ := rp_int r
    exact call_range_1 (q _ _ (ktrans k (kpush _ _ _)) (.range (IsRange.new ..) ((T.kp k).notX' (Nat.le_refl _))))) he rfl) hx.d hx.n) hc
theorem ev_range2 {x : String} {i j : Int} {e' : Expr} (hx : BootName B env x (.type "range")) (a : EvW B n env σ e (.int i)) (b : EvW B n env σ e' (.int j))
    (he : starEach [e, e'] env = (false, eval e env) :: starEach [e'] env := by rfl) (he' : starEach [e'] env = (false, eval e' env) :: starEach [] env := by rfl) (hp : (backTo p (starEach [e'] env)).any (·.1) = false := by rfl)
    (hc : eval (.Call (.Name (S x) p') [e, e'] [] p) env = (do callWith p (← eval (.Name (S x) p') env) [] (backTo p (starEach [e, e'] env)) (backToKw p (keywordEach [] env))) := by rfl) : Ev B n env σ (.Call (.Name (S x) p') [e, e'] [] p) (.range i j) :=
  fun h₀ P O A s E Q bo ao T q => Call_ (wp_boot bo T hx.kind hx.miss hx.boot (PyProof.Rows.callWith_type1 (evasw_cons a (evasw_cons b evasw_nil he') he h₀ P O A s E _ p bo ao T fun vs s₁ k r => by
    cases r with | cons r rn =>
    cases rn with | cons r' rn =>
    cases rn
    obtain ⟨t, rfl⟩ := rp_int r
    obtain ⟨u, rfl⟩ := rp_int r'
    exact call_range_2 (q _ _ (ktrans k (kpush _ _ _)) (.range (IsRange.new ..) ((T.kp k).notX' (Nat.le_refl _))))) he hp) hx.d hx.n) hc

def D.ofInts (l : List Int) : List D := l.map D.int
theorem ofInts_length (l : List Int) : (D.ofInts l).length = l.length := by simp [D.ofInts]
end

section
variable {B : Bas} {n : Nat} {env : Env} {σ : Sto} {R : Fl → Sto → Prop} {h₀ h h' : Heap} {P O : Addr → Prop}

theorem St.mut (T : St B h₀ P env σ O h) {x : String} {ds ds' : List D} {a : Addr} {vs' : List Value} (hx : σ.get x = some (.own ds)) (hv : VarIs env h (S x) (.ref a)) (hO : O a) (hne : a ≠ env.locals) {its} (hp0 : h.PlainList a its)
    (hs : ∀ b o, b ≠ a → h.get? b = some o → h'.get? b = some o) (hp : h'.PlainList a vs'.toArray) (r : RpAll h (fun b => P b ∨ O b) vs' ds') : St B h₀ P env (σ.put x (.own ds')) O h' := by
  have hk : ∀ b o, ¬ (P b ∨ O b) → h.get? b = some o → h'.get? b = some o := fun b o nb e => hs b o (fun q => nb (.inr (q ▸ hO))) e
  have hcell : ∀ y k, env.cells.lookup y = some k → k ≠ a := fun y k l q => by obtain ⟨⟨v, e⟩, _⟩ := T.cells y k l; exact plain_ne_cell hp0.isList e q.symm
  have mvv : ∀ {x w}, VarIs env h x w → VarIs env h' x w := by
    rintro x w (⟨kd, m, nn, e⟩ | ⟨kd, k, l, e⟩)
    · exact .inl ⟨kd, m, nn.at' fun o e => hs _ o (Ne.symm hne) e, e⟩
    · obtain ⟨o, e, d⟩ := e
      exact .inr ⟨kd, k, l, o, hs _ o (hcell _ _ l) e, d⟩
  have bck : ∀ {x w}, (∃ b, σ.get x = some b) → VarIs env h' (S x) w → VarIs env h (S x) w := by
    rintro x w ⟨b, hb⟩ hw
    obtain ⟨w', hw'⟩ := (T.vars x b hb).var
    rw [hw.fn (mvv hw')]; exact hw'
  have mv : ∀ {v d}, Rp h (fun a => P a ∨ O a) v d → Rp h' (fun a => P a ∨ O a) v d := fun r => r.mono hk fun _ _ n _ => n
  have mva : ∀ {v d}, RpAll h (fun a => P a ∨ O a) v d → RpAll h' (fun a => P a ∨ O a) v d := fun r => r.mono hk fun _ _ n _ => n
  have same : ∀ y es, σ.get y = some (.own es) → VarIs env h (S y) (.ref a) → y = x := fun y es hy hw => by
    by_cases q : y = x
    · exact q
    · exact (T.apart y x es ds a q hy hx hw hv).elim
  refine ⟨T.base, fun b o e => hs b o (fun q => by rw [q, T.new _ hO] at e; cases e) (T.keep b o e), T.plive, fun b q => ?_, T.new, T.ok, T.loc, let ⟨m, nn⟩ := T.ns; ⟨m, nn.at' fun o e => hs _ o (Ne.symm hne) e⟩, fun y k e => ?_, fun y b' e => ?_, fun y z ds₁ es₁ c ne hy hz vy vz => ?_⟩
  · by_cases q' : b = a
    · subst q'; obtain ⟨o, e⟩ := hp; exact ⟨_, e⟩
    · obtain ⟨o, e⟩ := T.live b q; exact ⟨o, hs b o q' e⟩
  · obtain ⟨⟨v, o, q, d⟩, f⟩ := T.cells y k e
    exact ⟨⟨v, o, hs _ o (hcell _ _ e) q, d⟩, f⟩
  · rw [Sto.get_put] at e
    by_cases q : x = y
    · subst q; simp only [if_true] at e; cases e
      exact ⟨a, vs', mvv hv, hO, hne, hp, mva r⟩
    · rw [if_neg q] at e
      have := T.vars y b' e
      cases b' with
      | val d => obtain ⟨w, hw, r'⟩ := this; exact ⟨w, mvv hw, mv r'⟩
      | own es =>
        obtain ⟨c, ws, hw, h1, h2, h3, h4⟩ := this
        have hca : c ≠ a := fun q' => q (same y es e (q' ▸ hw)).symm
        exact ⟨c, ws, mvv hw, h1, h2, h3.at fun o e => hs _ o hca e, mva h4⟩
  · rw [Sto.get_put] at hy hz
    have gy : ∃ b, σ.get y = some b := by by_cases q : x = y; exact ⟨_, q ▸ hx⟩; rw [if_neg q] at hy; exact ⟨_, hy⟩
    have gz : ∃ b, σ.get z = some b := by by_cases q : x = z; exact ⟨_, q ▸ hx⟩; rw [if_neg q] at hz; exact ⟨_, hz⟩
    have gy' : ∃ es, σ.get y = some (.own es) := by by_cases q : x = y; exact ⟨_, q ▸ hx⟩; rw [if_neg q] at hy; exact ⟨_, hy⟩
    have gz' : ∃ es, σ.get z = some (.own es) := by by_cases q : x = z; exact ⟨_, q ▸ hx⟩; rw [if_neg q] at hz; exact ⟨_, hz⟩
    obtain ⟨e1, hy'⟩ := gy'; obtain ⟨e2, hz'⟩ := gz'
    exact T.apart y z e1 e2 c ne hy' hz' (bck gy vy) (bck gz vz)

end

mutual
def D.of : PyData → D
  | .none => .none
  | .bool b => .bool b
  | .int i => .int i
  | .str x => .str x
  | .list xs => .list (D.ofAll xs)
  | .tuple xs => .tuple (D.ofAll xs)
  | .dict _ => .val .ellipsis
def D.ofAll : List PyData → List D
  | [] => []
  | x :: r => D.of x :: D.ofAll r
end
mutual
theorem Rp.reads {h : Heap} {X : Addr → Prop} : ∀ {q : PyData} {v : Value}, q.canLay0 = true → Rp h X v (D.of q) → ∃ as, Reads h v q as
  | .none, v, _, r => by rw [rp_val r]; exact ⟨_, Reads.none⟩
  | .bool b, v, _, r => by rw [rp_val r]; exact ⟨_, Reads.bool b⟩
  | .int i, v, _, r => by obtain ⟨t, rfl⟩ := rp_int r; exact ⟨_, Reads.int i t⟩
  | .str x, v, _, r => by obtain ⟨t, rfl⟩ := rp_str r; exact ⟨_, Reads.str x t⟩
  | .list xs, v, c, r => by
    rw [D.of] at r
    obtain ⟨a, vs, rfl, ⟨o, ho, hc, k, hd⟩, _, rs⟩ := rp_list r
    obtain ⟨as, q⟩ := RpAll.reads (by simpa [PyData.canLay0] using c) rs
    exact ⟨_, reads_list_at ho hc hd (by simpa using q)⟩
  | .tuple xs, v, c, r => by
    rw [D.of] at r
    obtain ⟨a, vs, rfl, ⟨o, ho, hc, k, hd⟩, _, rs⟩ := rp_tuple r
    obtain ⟨as, q⟩ := RpAll.reads (by simpa [PyData.canLay0] using c) rs
    exact ⟨_, reads_tuple_at ho hc hd (by simpa using q)⟩
  | .dict _, v, c, r => by simp [PyData.canLay0] at c
theorem RpAll.reads {h : Heap} {X : Addr → Prop} : ∀ {qs : List PyData} {vs : List Value}, PyData.canLayAll0 qs = true → RpAll h X vs (D.ofAll qs) → ∃ as, ReadsAll h vs qs as
  | [], vs, _, r => by rw [D.ofAll] at r; cases r; exact ⟨_, ReadsAll.nil⟩
  | q :: qs, vs, c, r => by
    rw [D.ofAll] at r
    cases r with | cons r rs =>
    simp only [PyData.canLayAll0, Bool.and_eq_true] at c
    obtain ⟨as, p⟩ := Rp.reads c.1 r
    obtain ⟨bs, p'⟩ := RpAll.reads c.2 rs
    exact ⟨_, ReadsAll.cons p p'⟩
end
section
variable {B : Bas} {n : Nat} {env : Env} {σ : Sto}
theorem cmp_ne_data {q q' : PyData} (h : SeqAt.shaped q = true) (h' : SeqAt.shaped q' = true) : Cmp B n .NotEq (D.of q) (D.of q') (!PyData.eqv q q') := fun A s E Q va vb bo ao hh r r' k => by
  obtain ⟨as, ra⟩ := Rp.reads (SeqAt.canLay_of_shaped h) r
  obtain ⟨bs, rb⟩ := Rp.reads (SeqAt.canLay_of_shaped h') r'
  exact SeqAt.compareNe_shaped ra rb h h' (by have := ao.units; omega) (k s (krefl s))
end

structure Ord (lt : Nat → Nat → Bool) : Prop where
  asym : ∀ i j, lt i j = true → lt j i = false
  trans : ∀ i j k, lt i j = false → lt j k = false → lt i k = false

section
variable {lt : Nat → Nat → Bool} {m : Nat}
abbrev g (p : Array Nat) (k : Nat) : Nat := p.getD k 0
variable (O : Ord lt)
include O
end

section
variable {B : Bas} {n : Nat} {env : Env} {σ : Sto} {p p' : Pos}
end

def bnames : List String := ["type", "NotImplemented", "len", "range", "min", "max", "sum", "sorted", "abs", "chr", "isinstance", "bool", "list", "zip", "str", "TypeError"]
def Free (B : Bas) : Prop := ∀ x ∈ bnames, B.mg (S x) = none

theorem boot_type : bootBuiltins (S "type") = some (.type "type") := by decide +kernel
theorem boot_ni : bootBuiltins (S "NotImplemented") = some .notImplemented := by decide +kernel
theorem boot_len : bootBuiltins (S "len") = some (.builtin "len") := by decide +kernel
theorem boot_range : bootBuiltins (S "range") = some (.type "range") := by decide +kernel
theorem boot_isinstance : bootBuiltins (S "isinstance") = some (.builtin "isinstance") := by decide +kernel
theorem boot_bool : bootBuiltins (S "bool") = some (.type "bool") := by decide +kernel

section
variable {B : Bas} {n : Nat} {env : Env} {σ : Sto} {e e' : Expr} {p p' : Pos} (fr : Free B)
include fr
theorem bn {x : String} {v : Value} (hk : env.kindOf (S x) = some .globalImplicit) (hb : bootBuiltins (S x) = some v) (h1 : x ∈ bnames := by decide) (h2 : x ≠ "__debug__" := by decide) (h3 : x ≠ "__name__" := by decide) : BootName B env x v := ⟨hk, fr x h1, hb, h2, h3⟩
theorem ev_ni (hk : env.kindOf (S "NotImplemented") = some .globalImplicit) : Ev B n env σ (.Name (S "NotImplemented") p) (.val .notImplemented) := ev_boot (bn fr hk boot_ni) rfl
theorem ev_len {ds : List D} (hk : env.kindOf (S "len") = some .globalImplicit) (v : EvW B n env σ e (.list ds)) (hsz : ds.length ≤ 1000000) (he : starEach [e] env = (false, eval e env) :: starEach [] env := by rfl) : Ev B n env σ (.Call (.Name (S "len") p') [e] [] p) (.int ds.length) :=
  ev_builtin (bn fr hk boot_len) (evasw_cons v evasw_nil he) (bi_len hsz) he
theorem ev_rng1 {i : Int} (hk : env.kindOf (S "range") = some .globalImplicit) (v : EvW B n env σ e (.int i)) (he : starEach [e] env = (false, eval e env) :: starEach [] env := by rfl) : Ev B n env σ (.Call (.Name (S "range") p') [e] [] p) (.range 0 i) :=
  ev_range1 (bn fr hk boot_range) v he
theorem ev_rng2 {i j : Int} (hk : env.kindOf (S "range") = some .globalImplicit) (v : EvW B n env σ e (.int i)) (v' : EvW B n env σ e' (.int j)) (he : starEach [e, e'] env = (false, eval e env) :: starEach [e'] env := by rfl) (he' : starEach [e'] env = (false, eval e' env) :: starEach [] env := by rfl)
    (hp : (backTo p (starEach [e'] env)).any (·.1) = false := by rfl) : Ev B n env σ (.Call (.Name (S "range") p') [e, e'] [] p) (.range i j) :=
  ev_range2 (bn fr hk boot_range) v v' he he' hp
end

structure Def where
  name : Str
  params : Arguments
  body : List Stmt
  scope : Scope
def defOfStmt : Stmt → Def
  | .FunctionDef name args body _ _ _ scope _ _ _ => ⟨name, args, body, scope⟩
  | _ => ⟨S "", ⟨[], [], none, [], [], none, []⟩, [], ⟨.function, [], false, false, []⟩⟩
def defAt (p : Program) (i : Nat) : Def := match p.main.body[i]? with
  | some s => defOfStmt s
  | none => defOfStmt (.Pass default)

structure HasDef (B : Bas) (x : String) (a : Addr) (d : Def) : Prop where
  mg : B.mg (S x) = some (.ref a)
  fn : FnAt B a d.name d.params d.body d.scope

theorem FEnv.glob {sc env x} (fe : FEnv sc env) (h : sc.names.lookup x = some .globalImplicit) : env.kindOf x = some .globalImplicit := by unfold Env.kindOf; rw [fe.scope]; exact h
theorem FEnv.loc {sc env x} (fe : FEnv sc env) (h : sc.names.lookup x = some .local) : env.kindOf x = some .local := by unfold Env.kindOf; rw [fe.scope]; exact h
theorem FEnv.sl {sc : Scope} {env : Env} {x : String} (fe : FEnv sc env) (h : sc.names.lookup (S x) = some .local) : Storable env x := .inl (fe.loc h)
theorem FEnv.sc {sc : Scope} {env : Env} {x : String} (fe : FEnv sc env) (h : sc.names.lookup (S x) = some .cell) : Storable env x := .inr ⟨by unfold Env.kindOf; rw [fe.scope]; exact h, fe.func, fe.cells _ h⟩
theorem CEnv.sl {sc : Scope} {env : Env} {x : String} (ce : CEnv sc env) (h : sc.names.lookup (S x) = some .local) : Storable env x := .inl (ce.loc _ h)

theorem ev_calld {B : Bas} {n : Nat} {env : Env} {σ : Sto} {e : Expr} {p p' : Pos} {x : String} {a : Addr} {d : Def} {es : List Expr} {ds : List D} {r : D} (F : HasDef B x a d) (hk : env.kindOf (S x) = some .globalImplicit)
    (as : EvAs B n env σ (e :: es) ds) (f : FnS B n a ds r) (hn : x ≠ "__debug__" := by decide) (he : starEach (e :: es) env = (false, eval e env) :: starEach es env := by rfl)
    (hc : eval (.Call (.Name (S x) p') (e :: es) [] p) env = (do callWith p (← eval (.Name (S x) p') env) [] (backTo p (starEach (e :: es) env)) (backToKw p (keywordEach [] env))) := by rfl) : Ev B n env σ (.Call (.Name (S x) p') (e :: es) [] p) r :=
  let ⟨_, _, _, _, ho, hd, _⟩ := F.fn.at_; ev_call hk F.mg ho hd as f hn he hc

def SubL : Sto → Sto → Prop
  | [], _ => True
  | (x, b) :: r, τ => τ.get x = some b ∧ SubL r τ
theorem SubL.get : ∀ {τ σ : Sto}, SubL τ σ → ∀ x b, τ.get x = some b → σ.get x = some b
  | [], _, _, x, b, h => by cases h
  | (y, c) :: r, σ, ⟨h1, h2⟩, x, b, h => by
    unfold Sto.get at h
    by_cases e : y = x
    · subst e; rw [if_pos rfl] at h; cases h; exact h1
    · rw [if_neg e] at h; exact h2.get x b h

section
variable {B : Bas} {n : Nat} {env : Env} {σ τ : Sto} {R : Fl → Sto → Prop}
theorem ex_sub {ss} (hs : SubL τ σ) (h : Ex B n env τ ss R) : Ex B n env σ ss R := fun h₀ P O A s E b a T => h h₀ P O A s E b a (T.forget hs.get)
theorem asg_sub {t d τ'} (hs : SubL τ σ) (h : Asg B n env τ t d τ') : Asg B n env σ t d τ' := fun h₀ P O A s E Q v b a T => h h₀ P O A s E Q v b a (T.forget hs.get)

theorem ex_forS {target iter : Expr} {body : List Stmt} {p : Pos} {ds : List D} (τ : List D → Sto) (x : EvIt true B n env σ iter ds) (h0 : SubL (τ []) σ)
    (turn : ∀ pre d post, ds = pre ++ d :: post → ∃ τ', Asg B n env (τ pre) target d τ' ∧
      Ex B n env τ' body (fun fl υ => match fl with | .next => SubL (τ (pre ++ [d])) υ | .cont => SubL (τ (pre ++ [d])) υ | .brk => R .next υ | .ret v => R (.ret v) υ))
    (done : ∀ υ, SubL (τ ds) υ → R .next υ) (hs : ∀ x, foldedSetIterable iter env x = pure x := by intro _; rfl) : Ex1 B n env σ (.For target iter body [] p) R :=
  ex_for (fun pre υ => SubL (τ pre) υ) x h0 (fun pre d post σ' e hs' => by
    obtain ⟨τ', ha, hex⟩ := turn pre d post e
    exact ⟨τ', asg_sub hs' ha, hex⟩) done hs

end

theorem ofInts_get {l : List Int} {k : Nat} (h : k < l.length) : (D.ofInts l)[k]? = some (.int (l.getD k 0)) := by
  simp [D.ofInts, List.getElem?_map, List.getD_eq_getElem?_getD, List.getElem?_eq_getElem h]
theorem evit_eq {f B n env σ e ds es} (x : EvIt f B n env σ e ds) (h : ds = es) : EvIt f B n env σ e es := h ▸ x
theorem evn_eq {B n env σ e ds es} (x : EvN B n env σ e ds) (h : ds = es) : EvN B n env σ e es := h ▸ x
theorem evw_eq {B n env σ e d d'} (x : EvW B n env σ e d) (h : d = d') : EvW B n env σ e d' := h ▸ x
theorem cmp_p {B n op a b t u} (x : Cmp B n op a b t) (h : t = u) : Cmp B n op a b u := h ▸ x
theorem swaps_true {env : Env} {x : String} {px : Pos} {elt : Expr} {gens : List Comprehension} {sc : Scope} {pos : Pos} {line : Nat} (hk : env.scope.kind = .function) (hx : env.kindOf (S x) = some .local) (hl : (px.line == pos.line) = true)
    (hn : (sc.names.any fun (n, k) => n == S x && (k == .local || k == .cell)) = false) : swapsWith (.ListComp elt gens sc pos) (some (.Name (S x) px)) line env = pure true := by
  unfold swapsWith
  simp only [Env.blockKind, hk, hx]
  have hl' : (px.line == (Expr.ListComp elt gens sc pos).pos.line) = true := hl
  simp only [hl', hn]
  try rfl
theorem FEnv.cell {sc env x} (fe : FEnv sc env) (h : sc.names.lookup x = some .cell) : env.kindOf x = some .cell := by unfold Env.kindOf; rw [fe.scope]; exact h
theorem compOk_of {sc0 sc : Scope} {env : Env} {caps : List String} (fe : FEnv sc0 env) (hk : sc.kind = .function) (h1 : ∀ y ∈ sc.names, y.2 ≠ .cell) (h2 : ∀ y ∈ sc.names, y.2 = .local → sc.names.lookup y.1 = some .local)
    (h3 : ∀ y ∈ sc.names, y.2 = .free → sc0.names.lookup y.1 = some .cell) (h4 : ∀ x ∈ caps, sc.names.lookup (S x) = some .free ∧ sc0.names.lookup (S x) = some .cell) : CompOk sc env caps :=
  ⟨hk, h1, h2, fun y hy e => fe.cells _ (h3 y hy e), fun x hx => ⟨(h4 x hx).1, .inl (fe.cell (h4 x hx).2)⟩⟩
theorem filt_true {α : Type} (l : List α) : (l.filter fun _ => true) = l := List.filter_eq_self.mpr (by simp)
section
variable {B : Bas} {n : Nat} {env : Env} {σ : Sto} {R : Fl → Sto → Prop}
end

def EvL (B : Bas) (n : Nat) (env : Env) (σ : Sto) (e : Expr) (ds : List D) : Prop :=
  ∀ (h₀ : Heap) (P O : Addr → Prop) (A : Around) (s : Shared) (E : Value → Shared → Prop) (Q : Value → Shared → Prop), B.Ok → AOk n A → St B h₀ P env σ O s.heap →
    (∀ a vs s', Keeps s s' → s'.heap.IsList a vs.toArray → RpAll s'.heap (fun b => P b ∨ O b) vs ds → Q (.ref a) s') → wpAny (model B.prog B.w) A (eval e env) Q E s
def EvP (B : Bas) (n : Nat) (env : Env) (σ : Sto) (x : Option Expr) (o : Option Int) : Prop :=
  ∀ (h₀ : Heap) (P O : Addr → Prop) (A : Around) (s : Shared) (E : Value → Shared → Prop) (Q : Value → Shared → Prop), B.Ok → AOk n A → St B h₀ P env σ O s.heap →
    (∀ v s', Keeps s s' → IsPart v o → Q v s') → wpAny (model B.prog B.w) A (evalPart x env) Q E s
section
variable {B : Bas} {n : Nat} {env : Env} {σ : Sto} {l e : Expr} {ds : List D} {p p' : Pos}
theorem evl_ev (x : Ev B n env σ l (.list ds)) : EvL B n env σ l ds := fun h₀ P O A s E Q bo ao T q => x h₀ P O A s E _ bo ao T fun v s' k r => by
  obtain ⟨a, vs, rfl, hl, _, rs⟩ := rp_list r
  exact q a vs s' k hl rs
theorem evp_none : EvP B n env σ none none := fun h₀ P O A s E Q _ _ _ q => wpAny_pure (q _ _ (krefl s) .none)
theorem evp_some {i : Int} (x : EvW B n env σ e (.int i)) : EvP B n env σ (some e) (some i) := fun h₀ P O A s E Q bo ao T q => x h₀ P O A s E _ bo ao T fun v s' k r => by
  obtain ⟨t, rfl⟩ := rp_int r
  exact q _ _ k (.int _ _)
theorem evn_slice {lower upper step : Option Expr} {lo hi st : Option Int} {es : List D} (x : EvL B n env σ l ds) (a : EvP B n env σ lower lo) (b : EvP B n env σ upper hi) (c : EvP B n env σ step st) (h0 : st ≠ some 0) (hsz : ds.length ≤ 1000000)
    (hes : ∀ (h : Heap) X (vs : List Value), RpAll h X vs ds → RpAll h X (slicePick vs.toArray lo hi st).toList es)
    (hs : ∀ a i, ∃ ops, subscripted (.Slice lower upper step p') false (.ref a) (.ref i) = operate ops (getItem (.ref a) (.ref i)) := by intro a i; exact ⟨_, by with_unfolding_all rfl⟩) : EvN B n env σ (.Subscript l (.Slice lower upper step p') p) es :=
  fun h₀ P O A s E Q bo ao T q => Subscript_ (x h₀ P O A s E _ bo ao T fun la vs s₁ k₁ hl rs => wpAny_Slice (a h₀ P O A s₁ E _ bo ao (T.kp k₁) fun vl s₂ k₂ pl => b h₀ P O A s₂ E _ bo ao ((T.kp k₁).kp k₂) fun vu s₃ k₃ pu => c h₀ P O A s₃ E _ bo ao (((T.kp k₁).kp k₂).kp k₃) fun vk s₄ k₄ pk => by
    have kk := ktrans (ktrans k₂ k₃) k₄
    have hl' : s₄.heap.IsList la vs.toArray := hl.at fun o e => kheap kk _ o e
    have rs' := rs.keeps (kheap kk)
    have hlen := rs.length
    obtain ⟨ops, hs⟩ := hs la s₄.heap.objs.size
    refine tail_any (Heap.IsList.typeIs (s := { s₄ with heap := s₄.heap.push { cls := .type "slice", data := .fields #[vl, vu, vk] } }) (hl'.push _)) list_getitem_lookup
      (wpAny_getItem_list_slice (hl'.push _) (Heap.IsSliceOf.new ..) pl pu pk h0 ?_ (by rw [sizeLine_eq, List.size_toArray]; omega)) hs
    have k5 : Keeps s { s₄ with heap := s₄.heap.push { cls := .type "slice", data := .fields #[vl, vu, vk] } } := ktrans (ktrans k₁ kk) (kpush' _ _)
    refine q _ (slicePick vs.toArray lo hi st).toList _ (ktrans k5 (kpush' _ _)) (fresh_kp k5) ⟨0, ?_⟩ (RpAll.beside (h := s₄.heap.push _) (hes _ _ _ (rs'.keeps fun b o e => Heap.get?_push_of_some _ e)) _)
    rw [Array.toArray_toList]
    exact Heap.get?_push_size _ rfl))
theorem evn_cut {lower upper : Option Expr} {lo hi : Option Int} (x : EvL B n env σ l ds) (a : EvP B n env σ lower lo) (b : EvP B n env σ upper hi) (hsz : ds.length ≤ 1000000)
    (hs : ∀ a i, ∃ ops, subscripted (.Slice lower upper none p') false (.ref a) (.ref i) = operate ops (getItem (.ref a) (.ref i)) := by intro a i; exact ⟨_, by with_unfolding_all rfl⟩) : EvN B n env σ (.Subscript l (.Slice lower upper none p') p) ((ds.drop (lo.elim 0 (clipAt ds.length))).take (hi.elim ds.length (clipAt ds.length) - lo.elim 0 (clipAt ds.length))) :=
  evn_slice x a b evp_none (by simp) hsz (fun h X vs r => by
    rw [slicePick_plain]
    have e : vs.toArray.size = ds.length := by rw [List.size_toArray, r.length]
    rw [e]
    exact (r.drop _).take _) hs
theorem ints_rp' {h : Heap} {X : Addr → Prop} : ∀ {vs : List Value} {ns : List Int}, IntsAre vs ns → RpAll h X vs (D.ofInts ns)
  | _, _, .nil => .nil
  | _, _, .cons n t r => .cons (.int n t) (ints_rp' r)
end
section
variable {B : Bas} {n : Nat}
end

section
variable {B : Bas} {n : Nat} {env : Env} {σ : Sto} {R : Fl → Sto → Prop}
theorem ev_gfn {x : String} {a : Addr} {d : Def} {p : Pos} (F : HasDef B x a d) (hk : env.kindOf (S x) = some .globalImplicit) (hn : x ≠ "__debug__" := by decide) : Ev B n env σ (.Name (S x) p) (.val (.ref a)) :=
  fun h₀ P O A s E Q bo ao T q => wp_glob bo T hk F.mg (by
    obtain ⟨o, pm, cd, doc, ho, hd, _⟩ := F.fn.at_
    refine q _ s (krefl s) (.fn a o _ (T.here _ _ ho) hd fun z => ?_)
    have := (T.xlive z).2
    rw [ho] at this; cases this) hn
end

section
variable {B : Bas} {n : Nat}
end

section
variable {B : Bas} {n : Nat}
end

def hf (s : Int) : UInt64 := Float64.ofFrac (decide (s < 0) != decide ((2 : Int) < 0)) s.natAbs (2 : Int).natAbs
section
variable {B : Bas} {n : Nat} {i j : Int}
end

section
variable {prog : Program} {w : World} {A : Around} {E : Value → Shared → Prop} {s : Shared}
end

section
variable {B : Bas} {n : Nat}
end

section
variable {B : Bas} {n : Nat} {env : Env} {σ : Sto} {R : Fl → Sto → Prop}
theorem cmp_ne_bools (l m : List Bool) : Cmp B n .NotEq (.list (l.map D.bool)) (.list (m.map D.bool)) (!(l == m)) := by
  have e0 : ∀ l : List Bool, D.of (.list (l.map PyData.bool)) = .list (l.map D.bool) := by
    intro l
    rw [D.of]
    congr 1
    induction l with
    | nil => rfl
    | cons a r ih => simp only [List.map_cons, D.ofAll, D.of, ih]
  have cl : ∀ l : List Bool, PyData.canLayAll0 (l.map PyData.bool) = true := by
    intro l
    induction l with
    | nil => rfl
    | cons a r ih => simp [PyData.canLayAll0, PyData.canLay0, ih]
  have sh : ∀ l : List Bool, SeqAt.shaped (.list (l.map PyData.bool)) = true := by
    intro l
    have hd : ∀ l : List Bool, PyData.depthAll (l.map PyData.bool) ≤ 1 := by
      intro l
      induction l with
      | nil => simp [PyData.depthAll]
      | cons a r ih => simp only [List.map_cons, PyData.depthAll, PyData.depth]; omega
    unfold SeqAt.shaped
    rw [show PyData.canLay0 (.list (l.map PyData.bool)) = true from cl l, Bool.true_and]
    have := hd l
    refine decide_eq_true ?_
    simp only [PyData.depth]; omega
  have ev : ∀ l m : List Bool, PyData.eqv (.list (l.map .bool)) (.list (m.map .bool)) = (l == m) := by
    intro l
    show ∀ m : List Bool, PyData.eqvAll _ _ = _
    induction l with
    | nil => intro m; cases m <;> rfl
    | cons a r ih => intro m; cases m with
      | nil => rfl
      | cons b t => simp only [List.map_cons, PyData.eqvAll, PyData.eqv, ih]; rfl
  have := cmp_ne_data (B := B) (n := n) (sh l) (sh m)
  rwa [e0, e0, ev] at this
end

def unN : List Int → (Int × Int) × Int
  | [a, b, c] => ((a, b), c)
  | _ => ((0, 0), 0)
section
variable {B : Bas} {n : Nat} {env : Env} {σ : Sto} {p p' : Pos}
end

section
variable {B : Bas} {n : Nat} {env : Env} {σ τ : Sto} {R : Fl → Sto → Prop} {e : Expr} {p : Pos}
end

section
variable {M : Model} {A : Around} {E : Value → Shared → Prop} {s : Shared}
end
section
variable {prog : Program} {w : World} {A : Around} {E : Value → Shared → Prop} {s : Shared}
end

section
variable {prog : Program} {w : World} {A : Around} {E : Value → Shared → Prop} {s : Shared}
end

section
variable {B : Bas} {n : Nat} {env : Env} {σ : Sto}
end

theorem st_call {B : Bas} {a : Addr} {name : Str} {params : Arguments} {body : List Stmt} {scope : Scope} {xs : List String} {ds : List D} {P : Addr → Prop} {s s₁ : Shared} {vs : List Value} {pm cd doc} (hk : scope.kind = .function) (hlen : xs.length = ds.length) (hnd : xs.Nodup)
    (hkind : ∀ x ∈ xs, scope.names.lookup (S x) = some .local ∨ scope.names.lookup (S x) = some .cell) (hh : B.Here s.heap) (hP : ∀ x, P x → (∃ o, s.heap.get? x = some o) ∧ B.hB.get? x = none) (r : RpAll s.heap P vs ds)
    (C : InCallC s (callEnvC (docDef name params body scope pm cd doc) s.heap.objs.size a).locals (bindL (callEnvC (docDef name params body scope pm cd doc) s.heap.objs.size a).kindOf ((xs.map S).zip vs) fun _ => none) (callEnvC (docDef name params body scope pm cd doc) s.heap.objs.size a).cells (bindC (callEnvC (docDef name params body scope pm cd doc) s.heap.objs.size a).kindOf ((xs.map S).zip vs) fun _ => none) s₁) :
    ∃ env, callEnvC (docDef name params body scope pm cd doc) s.heap.objs.size a = env ∧ FEnv scope env ∧ env.frame = some env.locals ∧ Keeps s s₁ ∧ s.heap.get? env.locals = none ∧ St B s.heap P env (binds0 xs ds) (fun b => b = env.locals ∨ ∃ x, env.cells.lookup x = some b) s₁.heap := by
  have hvl : vs.length = xs.length := by rw [r.length, hlen]
  generalize henv : callEnvC (docDef name params body scope pm cd doc) s.heap.objs.size a = env at C
  have hsc : env.scope = scope := by rw [← henv]; rfl
  have hloc : env.locals = s.heap.objs.size := by rw [← henv]; rfl
  have hfrm : env.frame = some env.locals := by rw [← henv]; rfl
  have hfn : env.func.isSome = true := by rw [← henv]; rfl
  have hgl : env.globals = mainGlobals := by rw [← henv]; rfl
  have hbi : env.builtins = builtinsNs := by rw [← henv]; rfl
  have hcells : env.cells = cellsFrom (s.heap.objs.size + 1) scope.names [] := by rw [← henv]; rfl
  have fe : FEnv scope env := ⟨hsc, hfn, fun x hx => by rw [hcells]; exact cellsFrom_some _ _ _ _ (.inl hx)⟩
  have kK : Keeps s s₁ := C.toInCall.done
  have nodup : (((xs.map S).zip vs).map (·.1)).Nodup := by
    rw [List.map_fst_zip (by simp [hvl])]
    exact List.Pairwise.map S (fun a b ne e => ne (S_inj e)) hnd
  have notold : ∀ b, s.heap.objs.size ≤ b → s.heap.get? b = none := fun b hb => fresh_of hb
  have hnew : ∀ b, (b = env.locals ∨ ∃ x, env.cells.lookup x = some b) → s.heap.get? b = none := by
    rintro b (e | ⟨x, hx⟩)
    · subst e; exact notold _ (Nat.le_of_eq hloc.symm)
    · have := C.above x b (PySem.mem_of_lookup hx); exact notold _ (Nat.le_of_lt (by rw [hloc] at this; exact this))
  refine ⟨env, rfl, fe, hfrm, kK, hnew _ (.inl rfl), ?_⟩
  have rx : RpAll s₁.heap (fun b => P b ∨ (b = env.locals ∨ ∃ x, env.cells.lookup x = some b)) vs ds := r.mono (fun a o _ e => kheap kK a o e) fun a o np e => by
    rintro (q | q)
    · exact np q
    · rw [hnew a q] at e; cases e
  refine ⟨hh, C.toInCall.keep, hP, ?_, hnew, ⟨by rw [hsc]; exact hk, hgl, hbi, fun x y c h1 h2 => lookup_apart C.apart h1 h2⟩, .inl rfl, ⟨_, C.toInCall.ns⟩, fun x c l => ⟨⟨_, C.cell x c l⟩, fun _ => .inr ⟨x, l⟩⟩, fun x b hb => ?_, ?_⟩
  · rintro b (e | ⟨x, hx⟩)
    · subst e; obtain ⟨o, _, _, e, _⟩ := C.toInCall.ns; exact ⟨o, e⟩
    · obtain ⟨o, e, _⟩ := C.cell x b hx; exact ⟨o, e⟩
  · obtain ⟨d', v, rfl, rv, hm⟩ := binds0_get rx hlen hb
    refine ⟨v, ?_, rv⟩
    have hxm : x ∈ xs := by
      have := (List.of_mem_zip hm).1
      obtain ⟨y, hy, e⟩ := List.mem_map.mp this
      rwa [← S_inj e]
    rcases hkind x hxm with kx | kx
    · refine .inl ⟨by unfold Env.kindOf; rw [hsc]; exact kx, _, C.toInCall.ns, ?_⟩
      exact bindL_get (by unfold Env.kindOf; rw [hsc]; exact kx) _ _ nodup hm
    · obtain ⟨c, hc⟩ := Option.isSome_iff_exists.mp (fe.cells _ kx)
      refine .inr ⟨.inl (by unfold Env.kindOf; rw [hsc]; exact kx), c, hc, ?_⟩
      have := C.cell _ _ hc
      rwa [bindC_get (by unfold Env.kindOf; rw [hsc, kx]; intro q; cases q) _ _ nodup hm] at this
  · intro x y ds' es a' ne hx
    obtain ⟨_, _, e, _⟩ := binds0_get r hlen hx; cases e

section
variable {B : Bas} {n : Nat} {A : Around} {env : Env} {σ τ : Sto} {R : Fl → Sto → Prop}
end

open Classical in
section
variable {B : Bas} {n : Nat} {env : Env} {σ : Sto} {P O W : Addr → Prop} {h₀ h h₁ : Heap}
end
section
variable {B : Bas} {n : Nat} {env : Env} {σ : Sto} {R : Fl → Sto → Prop}
end

section
variable {prog : Program} {w : World} {A : Around} {E : Value → Shared → Prop} {s : Shared}
end
section
variable {prog : Program} {w : World} {A : Around} {E : Value → Shared → Prop} {s : Shared}
end
section
variable {B : Bas} {n : Nat}
end
theorem VarIs.but {env : Env} {h h' : Heap} {x v} {Z : List Addr} (y : VarIs env h x v) (hk : ∀ b o, b ∉ Z → h.get? b = some o → h'.get? b = some o) (hl : env.locals ∉ Z) (hc : ∀ x c, env.cells.lookup x = some c → c ∉ Z) : VarIs env h' x v := by
  rcases y with ⟨k, m, ⟨o, es, ep, e, d, r⟩, ev⟩ | ⟨k, c, l, o, e, d⟩
  · exact .inl ⟨k, m, ⟨o, es, ep, hk _ _ hl e, d, r⟩, ev⟩
  · exact .inr ⟨k, c, l, o, hk _ _ (hc _ _ l) e, d⟩

theorem St.leaveZ {B : Bas} {h₀ h h' : Heap} {env : Env} {σ : Sto} {O : Addr → Prop} {Z : List Addr} (T : St B h₀ (fun a => a ∈ Z) env σ O h) (hf : env.func.isSome = true) (hk : ∀ b o, b ∉ Z → h.get? b = some o → h'.get? b = some o) :
    St B (hideAll h₀ Z) (fun _ => False) env σ O h' := by
  have nz : ∀ a, O a → a ∉ Z := fun a q z => by obtain ⟨⟨o, e⟩, _⟩ := T.plive a z; rw [T.new a q] at e; cases e
  have hl := nz _ T.loc
  have hc : ∀ x c, env.cells.lookup x = some c → c ∉ Z := fun x c l => nz _ ((T.cells x c l).2 hf)
  have mv : ∀ {x v}, VarIs env h x v → VarIs env h' x v := fun y => y.but hk hl hc
  have hkx : ∀ a o, ¬ (a ∈ Z ∨ O a) → h.get? a = some o → h'.get? a = some o := fun a o n e => hk a o (fun z => n (.inl z)) e
  have hx : ∀ a o, ¬ (a ∈ Z ∨ O a) → h.get? a = some o → ¬ (False ∨ O a) := fun a o n _ q => n (q.elim False.elim .inr)
  have bck : ∀ {x w}, (∃ b, σ.get x = some b) → VarIs env h' (S x) w → VarIs env h (S x) w := by
    rintro x w ⟨b, hb⟩ hw
    obtain ⟨w', hw'⟩ := (T.vars x b hb).var
    rw [hw.fn (mv hw')]; exact hw'
  refine ⟨fun b o e => hideAll_get _ (T.base b o e) (fun z => by rw [(T.plive b z).2] at e; cases e), fun b o e => ?_, fun a q => q.elim, fun a q => ?_, fun a q => ?_, T.ok, T.loc, ?_, fun x c l => ?_, fun x b e => ?_, fun x y ds es a ne hx' hy vx vy => ?_⟩
  · have nb : b ∉ Z := fun z => by rw [hideAll_none _ z] at e; cases e
    exact hk b o nb (T.keep b o (of_hideAll _ e))
  · obtain ⟨o, e⟩ := T.live a q; exact ⟨o, hk _ _ (nz a q) e⟩
  · cases e : (hideAll h₀ Z).get? a with
    | none => rfl
    | some o => have := of_hideAll _ e; rw [T.new a q] at this; cases this
  · obtain ⟨m, o, es, ep, e, d, r⟩ := T.ns
    exact ⟨m, o, es, ep, hk _ _ hl e, d, r⟩
  · obtain ⟨⟨v, o, e, d⟩, g⟩ := T.cells x c l
    exact ⟨⟨v, o, hk _ _ (hc x c l) e, d⟩, g⟩
  · have := T.vars x b e
    cases b with
    | val d => obtain ⟨v, hv, r⟩ := this; exact ⟨v, mv hv, r.mono hkx hx⟩
    | own ds =>
      obtain ⟨a, vs, hv, h1, h2, ⟨k, h3⟩, h4⟩ := this
      exact ⟨a, vs, mv hv, h1, h2, ⟨k, hk _ _ (nz a h1) h3⟩, h4.mono hkx hx⟩
  · exact T.apart x y ds es a ne hx' hy (bck ⟨_, hx'⟩ vx) (bck ⟨_, hy⟩ vy)

theorem lawZ_of {B : Bas} {n : Nat} {A : Around} {a c : Addr} {name : Str} {params : Arguments} {body : List Stmt} {scope : Scope} {xs : List String} {ds : List D} {Z : List Addr}
    (F : ∃ o pm doc, B.hB.get? a = some o ∧ o.data = .func (docDef name params body scope pm (.ref c) doc) ∧ B.hB.CodeRec (.ref c) name) (hk : scope.kind = .function)
    (hbind : ∀ pm cd doc vs, vs.length = xs.length → bindArgs (docDef name params body scope pm cd doc) ⟨vs, []⟩ = pure ((xs.map S).zip vs)) (hlen : xs.length = ds.length) (hnd : xs.Nodup)
    (hkind : ∀ x ∈ xs, scope.names.lookup (S x) = some .local ∨ scope.names.lookup (S x) = some .cell)
    (hco : scope.isCoroutine = false := by rfl) (hgen : scope.isGenerator = false := by rfl) (s : Shared) (E : Value → Shared → Prop) (Q : Value → Shared → Prop) (vs : List Value) (bo : B.Ok) (ao : AOk (n + 1) A) (hh : B.Here s.heap) (hP : ∀ x, x ∈ Z → (∃ o, s.heap.get? x = some o) ∧ B.hB.get? x = none) (r : RpAll s.heap (fun x => x ∈ Z) vs ds)
    (h : ∀ env A' O s₁ E', FEnv scope env → env.code = .ref c → env.func.isSome = true → env.globals = mainGlobals → env.builtins = builtinsNs → AOk n A' → Keeps s s₁ → St B s.heap (fun x => x ∈ Z) env (binds0 xs ds) O s₁.heap →
      wpAny (model B.prog B.w) A' (execs body env) (fun f s' => Q (match f with | .ret v => v | _ => .none) s') E' s₁) :
    wpAny (model B.prog B.w) A (call (.ref a) vs) Q E s := by
  obtain ⟨o, pm, doc, ho, hd, hcd⟩ := F
  have hvl : vs.length = xs.length := by rw [r.length, hlen]
  refine wpAny_call (codeAny_mono (codeAny_call_cells (R := fun res s' => ∃ v, res = .ok (.ret v) ∧ Q v s') (by have := ao.depth; omega) (hh _ _ ho) hd (bo.nolimit.keeps hh) (hcd.keeps hh) rfl (hbind pm (.ref c) doc vs hvl) rfl ?_ ?_ hco hgen hk) ?_)
  · intro x hx
    obtain ⟨y, hy, e⟩ : ∃ y ∈ xs, x.1 = S y := by
      have := List.of_mem_zip hx
      obtain ⟨y, hy, e⟩ := List.mem_map.mp this.1
      exact ⟨y, hy, e.symm⟩
    rw [e]
    rcases hkind y hy with q | q
    · exact .inl q
    · exact .inr ⟨q, cellsFrom_some _ _ _ _ (.inl q)⟩
  · intro s₁ C
    obtain ⟨env, henv, fe, hfrm, kK, hnl, T⟩ := st_call hk hlen hnd hkind hh hP r C
    have hcode : env.code = .ref c := by rw [← henv]; rfl
    rw [henv]
    refine wpAny_mono (h env (A.deeper env) _ s₁ _ fe hcode fe.func T.ok.globals T.ok.builtins ⟨ao.handled, by have := ao.depth; show A.depth + 1 + n < _; omega, by have := ao.units; show A.units + 3 + 5 * n + 100 < _; omega⟩ kK T) (fun f s' z => ⟨_, rfl, z⟩) fun _ _ z => z
  · rintro res s' ⟨v, rfl, z⟩
    exact z

theorem callWith_clsD {prog : Program} {w : World} {A : Around} {E : Value → Shared → Prop} {s : Shared} {env : Env} {pos : Pos} {e : Expr} {rest : List Expr} {C : Addr} {oC : Obj} {cd : ClassData} {Q : Value → Shared → Prop} (hcl : oC.cls = .type "type") (hcd : oC.data = .cls cd)
    (h : wpAny (model prog w) A (spliced (backTo pos (starEach (e :: rest) env))) (fun vs s₁ => s₁.heap.get? C = some oC ∧ wpAny (model prog w) A (call (.ref C) vs) Q E s₁) E s)
    (he : starEach (e :: rest) env = (false, eval e env) :: starEach rest env := by rfl)
    (hplain : (backTo pos (starEach rest env)).any (·.1) = false := by rfl) :
    wpAny (model prog w) A (callWith pos (.ref C) [] (backTo pos (starEach (e :: rest) env)) []) Q E s := by
  rw [he] at h ⊢
  have hst : ((backTo pos ((false, eval e env) :: starEach rest env)).any (fun x => x.fst) || ([] : List (Option Str × Sem Value)).any fun x => x.fst.isNone) = false := by
    show ((false || (backTo pos (starEach rest env)).any (·.1)) || false) = false
    rw [hplain]; rfl
  unfold callWith
  refine wpAny_bind (wpAny_holding (Calls.evalArgs_plain (wpAny_mono h (fun vs s₁ h₁ => ?_) fun _ _ x => x)))
  obtain ⟨hh, g, d, t, os⟩ := s₁
  obtain ⟨hC, hcall⟩ := h₁
  obtain ⟨c, dd, dt, sl⟩ := oC
  dsimp only at hcl hcd
  subst hcl hcd
  have f1 := tc_lookup
  have hT : (⟨hh, g, d, t, os⟩ : Shared).TypeIs (.ref C) "type" := ⟨_, hC, rfl⟩
  refine wpAny_bind (wpAny_standAt ?_)
  show wpAny _ _ (keeperOf (.ref C) >>= _) _ _ _
  unfold keeperOf specialOf
  repeat (any_goals (first | assumption | with_reducible refine wpAny_loadPart_at hC ?_ | with_reducible refine wpAny_load' hC ?_ | wp_step))
  rw [if_pos (by rfl), hst]
  show wpAny _ _ (call (.ref C) vs [] >>= fun r => do holding [r] point; pure r) _ _ _
  exact wpAny_bind (wpAny_mono hcall (fun r s' hr => wpAny_bind (wpAny_holding (wpAny_point (wpAny_pure hr)))) fun _ _ x => x)

def lastHash (o : Obj) : Int := match o.data with | .dict es _ => (match es.toList.getLast? with | some e => e.hash | none => 0) | _ => 0
def lastTok (o : Obj) : Tok := match o.data with | .dict es _ => (match es.toList.getLast? with | some e => (match e.key with | .str _ t => t | _ => 0) | none => 0) | _ => 0
def putO (es : Array DictEntry) (n : Nat) (x : Str) (v : Value) (hv : Int) (tv : Tok) : Obj := { cls := .type "dict", data := .dict (es.push ⟨hv, .str x tv, v⟩) n }
section
variable {α : Type} {prog : Program} {w : World} {A : Around} {E : Value → Shared → Prop} {Q : α → Shared → Prop} {h₀ h : Heap} {g : Array GenState} {d : Drawn} {t : Nat} {os : OsState} {chg news : List (Addr × Obj)}
theorem m_load (D : Mem h₀ h chg news) (i : Nat) {a : Addr} {q : Option Value} {k : Obj → Sem α} {o : Obj} (hi : news[i]? = some (a, o)) (x : wpAny (model prog w) A (k o) Q E ⟨h, g, d, t, os⟩) : wpAny (model prog w) A (.load a q k) Q E ⟨h, g, d, t, os⟩ :=
  x_load (D.at i a o hi) x
theorem m_loadN (D : Mem h₀ h [] news) {a : Addr} {q : Option Value} {k : Obj → Sem α} {o : Obj} (e : h₀.get? a = some o) (x : wpAny (model prog w) A (k o) Q E ⟨h, g, d, t, os⟩) : wpAny (model prog w) A (.load a q k) Q E ⟨h, g, d, t, os⟩ :=
  x_load (D.keep a o e (by rw [show away [] a = true from rfl, Bool.or_true])) x
theorem m_alloc (D : Mem h₀ h chg news) {o : Obj} {k : Addr → Sem α} (hf : o.isFreed = false) (x : ∀ a h', Mem h₀ h' chg ((a, o) :: news) → wpAny (model prog w) A (k a) Q E ⟨h', g, d, t, os⟩) : wpAny (model prog w) A (.alloc o k) Q E ⟨h, g, d, t, os⟩ :=
  wpAny_bind (m := alloc o) (f := k) (wpAny_alloc (x _ _ (D.alloc hf)))
theorem m_update (D : Mem h₀ h chg news) (i : Nat) {a : Addr} {q : Option Value} {f : Obj → Obj} {k : Unit → Sem α} {o : Obj} (hi : news[i]? = some (a, o)) (hf : (f o).isFreed = false) (x : ∀ h', Mem h₀ h' chg (news.set i (a, f o)) → wpAny (model prog w) A (k ()) Q E ⟨h', g, d, t, os⟩) : wpAny (model prog w) A (.update a q f k) Q E ⟨h, g, d, t, os⟩ :=
  wpAny_bind (m := updatePart a q f) (f := k) (wpAny_updatePart (D.at i a o hi) (x _ (D.update hi hf)))
theorem m_call {c : Code} {hd : Option Value} {gg : Bool} {l : List Value} {k : Result → Sem α} {s : Shared} (hnb : hd ≠ some byPass) (x : wpAny (model prog w) ((A.mark hd).under c) (denote PySem.W.XFast.tableX c) (fun fin s' => match fin with | .done f => wpAny (model prog w) A (k (.ok f)) Q E s' | .again c' => c'.quiet = true ∧ codeAny (model prog w) (A.mark hd) c' (fun r s' => wpAny (model prog w) A (k r) Q E s') s') (fun e s' => wpAny (model prog w) A (k (.error e)) Q E s') s) : wpAny (model prog w) A (.call c hd gg l k) Q E s :=
  x_call (x_code (by rw [show table = PySem.W.XFast.tableX from PySem.W.XFast.tableX_eq]; exact wpAny_mono x (fun fin s' h => by cases fin <;> exact h) fun _ _ h => h)) hnb
theorem m_again {c : Code} {R : Result → Shared → Prop} {s : Shared} (hq : c.quiet = true) (x : wpAny (model prog w) (A.under c) (denote PySem.W.XFast.tableX c) (fun fin s' => match fin with | .done f => R (.ok f) s' | .again c' => c'.quiet = true ∧ codeAny (model prog w) A c' R s') (fun e s' => R (.error e) s') s) : c.quiet = true ∧ codeAny (model prog w) A c R s :=
  ⟨hq, x_code (by rw [show table = PySem.W.XFast.tableX from PySem.W.XFast.tableX_eq]; exact x)⟩
theorem m_stack {k : List (Code × Pos) → Sem α} {s : Shared} (x : ∀ st, Lies A st → wpAny (model prog w) A (k st) Q E s) : wpAny (model prog w) A (.stack k) Q E s := fun Γ p hΓ => x _ (lies_of hΓ) Γ p hΓ
theorem m_bool {f t' : Sem α} {M : Bool} {s : Shared} (b : Bool) (e : M = b) (x : wpAny (model prog w) A (@Bool.rec (fun _ => Sem α) f t' b) Q E s) : wpAny (model prog w) A (@Bool.rec (fun _ => Sem α) f t' M) Q E s := by rw [e]; exact x
theorem or_mid (x z : Bool) : (x || true || z) = true := by cases x <;> rfl
theorem m_eq {t₁ t₂ : Sem α} {s : Shared} (e : t₁ = t₂) (x : wpAny (model prog w) A t₂ Q E s) : wpAny (model prog w) A t₁ Q E s := by rw [e]; exact x
theorem filt_self {inst : DecidableEq Value} (a : Addr) : List.filter (fun x => @bne Value (@instBEqOfDecidableEq _ inst) x (.ref a)) [.ref a, .type "object"] = [.type "object"] := by
  simp
theorem m_upd (D : Mem h₀ h chg news) (i : Nat) {a : Addr} {q : Option Value} {f : Obj → Obj} {k : Unit → Sem α} {o : Obj} (hi : news[i]? = some (a, o)) (o' : Obj) (e : f o = o') (hf : o'.isFreed = false) (x : ∀ h', Mem h₀ h' chg (news.set i (a, o')) → wpAny (model prog w) A (k ()) Q E ⟨h', g, d, t, os⟩) : wpAny (model prog w) A (.update a q f k) Q E ⟨h, g, d, t, os⟩ :=
  m_update D i hi (by rw [e]; exact hf) (by rw [e]; exact x)
theorem m_put (D : Mem h₀ h chg news) (i : Nat) {a : Addr} {q : Option Value} {f : Obj → Obj} {k : Unit → Sem α} {o : Obj} (hi : news[i]? = some (a, o)) (es : Array DictEntry) (n : Nat) (y : Str) (v : Value) (e : f o = putO es n y v (lastHash (f o)) (lastTok (f o))) (x : ∀ hv tv h', Mem h₀ h' chg (news.set i (a, putO es n y v hv tv)) → wpAny (model prog w) A (k ()) Q E ⟨h', g, d, t, os⟩) : wpAny (model prog w) A (.update a q f k) Q E ⟨h, g, d, t, os⟩ :=
  m_upd D i hi _ e rfl (x _ _)
theorem m_decF {M : Bool} {f : ¬ (M = true) → Sem α} {t' : M = true → Sem α} {inst : Decidable (M = true)} {s : Shared} (e : M = false) (x : wpAny (model prog w) A (f (by rw [e]; exact Bool.false_ne_true)) Q E s) : wpAny (model prog w) A (@Decidable.rec (M = true) (fun _ => Sem α) f t' inst) Q E s := by
  cases inst with
  | isTrue h => rw [e] at h; cases h
  | isFalse h => exact x
theorem cont_self {inst : DecidableEq Value} (C : Addr) (l : List Value) : @List.contains Value (@instBEqOfDecidableEq _ inst) (.ref C :: l) (.ref C) = true := by simp
theorem m_allocE {o : Obj} {k : Addr → Sem α} (hf : o.isFreed = false) (x : wpAny (model prog w) A (k h.objs.size) Q E ⟨h.push o, g, d, t, os⟩) : wpAny (model prog w) A (.alloc o k) Q E ⟨h, g, d, t, os⟩ :=
  wpAny_bind (m := alloc o) (f := k) (wpAny_alloc x)
theorem loop_eq {γ β : Type} {as as' : List γ} (e : as = as') (f : (a : γ) → a ∈ as → β → Sem (ForInStep β)) (b : β) (hh : ∃ bs, bs ++ as = as) : List.forIn'.loop as f as b hh = List.forIn'.loop as' (fun a ha => f a (e ▸ ha)) as' b ⟨[], rfl⟩ := by
  subst e; rfl
theorem after_self {inst : DecidableEq Value} (C : Addr) (l : List Value) : List.drop 1 (List.dropWhile (fun x => @bne Value (@instBEqOfDecidableEq _ inst) x (.ref C)) (.ref C :: l)) = l := by simp
theorem beq_ref_self {inst : DecidableEq Value} (C : Addr) : @BEq.beq Value (@instBEqOfDecidableEq _ inst) (.ref C) (.ref C) = true := by simp
theorem cond_t {γ : Type} (x y : γ) : X.condFn γ true x y = x := rfl
theorem m_fresh {k : Tok → Sem α} (x : wpAny (model prog w) A (k t) Q E ⟨h, g, d, t + 1, os⟩) : wpAny (model prog w) A (.fresh k) Q E ⟨h, g, d, t, os⟩ := x_fresh x
end
section
variable {α : Type} {prog : Program} {w : World} {A : Around} {E : Value → Shared → Prop} {Q : α → Shared → Prop} {s : Shared}
theorem m_keep {vs : List Value} {m : Sem α} (x : wpAny (model prog w) A m Q E s) : wpAny (model prog w) A (m.keep vs) Q E s := fun Γ p hΓ => by
  rw [Sem.wp_keep]; exact x Γ p hΓ
end
section
variable {α : Type} {prog : Program} {w : World} {A : Around} {E : Value → Shared → Prop} {Q : α → Shared → Prop} {h₀ h : Heap} {g : Array GenState} {d : Drawn} {t : Nat} {os : OsState} {news : List (Addr × Obj)}
theorem away_one {z b : Addr} {x : Obj} (ne : b ≠ z) : away [(z, x)] b = true := by
  show (!(Nat.beq z b) && true) = true
  cases q : Nat.beq z b with
  | false => rfl
  | true => exact absurd (Nat.eq_of_beq_eq_true q).symm ne
theorem m_loadZ {z : Addr} {ox : Obj} (D : Mem h₀ h [(z, ox)] news) {a : Addr} {q : Option Value} {k : Obj → Sem α} {o : Obj} (e : h₀.get? a = some o) (ne : a ≠ z) (x : wpAny (model prog w) A (k o) Q E ⟨h, g, d, t, os⟩) : wpAny (model prog w) A (.load a q k) Q E ⟨h, g, d, t, os⟩ :=
  x_load (D.keep a o e (by rw [away_one ne, Bool.or_true])) x
end
local macro_rules | `(tactic| walk_at "qs_p1") => `(tactic| first
  | with_reducible refine x_rule ?_ | with_reducible refine x_at ?_ | with_reducible refine x_point ?_ | with_reducible refine x_ask ?_ | with_reducible refine m_fresh ?_ | with_reducible refine x_handled ?_
  | ((with_reducible show wpAny _ _ (Sem.load _ _ _) _ _ _); (conv => arg 3; arg 1; whnf); first | (refine' m_loadN ?D ?e ?_; (case D => with_reducible assumption); (case e => with_reducible assumption)) | (refine' m_loadZ ?D ?e ?hc ?_; (case D => with_reducible assumption); (case e => with_reducible assumption); (case hc => with_reducible assumption)) | (refine' m_loadO ?D ?e ?hc ?_; (case D => with_reducible assumption); (case e => with_reducible assumption); (case hc => first | exact rfl | with_reducible assumption)) | (refine' m_load ?D 0 ?hi ?_; (case D => with_reducible assumption); (case hi => exact rfl)) | (refine' m_load ?D 1 ?hi ?_; (case D => with_reducible assumption); (case hi => exact rfl)) | (refine' m_load ?D 2 ?hi ?_; (case D => with_reducible assumption); (case hi => exact rfl)) | (refine' m_load ?D 3 ?hi ?_; (case D => with_reducible assumption); (case hi => exact rfl)) | (refine' m_load ?D 4 ?hi ?_; (case D => with_reducible assumption); (case hi => exact rfl)) | (refine' m_load ?D 5 ?hi ?_; (case D => with_reducible assumption); (case hi => exact rfl)) | (refine' m_load ?D 6 ?hi ?_; (case D => with_reducible assumption); (case hi => exact rfl)) | (refine' m_load ?D 7 ?hi ?_; (case D => with_reducible assumption); (case hi => exact rfl)) | (refine' m_loadN ?D ?e ?_; (case D => with_reducible assumption); (case e => assumption)) | (refine' m_loadZ ?D ?e ?hc ?_; (case D => with_reducible assumption); (case e => assumption); (case hc => assumption)) | (refine' m_loadO ?D ?e ?hc ?_; (case D => with_reducible assumption); (case e => assumption); (case hc => first | exact rfl | assumption)))
  | ((with_reducible show wpAny _ _ (Sem.stack _) _ _ _); refine m_stack ?_; intro st L)
  | ((with_reducible show wpAny _ _ (Decidable.rec _ _ _) _ _ _); first | refine m_decF (by kernel_rfl!) ?_ | refine m_decT (by kernel_rfl!) ?_)
  | ((with_reducible show wpAny _ _ (Bool.rec _ _ _) _ _ _); first | refine m_bool false (by kernel_rfl!) ?_ | refine m_bool true (by kernel_rfl!) ?_)
  | ((with_reducible show wpAny _ _ (Sem.keep _ _) _ _ _); refine m_keep ?_) | ((with_reducible show wpAny _ _ (Sem.onRaise _ _) _ _ _); refine wpAny_onRaise ?_) | ((with_reducible show wpAny _ _ (Sem.attempt _) _ _ _); refine wpAny_attempt ?_)
  | ((with_reducible show wpAny _ _ (Sem.bind _ _) _ _ _); refine wpAny_bind ?_) | ((with_reducible show wpAny _ _ (Bind.bind _ _) _ _ _); refine wpAny_bind ?_))
local macro_rules | `(tactic| walk_at "qs_y1") => `(tactic| first
  | ((with_reducible show wpAny _ _ (Sem.pure _) _ _ _); refine x_pure ?_; first | show wpAny _ _ _ _ _ _ | refine m_again (by kernel_rfl!) ?_)
  | walk_at "qs_p1")
local macro_rules | `(tactic| walk_at "qs_p") => `(tactic| (conv => arg 3; whnf); walk_at "qs_p1")
local macro_rules | `(tactic| walk_at "qs_x1") => `(tactic| first
  | ((with_reducible show wpAny _ _ (Sem.alloc _ _) _ _ _); refine' m_alloc ?D ?hf ?_; (case D => with_reducible assumption); (case hf => exact rfl); intro a h D)
  | ((with_reducible show wpAny _ _ (Sem.call _ _ _ _ _) _ _ _); refine m_call (by simp [byPass]) ?_)
  | walk_at "qs_y1")
local macro_rules | `(tactic| walk_at "qs_z1") => `(tactic| first
  | ((with_reducible show wpAny _ _ (Sem.call _ _ _ _ _) _ _ _); refine m_call (by simp [byPass]) ?_)
  | walk_at "qs_y1")
local macro_rules | `(tactic| walk_at "qs_y") => `(tactic| (conv => arg 3; whnf); walk_at "qs_y1")
local macro_rules | `(tactic| walk_at "qs_z") => `(tactic| (conv => arg 3; whnf); walk_at "qs_z1")
local macro_rules | `(tactic| walk_at "qs_x") => `(tactic| (conv => arg 3; whnf); walk_at "qs_x1")
local macro_rules | `(tactic| walk_at "qs_w") => `(tactic| (conv => arg 3; whnf))
local macro_rules | `(tactic| walk_at "qs_u") => `(tactic| ((conv => arg 3; whnf); (conv => arg 3; arg 1; whnf)))
local macro_rules | `(tactic| walk_at "qs_v1") => `(tactic| first
  | ((with_reducible show wpAny _ _ (Sem.alloc _ _) _ _ _); refine' m_alloc ?D ?hf ?_; (case D => with_reducible assumption); (case hf => exact rfl); intro a h D)
  | walk_at "qs_y1")
local macro_rules | `(tactic| walk_at "qs_v") => `(tactic| (conv => arg 3; whnf); walk_at "qs_v1")
local macro_rules | `(tactic| walk_at "qs_r1") => `(tactic| first
  | ((with_reducible show wpAny _ _ (Sem.pure _) _ _ _); refine x_pure ?_; show wpAny _ _ _ _ _ _)
  | walk_at "qs_p1")
local macro_rules | `(tactic| walk_at "qs_r") => `(tactic| (conv => arg 3; whnf); walk_at "qs_r1")
def kE (hf : Nat → Int) (tf : Nat → Tok) (sl f1 f2 f3 f4 f5 f6 st : Addr) : Array DictEntry := #[⟨hf 0, .str (S "__module__") (tf 0), .str (S "cpy313.functools") (tf 20)⟩, ⟨hf 1, .str (S "__qualname__") (tf 1), .str (S "cmp_to_key.<locals>.K") (tf 21)⟩, ⟨hf 2, .str (S "__firstlineno__") (tf 2), .int 64 (tf 22)⟩, ⟨hf 3, .str (S "__slots__") (tf 3), .ref sl⟩, ⟨hf 4, .str (S "__init__") (tf 4), .ref f1⟩, ⟨hf 5, .str (S "__lt__") (tf 5), .ref f2⟩, ⟨hf 6, .str (S "__gt__") (tf 6), .ref f3⟩, ⟨hf 7, .str (S "__eq__") (tf 7), .ref f4⟩, ⟨hf 8, .str (S "__le__") (tf 8), .ref f5⟩, ⟨hf 9, .str (S "__ge__") (tf 9), .ref f6⟩, ⟨hf 10, .str (S "__hash__") (tf 10), .none⟩, ⟨hf 11, .str (S "__static_attributes__") (tf 11), .ref st⟩]
def kE1 (hf : Nat → Int) (tf : Nat → Tok) (sl f1 f2 f3 f4 f5 f6 st : Addr) : Array DictEntry := #[⟨hf 0, .str (S "__module__") (tf 0), .str (S "cpy313.functools") (tf 20)⟩, ⟨hf 2, .str (S "__firstlineno__") (tf 2), .int 64 (tf 22)⟩, ⟨hf 3, .str (S "__slots__") (tf 3), .ref sl⟩, ⟨hf 4, .str (S "__init__") (tf 4), .ref f1⟩, ⟨hf 5, .str (S "__lt__") (tf 5), .ref f2⟩, ⟨hf 6, .str (S "__gt__") (tf 6), .ref f3⟩, ⟨hf 7, .str (S "__eq__") (tf 7), .ref f4⟩, ⟨hf 8, .str (S "__le__") (tf 8), .ref f5⟩, ⟨hf 9, .str (S "__ge__") (tf 9), .ref f6⟩, ⟨hf 10, .str (S "__hash__") (tf 10), .none⟩, ⟨hf 11, .str (S "__static_attributes__") (tf 11), .ref st⟩]
def deO (C : Addr) (t : Tok) : Obj := { cls := .type "member_descriptor", data := .fields #[.str (S "obj") t, .ref C, .builtin "proto.slot", .builtin "proto.slot#set", .int 0 0] }
def fieldTok (o : Obj) : Tok := match o.data with | .fields vs => (match (vs[0]? : Option Value) with | some (Value.str _ t) => t | _ => 0) | _ => 0
theorem mem_norm0 {h₀ h : Heap} {chg news : List (Addr × Obj)} {a : Addr} {o : Obj} (D : Mem h₀ h chg ((a, o) :: news)) (f : Tok → Obj) (e : o = f (fieldTok o)) : Mem h₀ h chg ((a, f (fieldTok o)) :: news) := e ▸ D
def clsO (N : Addr) (mro : List Value) (hd : Bool) (sn : List Str) (slots : Array (Option Value)) : Obj := { cls := .type "type", data := .cls { name := S "K", bases := [.type "object"], mro := mro, ns := N, qualname := S "cmp_to_key.<locals>.K", hasDict := hd, slotNames := sn }, slots := slots }

set_option maxHeartbeats 0 in
theorem super_get {prog : Program} {w : World} {A : Around} {E : Value → Shared → Prop} {Q : Fin → Shared → Prop} {h : Heap} {g d t0 os} {su C N b : Addr} {t : Tok} {nm qn : Tok} {oS : Obj}
    (hsu : h.get? su = some { cls := .type "super", data := .fields #[.ref C, .ref C, .ref C] })
    (hC : h.get? C = some (clsO N [.ref C, .type "object"] false [S "obj"] #[some (.ref b), none, some (.str (S "K") nm), some (.str (S "cmp_to_key.<locals>.K") qn), some (.builtin "object.__new__"), some (.bool false)]))
    (hS : h.get? cStatics = some oS) (hlk : nsLook (S "thirdparty.any") oS = Sem.pure none)
    (q : Q (.done (.ret (.ref h.objs.size))) ⟨h.push { cls := .type "builtin_function_or_method", data := .fields #[.builtin "object.__init_subclass__", .ref C] }, g, d, t0, os⟩) :
    wpAny (model prog w) A (denote PySem.W.XFast.tableX (.builtin "super.__getattribute__" ⟨[.ref su, .str (S "__init_subclass__") t], []⟩)) Q E ⟨h, g, d, t0, os⟩ := by
  have D := Mem.start h
  repeat walk_at "qs_z"
  refine m_eq (t₂ := Sem.pure none) ?e ?_
  case e =>
    show PySem.W.XFast.xw12049290149238594875 _ oS = _
    rw [← PySem.W.XFast.xe12049290149238594875]
    exact hlk
  repeat walk_at "qs_z"
  walk_at "qs_w"
  refine m_eq (loop_eq (after_self _ _) _ _ _) ?_
  repeat walk_at "qs_z"
  walk_at "qs_w"
  simp only [List.getElem_toArray, List.getElem_cons_succ, List.getElem_cons_zero, beq_ref_self, cond_t]
  repeat walk_at "qs_z"
  walk_at "qs_w"
  refine' m_allocE ?hf ?_
  case hf => exact rfl
  repeat walk_at "qs_z"
  walk_at "qs_w"
  refine x_pure ?_
  exact q
set_option maxHeartbeats 0 in
theorem type_new {prog : Program} {w : World} {A : Around} {E : Value → Shared → Prop} {Q : Fin → Shared → Prop} {h : Heap} {g d t0 os} {b n sl f1 f2 f3 f4 f5 f6 st : Addr} {tK to : Tok} {hf : Nat → Int} {tf : Nat → Tok} {fd1 fd2 fd3 fd4 fd5 fd6 : FuncData} {oS : Obj}
    (hS : h.get? cStatics = some oS) (hlk : nsLook (S "thirdparty.any") oS = Sem.pure none)
    (hb : h.get? b = some { cls := .type "tuple", data := .seq #[.type "object"] 0 })
    (hsl : h.get? sl = some { cls := .type "list", data := .seq #[.str (S "obj") to] 0 })
    (hst : h.get? st = some { cls := .type "tuple", data := .seq #[.str (S "obj") (tf 23)] 0 })
    (e1 : h.get? f1 = some { cls := .type "function", data := .func fd1 })
    (e2 : h.get? f2 = some { cls := .type "function", data := .func fd2 })
    (e3 : h.get? f3 = some { cls := .type "function", data := .func fd3 })
    (e4 : h.get? f4 = some { cls := .type "function", data := .func fd4 })
    (e5 : h.get? f5 = some { cls := .type "function", data := .func fd5 })
    (e6 : h.get? f6 = some { cls := .type "function", data := .func fd6 }) (hns : n ≠ sysModules)
    (hn : h.get? n = some { cls := .type "dict", data := .dict (kE hf tf sl f1 f2 f3 f4 f5 f6 st) 12 })
    (q : ∀ bd su de C N aL hv1 hv2 tv1 tv2 tde h' tk, Mem h h' [] [(bd, { cls := .type "builtin_function_or_method", data := .fields #[.builtin "object.__init_subclass__", .ref C] }), (su, { cls := .type "super", data := .fields #[.ref C, .ref C, .ref C] }), (de, deO C tde), (C, clsO N [.ref C, .type "object"] false [S "obj"] #[some (.ref b), none, some (.str (S "K") tK), some (.str (S "cmp_to_key.<locals>.K") (tf 21)), some (.builtin "object.__new__"), some (.bool false)]), (N, putO ((kE1 hf tf sl f1 f2 f3 f4 f5 f6 st).push ⟨hv1, .str (S "obj") tv1, .ref de⟩) 3 (S "__doc__") .none hv2 tv2), (aL, { cls := .type "list", data := .seq #[.str (S "obj") to] 1 })] → Q (.done (.ret (.ref C))) ⟨h', g, d, tk, os⟩) :
    wpAny (model prog w) A (denote PySem.W.XFast.tableX (.builtin "type.__new__" ⟨[.type "type", .str (S "K") tK, .ref b, .ref n], []⟩)) Q E ⟨h, g, d, t0, os⟩ := by
  have D := Mem.start h
  walk_at "qs_x"
  walk_at "qs_x"
  walk_at "qs_x"
  (conv => arg 3; whnf)
  have hns' : (n == sysModules) = false := by simpa using hns
  rw [hns']
  repeat walk_at "qs_x"
  walk_at "qs_w"
  refine m_bool true (or_mid _ _) ?_
  repeat walk_at "qs_x"
  rename_i aL _ _
  walk_at "qs_u"
  refine' m_upd ?D 0 ?hi { cls := .type "list", data := .seq #[.str (S "obj") to] 1 } ?e rfl ?_
  case D => with_reducible assumption
  case hi => exact rfl
  case e => kernel_rfl!
  intro _ D
  dsimp only [List.set] at D
  repeat walk_at "qs_x"
  walk_at "qs_w"
  rw [show PySem.W.XFast.xw10133417225327028743 (S "obj") = some true from by kernel_rfl!]
  repeat walk_at "qs_x"
  rename_i N _ _ C _ _
  walk_at "qs_u"
  refine' m_upd ?D 0 ?hi (clsO N [] true [] #[some (.ref b)]) ?e rfl ?_
  case D => with_reducible assumption
  case hi => exact rfl
  case e => kernel_rfl!
  intro _ D
  dsimp only [List.set] at D
  repeat walk_at "qs_x"
  walk_at "qs_u"
  refine' m_upd ?D 0 ?hi (clsO N [] true [] #[some (.ref b), none, some (.str (S "K") tK)]) ?e rfl ?_
  case D => with_reducible assumption
  case hi => exact rfl
  case e => kernel_rfl!
  intro _ D
  dsimp only [List.set] at D
  repeat walk_at "qs_x"
  walk_at "qs_u"
  refine' m_upd ?D 0 ?hi (clsO N [] true [] #[some (.ref b), none, some (.str (S "K") tK), some (.str (S "cmp_to_key.<locals>.K") (tf 21))]) ?e rfl ?_
  case D => with_reducible assumption
  case hi => exact rfl
  case e => kernel_rfl!
  intro _ D
  dsimp only [List.set] at D
  repeat walk_at "qs_x"
  walk_at "qs_u"
  refine' m_upd ?D 1 ?hi { cls := .type "dict", data := .dict (kE1 hf tf sl f1 f2 f3 f4 f5 f6 st) 1 } ?e rfl ?_
  case D => with_reducible assumption
  case hi => exact rfl
  case e => kernel_rfl!
  intro _ D
  dsimp only [List.set] at D
  repeat walk_at "qs_x"
  walk_at "qs_w"
  refine m_eq (congrArg (List.anyM _) (filt_self _)) ?_
  repeat walk_at "qs_x"
  walk_at "qs_u"
  refine' m_upd ?D 0 ?hi (clsO N [.ref C, .type "object"] true [] #[some (.ref b), none, some (.str (S "K") tK), some (.str (S "cmp_to_key.<locals>.K") (tf 21))]) ?e rfl ?_
  case D => with_reducible assumption
  case hi => exact rfl
  case e => kernel_rfl!
  intro _ D
  dsimp only [List.set] at D
  repeat walk_at "qs_x"
  walk_at "qs_u"
  refine' m_upd ?D 0 ?hi (clsO N [.ref C, .type "object"] true [] #[some (.ref b), none, some (.str (S "K") tK), some (.str (S "cmp_to_key.<locals>.K") (tf 21)), some (.builtin "object.__new__")]) ?e rfl ?_
  case D => with_reducible assumption
  case hi => exact rfl
  case e => kernel_rfl!
  intro _ D
  dsimp only [List.set] at D
  repeat walk_at "qs_x"
  rename_i de _ Dd
  obtain ⟨tde, De⟩ : ∃ tde, Mem _ _ _ ((de, deO C tde) :: _) := ⟨_, mem_norm0 Dd (deO C) (by kernel_rfl!)⟩
  clear Dd
  walk_at "qs_u"
  refine' m_put ?D 2 ?hi (kE1 hf tf sl f1 f2 f3 f4 f5 f6 st) 2 (S "obj") (.ref de) ?e ?_
  case D => with_reducible assumption
  case hi => exact rfl
  case e => kernel_rfl!
  intro hv_2_2 tv_2_2 _ D
  dsimp only [List.set] at D
  repeat walk_at "qs_x"
  walk_at "qs_u"
  refine' m_upd ?D 1 ?hi (clsO N [.ref C, .type "object"] false [S "obj"] #[some (.ref b), none, some (.str (S "K") tK), some (.str (S "cmp_to_key.<locals>.K") (tf 21)), some (.builtin "object.__new__")]) ?e rfl ?_
  case D => with_reducible assumption
  case hi => exact rfl
  case e => kernel_rfl!
  intro _ D
  dsimp only [List.set] at D
  repeat walk_at "qs_x"
  walk_at "qs_u"
  refine' m_upd ?D 1 ?hi (clsO N [.ref C, .type "object"] false [S "obj"] #[some (.ref b), none, some (.str (S "K") tK), some (.str (S "cmp_to_key.<locals>.K") (tf 21)), some (.builtin "object.__new__"), some (.bool false)]) ?e rfl ?_
  case D => with_reducible assumption
  case hi => exact rfl
  case e => kernel_rfl!
  intro _ D
  dsimp only [List.set] at D
  repeat walk_at "qs_x"
  walk_at "qs_u"
  refine' m_put ?D 2 ?hi ((kE1 hf tf sl f1 f2 f3 f4 f5 f6 st).push ⟨hv_2_2, .str (S "obj") tv_2_2, .ref de⟩) 3 (S "__doc__") (.none) ?e ?_
  case D => with_reducible assumption
  case hi => exact rfl
  case e => kernel_rfl!
  intro hv_2_3 tv_2_3 _ D
  dsimp only [List.set] at D
  repeat walk_at "qs_x"
  walk_at "qs_w"
  refine m_bool true (cont_self _ _) ?_
  repeat walk_at "qs_x"
  rename_i su _ _
  walk_at "qs_u"
  refine' m_upd ?D 0 ?hi { cls := .type "super", data := .fields #[.ref C, .none, .none] } ?e rfl ?_
  case D => with_reducible assumption
  case hi => exact rfl
  case e => kernel_rfl!
  intro _ D
  dsimp only [List.set] at D
  repeat walk_at "qs_x"
  walk_at "qs_u"
  refine' m_upd ?D 0 ?hi { cls := .type "super", data := .fields #[.ref C, .ref C, .none] } ?e rfl ?_
  case D => with_reducible assumption
  case hi => exact rfl
  case e => kernel_rfl!
  intro _ D
  dsimp only [List.set] at D
  repeat walk_at "qs_x"
  walk_at "qs_u"
  refine' m_upd ?D 0 ?hi { cls := .type "super", data := .fields #[.ref C, .ref C, .ref C] } ?e rfl ?_
  case D => with_reducible assumption
  case hi => exact rfl
  case e => kernel_rfl!
  intro _ D9
  dsimp only [List.set] at D9
  repeat walk_at "qs_v"
  walk_at "qs_w"
  refine m_call (by simp [byPass]) ?_
  repeat walk_at "qs_p"
  walk_at "qs_w"
  refine x_pure ?_
  refine m_again (by kernel_rfl!) ?_
  refine m_eq (congrArg (denote _) (congr (congrArg Code.builtin (show _ = "super.__getattribute__" by kernel_rfl!)) (rfl : _ = _))) ?_
  refine super_get (D9.at 0 _ _ rfl) (D9.at 2 _ _ rfl) (D9.keep _ _ hS (by rw [show away [] cStatics = true from rfl, Bool.or_true])) hlk ?_
  have D := Mem.alloc D9 (o := { cls := .type "builtin_function_or_method", data := .fields #[.builtin "object.__init_subclass__", .ref C] }) rfl
  clear D9
  generalize Heap.push _ _ = h9 at D ⊢
  generalize Array.size _ = bd at D ⊢
  show wpAny _ _ _ _ _ _
  repeat walk_at "qs_x"
  walk_at "qs_w"
  refine x_pure ?_
  exact q _ _ _ _ _ _ _ _ _ _ _ _ _ D

set_option maxHeartbeats 0 in
theorem call_type {prog : Program} {w : World} {A : Around} {E : Value → Shared → Prop} {Q : Value → Shared → Prop} {h : Heap} {g d t0 os} {b n sl f1 f2 f3 f4 f5 f6 st : Addr} {tK to : Tok} {hf : Nat → Int} {tf : Nat → Tok} {fd1 fd2 fd3 fd4 fd5 fd6 : FuncData} {oS : Obj}
    (hS : h.get? cStatics = some oS) (hlk : nsLook (S "thirdparty.any") oS = Sem.pure none)
    (hb : h.get? b = some { cls := .type "tuple", data := .seq #[.type "object"] 0 })
    (hsl : h.get? sl = some { cls := .type "list", data := .seq #[.str (S "obj") to] 0 })
    (hst : h.get? st = some { cls := .type "tuple", data := .seq #[.str (S "obj") (tf 23)] 0 })
    (e1 : h.get? f1 = some { cls := .type "function", data := .func fd1 })
    (e2 : h.get? f2 = some { cls := .type "function", data := .func fd2 })
    (e3 : h.get? f3 = some { cls := .type "function", data := .func fd3 })
    (e4 : h.get? f4 = some { cls := .type "function", data := .func fd4 })
    (e5 : h.get? f5 = some { cls := .type "function", data := .func fd5 })
    (e6 : h.get? f6 = some { cls := .type "function", data := .func fd6 }) (hns : n ≠ sysModules)
    (hn : h.get? n = some { cls := .type "dict", data := .dict (kE hf tf sl f1 f2 f3 f4 f5 f6 st) 12 })
    (q : ∀ bd su de C N aL hv1 hv2 tv1 tv2 tde h' tk, Mem h h' [] [(bd, { cls := .type "builtin_function_or_method", data := .fields #[.builtin "object.__init_subclass__", .ref C] }), (su, { cls := .type "super", data := .fields #[.ref C, .ref C, .ref C] }), (de, deO C tde), (C, clsO N [.ref C, .type "object"] false [S "obj"] #[some (.ref b), none, some (.str (S "K") tK), some (.str (S "cmp_to_key.<locals>.K") (tf 21)), some (.builtin "object.__new__"), some (.bool false)]), (N, putO ((kE1 hf tf sl f1 f2 f3 f4 f5 f6 st).push ⟨hv1, .str (S "obj") tv1, .ref de⟩) 3 (S "__doc__") .none hv2 tv2), (aL, { cls := .type "list", data := .seq #[.str (S "obj") to] 1 })] → Q (.ref C) ⟨h', g, d, tk, os⟩) :
    wpAny (model prog w) A (call (.type "type") [.str (S "K") tK, .ref b, .ref n]) Q E ⟨h, g, d, t0, os⟩ := by
  have D := Mem.start h
  walk_at "qs_w"
  refine m_call (by simp [byPass]) ?_
  repeat walk_at "qs_r"
  walk_at "qs_w"
  refine x_pure ?_
  refine m_again (by kernel_rfl!) ?_
  repeat walk_at "qs_v"
  walk_at "qs_w"
  refine m_call (by simp [byPass]) ?_
  repeat walk_at "qs_r"
  walk_at "qs_w"
  refine x_pure ?_
  refine m_again ?hq ?_
  case hq => kernel_rfl!
  refine m_eq (congrArg (denote _) (congr (congrArg Code.builtin (show _ = "type.__new__" from ?eid)) (rfl : _ = _))) ?_
  case eid => kernel_rfl!
  refine type_new hS hlk hb hsl hst e1 e2 e3 e4 e5 e6 hns hn ?_
  intro bd su de C N aL hv1 hv2 tv1 tv2 tde h' tk D'
  clear D
  show wpAny _ _ _ _ _ _
  repeat walk_at "qs_x"
  walk_at "qs_w"
  refine x_pure ?_
  exact q _ _ _ _ _ _ _ _ _ _ _ _ _ D'

theorem mem_keeps {h₀ h h' : Heap} {chg news : List (Addr × Obj)} (D : Mem h₀ h chg news) (k : ∀ b o, h.get? b = some o → h'.get? b = some o) : Mem h₀ h' chg news :=
  ⟨fun b o e q => k b o (D.keep b o e q), fun p hp => ⟨k _ _ (D.ch p hp).1, (D.ch p hp).2⟩, D.cd, fun p hp => ⟨k _ _ (D.nw p hp).1, (D.nw p hp).2⟩, D.ord⟩
structure InitFn (fd : FuncData) : Prop where
  body : ∃ p1 p2 p3 p4, fd.body = .stmts [.Assign [.Attribute (.Name (S "self") p1) (S "obj") p2] (.Name (S "obj") p3) p4]
  bind : ∀ x y, bindArgs fd ⟨[x, y], []⟩ = pure [(S "self", x), (S "obj", y)]
  clos : fd.closure = []
  self : fd.scope.names.lookup (S "self") = some .local
  obj : fd.scope.names.lookup (S "obj") = some .local
  co : fd.scope.isCoroutine = false
  gen : fd.scope.isGenerator = false
  kind : fd.scope.kind = .function
theorem ncont_self {inst : DecidableEq Value} (C : Addr) (l : List Value) : (!@List.contains Value (@instBEqOfDecidableEq _ inst) (.ref C :: l) (.ref C)) = false := by simp
set_option maxHeartbeats 0 in
theorem key_call {prog : Program} {w : World} {A : Around} {E : Value → Shared → Prop} {Q : Value → Shared → Prop} {h : Heap} {g d t0 os} {b C N de sl f1 f2 f3 f4 f5 f6 st : Addr} {tK tde tv1 tv2 : Tok} {hv1 hv2 : Int} {hf : Nat → Int} {tf : Nat → Tok} {fd1 : FuncData} {v : Int} {tv : Tok}
    (hC : h.get? C = some (clsO N [.ref C, .type "object"] false [S "obj"] #[some (.ref b), none, some (.str (S "K") tK), some (.str (S "cmp_to_key.<locals>.K") (tf 21)), some (.builtin "object.__new__"), some (.bool false)]))
    (hN : h.get? N = some (putO ((kE1 hf tf sl f1 f2 f3 f4 f5 f6 st).push ⟨hv1, .str (S "obj") tv1, .ref de⟩) 3 (S "__doc__") .none hv2 tv2))
    (hde : h.get? de = some (deO C tde))
    (e1 : h.get? f1 = some { cls := .type "function", data := .func fd1 }) (F : InitFn fd1) (hcd : h.CodeRec fd1.code fd1.qualname) (hlim : h.NoLimit) (hdp : A.depth + 3 < recursionLimit)
    (q : ∀ ko dk h' tk, (∀ b x, h.get? b = some x → h'.get? b = some x) → h.get? ko = none → h'.get? ko = some { cls := .ref C, dict := some dk, slots := #[some (.int v tv)] } → Q (.ref ko) ⟨h', g, d, tk, os⟩) :
    wpAny (model prog w) A (call (.ref C) [.int v tv]) Q E ⟨h, g, d, t0, os⟩ := by
  have D := Mem.start h
  walk_at "qs_w"
  refine m_call (by simp [byPass]) ?_
  repeat walk_at "qs_v"
  walk_at "qs_w"
  refine m_call (by simp [byPass]) ?_
  repeat walk_at "qs_v"
  walk_at "qs_w"
  refine m_bool false (ncont_self _ _) ?_
  repeat walk_at "qs_v"
  walk_at "qs_w"
  rename_i dk _ _ ko h2 D2
  refine x_call ?_ (by simp [byPass])
  obtain ⟨p1, p2, p3, p4, hbody⟩ := F.body
  have k2 : ∀ b o, h.get? b = some o → h2.get? b = some o := fun b o e => D2.keep b o e (by rw [show away [] b = true from rfl, Bool.or_true])
  refine codeAny_call_cells (a := f1) (vals := [.ref ko, .int v tv]) (by show A.depth + 1 < recursionLimit; omega) (k2 _ _ e1) rfl (hlim.keeps k2) (hcd.keeps k2) hbody (F.bind _ _) F.clos ?_ ?_ F.co F.gen F.kind
  · intro x hx
    simp only [List.mem_cons, List.not_mem_nil, or_false] at hx
    rcases hx with rfl | rfl
    · exact .inl F.self
    · exact .inl F.obj
  · intro s₁ C1
    obtain ⟨h3, tk3, e3, k3⟩ := C1.done
    subst e3
    have D3 := mem_keeps D2 k3
    clear D2 D
    have kk : (callEnvC fd1 h2.objs.size f1).scope.kind = .function := F.kind
    have ks : (callEnvC fd1 h2.objs.size f1).kindOf (S "self") = some .local := F.self
    have ko' : (callEnvC fd1 h2.objs.size f1).kindOf (S "obj") = some .local := F.obj
    have nd : (([(S "self", Value.ref ko), (S "obj", Value.int v tv)] : List (Str × Value)).map (·.1)).Nodup := by show ([S "self", S "obj"] : List Str).Nodup; decide +kernel
    refine wpAny_execs_cons (plainObj_wpAny_Assign_Attribute (wpAny_Name (wpAny_loadName_local kk ko' C1.toInCall.ns (bindL_get (v := .int v tv) ko' _ _ nd (.tail _ (.head _))) ?_) (by decide +kernel)) (by rfl))
    refine wpAny_Name (wpAny_loadName_local kk ks C1.toInCall.ns (bindL_get (v := .ref ko) ks _ _ nd (.head _)) ?_) (by decide +kernel)
    rw [PySem.W.XFast.xe4178937747021576048]
    repeat walk_at "qs_x"
    walk_at "qs_w"
    refine m_bool false (ncont_self _ _) ?_
    repeat walk_at "qs_x"
    walk_at "qs_u"
    refine' m_upd ?D 0 ?hi { cls := .ref C, dict := some dk, slots := #[some (.int v tv)] } ?e rfl ?_
    case D => with_reducible assumption
    case hi => exact rfl
    case e => kernel_rfl!
    intro h4 D4
    dsimp only [List.set] at D4
    clear D3
    repeat walk_at "qs_x"
    walk_at "qs_w"
    refine x_pure ?_
    exact q ko dk h4 _ (fun b o e => D4.keep b o e (by rw [show away [] b = true from rfl, Bool.or_true])) (D4.nw _ (.head _)).2 (D4.at 0 _ _ rfl)

section
variable {α : Type} {prog : Program} {w : World} {A : Around} {E : Value → Shared → Prop} {Q : α → Shared → Prop} {s : Shared}
theorem m_condF {b : Bool} {x y : Sem α} (e : b = false) (h : wpAny (model prog w) A y Q E s) : wpAny (model prog w) A (X.condFn (Sem α) b x y) Q E s := by rw [e]; exact h
end
theorem str_noref {es : Array DictEntry} (hk : StrKeys es) : es.any (fun e => e.refKey) = false := by
  rw [Array.any_eq_false]
  intro i hi
  obtain ⟨n, t, e⟩ := hk _ (Array.getElem_mem hi)
  unfold DictEntry.refKey
  rw [e]
  simp
theorem look_ns {o : Obj} {es : Array DictEntry} {ep : Nat} (hd : o.data = .dict es ep) (hk : StrKeys es) (n : Str) : nsLook n o = Sem.pure (nsFind es n) := by
  rw [nsLook_eq]
  unfold nsLookByArray nsFind findBy
  rw [hd]
  dsimp only
  rw [str_noref hk]
  cases es.find? (fun e => e.key.isStr n) <;> rfl
theorem lookAt {o : Obj} {m : Str → Option Value} {n : Str} {r : Option Value} (lk : ∀ n, nsLook n o = Sem.pure (m n)) (hv : m n = r) : ((fun x => (Sem.pure x).bind fun o => PySem.W.XFast.xw12049290149238594875 n o) o) = Sem.pure r := by
  show PySem.W.XFast.xw12049290149238594875 n o = _
  rw [← PySem.W.XFast.xe12049290149238594875, lk, hv]
theorem lookAt0 {o : Obj} {m : Str → Option Value} {n : Str} {r : Option Value} (lk : ∀ n, nsLook n o = Sem.pure (m n)) (hv : m n = r) : ((fun x => (Sem.pure x).bind fun o => nsLook n o) o) = Sem.pure r := by
  show nsLook n o = _
  rw [lk, hv]
abbrev nsO (es : Array DictEntry) (n : Nat) : Obj := { cls := .type "dict", data := .dict es n }
section
variable {M : Model} {A : Around} {E : Value → Shared → Prop} {s : Shared}
theorem wpAny_strHash' {n : Str} {Q : Int → Shared → Prop} (h : ∀ x, Q x s) : wpAny M A (strHash n) Q E s := by
  unfold strHash
  exact wpAny_bind (wpAny_askSetting (wpAny_pure (h _)))
theorem cls_store {env : Env} {N : Addr} {name : Str} {v : Value} {es : Array DictEntry} {n : Nat} {Q : Unit → Shared → Prop} (hl : env.locals = N)
    (hst : storeName env name v = localSet env name v) (hN : s.heap.get? N = some (nsO es n)) (hr : aRefKeyMayBeTheName name es = false) (es' : Int → Tok → Array DictEntry) (n' : Nat)
    (hp : ∀ hh tk, Obj.putName name hh (.str name tk) v (nsO es n) = nsO (es' hh tk) n')
    (h : ∀ hh tk h' t', Heap.SameBut N s.heap h' → h'.get? N = some (nsO (es' hh tk) n') → Q () { s with heap := h', toks := t' }) : wpAny M A (storeName env name v) Q E s := by
  subst hl
  rw [hst]
  unfold localSet
  refine wpAny_bind (wpAny_load hN ?_)
  rw [if_pos (by rfl)]
  unfold nsSet
  refine wpAny_bind (wpAny_strHash' fun hh => wpAny_bind (wpAny_mkText (wpAny_bind (wpAny_loadPart hN ?_))))
  dsimp only
  rw [hr]
  refine wpAny_updatePart hN ?_
  refine h hh s.toks _ _ (Heap.SameBut.update ..) ?_
  have := Heap.get?_update_self (Obj.putName name hh (.str name s.toks) v) hN (by rw [hp]; rfl)
  rw [hp] at this
  exact this
theorem cls_new {env : Env} {N : Addr} {name : Str} {v : Value} {es : Array DictEntry} {n : Nat} {Q : Unit → Shared → Prop} (hl : env.locals = N)
    (hst : storeName env name v = localSet env name v) (hN : s.heap.get? N = some (nsO es n)) (hr : aRefKeyMayBeTheName name es = false)
    (hp : ∀ hh tk, Obj.putName name hh (.str name tk) v (nsO es n) = nsO (es.push ⟨hh, .str name tk, v⟩) (n + 1))
    (h : ∀ hh tk h' t', Heap.SameBut N s.heap h' → h'.get? N = some (nsO (es.push ⟨hh, .str name tk, v⟩) (n + 1)) → Q () { s with heap := h', toks := t' }) : wpAny M A (storeName env name v) Q E s :=
  cls_store hl hst hN hr (fun hh tk => es.push ⟨hh, .str name tk, v⟩) (n + 1) hp h
theorem mk_fn {name qual : Str} {params : Arguments} {body : List Stmt} {scope : Scope} {env : Env} {c P : Addr} {ps : Array Value} {pos : Pos} {firstLine : Nat} {mg : Str → Option Value} {clos : List (Str × Addr)} {Q : Value → Shared → Prop}
    (hcl : closureFor scope env = pure clos) (hge0 : env.globals = mainGlobals) (hg : s.heap.Ns mainGlobals mg) (hcode : env.code = .ref c) (C : CodeHd s.heap c P) (hP : s.heap.get? P = some (tabObj ps)) (ht : TriplesOk ps.toList)
    (hnf : codeAmong pos ps.toList = none) (hgP : mainGlobals ≠ P) (hb : s.heap.BuiltinsAt mg P)
    (h : ∀ c' oc vs t ctv doc h' tk, Heap.ExtBut P s.heap h' → s.heap.objs.size ≤ c' → h'.get? c' = some oc → oc.cls = .type "code" → oc.data = .fields vs → vs[1]? = some (.str qual t) → h'.get? P = some (tabObj (ps ++ #[rawInt pos.line, rawInt pos.col, .ref c'])) →
      Q (.ref h'.objs.size) { s with heap := h'.push (fnMade name qual params body scope clos doc ((mg "__name__").getD .none) c' ctv), toks := tk }) :
    wpAny M A (makeFunction name qual params (.stmts body) scope env [] [] [] pos firstLine) Q E s := by
  obtain ⟨bm, ob, hbm, hne0, _, hneP, hbo, hcls, hdict, hdata⟩ := hb
  have back : ∀ {h' : Heap} {c' : Addr}, h'.CodeRec (.ref c') qual → (∃ P', s.heap.objs.size ≤ P' ∧ h'.IsCode c' P' #[] ∧ h'.TableAt c' P' #[]) → ∃ oc vs t, h'.get? c' = some oc ∧ oc.cls = .type "code" ∧ oc.data = .fields vs ∧ vs[1]? = some (.str qual t) := by
    rintro h' c' ⟨c₂, oc, vs, t, e2, e3, e4, e5⟩ ⟨P', _, _, ⟨o', vs', f1, f2, f3, f4⟩, _⟩
    cases e2
    rw [e3] at f1; cases f1
    exact ⟨oc, vs, t, e3, f2, e4, e5⟩
  rw [makeFunction_eq]
  simp only [List.zip_nil_right, List.filterMap_nil, List.isEmpty_nil, if_true, pure_bind]
  unfold makeTail
  rw [hcl, hge0]
  refine wpAny_bind (wpAny_pure ?_)
  cases clos with
  | nil =>
    simp only [List.isEmpty_nil, if_true]
    refine wpAny_bind (wpAny_pure ?_)
    refine wpAny_bind (wpAny_functionCodeX hcode (C.code hP ht) (C.tab hP) hnf fun c' h' tk hx hge hlt _ hrec htb hnew => ?_)
    have hg' := hg.extBut hx hgP
    refine wpAny_bind (wpAny_builtinsFor hg' hbm hne0 (hx _ _ hneP hbo) hcls hdict hdata ?_)
    refine wpAny_bind (wpAny_nsGet hg' ?_)
    obtain ⟨oc, vs, t, k1, k2, k3, k4⟩ := back hrec hnew
    cases hdoc : docOf body with
    | none => exact wpAny_bind (wpAny_pure (wpAny_newObj_type (h c' oc vs t .none .none h' tk hx hge k1 k2 k3 k4 htb.2) (by size_fits)))
    | some x => exact wpAny_bind (wpAny_mkText (wpAny_newObj_type (h c' oc vs t .none _ h' _ hx hge k1 k2 k3 k4 htb.2) (by size_fits)))
  | cons q r =>
    simp only [List.isEmpty_cons, Bool.false_eq_true, if_false]
    refine wpAny_bind (wpAny_newTextTuple ?_)
    refine wpAny_bind (wpAny_functionCodeX hcode ((C.keeps fun b o e => Heap.get?_push_of_some _ e).code (Heap.get?_push_of_some _ hP) ht) ((C.keeps fun b o e => Heap.get?_push_of_some _ e).tab (Heap.get?_push_of_some _ hP)) hnf fun c' h' tk hx hge hlt _ hrec htb hnew => ?_)
    have hg' := (hg.push _).extBut hx hgP
    have hx' : Heap.ExtBut P s.heap h' := fun b o hb' e => hx b o hb' (Heap.get?_push_of_some _ e)
    have hge1 : s.heap.objs.size + 1 ≤ c' := by rw [Heap.size_push] at hge; exact hge
    have hge' : s.heap.objs.size ≤ c' := Nat.le_of_succ_le hge1
    refine wpAny_bind (wpAny_builtinsFor hg' hbm hne0 (hx' _ _ hneP hbo) hcls hdict hdata ?_)
    refine wpAny_bind (wpAny_nsGet hg' ?_)
    obtain ⟨oc, vs, t, k1, k2, k3, k4⟩ := back hrec (by obtain ⟨P', a, b, c⟩ := hnew; rw [Heap.size_push] at a; exact ⟨P', Nat.le_of_succ_le a, b, c⟩)
    cases hdoc : docOf body with
    | none => exact wpAny_bind (wpAny_pure (wpAny_newObj_type (h c' oc vs t _ .none h' tk hx' hge' k1 k2 k3 k4 htb.2) (by size_fits)))
    | some x => exact wpAny_bind (wpAny_mkText (wpAny_newObj_type (h c' oc vs t _ _ h' _ hx' hge' k1 k2 k3 k4 htb.2) (by size_fits)))
end
structure CSt (h₀ : Heap) (N zt : Addr) (h : Heap) (es : Array DictEntry) (n : Nat) (ps : Array Value) (fs : List (Addr × Obj)) : Prop where
  keep : ∀ b o, b ≠ N → b ≠ zt → h₀.get? b = some o → h.get? b = some o
  ns : h.get? N = some (nsO es n)
  tab : h.get? zt = some (tabObj ps)
  fs : ∀ p ∈ fs, h.get? p.1 = some p.2 ∧ h₀.get? p.1 = none
section
variable {h₀ h h' : Heap} {N zt : Addr} {es es' : Array DictEntry} {n n' : Nat} {ps ps' : Array Value} {fs : List (Addr × Obj)}
theorem CSt.ne (C : CSt h₀ N zt h es n ps fs) : N ≠ zt := fun q => by
  have := C.ns; rw [q, C.tab] at this; cases this
theorem CSt.there (C : CSt h₀ N zt h es n ps fs) {b : Addr} {o : Obj} (e : h₀.get? b = some o) : ∃ o', h.get? b = some o' := by
  by_cases h1 : b = N
  · subst h1; exact ⟨_, C.ns⟩
  by_cases h2 : b = zt
  · subst h2; exact ⟨_, C.tab⟩
  exact ⟨o, C.keep b o h1 h2 e⟩
theorem CSt.fresh (C : CSt h₀ N zt h es n ps fs) {b : Addr} (hb : h.objs.size ≤ b) : h₀.get? b = none := by
  cases e : h₀.get? b with
  | none => rfl
  | some o => obtain ⟨o', e'⟩ := C.there e; exact absurd (Heap.lt_size e') (Nat.not_lt.mpr hb)
theorem CSt.keeps (C : CSt h₀ N zt h es n ps fs) (k : ∀ b o, h.get? b = some o → h'.get? b = some o) : CSt h₀ N zt h' es n ps fs :=
  ⟨fun b o h1 h2 e => k _ _ (C.keep b o h1 h2 e), k _ _ C.ns, k _ _ C.tab, fun p hp => ⟨k _ _ (C.fs p hp).1, (C.fs p hp).2⟩⟩
theorem CSt.new (C : CSt h₀ N zt h es n ps fs) (k : ∀ b o, h.get? b = some o → h'.get? b = some o) {a : Addr} {o : Obj} (e : h'.get? a = some o) (hn : h₀.get? a = none) : CSt h₀ N zt h' es n ps ((a, o) :: fs) :=
  have D := C.keeps k
  ⟨D.keep, D.ns, D.tab, fun p hp => by rcases List.mem_cons.mp hp with rfl | hp; exact ⟨e, hn⟩; exact D.fs p hp⟩
theorem CSt.store (C : CSt h₀ N zt h es n ps fs) (hn : ∃ o, h₀.get? N = some o) (sb : Heap.SameBut N h h') (e : h'.get? N = some (nsO es' n')) : CSt h₀ N zt h' es' n' ps fs := by
  obtain ⟨oN, eN⟩ := hn
  refine ⟨fun b o h1 h2 e' => (sb.2 b h1).trans (C.keep b o h1 h2 e'), e, (sb.2 zt (Ne.symm C.ne)).trans C.tab, fun p hp => ⟨(sb.2 p.1 fun q => ?_).trans (C.fs p hp).1, (C.fs p hp).2⟩⟩
  have := (C.fs p hp).2
  rw [q, eN] at this; cases this
theorem CSt.code (C : CSt h₀ N zt h es n ps fs) (hz : ∃ o, h₀.get? zt = some o) (hx : Heap.ExtBut zt h h') (e : h'.get? zt = some (tabObj ps')) : CSt h₀ N zt h' es n ps' fs := by
  obtain ⟨oZ, eZ⟩ := hz
  refine ⟨fun b o h1 h2 e' => hx _ _ h2 (C.keep b o h1 h2 e'), hx _ _ C.ne C.ns, e, fun p hp => ⟨hx _ _ (fun q => ?_) (C.fs p hp).1, (C.fs p hp).2⟩⟩
  have := (C.fs p hp).2
  rw [q, eZ] at this; cases this
end
structure CCtx (h₀ : Heap) (N zt cc : Addr) (mg : Str → Option Value) (env : Env) : Prop where
  locals : env.locals = N
  globals : env.globals = mainGlobals
  code : env.code = .ref cc
  nN : ∃ o, h₀.get? N = some o
  nZ : ∃ o, h₀.get? zt = some o
  hd : CodeHd h₀ cc zt
  ccN : cc ≠ N
  ns : h₀.Ns mainGlobals mg
  gN : mainGlobals ≠ N
  gZ : mainGlobals ≠ zt
  bA : h₀.BuiltinsAt mg zt
  bN : h₀.BuiltinsAt mg N
theorem ns_but {h h' : Heap} {a : Addr} {m : Str → Option Value} (x : h.Ns a m) (k : ∀ o, h.get? a = some o → h'.get? a = some o) : h'.Ns a m :=
  let ⟨o, es, ep, e, r⟩ := x; ⟨o, es, ep, k o e, r⟩
theorem triples_nil : TriplesOk (#[] : Array Value).toList := trivial
theorem triples_push {ps : Array Value} {a b : Int} {v : Value} (h : TriplesOk ps.toList) : TriplesOk (ps ++ #[rawInt a, rawInt b, v]).toList := by
  rw [show (ps ++ #[rawInt a, rawInt b, v]).toList = ps.toList ++ [rawInt a, rawInt b, v] by simp]
  exact TriplesOk_snoc _ _ _ _ h
theorem cdef {prog : Program} {w : World} {A : Around} {E : Value → Shared → Prop} {Q : Flow → Shared → Prop} {h₀ h : Heap} {g d t os} {N zt cc : Addr} {mg : Str → Option Value} {env : Env} {es : Array DictEntry} {n : Nat} {ps : Array Value} {fs : List (Addr × Obj)}
    {name : Str} {params : Arguments} {body : List Stmt} {scope : Scope} {pos : Pos} {clos : List (Str × Addr)} (C : CSt h₀ N zt h es n ps fs) (X : CCtx h₀ N zt cc mg env)
    (hd0 : params.defaults = []) (hk0 : params.kw_defaults = []) (ha : annTrees params none env = []) (hcl : closureFor scope env = pure clos) (ht : TriplesOk ps.toList) (hnf : codeAmong pos ps.toList = none)
    (hst : ∀ v, storeName env name v = localSet env name v) (hr : aRefKeyMayBeTheName name es = false) (hp : ∀ hh tk v, Obj.putName name hh (.str name tk) v (nsO es n) = nsO (es.push ⟨hh, .str name tk, v⟩) (n + 1))
    (q : ∀ f c' oc vs t ctv doc hh tk h' t', oc.cls = .type "code" → oc.data = .fields vs → vs[1]? = some (.str (qualnameIn env name name) t) → TriplesOk (ps ++ #[rawInt pos.line, rawInt pos.col, .ref c']).toList →
      CSt h₀ N zt h' (es.push ⟨hh, .str name tk, .ref f⟩) (n + 1) (ps ++ #[rawInt pos.line, rawInt pos.col, .ref c']) ((f, fnMade name (qualnameIn env name name) params body scope clos doc ((mg "__name__").getD .none) c' ctv) :: (c', oc) :: fs) → Q .next ⟨h', g, d, t', os⟩) :
    wpAny (model prog w) A (exec (.FunctionDef name params body [] none [] scope none name pos) env) Q E ⟨h, g, d, t, os⟩ := by
  obtain ⟨oc0, vs0, file, tf, flags, tg, inF, text, tt, e1, r1, r2, r3, r4, r5, r6, r7, r8, hne⟩ := id X.hd
  obtain ⟨bm, ob, b1, b2, b3, b4, b5, b6, b7, b8⟩ := id X.bA
  obtain ⟨bm', ob', b1', b2', b3', b4', b5', b6', b7', b8'⟩ := id X.bN
  rw [b1] at b1'; cases b1'
  refine nestDef_K hd0 hk0 ha (mk_fn (mg := mg) (P := zt) hcl X.globals (ns_but X.ns fun o e => C.keep _ _ X.gN X.gZ e) X.code
    ⟨oc0, vs0, file, tf, flags, tg, inF, text, tt, C.keep _ _ X.ccN hne e1, r1, r2, r3, r4, r5, r6, r7, r8, hne⟩ C.tab ht hnf X.gZ ⟨bm, ob, b1, b2, b3, b4, C.keep _ _ b4' b4 b5, b6, b7, b8⟩
    fun c' oc vs tq ctv doc h' tk hx hge k1 k2 k3 k4 htb => ?_)
  have C1 := C.code X.nZ hx htb
  have C2 := (C1.new (fun _ _ e => e) k1 (C.fresh hge)).new (fun b o e => Heap.get?_push_of_some (fnMade name (qualnameIn env name name) params body scope clos doc ((mg "__name__").getD .none) c' ctv) e) (Heap.get?_push_size _ rfl) (C1.fresh (Nat.le_refl _))
  refine cls_store X.locals (hst _) C2.ns hr (fun hh tk => es.push ⟨hh, .str name tk, .ref h'.objs.size⟩) (n + 1) (fun hh tk => hp hh tk _) fun hh tk h2 t2 sb e2 => ?_
  exact q _ _ _ _ _ _ _ _ _ _ _ k2 k3 k4 (triples_push ht) (C2.store X.nN sb e2)

def DunK (B : Bas) (n : Nat) (attr : String) (dS dO : D) (v : Value) : Prop :=
  ∀ (s : Shared) (va vb : Value), B.Ok → B.Here s.heap → Rp s.heap NoX va dS → Rp s.heap NoX vb dO → ∃ C f o fd, s.heap.get? f = some o ∧ o.data = .func fd ∧
    (∀ A E Q, AOk n A → (∀ s', Keeps s s' → Q (.ref C) s') → wpAny (model B.prog B.w) A (call (.type "type") [va]) Q E s) ∧
    (∀ s₁, Keeps s s₁ → ∀ (pl : Sem Bool) A E Q, AOk n A → (∀ s', Keeps s₁ s' → Q (.ref f, []) s') → wpAny (model B.prog B.w) A (getMethod (.ref C) (S attr) pl) Q E s₁) ∧
    (∀ s₁, Keeps s s₁ → ∀ A E Q, AOk n A → (∀ s', Keeps s₁ s' → Q v s') → wpAny (model B.prog B.w) A (call (.ref f) [va, vb]) Q E s₁)
section
variable {B : Bas} {n : Nat} {env : Env} {σ : Sto}
theorem keepsFn {s s' : Shared} {f : Addr} {o : Obj} (k : Keeps s s') (e : s.heap.get? f = some o) : s'.heap.get? f = some o := kheap k _ _ e
theorem ev_dunK (fr : Free B) {attr : String} {dS dO : D} {v : Value} {p1 p2 p3 p4 p5 p5' p6 : Pos} {pl : Sem Bool} (hk : env.kindOf (S "type") = some .globalImplicit) (hs : σ.get "self" = some (.val dS)) (ho : σ.get "other" = some (.val dO)) (x : DunK B n attr dS dO v) (hv : byVal v = true)
    (he : eval (.Call (.Attribute (.Call (.Name (S "type") p1) [.Name (S "self") p2] [] p3) (S attr) p4) [.Name (S "self") p5, .Name (S "other") p5'] [] p6) env = (do
      let ov ← eval (.Call (.Name (S "type") p1) [.Name (S "self") p2] [] p3) env
      standAt p4.atName
      let (f, first) ← holding [ov] (getMethod ov (S attr) pl)
      callWith p6 f first (backTo p6 (starEach [.Name (S "self") p5, .Name (S "other") p5'] env)) (backToKw p6 (keywordEach [] env))) := by rfl) :
    Ev B n env σ (.Call (.Attribute (.Call (.Name (S "type") p1) [.Name (S "self") p2] [] p3) (S attr) p4) [.Name (S "self") p5, .Name (S "other") p5'] [] p6) (.val v) :=
  fun h₀ P O A s E Q bo ao T q => by
    obtain ⟨va, hva, ra⟩ := T.vars "self" _ hs
    obtain ⟨vb, hvb, rb⟩ := T.vars "other" _ ho
    obtain ⟨C, f, o, fd, hf, hd, t1, t2, t3⟩ := x s va vb bo T.here (ra.sub fun _ q => q.elim) (rb.sub fun _ q => q.elim)
    have hx : BootName B env "type" (.type "type") := bn fr hk boot_type
    refine methodCall_KW (Call_ (wp_boot bo T hx.kind hx.miss hx.boot (PyProof.Rows.callWith_type1 (args_cons (wp_name T hva ?_ (by decide +kernel) (by decide +kernel)) (by rfl)) (by rfl) (by rfl)) hx.d hx.n) (by rfl)) he
    refine args_nil (t1 A E _ ao fun s1 k1 => t2 s1 k1 pl A E _ ao fun s2 k2 => ?_)
    have k02 := ktrans k1 k2
    refine callWith_def (o := o) hd (args_cons (wp_name (T.kp k02) (hva.keeps (kheap k02)) (args_cons (wp_name (T.kp k02) (hvb.keeps (kheap k02)) ?_ (by decide +kernel) (by decide +kernel)) (by rfl)) (by decide +kernel) (by decide +kernel)) (by rfl)) (by rfl)
    exact args_nil ⟨keepsFn k02 hf, t3 s2 k02 A E _ ao fun s3 k3 => q v s3 (ktrans k02 k3) (.val v hv)⟩
end

abbrev pw := PySem.Challenge.pw_dm0115_10
local macro_rules | `(tactic| walk_at "lk") => `(tactic| rfl)
local macro_rules | `(tactic| walk_at "gk") => `(tactic| first | exact FEnv.glob (by assumption) (by decide +kernel) | exact CEnv.glob (by assumption) _ (by decide +kernel))
local macro_rules | `(tactic| walk_at "st") => `(tactic| first | exact FEnv.sl (by assumption) (by decide +kernel) | exact FEnv.sc (by assumption) (by decide +kernel) | exact CEnv.sl (by assumption) (by decide +kernel))
local macro_rules | `(tactic| walk_at "ty") => `(tactic| first | exact ty_int | exact ty_bool | exact ty_list | exact ty_tuple | exact ty_str)
local macro_rules | `(tactic| walk_at "w") => `(tactic| first | ((with_reducible show EvW _ _ _ _ (Expr.Name _ _) _); exact Ev.weak (ev_name (by walk_at "lk"))) | ((with_reducible show EvW _ _ _ _ (Expr.Name _ _) _); exact evw_own (by walk_at "lk")) | exact Ev.weak (by walk_at "ev"))
local macro_rules | `(tactic| walk_at "aw") => `(tactic| first | ((with_reducible show EvAsW _ _ _ _ [] _); exact evasw_nil) | exact evasw_cons (by walk_at "w") (by walk_at "aw"))
local macro_rules | `(tactic| walk_at "as") => `(tactic| first | ((with_reducible show EvAs _ _ _ _ [] _); exact evas_nil) | exact evas_cons (by walk_at "ev") (by walk_at "as"))
local macro_rules | `(tactic| walk_at "ar") => `(tactic| first | assumption | decide | omega | (simp; done) | (simp; omega))
local macro_rules | `(tactic| walk_at "n") => `(tactic| first | ((with_reducible show EvN _ _ _ _ (Expr.List _ _) _); exact evn_list (by walk_at "as") (by walk_at "ar")) | ((with_reducible show EvN _ _ _ _ (Expr.BinOp _ Operator.Add _ _) _); exact evn_add (by walk_at "ev") (by walk_at "ev") (by walk_at "ar")))
local macro_rules | `(tactic| walk_at "tr") => `(tactic| first | exact tru_bool | exact tru_int)
local macro_rules | `(tactic| walk_at "t") => `(tactic| first | ((with_reducible show Tst _ _ _ _ (Expr.Compare _ [_] [_] _) _); exact tst_cmp (by walk_at "w") (by walk_at "w") (by walk_at "cmp")) | ((with_reducible show Tst _ _ _ _ (Expr.UnaryOp UnaryOp.Not _ _) _); exact tst_not (by walk_at "t")) | exact tst_ev (by walk_at "w") (by walk_at "tr"))
local macro_rules | `(tactic| walk_at "cmp") => `(tactic| first | ((with_reducible show Cmp _ _ CmpOp.Eq _ _ _); exact cmp_eq) | ((with_reducible show Cmp _ _ CmpOp.NotEq _ _ _); exact cmp_ne) | ((with_reducible show Cmp _ _ CmpOp.Lt _ _ _); exact cmp_lt) | ((with_reducible show Cmp _ _ CmpOp.LtE _ _ _); exact cmp_le) | ((with_reducible show Cmp _ _ CmpOp.Gt _ _ _); exact cmp_gt) | ((with_reducible show Cmp _ _ CmpOp.GtE _ _ _); exact cmp_ge) | ((with_reducible show Cmp _ _ CmpOp.Is _ _ _); exact cmp_is_bool_ni) | ((with_reducible show Cmp _ _ CmpOp.Is _ _ _); exact cmp_is_ni_ni))
local macro_rules | `(tactic| walk_at "ev") => `(tactic| first
  | ((with_reducible show Ev _ _ _ _ (Expr.Constant (Const.int _) _ _) _); exact ev_int)
  | ((with_reducible show Ev _ _ _ _ (Expr.Constant (Const.bool _) _ _) _); exact ev_bool)
  | ((with_reducible show Ev _ _ _ _ (Expr.Name (S "NotImplemented") _) _); exact ev_ni (by assumption) (by walk_at "gk"))
  | ((with_reducible show Ev _ _ _ _ (Expr.Name _ _) _); exact ev_name (by walk_at "lk"))
  | ((with_reducible show Ev _ _ _ _ (Expr.Call (Expr.Name (S "len") _) _ _ _) _); exact ev_len (by assumption) (by walk_at "gk") (by walk_at "w") (by walk_at "ar"))
  | ((with_reducible show Ev _ _ _ _ (Expr.Call (Expr.Name (S "range") _) [_] _ _) _); exact ev_rng1 (by assumption) (by walk_at "gk") (by walk_at "w"))
  | ((with_reducible show Ev _ _ _ _ (Expr.Call (Expr.Name (S "range") _) [_, _] _ _) _); exact ev_rng2 (by assumption) (by walk_at "gk") (by walk_at "w") (by walk_at "w"))
  | ((with_reducible show Ev _ _ _ _ (Expr.UnaryOp UnaryOp.Not _ _) _); exact ev_not (by walk_at "w") (by walk_at "tr"))
  | ((with_reducible show Ev _ _ _ _ (Expr.BinOp _ Operator.Sub _ _) _); exact ev_bin (by walk_at "w") (by walk_at "w") bin_sub)
  | ((with_reducible show Ev _ _ _ _ (Expr.BinOp _ Operator.Mod _ _) _); exact ev_bin (by walk_at "w") (by walk_at "w") (bin_mod (by walk_at "ar")))
  | ((with_reducible show Ev _ _ _ _ (Expr.Compare _ [_] [_] _) _); exact ev_cmp (by walk_at "w") (by walk_at "w") (by walk_at "cmp"))
  | ((with_reducible show Ev _ _ _ _ (Expr.Tuple _ _ _) _); exact ev_tuple (by walk_at "as") (by walk_at "ar"))
  | exact EvN.ev (by walk_at "n"))
theorem made_gt_lt {B : Bas} (fr : Free B) {n : Nat} {a : Addr} (F : HasDef B "_gt_from_lt" a (defAt pw 1)) {dS dO : D} {t u : Bool} (x : DunK B n "__lt__" dS dO (.bool t)) (c : Cmp B n .NotEq dS dO u) : FnS B (n + 1) a [dS, dO] (.bool (!t && u)) := by
  refine fns_of (xs := ["self", "other"]) F.fn rfl (fun pm cd doc vs hvs => ?_) rfl (by decide) (by decide +kernel) fun env fe => ?_
  · match vs, hvs with
    | [v, w], _ => rfl
  · show Ex B n env [("self", .val dS), ("other", .val dO)] _ _
    refine ex_cons (ex_assign (d := .val (.bool t)) (by walk_at "st") (ev_dunK fr (by walk_at "gk") rfl rfl x rfl) ?_ (by rfl))
    refine ex_cons (ex_if (t := false) (tst_cmp (by walk_at "w") (by walk_at "w") cmp_is_bool_ni) (fun h => nomatch h) fun _ => ex_nil ?_)
    refine ex_cons (ex_return (Ev.ret (ev_and (ev_not (by walk_at "w") tru_bool) fun _ => ev_cmp (by walk_at "w") (by walk_at "w") c)) ?_)
    rfl
theorem made_le_lt {B : Bas} (fr : Free B) {n : Nat} {a : Addr} (F : HasDef B "_le_from_lt" a (defAt pw 2)) {dS dO : D} {t u : Bool} (x : DunK B n "__lt__" dS dO (.bool t)) (c : Cmp B n .Eq dS dO u) : FnS B (n + 1) a [dS, dO] (.bool (t || u)) := by
  refine fns_of (xs := ["self", "other"]) F.fn rfl (fun pm cd doc vs hvs => ?_) rfl (by decide) (by decide +kernel) fun env fe => ?_
  · match vs, hvs with
    | [v, w], _ => rfl
  · show Ex B n env [("self", .val dS), ("other", .val dO)] _ _
    refine ex_cons (ex_assign (d := .val (.bool t)) (by walk_at "st") (ev_dunK fr (by walk_at "gk") rfl rfl x rfl) ?_ (by rfl))
    refine ex_cons (ex_if (t := false) (tst_cmp (by walk_at "w") (by walk_at "w") cmp_is_bool_ni) (fun h => nomatch h) fun _ => ex_nil ?_)
    refine ex_cons (ex_return (Ev.ret (ev_or (by walk_at "ev") fun _ => ev_cmp (by walk_at "w") (by walk_at "w") c)) ?_)
    rfl
theorem made_ge_lt {B : Bas} (fr : Free B) {n : Nat} {a : Addr} (F : HasDef B "_ge_from_lt" a (defAt pw 3)) {dS dO : D} {t : Bool} (x : DunK B n "__lt__" dS dO (.bool t)) : FnS B (n + 1) a [dS, dO] (.bool (!t)) := by
  refine fns_of (xs := ["self", "other"]) F.fn rfl (fun pm cd doc vs hvs => ?_) rfl (by decide) (by decide +kernel) fun env fe => ?_
  · match vs, hvs with
    | [v, w], _ => rfl
  · show Ex B n env [("self", .val dS), ("other", .val dO)] _ _
    refine ex_cons (ex_assign (d := .val (.bool t)) (by walk_at "st") (ev_dunK fr (by walk_at "gk") rfl rfl x rfl) ?_ (by rfl))
    refine ex_cons (ex_if (t := false) (tst_cmp (by walk_at "w") (by walk_at "w") cmp_is_bool_ni) (fun h => nomatch h) fun _ => ex_nil ?_)
    refine ex_cons (ex_return (Ev.ret (ev_not (by walk_at "w") tru_bool)) ?_)
    rfl
theorem made_ge_le {B : Bas} (fr : Free B) {n : Nat} {a : Addr} (F : HasDef B "_ge_from_le" a (defAt pw 4)) {dS dO : D} {t u : Bool} (x : DunK B n "__le__" dS dO (.bool t)) (c : Cmp B n .Eq dS dO u) : FnS B (n + 1) a [dS, dO] (.bool (!t || u)) := by
  refine fns_of (xs := ["self", "other"]) F.fn rfl (fun pm cd doc vs hvs => ?_) rfl (by decide) (by decide +kernel) fun env fe => ?_
  · match vs, hvs with
    | [v, w], _ => rfl
  · show Ex B n env [("self", .val dS), ("other", .val dO)] _ _
    refine ex_cons (ex_assign (d := .val (.bool t)) (by walk_at "st") (ev_dunK fr (by walk_at "gk") rfl rfl x rfl) ?_ (by rfl))
    refine ex_cons (ex_if (t := false) (tst_cmp (by walk_at "w") (by walk_at "w") cmp_is_bool_ni) (fun h => nomatch h) fun _ => ex_nil ?_)
    refine ex_cons (ex_return (Ev.ret (ev_or (ev_not (by walk_at "w") tru_bool) fun _ => ev_cmp (by walk_at "w") (by walk_at "w") c)) ?_)
    rfl
theorem made_lt_le {B : Bas} (fr : Free B) {n : Nat} {a : Addr} (F : HasDef B "_lt_from_le" a (defAt pw 5)) {dS dO : D} {t u : Bool} (x : DunK B n "__le__" dS dO (.bool t)) (c : Cmp B n .NotEq dS dO u) : FnS B (n + 1) a [dS, dO] (.bool (t && u)) := by
  refine fns_of (xs := ["self", "other"]) F.fn rfl (fun pm cd doc vs hvs => ?_) rfl (by decide) (by decide +kernel) fun env fe => ?_
  · match vs, hvs with
    | [v, w], _ => rfl
  · show Ex B n env [("self", .val dS), ("other", .val dO)] _ _
    refine ex_cons (ex_assign (d := .val (.bool t)) (by walk_at "st") (ev_dunK fr (by walk_at "gk") rfl rfl x rfl) ?_ (by rfl))
    refine ex_cons (ex_if (t := false) (tst_cmp (by walk_at "w") (by walk_at "w") cmp_is_bool_ni) (fun h => nomatch h) fun _ => ex_nil ?_)
    refine ex_cons (ex_return (Ev.ret (ev_and (by walk_at "ev") fun _ => ev_cmp (by walk_at "w") (by walk_at "w") c)) ?_)
    rfl
theorem made_gt_le {B : Bas} (fr : Free B) {n : Nat} {a : Addr} (F : HasDef B "_gt_from_le" a (defAt pw 6)) {dS dO : D} {t : Bool} (x : DunK B n "__le__" dS dO (.bool t)) : FnS B (n + 1) a [dS, dO] (.bool (!t)) := by
  refine fns_of (xs := ["self", "other"]) F.fn rfl (fun pm cd doc vs hvs => ?_) rfl (by decide) (by decide +kernel) fun env fe => ?_
  · match vs, hvs with
    | [v, w], _ => rfl
  · show Ex B n env [("self", .val dS), ("other", .val dO)] _ _
    refine ex_cons (ex_assign (d := .val (.bool t)) (by walk_at "st") (ev_dunK fr (by walk_at "gk") rfl rfl x rfl) ?_ (by rfl))
    refine ex_cons (ex_if (t := false) (tst_cmp (by walk_at "w") (by walk_at "w") cmp_is_bool_ni) (fun h => nomatch h) fun _ => ex_nil ?_)
    refine ex_cons (ex_return (Ev.ret (ev_not (by walk_at "w") tru_bool)) ?_)
    rfl
theorem made_lt_gt {B : Bas} (fr : Free B) {n : Nat} {a : Addr} (F : HasDef B "_lt_from_gt" a (defAt pw 7)) {dS dO : D} {t u : Bool} (x : DunK B n "__gt__" dS dO (.bool t)) (c : Cmp B n .NotEq dS dO u) : FnS B (n + 1) a [dS, dO] (.bool (!t && u)) := by
  refine fns_of (xs := ["self", "other"]) F.fn rfl (fun pm cd doc vs hvs => ?_) rfl (by decide) (by decide +kernel) fun env fe => ?_
  · match vs, hvs with
    | [v, w], _ => rfl
  · show Ex B n env [("self", .val dS), ("other", .val dO)] _ _
    refine ex_cons (ex_assign (d := .val (.bool t)) (by walk_at "st") (ev_dunK fr (by walk_at "gk") rfl rfl x rfl) ?_ (by rfl))
    refine ex_cons (ex_if (t := false) (tst_cmp (by walk_at "w") (by walk_at "w") cmp_is_bool_ni) (fun h => nomatch h) fun _ => ex_nil ?_)
    refine ex_cons (ex_return (Ev.ret (ev_and (ev_not (by walk_at "w") tru_bool) fun _ => ev_cmp (by walk_at "w") (by walk_at "w") c)) ?_)
    rfl
theorem made_ge_gt {B : Bas} (fr : Free B) {n : Nat} {a : Addr} (F : HasDef B "_ge_from_gt" a (defAt pw 8)) {dS dO : D} {t u : Bool} (x : DunK B n "__gt__" dS dO (.bool t)) (c : Cmp B n .Eq dS dO u) : FnS B (n + 1) a [dS, dO] (.bool (t || u)) := by
  refine fns_of (xs := ["self", "other"]) F.fn rfl (fun pm cd doc vs hvs => ?_) rfl (by decide) (by decide +kernel) fun env fe => ?_
  · match vs, hvs with
    | [v, w], _ => rfl
  · show Ex B n env [("self", .val dS), ("other", .val dO)] _ _
    refine ex_cons (ex_assign (d := .val (.bool t)) (by walk_at "st") (ev_dunK fr (by walk_at "gk") rfl rfl x rfl) ?_ (by rfl))
    refine ex_cons (ex_if (t := false) (tst_cmp (by walk_at "w") (by walk_at "w") cmp_is_bool_ni) (fun h => nomatch h) fun _ => ex_nil ?_)
    refine ex_cons (ex_return (Ev.ret (ev_or (by walk_at "ev") fun _ => ev_cmp (by walk_at "w") (by walk_at "w") c)) ?_)
    rfl
theorem made_le_gt {B : Bas} (fr : Free B) {n : Nat} {a : Addr} (F : HasDef B "_le_from_gt" a (defAt pw 9)) {dS dO : D} {t : Bool} (x : DunK B n "__gt__" dS dO (.bool t)) : FnS B (n + 1) a [dS, dO] (.bool (!t)) := by
  refine fns_of (xs := ["self", "other"]) F.fn rfl (fun pm cd doc vs hvs => ?_) rfl (by decide) (by decide +kernel) fun env fe => ?_
  · match vs, hvs with
    | [v, w], _ => rfl
  · show Ex B n env [("self", .val dS), ("other", .val dO)] _ _
    refine ex_cons (ex_assign (d := .val (.bool t)) (by walk_at "st") (ev_dunK fr (by walk_at "gk") rfl rfl x rfl) ?_ (by rfl))
    refine ex_cons (ex_if (t := false) (tst_cmp (by walk_at "w") (by walk_at "w") cmp_is_bool_ni) (fun h => nomatch h) fun _ => ex_nil ?_)
    refine ex_cons (ex_return (Ev.ret (ev_not (by walk_at "w") tru_bool)) ?_)
    rfl
theorem made_le_ge {B : Bas} (fr : Free B) {n : Nat} {a : Addr} (F : HasDef B "_le_from_ge" a (defAt pw 10)) {dS dO : D} {t u : Bool} (x : DunK B n "__ge__" dS dO (.bool t)) (c : Cmp B n .Eq dS dO u) : FnS B (n + 1) a [dS, dO] (.bool (!t || u)) := by
  refine fns_of (xs := ["self", "other"]) F.fn rfl (fun pm cd doc vs hvs => ?_) rfl (by decide) (by decide +kernel) fun env fe => ?_
  · match vs, hvs with
    | [v, w], _ => rfl
  · show Ex B n env [("self", .val dS), ("other", .val dO)] _ _
    refine ex_cons (ex_assign (d := .val (.bool t)) (by walk_at "st") (ev_dunK fr (by walk_at "gk") rfl rfl x rfl) ?_ (by rfl))
    refine ex_cons (ex_if (t := false) (tst_cmp (by walk_at "w") (by walk_at "w") cmp_is_bool_ni) (fun h => nomatch h) fun _ => ex_nil ?_)
    refine ex_cons (ex_return (Ev.ret (ev_or (ev_not (by walk_at "w") tru_bool) fun _ => ev_cmp (by walk_at "w") (by walk_at "w") c)) ?_)
    rfl
theorem made_gt_ge {B : Bas} (fr : Free B) {n : Nat} {a : Addr} (F : HasDef B "_gt_from_ge" a (defAt pw 11)) {dS dO : D} {t u : Bool} (x : DunK B n "__ge__" dS dO (.bool t)) (c : Cmp B n .NotEq dS dO u) : FnS B (n + 1) a [dS, dO] (.bool (t && u)) := by
  refine fns_of (xs := ["self", "other"]) F.fn rfl (fun pm cd doc vs hvs => ?_) rfl (by decide) (by decide +kernel) fun env fe => ?_
  · match vs, hvs with
    | [v, w], _ => rfl
  · show Ex B n env [("self", .val dS), ("other", .val dO)] _ _
    refine ex_cons (ex_assign (d := .val (.bool t)) (by walk_at "st") (ev_dunK fr (by walk_at "gk") rfl rfl x rfl) ?_ (by rfl))
    refine ex_cons (ex_if (t := false) (tst_cmp (by walk_at "w") (by walk_at "w") cmp_is_bool_ni) (fun h => nomatch h) fun _ => ex_nil ?_)
    refine ex_cons (ex_return (Ev.ret (ev_and (by walk_at "ev") fun _ => ev_cmp (by walk_at "w") (by walk_at "w") c)) ?_)
    rfl
theorem made_lt_ge {B : Bas} (fr : Free B) {n : Nat} {a : Addr} (F : HasDef B "_lt_from_ge" a (defAt pw 12)) {dS dO : D} {t : Bool} (x : DunK B n "__ge__" dS dO (.bool t)) : FnS B (n + 1) a [dS, dO] (.bool (!t)) := by
  refine fns_of (xs := ["self", "other"]) F.fn rfl (fun pm cd doc vs hvs => ?_) rfl (by decide) (by decide +kernel) fun env fe => ?_
  · match vs, hvs with
    | [v, w], _ => rfl
  · show Ex B n env [("self", .val dS), ("other", .val dO)] _ _
    refine ex_cons (ex_assign (d := .val (.bool t)) (by walk_at "st") (ev_dunK fr (by walk_at "gk") rfl rfl x rfl) ?_ (by rfl))
    refine ex_cons (ex_if (t := false) (tst_cmp (by walk_at "w") (by walk_at "w") cmp_is_bool_ni) (fun h => nomatch h) fun _ => ex_nil ?_)
    refine ex_cons (ex_return (Ev.ret (ev_not (by walk_at "w") tru_bool)) ?_)
    rfl
structure Twelve (B : Bas) (a1 a2 a3 a4 a5 a6 a7 a8 a9 a10 a11 a12 : Addr) : Prop where
  f1 : HasDef B "_gt_from_lt" a1 (defAt pw 1)
  f2 : HasDef B "_le_from_lt" a2 (defAt pw 2)
  f3 : HasDef B "_ge_from_lt" a3 (defAt pw 3)
  f4 : HasDef B "_ge_from_le" a4 (defAt pw 4)
  f5 : HasDef B "_lt_from_le" a5 (defAt pw 5)
  f6 : HasDef B "_gt_from_le" a6 (defAt pw 6)
  f7 : HasDef B "_lt_from_gt" a7 (defAt pw 7)
  f8 : HasDef B "_ge_from_gt" a8 (defAt pw 8)
  f9 : HasDef B "_le_from_gt" a9 (defAt pw 9)
  f10 : HasDef B "_le_from_ge" a10 (defAt pw 10)
  f11 : HasDef B "_gt_from_ge" a11 (defAt pw 11)
  f12 : HasDef B "_lt_from_ge" a12 (defAt pw 12)

set_option linter.constructorNameAsVariable false
def clsBody : List Stmt := match (defAt pw 13).body with | .ClassDef _ _ _ b _ _ _ _ _ _ _ :: _ => b | _ => []
def clsScope : Scope := match (defAt pw 13).body with | .ClassDef _ _ _ _ _ _ sc _ _ _ _ :: _ => sc | _ => default
abbrev cEnv (N cl frm cc : Addr) : Env := { scope := clsScope, locals := N, globals := mainGlobals, cells := [(S "mycmp", cl)], qual := S "cmp_to_key.<locals>.K.", code := .ref cc, frame := some frm, builtins := builtinsNs }
def kfn (i : Nat) (clos : List (Str × Addr)) (doc pm : Value) (c' : Addr) (ctv : Value) : Obj := match clsBody[i]? with
  | some (.FunctionDef name params body _ _ _ scope _ _ _) => fnMade name (S "cmp_to_key.<locals>.K." ++ name) params body scope clos doc pm c' ctv
  | _ => default
def kB (hf : Nat → Int) (tf : Nat → Tok) (sl f1 f2 f3 f4 f5 f6 : Addr) : Array DictEntry := #[⟨hf 0, .str (S "__module__") (tf 0), .str (S "cpy313.functools") (tf 20)⟩, ⟨hf 1, .str (S "__qualname__") (tf 1), .str (S "cmp_to_key.<locals>.K") (tf 21)⟩, ⟨hf 2, .str (S "__firstlineno__") (tf 2), .int 64 (tf 22)⟩, ⟨hf 3, .str (S "__slots__") (tf 3), .ref sl⟩, ⟨hf 4, .str (S "__init__") (tf 4), .ref f1⟩, ⟨hf 5, .str (S "__lt__") (tf 5), .ref f2⟩, ⟨hf 6, .str (S "__gt__") (tf 6), .ref f3⟩, ⟨hf 7, .str (S "__eq__") (tf 7), .ref f4⟩, ⟨hf 8, .str (S "__le__") (tf 8), .ref f5⟩, ⟨hf 9, .str (S "__ge__") (tf 9), .ref f6⟩, ⟨hf 10, .str (S "__hash__") (tf 10), .none⟩]
def psK (c1 c2 c3 c4 c5 c6 : Addr) : Array Value := #[rawInt 68, rawInt 8, .ref c1, rawInt 71, rawInt 8, .ref c2, rawInt 74, rawInt 8, .ref c3, rawInt 77, rawInt 8, .ref c4, rawInt 80, rawInt 8, .ref c5, rawInt 83, rawInt 8, .ref c6]
def CodeO (qual : Str) (oc : Obj) : Prop := oc.cls = .type "code" ∧ ∃ vs t, oc.data = .fields vs ∧ vs[1]? = some (.str qual t)
set_option maxHeartbeats 0 in
theorem body_K {prog : Program} {w : World} {A : Around} {E : Value → Shared → Prop} {Q : Flow → Shared → Prop} {h₀ : Heap} {g d t os} {N zt cc cl frm : Addr} {mg : Str → Option Value} {hv0 hv1 hv2 : Int} {tv0 tv1 tv2 t21 t22 : Tok} {vN : Value}
    (X : CCtx h₀ N zt cc mg (cEnv N cl frm cc)) (hz : h₀.get? zt = some (tabObj #[]))
    (hN : h₀.get? N = some (nsO #[⟨hv0, .str (S "__module__") tv0, vN⟩, ⟨hv1, .str (S "__qualname__") tv1, .str (S "cmp_to_key.<locals>.K") t21⟩, ⟨hv2, .str (S "__firstlineno__") tv2, .int 64 t22⟩] 3))
    (q : ∀ (hf : Nat → Int) (tf : Nat → Tok) ts sl f1 f2 f3 f4 f5 f6 c1 c2 c3 c4 c5 c6 oc1 oc2 oc3 oc4 oc5 oc6 d1 d2 d3 d4 d5 d6 v1 v2 v3 v4 v5 v6 h' t', CodeO (S "cmp_to_key.<locals>.K.__init__") oc1 → CodeO (S "cmp_to_key.<locals>.K.__lt__") oc2 → CodeO (S "cmp_to_key.<locals>.K.__gt__") oc3 → CodeO (S "cmp_to_key.<locals>.K.__eq__") oc4 → CodeO (S "cmp_to_key.<locals>.K.__le__") oc5 → CodeO (S "cmp_to_key.<locals>.K.__ge__") oc6 →
      CSt h₀ N zt h' (kB hf tf sl f1 f2 f3 f4 f5 f6) 11 (psK c1 c2 c3 c4 c5 c6)
        [(f6, kfn 7 [(S "mycmp", cl)] d6 ((mg "__name__").getD .none) c6 v6), (c6, oc6), (f5, kfn 6 [(S "mycmp", cl)] d5 ((mg "__name__").getD .none) c5 v5), (c5, oc5), (f4, kfn 5 [(S "mycmp", cl)] d4 ((mg "__name__").getD .none) c4 v4), (c4, oc4),
         (f3, kfn 4 [(S "mycmp", cl)] d3 ((mg "__name__").getD .none) c3 v3), (c3, oc3), (f2, kfn 3 [(S "mycmp", cl)] d2 ((mg "__name__").getD .none) c2 v2), (c2, oc2), (f1, kfn 2 [] d1 ((mg "__name__").getD .none) c1 v1), (c1, oc1), (sl, { cls := .type "list", data := .seq #[.str (S "obj") ts] 0 })] → Q .next ⟨h', g, d, t', os⟩) :
    wpAny (model prog w) A (execs clsBody (cEnv N cl frm cc)) Q E ⟨h₀, g, d, t, os⟩ := by
  have C0 : CSt h₀ N zt h₀ _ 3 _ [] := ⟨fun _ _ _ _ e => e, hN, hz, fun _ hp => nomatch hp⟩
  refine wpAny_execs_cons (wpAny_Assign_Name (wpAny_Constant_str ?_))
  refine cls_store rfl (by rfl) C0.ns (by kernel_rfl!) (fun _ _ => #[⟨hv0, .str (S "__module__") tv0, .str (S "cpy313.functools") t⟩, ⟨hv1, .str (S "__qualname__") tv1, .str (S "cmp_to_key.<locals>.K") t21⟩, ⟨hv2, .str (S "__firstlineno__") tv2, .int 64 t22⟩]) 3 (fun _ _ => by kernel_rfl!) fun _ _ h1 t1 sb e => ?_
  have C1 := C0.store X.nN sb e
  refine wpAny_execs_cons (wpAny_Assign_Name (wpAny_List ?_))
  refine args_cons (wpAny_Constant_str (k := 0) (pos := ⟨66, 21, 66, 26⟩) ?_) (by rfl)
  refine args_nil ?_
  refine ⟨(show 1 ≤ sizeLine by decide), ?_⟩
  have C2 := C1.new (fun b o e => Heap.get?_push_of_some { cls := .type "list", data := .seq [Value.str (S "obj") t1].toArray } e) (Heap.get?_push_size _ rfl) (C1.fresh (Nat.le_refl _))
  generalize h1.objs.size = sl at C2 ⊢
  generalize h1.push _ = h1' at C2 ⊢
  refine cls_store rfl (by rfl) C2.ns (by kernel_rfl!) (fun hv3 tv3 => #[⟨hv0, .str (S "__module__") tv0, .str (S "cpy313.functools") t⟩, ⟨hv1, .str (S "__qualname__") tv1, .str (S "cmp_to_key.<locals>.K") t21⟩, ⟨hv2, .str (S "__firstlineno__") tv2, .int 64 t22⟩, ⟨hv3, .str (S "__slots__") tv3, .ref sl⟩]) 4 (fun _ _ => by kernel_rfl!) fun hv3 tv3 h3 t3 sb e => ?_
  have C3 := C2.store X.nN sb e
  clear C1 C2 sb e
  show wpAny _ _ (execs _ _) _ _ ⟨h3, g, d, t3, os⟩
  refine wpAny_execs_cons (cdef C3 X rfl rfl rfl (clos := []) (by kernel_rfl!) triples_nil (by kernel_rfl!) (fun _ => by kernel_rfl!) (by kernel_rfl!) (fun _ _ _ => by kernel_rfl!) fun f1 c1 oc1 vs1 tq1 v1 d1 hh1 tk1 hp1 tt1 a1 b1 e1 T1 D1 => ?_)
  clear C3
  replace D1 : CSt h₀ N zt hp1 #[⟨hv0, .str (S "__module__") tv0, .str (S "cpy313.functools") t⟩, ⟨hv1, .str (S "__qualname__") tv1, .str (S "cmp_to_key.<locals>.K") t21⟩, ⟨hv2, .str (S "__firstlineno__") tv2, .int 64 t22⟩, ⟨hv3, .str (S "__slots__") tv3, .ref sl⟩, ⟨hh1, .str (S "__init__") tk1, .ref f1⟩] 5 #[rawInt 68, rawInt 8, .ref c1] _ := D1
  replace T1 : TriplesOk (#[rawInt 68, rawInt 8, .ref c1] : Array Value).toList := T1
  refine wpAny_execs_cons (cdef D1 X rfl rfl rfl (clos := [(S "mycmp", cl)]) (by kernel_rfl!) T1 (by kernel_rfl!) (fun _ => by kernel_rfl!) (by kernel_rfl!) (fun _ _ _ => by kernel_rfl!) fun f2 c2 oc2 vs2 tq2 v2 d2 hh2 tk2 hp2 tt2 a2 b2 e2 T2 D2 => ?_)
  clear D1
  replace D2 : CSt h₀ N zt hp2 #[⟨hv0, .str (S "__module__") tv0, .str (S "cpy313.functools") t⟩, ⟨hv1, .str (S "__qualname__") tv1, .str (S "cmp_to_key.<locals>.K") t21⟩, ⟨hv2, .str (S "__firstlineno__") tv2, .int 64 t22⟩, ⟨hv3, .str (S "__slots__") tv3, .ref sl⟩, ⟨hh1, .str (S "__init__") tk1, .ref f1⟩, ⟨hh2, .str (S "__lt__") tk2, .ref f2⟩] 6 #[rawInt 68, rawInt 8, .ref c1, rawInt 71, rawInt 8, .ref c2] _ := D2
  replace T2 : TriplesOk (#[rawInt 68, rawInt 8, .ref c1, rawInt 71, rawInt 8, .ref c2] : Array Value).toList := T2
  refine wpAny_execs_cons (cdef D2 X rfl rfl rfl (clos := [(S "mycmp", cl)]) (by kernel_rfl!) T2 (by kernel_rfl!) (fun _ => by kernel_rfl!) (by kernel_rfl!) (fun _ _ _ => by kernel_rfl!) fun f3 c3 oc3 vs3 tq3 v3 d3 hh3 tk3 hp3 tt3 a3 b3 e3 T3 D3 => ?_)
  clear D2
  replace D3 : CSt h₀ N zt hp3 #[⟨hv0, .str (S "__module__") tv0, .str (S "cpy313.functools") t⟩, ⟨hv1, .str (S "__qualname__") tv1, .str (S "cmp_to_key.<locals>.K") t21⟩, ⟨hv2, .str (S "__firstlineno__") tv2, .int 64 t22⟩, ⟨hv3, .str (S "__slots__") tv3, .ref sl⟩, ⟨hh1, .str (S "__init__") tk1, .ref f1⟩, ⟨hh2, .str (S "__lt__") tk2, .ref f2⟩, ⟨hh3, .str (S "__gt__") tk3, .ref f3⟩] 7 #[rawInt 68, rawInt 8, .ref c1, rawInt 71, rawInt 8, .ref c2, rawInt 74, rawInt 8, .ref c3] _ := D3
  replace T3 : TriplesOk (#[rawInt 68, rawInt 8, .ref c1, rawInt 71, rawInt 8, .ref c2, rawInt 74, rawInt 8, .ref c3] : Array Value).toList := T3
  refine wpAny_execs_cons (cdef D3 X rfl rfl rfl (clos := [(S "mycmp", cl)]) (by kernel_rfl!) T3 (by kernel_rfl!) (fun _ => by kernel_rfl!) (by kernel_rfl!) (fun _ _ _ => by kernel_rfl!) fun f4 c4 oc4 vs4 tq4 v4 d4 hh4 tk4 hp4 tt4 a4 b4 e4 T4 D4 => ?_)
  clear D3
  replace D4 : CSt h₀ N zt hp4 #[⟨hv0, .str (S "__module__") tv0, .str (S "cpy313.functools") t⟩, ⟨hv1, .str (S "__qualname__") tv1, .str (S "cmp_to_key.<locals>.K") t21⟩, ⟨hv2, .str (S "__firstlineno__") tv2, .int 64 t22⟩, ⟨hv3, .str (S "__slots__") tv3, .ref sl⟩, ⟨hh1, .str (S "__init__") tk1, .ref f1⟩, ⟨hh2, .str (S "__lt__") tk2, .ref f2⟩, ⟨hh3, .str (S "__gt__") tk3, .ref f3⟩, ⟨hh4, .str (S "__eq__") tk4, .ref f4⟩] 8 #[rawInt 68, rawInt 8, .ref c1, rawInt 71, rawInt 8, .ref c2, rawInt 74, rawInt 8, .ref c3, rawInt 77, rawInt 8, .ref c4] _ := D4
  replace T4 : TriplesOk (#[rawInt 68, rawInt 8, .ref c1, rawInt 71, rawInt 8, .ref c2, rawInt 74, rawInt 8, .ref c3, rawInt 77, rawInt 8, .ref c4] : Array Value).toList := T4
  refine wpAny_execs_cons (cdef D4 X rfl rfl rfl (clos := [(S "mycmp", cl)]) (by kernel_rfl!) T4 (by kernel_rfl!) (fun _ => by kernel_rfl!) (by kernel_rfl!) (fun _ _ _ => by kernel_rfl!) fun f5 c5 oc5 vs5 tq5 v5 d5 hh5 tk5 hp5 tt5 a5 b5 e5 T5 D5 => ?_)
  clear D4
  replace D5 : CSt h₀ N zt hp5 #[⟨hv0, .str (S "__module__") tv0, .str (S "cpy313.functools") t⟩, ⟨hv1, .str (S "__qualname__") tv1, .str (S "cmp_to_key.<locals>.K") t21⟩, ⟨hv2, .str (S "__firstlineno__") tv2, .int 64 t22⟩, ⟨hv3, .str (S "__slots__") tv3, .ref sl⟩, ⟨hh1, .str (S "__init__") tk1, .ref f1⟩, ⟨hh2, .str (S "__lt__") tk2, .ref f2⟩, ⟨hh3, .str (S "__gt__") tk3, .ref f3⟩, ⟨hh4, .str (S "__eq__") tk4, .ref f4⟩, ⟨hh5, .str (S "__le__") tk5, .ref f5⟩] 9 #[rawInt 68, rawInt 8, .ref c1, rawInt 71, rawInt 8, .ref c2, rawInt 74, rawInt 8, .ref c3, rawInt 77, rawInt 8, .ref c4, rawInt 80, rawInt 8, .ref c5] _ := D5
  replace T5 : TriplesOk (#[rawInt 68, rawInt 8, .ref c1, rawInt 71, rawInt 8, .ref c2, rawInt 74, rawInt 8, .ref c3, rawInt 77, rawInt 8, .ref c4, rawInt 80, rawInt 8, .ref c5] : Array Value).toList := T5
  refine wpAny_execs_cons (cdef D5 X rfl rfl rfl (clos := [(S "mycmp", cl)]) (by kernel_rfl!) T5 (by kernel_rfl!) (fun _ => by kernel_rfl!) (by kernel_rfl!) (fun _ _ _ => by kernel_rfl!) fun f6 c6 oc6 vs6 tq6 v6 d6 hh6 tk6 hp6 tt6 a6 b6 e6 T6 D6 => ?_)
  clear D5
  replace D6 : CSt h₀ N zt hp6 #[⟨hv0, .str (S "__module__") tv0, .str (S "cpy313.functools") t⟩, ⟨hv1, .str (S "__qualname__") tv1, .str (S "cmp_to_key.<locals>.K") t21⟩, ⟨hv2, .str (S "__firstlineno__") tv2, .int 64 t22⟩, ⟨hv3, .str (S "__slots__") tv3, .ref sl⟩, ⟨hh1, .str (S "__init__") tk1, .ref f1⟩, ⟨hh2, .str (S "__lt__") tk2, .ref f2⟩, ⟨hh3, .str (S "__gt__") tk3, .ref f3⟩, ⟨hh4, .str (S "__eq__") tk4, .ref f4⟩, ⟨hh5, .str (S "__le__") tk5, .ref f5⟩, ⟨hh6, .str (S "__ge__") tk6, .ref f6⟩] 10 #[rawInt 68, rawInt 8, .ref c1, rawInt 71, rawInt 8, .ref c2, rawInt 74, rawInt 8, .ref c3, rawInt 77, rawInt 8, .ref c4, rawInt 80, rawInt 8, .ref c5, rawInt 83, rawInt 8, .ref c6] _ := D6
  replace T6 : TriplesOk (#[rawInt 68, rawInt 8, .ref c1, rawInt 71, rawInt 8, .ref c2, rawInt 74, rawInt 8, .ref c3, rawInt 77, rawInt 8, .ref c4, rawInt 80, rawInt 8, .ref c5, rawInt 83, rawInt 8, .ref c6] : Array Value).toList := T6
  refine wpAny_execs_cons (wpAny_Assign_Name (wpAny_Constant_none ?_))
  refine cls_new rfl (by kernel_rfl!) D6.ns (by kernel_rfl!) (fun _ _ => by kernel_rfl!) fun hh7 tk7 h7 t7 sb e => ?_
  have D7 := D6.store X.nN sb e
  show wpAny _ _ (execs [] _) _ _ ⟨h7, g, d, t7, os⟩
  exact wpAny_execs_nil (q (fun i => [hv0, hv1, hv2, hv3, hh1, hh2, hh3, hh4, hh5, hh6, hh7].getD i 0) (fun i => [tv0, tv1, tv2, tv3, tk1, tk2, tk3, tk4, tk5, tk6, tk7, 0, 0, 0, 0, 0, 0, 0, 0, 0, t, t21, t22].getD i 0) t1 sl f1 f2 f3 f4 f5 f6 c1 c2 c3 c4 c5 c6 oc1 oc2 oc3 oc4 oc5 oc6 d1 d2 d3 d4 d5 d6 v1 v2 v3 v4 v5 v6 h7 t7 ⟨a1, _, _, b1, e1⟩ ⟨a2, _, _, b2, e2⟩ ⟨a3, _, _, b3, e3⟩ ⟨a4, _, _, b4, e4⟩ ⟨a5, _, _, b5, e5⟩ ⟨a6, _, _, b6, e6⟩ D7)
theorem cdef2 {prog : Program} {w : World} {A : Around} {E : Value → Shared → Prop} {Q : Flow → Shared → Prop} {h₀ h : Heap} {g d t os} {N zt cc : Addr} {mg : Str → Option Value} {env : Env} {es : Array DictEntry} {n : Nat} {ps : Array Value} {fs : List (Addr × Obj)}
    {name : Str} {params : Arguments} {body : List Stmt} {scope : Scope} {pos : Pos} {clos : List (Str × Addr)} (C : CSt h₀ N zt h es n ps fs) (X : CCtx h₀ N zt cc mg env) {c' : Addr}
    (hd0 : params.defaults = []) (hk0 : params.kw_defaults = []) (ha : annTrees params none env = []) (hcl : closureFor scope env = pure clos) (ht : TriplesOk ps.toList) (hf : codeAmong pos ps.toList = some (.ref c'))
    (hst : ∀ v, storeName env name v = localSet env name v) (hr : aRefKeyMayBeTheName name es = false) (hp : ∀ hh tk v, Obj.putName name hh (.str name tk) v (nsO es n) = nsO (es.push ⟨hh, .str name tk, v⟩) (n + 1))
    (q : ∀ f ctv doc hh tk h' t',
      CSt h₀ N zt h' (es.push ⟨hh, .str name tk, .ref f⟩) (n + 1) ps ((f, fnMade name (qualnameIn env name name) params body scope clos doc ((mg "__name__").getD .none) c' ctv) :: fs) → Q .next ⟨h', g, d, t', os⟩) :
    wpAny (model prog w) A (exec (.FunctionDef name params body [] none [] scope none name pos) env) Q E ⟨h, g, d, t, os⟩ := by
  obtain ⟨oc0, vs0, file, tf, flags, tg, inF, text, tt, e1, r1, r2, r3, r4, r5, r6, r7, r8, hne⟩ := id X.hd
  obtain ⟨bm, ob, b1, b2, b3, b4, b5, b6, b7, b8⟩ := id X.bA
  obtain ⟨bm', ob', b1', b2', b3', b4', b5', b6', b7', b8'⟩ := id X.bN
  rw [b1] at b1'; cases b1'
  refine nestDef_K hd0 hk0 ha (makeFunction_hit (mg := mg) (P := zt) hcl X.globals (ns_but X.ns fun o e => C.keep _ _ X.gN X.gZ e) X.code
    ⟨oc0, vs0, file, tf, flags, tg, inF, text, tt, C.keep _ _ X.ccN hne e1, r1, r2, r3, r4, r5, r6, r7, r8, hne⟩ C.tab ht hf ⟨bm, ob, b1, b2, b3, b4, C.keep _ _ b4' b4 b5, b6, b7, b8⟩
    fun ctv doc h' tk hk hge => ?_)
  have C2 := (C.keeps hk).new (fun b o e => Heap.get?_push_of_some (fnMade name (qualnameIn env name name) params body scope clos doc ((mg "__name__").getD .none) c' ctv) e) (Heap.get?_push_size _ rfl) ((C.keeps hk).fresh (Nat.le_refl _))
  refine cls_store X.locals (hst _) C2.ns hr (fun hh tk => es.push ⟨hh, .str name tk, .ref h'.objs.size⟩) (n + 1) (fun hh tk => hp hh tk _) fun hh tk h2 t2 sb e2 => ?_
  exact q _ _ _ _ _ _ _ (C2.store X.nN sb e2)
set_option maxHeartbeats 0 in
theorem body_K2 {prog : Program} {w : World} {A : Around} {E : Value → Shared → Prop} {Q : Flow → Shared → Prop} {h₀ : Heap} {g d t os} {N zt cc cl frm : Addr} {mg : Str → Option Value} {hv0 hv1 hv2 : Int} {tv0 tv1 tv2 t21 t22 : Tok} {vN : Value}
    (X : CCtx h₀ N zt cc mg (cEnv N cl frm cc)) {c1 c2 c3 c4 c5 c6 : Addr} (hz : h₀.get? zt = some (tabObj (psK c1 c2 c3 c4 c5 c6)))
    (hN : h₀.get? N = some (nsO #[⟨hv0, .str (S "__module__") tv0, vN⟩, ⟨hv1, .str (S "__qualname__") tv1, .str (S "cmp_to_key.<locals>.K") t21⟩, ⟨hv2, .str (S "__firstlineno__") tv2, .int 64 t22⟩] 3))
    (q : ∀ (hf : Nat → Int) (tf : Nat → Tok) ts sl f1 f2 f3 f4 f5 f6 d1 d2 d3 d4 d5 d6 v1 v2 v3 v4 v5 v6 h' t',
      CSt h₀ N zt h' (kB hf tf sl f1 f2 f3 f4 f5 f6) 11 (psK c1 c2 c3 c4 c5 c6)
        [(f6, kfn 7 [(S "mycmp", cl)] d6 ((mg "__name__").getD .none) c6 v6), (f5, kfn 6 [(S "mycmp", cl)] d5 ((mg "__name__").getD .none) c5 v5), (f4, kfn 5 [(S "mycmp", cl)] d4 ((mg "__name__").getD .none) c4 v4),
         (f3, kfn 4 [(S "mycmp", cl)] d3 ((mg "__name__").getD .none) c3 v3), (f2, kfn 3 [(S "mycmp", cl)] d2 ((mg "__name__").getD .none) c2 v2), (f1, kfn 2 [] d1 ((mg "__name__").getD .none) c1 v1), (sl, { cls := .type "list", data := .seq #[.str (S "obj") ts] 0 })] → Q .next ⟨h', g, d, t', os⟩) :
    wpAny (model prog w) A (execs clsBody (cEnv N cl frm cc)) Q E ⟨h₀, g, d, t, os⟩ := by
  have TT : TriplesOk (psK c1 c2 c3 c4 c5 c6).toList := by unfold psK; exact triples_push (ps := #[_, _, _, _, _, _, _, _, _, _, _, _, _, _, _]) (triples_push (ps := #[_, _, _, _, _, _, _, _, _, _, _, _]) (triples_push (ps := #[_, _, _, _, _, _, _, _, _]) (triples_push (ps := #[_, _, _, _, _, _]) (triples_push (ps := #[_, _, _]) (triples_push triples_nil)))))
  have C0 : CSt h₀ N zt h₀ _ 3 _ [] := ⟨fun _ _ _ _ e => e, hN, hz, fun _ hp => nomatch hp⟩
  refine wpAny_execs_cons (wpAny_Assign_Name (wpAny_Constant_str ?_))
  refine cls_store rfl (by rfl) C0.ns (by kernel_rfl!) (fun _ _ => #[⟨hv0, .str (S "__module__") tv0, .str (S "cpy313.functools") t⟩, ⟨hv1, .str (S "__qualname__") tv1, .str (S "cmp_to_key.<locals>.K") t21⟩, ⟨hv2, .str (S "__firstlineno__") tv2, .int 64 t22⟩]) 3 (fun _ _ => by kernel_rfl!) fun _ _ h1 t1 sb e => ?_
  have C1 := C0.store X.nN sb e
  refine wpAny_execs_cons (wpAny_Assign_Name (wpAny_List ?_))
  refine args_cons (wpAny_Constant_str (k := 0) (pos := ⟨66, 21, 66, 26⟩) ?_) (by rfl)
  refine args_nil ?_
  refine ⟨(show 1 ≤ sizeLine by decide), ?_⟩
  have C2 := C1.new (fun b o e => Heap.get?_push_of_some { cls := .type "list", data := .seq [Value.str (S "obj") t1].toArray } e) (Heap.get?_push_size _ rfl) (C1.fresh (Nat.le_refl _))
  generalize h1.objs.size = sl at C2 ⊢
  generalize h1.push _ = h1' at C2 ⊢
  refine cls_store rfl (by rfl) C2.ns (by kernel_rfl!) (fun hv3 tv3 => #[⟨hv0, .str (S "__module__") tv0, .str (S "cpy313.functools") t⟩, ⟨hv1, .str (S "__qualname__") tv1, .str (S "cmp_to_key.<locals>.K") t21⟩, ⟨hv2, .str (S "__firstlineno__") tv2, .int 64 t22⟩, ⟨hv3, .str (S "__slots__") tv3, .ref sl⟩]) 4 (fun _ _ => by kernel_rfl!) fun hv3 tv3 h3 t3 sb e => ?_
  have C3 := C2.store X.nN sb e
  clear C1 C2 sb e
  show wpAny _ _ (execs _ _) _ _ ⟨h3, g, d, t3, os⟩
  refine wpAny_execs_cons (cdef2 C3 X rfl rfl rfl (clos := []) (by kernel_rfl!) TT (c' := c1) (by kernel_rfl!) (fun _ => by kernel_rfl!) (by kernel_rfl!) (fun _ _ _ => by kernel_rfl!) fun f1 v1 d1 hh1 tk1 hp1 tt1 D1 => ?_)
  clear C3
  replace D1 : CSt h₀ N zt hp1 #[⟨hv0, .str (S "__module__") tv0, .str (S "cpy313.functools") t⟩, ⟨hv1, .str (S "__qualname__") tv1, .str (S "cmp_to_key.<locals>.K") t21⟩, ⟨hv2, .str (S "__firstlineno__") tv2, .int 64 t22⟩, ⟨hv3, .str (S "__slots__") tv3, .ref sl⟩, ⟨hh1, .str (S "__init__") tk1, .ref f1⟩] 5 (psK c1 c2 c3 c4 c5 c6) _ := D1
  refine wpAny_execs_cons (cdef2 D1 X rfl rfl rfl (clos := [(S "mycmp", cl)]) (by kernel_rfl!) TT (c' := c2) (by kernel_rfl!) (fun _ => by kernel_rfl!) (by kernel_rfl!) (fun _ _ _ => by kernel_rfl!) fun f2 v2 d2 hh2 tk2 hp2 tt2 D2 => ?_)
  clear D1
  replace D2 : CSt h₀ N zt hp2 #[⟨hv0, .str (S "__module__") tv0, .str (S "cpy313.functools") t⟩, ⟨hv1, .str (S "__qualname__") tv1, .str (S "cmp_to_key.<locals>.K") t21⟩, ⟨hv2, .str (S "__firstlineno__") tv2, .int 64 t22⟩, ⟨hv3, .str (S "__slots__") tv3, .ref sl⟩, ⟨hh1, .str (S "__init__") tk1, .ref f1⟩, ⟨hh2, .str (S "__lt__") tk2, .ref f2⟩] 6 (psK c1 c2 c3 c4 c5 c6) _ := D2
  refine wpAny_execs_cons (cdef2 D2 X rfl rfl rfl (clos := [(S "mycmp", cl)]) (by kernel_rfl!) TT (c' := c3) (by kernel_rfl!) (fun _ => by kernel_rfl!) (by kernel_rfl!) (fun _ _ _ => by kernel_rfl!) fun f3 v3 d3 hh3 tk3 hp3 tt3 D3 => ?_)
  clear D2
  replace D3 : CSt h₀ N zt hp3 #[⟨hv0, .str (S "__module__") tv0, .str (S "cpy313.functools") t⟩, ⟨hv1, .str (S "__qualname__") tv1, .str (S "cmp_to_key.<locals>.K") t21⟩, ⟨hv2, .str (S "__firstlineno__") tv2, .int 64 t22⟩, ⟨hv3, .str (S "__slots__") tv3, .ref sl⟩, ⟨hh1, .str (S "__init__") tk1, .ref f1⟩, ⟨hh2, .str (S "__lt__") tk2, .ref f2⟩, ⟨hh3, .str (S "__gt__") tk3, .ref f3⟩] 7 (psK c1 c2 c3 c4 c5 c6) _ := D3
  refine wpAny_execs_cons (cdef2 D3 X rfl rfl rfl (clos := [(S "mycmp", cl)]) (by kernel_rfl!) TT (c' := c4) (by kernel_rfl!) (fun _ => by kernel_rfl!) (by kernel_rfl!) (fun _ _ _ => by kernel_rfl!) fun f4 v4 d4 hh4 tk4 hp4 tt4 D4 => ?_)
  clear D3
  replace D4 : CSt h₀ N zt hp4 #[⟨hv0, .str (S "__module__") tv0, .str (S "cpy313.functools") t⟩, ⟨hv1, .str (S "__qualname__") tv1, .str (S "cmp_to_key.<locals>.K") t21⟩, ⟨hv2, .str (S "__firstlineno__") tv2, .int 64 t22⟩, ⟨hv3, .str (S "__slots__") tv3, .ref sl⟩, ⟨hh1, .str (S "__init__") tk1, .ref f1⟩, ⟨hh2, .str (S "__lt__") tk2, .ref f2⟩, ⟨hh3, .str (S "__gt__") tk3, .ref f3⟩, ⟨hh4, .str (S "__eq__") tk4, .ref f4⟩] 8 (psK c1 c2 c3 c4 c5 c6) _ := D4
  refine wpAny_execs_cons (cdef2 D4 X rfl rfl rfl (clos := [(S "mycmp", cl)]) (by kernel_rfl!) TT (c' := c5) (by kernel_rfl!) (fun _ => by kernel_rfl!) (by kernel_rfl!) (fun _ _ _ => by kernel_rfl!) fun f5 v5 d5 hh5 tk5 hp5 tt5 D5 => ?_)
  clear D4
  replace D5 : CSt h₀ N zt hp5 #[⟨hv0, .str (S "__module__") tv0, .str (S "cpy313.functools") t⟩, ⟨hv1, .str (S "__qualname__") tv1, .str (S "cmp_to_key.<locals>.K") t21⟩, ⟨hv2, .str (S "__firstlineno__") tv2, .int 64 t22⟩, ⟨hv3, .str (S "__slots__") tv3, .ref sl⟩, ⟨hh1, .str (S "__init__") tk1, .ref f1⟩, ⟨hh2, .str (S "__lt__") tk2, .ref f2⟩, ⟨hh3, .str (S "__gt__") tk3, .ref f3⟩, ⟨hh4, .str (S "__eq__") tk4, .ref f4⟩, ⟨hh5, .str (S "__le__") tk5, .ref f5⟩] 9 (psK c1 c2 c3 c4 c5 c6) _ := D5
  refine wpAny_execs_cons (cdef2 D5 X rfl rfl rfl (clos := [(S "mycmp", cl)]) (by kernel_rfl!) TT (c' := c6) (by kernel_rfl!) (fun _ => by kernel_rfl!) (by kernel_rfl!) (fun _ _ _ => by kernel_rfl!) fun f6 v6 d6 hh6 tk6 hp6 tt6 D6 => ?_)
  clear D5
  replace D6 : CSt h₀ N zt hp6 #[⟨hv0, .str (S "__module__") tv0, .str (S "cpy313.functools") t⟩, ⟨hv1, .str (S "__qualname__") tv1, .str (S "cmp_to_key.<locals>.K") t21⟩, ⟨hv2, .str (S "__firstlineno__") tv2, .int 64 t22⟩, ⟨hv3, .str (S "__slots__") tv3, .ref sl⟩, ⟨hh1, .str (S "__init__") tk1, .ref f1⟩, ⟨hh2, .str (S "__lt__") tk2, .ref f2⟩, ⟨hh3, .str (S "__gt__") tk3, .ref f3⟩, ⟨hh4, .str (S "__eq__") tk4, .ref f4⟩, ⟨hh5, .str (S "__le__") tk5, .ref f5⟩, ⟨hh6, .str (S "__ge__") tk6, .ref f6⟩] 10 (psK c1 c2 c3 c4 c5 c6) _ := D6
  refine wpAny_execs_cons (wpAny_Assign_Name (wpAny_Constant_none ?_))
  refine cls_new rfl (by kernel_rfl!) D6.ns (by kernel_rfl!) (fun _ _ => by kernel_rfl!) fun hh7 tk7 h7 t7 sb e => ?_
  have D7 := D6.store X.nN sb e
  show wpAny _ _ (execs [] _) _ _ ⟨h7, g, d, t7, os⟩
  exact wpAny_execs_nil (q (fun i => [hv0, hv1, hv2, hv3, hh1, hh2, hh3, hh4, hh5, hh6, hh7].getD i 0) (fun i => [tv0, tv1, tv2, tv3, tk1, tk2, tk3, tk4, tk5, tk6, tk7, 0, 0, 0, 0, 0, 0, 0, 0, 0, t, t21, t22].getD i 0) t1 sl f1 f2 f3 f4 f5 f6 d1 d2 d3 d4 d5 d6 v1 v2 v3 v4 v5 v6 h7 t7 D7)

structure Hid (p : Prop) : Prop where
  out : p
section
variable {α : Type} {prog : Program} {w : World} {A : Around} {E : Value → Shared → Prop} {Q : α → Shared → Prop} {h₀ h : Heap} {g : Array GenState} {d : Drawn} {t : Nat} {os : OsState} {news : List (Addr × Obj)}
end

local macro_rules | `(tactic| walk_at "qs_s") => `(tactic| with_reducible first | show wpAny _ _ (PySem.W.XFast.enterX _) _ _ _ | show wpAny _ _ (PySem.W.XFast.xw17169027264674235893 ..) _ _ _ | show wpAny _ _ (PySem.W.XFast.xw6600643334278800223 ..) _ _ _ | show wpAny _ _ (PySem.W.XFast.xw12822647523644345616 ..) _ _ _ | show wpAny _ _ (PySem.W.XFast.xw14069538253670106520 ..) _ _ _ | show wpAny _ _ (PySem.W.XFast.xw7998390705656384164 ..) _ _ _ | show wpAny _ _ (PySem.W.XFast.xw8468629109055619292 ..) _ _ _)
local macro_rules | `(tactic| walk_at "qs_g") => `(tactic| (with_reducible (conv => arg 3; whnf)); (fail_if_success (walk_at "qs_s")); first | ((with_reducible show wpAny _ _ (Bind.bind _ _) _ _ _); refine wpAny_bind ?_) | ((with_reducible show wpAny _ _ (Sem.bind _ _) _ _ _); refine wpAny_bind ?_) | ((with_reducible show wpAny _ _ (X.condFn _ _ _ _) _ _ _); first | refine m_condF (by kernel_rfl!) ?_ | refine m_condT (by kernel_rfl!) ?_) | ((with_reducible show wpAny _ _ (holding _ _) _ _ _); refine wpAny_holding ?_) | walk_at "qs_x")
local macro_rules | `(tactic| walk_at "qs_h") => `(tactic| (fail_if_success (with_reducible show wpAny _ _ (PySem.call _ _ _) _ _ _)); walk_at "qs_g")
theorem run_body {prog : Program} {w : World} {A : Around} {E : Value → Shared → Prop} {Q : Flow → Shared → Prop} {s : Shared} {stmts : List Stmt} {env : Env} (hb : blockStart stmts env = pure ())
    (h : ∀ A' E', wpAny (model prog w) A' (execs stmts env) Q E' s) : wpAny (model prog w) A (run (.body stmts env)) Q E s := by
  refine wpAny_run (x_code ?_)
  show wpAny _ _ (blockStart stmts env >>= fun _ => (execs stmts env).onRaise (leaving env) >>= fun f => pure (PySem.Fin.done f)) _ _ _
  rw [hb]
  refine wpAny_bind (wpAny_pure (wpAny_bind (wpAny_onRaise (wpAny_mono (h _ _) (fun f s' q => wpAny_pure q) fun _ _ x => x))))
theorem m_grow {M : Model} {A : Around} {E : Value → Shared → Prop} {Q : Unit → Shared → Prop} {h₀ h : Heap} {g d t os} {chg news : List (Addr × Obj)} {a c : Addr} {ps more : Array Value} {f : Array Value → Array Value} (D : Mem h₀ h chg news) (ht : h₀.TableAt c a ps) (hw : away chg a = true) (hn : f ps = ps ++ more)
    (x : ∀ h', Mem h₀ h' ((a, tableObj (ps ++ more)) :: chg) news → Q () ⟨h', g, d, t, os⟩) : wpAny M A (updateFieldsOfTheText a f) Q E ⟨h, g, d, t, os⟩ :=
  wpAny_updateFieldsOfTheText (D.keep a _ ht.2 (by rw [hw, Bool.or_true])) rfl (x _ (D.grow ht hw (by show tableObj (f ps) = _; rw [hn])))
theorem lookT {o : Obj} {m : Str → Option Value} {n : Str} {r : Option Value} (lk : ∀ n, nsLook n o = Sem.pure (m n)) (hv : m n = r) : PySem.W.XFast.xw12049290149238594875 n o = Sem.pure r := by
  rw [← PySem.W.XFast.xe12049290149238594875, lk, hv]
abbrev kEnv (L cl ka c1 : Addr) : Env := newEnv (defAt pw 13).scope L mainGlobals [(S "mycmp", cl)] (S "cmp_to_key.<locals>.") (some ka) (.ref c1) none builtinsNs
def addH (hf : Nat → Int) (x : Int) : Nat → Int := fun i => match i with | 11 => x | i => hf i
def addT (tf : Nat → Tok) (x y : Tok) : Nat → Tok := fun i => match i with | 11 => x | 23 => y | i => tf i
def keyFs (cl : Addr) (pm : Value) (C b N de sl st f1 f2 f3 f4 f5 f6 c1 c2 c3 c4 c5 c6 : Addr) (oc1 oc2 oc3 oc4 oc5 oc6 : Obj) (d1 d2 d3 d4 d5 d6 v1 v2 v3 v4 v5 v6 : Value) (tK tde tv1 tv2 : Tok) (hv1 hv2 : Int) (hf : Nat → Int) (tf : Nat → Tok) : List (Addr × Obj) :=
    [(C, clsO N [.ref C, .type "object"] false [S "obj"] #[some (.ref b), none, some (.str (S "K") tK), some (.str (S "cmp_to_key.<locals>.K") (tf 21)), some (.builtin "object.__new__"), some (.bool false)]),
      (N, putO ((kE1 hf tf sl f1 f2 f3 f4 f5 f6 st).push ⟨hv1, .str (S "obj") tv1, .ref de⟩) 3 (S "__doc__") .none hv2 tv2), (de, deO C tde), (f1, kfn 2 [] d1 pm c1 v1), (c1, oc1), (f2, kfn 3 [(S "mycmp", cl)] d2 pm c2 v2), (c2, oc2), (f3, kfn 4 [(S "mycmp", cl)] d3 pm c3 v3), (c3, oc3), (f4, kfn 5 [(S "mycmp", cl)] d4 pm c4 v4), (c4, oc4), (f5, kfn 6 [(S "mycmp", cl)] d5 pm c5 v5), (c5, oc5), (f6, kfn 7 [(S "mycmp", cl)] d6 pm c6 v6), (c6, oc6)]
inductive KeyF (cl : Addr) (pm : Value) (C : Addr) (F : List (Addr × Obj)) : Prop
  | mk (b N de sl st f1 f2 f3 f4 f5 f6 c1 c2 c3 c4 c5 c6 : Addr) (oc1 oc2 oc3 oc4 oc5 oc6 : Obj) (d1 d2 d3 d4 d5 d6 v1 v2 v3 v4 v5 v6 : Value) (tK tde tv1 tv2 : Tok) (hv1 hv2 : Int) (hf : Nat → Int) (tf : Nat → Tok) : F = keyFs cl pm C b N de sl st f1 f2 f3 f4 f5 f6 c1 c2 c3 c4 c5 c6 oc1 oc2 oc3 oc4 oc5 oc6 d1 d2 d3 d4 d5 d6 v1 v2 v3 v4 v5 v6 tK tde tv1 tv2 hv1 hv2 hf tf →
    CodeO (S "cmp_to_key.<locals>.K.__init__") oc1 →
    CodeO (S "cmp_to_key.<locals>.K.__lt__") oc2 →
    CodeO (S "cmp_to_key.<locals>.K.__gt__") oc3 →
    CodeO (S "cmp_to_key.<locals>.K.__eq__") oc4 →
    CodeO (S "cmp_to_key.<locals>.K.__le__") oc5 →
    CodeO (S "cmp_to_key.<locals>.K.__ge__") oc6 → KeyF cl pm C F
structure HitAt (z1 : Addr) (h : Heap) (cc zt c1 c2 c3 c4 c5 c6 : Addr) (oc1 oc2 oc3 oc4 oc5 oc6 : Obj) : Prop where
  t1 : h.get? z1 = some (tabObj #[rawInt 64, rawInt 4, .ref cc])
  hd : CodeHd h cc zt
  t2 : h.get? zt = some (tabObj (psK c1 c2 c3 c4 c5 c6))
  g1 : h.get? c1 = some oc1
  g2 : h.get? c2 = some oc2
  g3 : h.get? c3 = some oc3
  g4 : h.get? c4 = some oc4
  g5 : h.get? c5 = some oc5
  g6 : h.get? c6 = some oc6
  k1 : CodeO (S "cmp_to_key.<locals>.K.__init__") oc1
  k2 : CodeO (S "cmp_to_key.<locals>.K.__lt__") oc2
  k3 : CodeO (S "cmp_to_key.<locals>.K.__gt__") oc3
  k4 : CodeO (S "cmp_to_key.<locals>.K.__eq__") oc4
  k5 : CodeO (S "cmp_to_key.<locals>.K.__le__") oc5
  k6 : CodeO (S "cmp_to_key.<locals>.K.__ge__") oc6
inductive Hit (z1 : Addr) (h : Heap) (as : List Addr) : Prop
  | mk (cc zt c1 c2 c3 c4 c5 c6 : Addr) (oc1 oc2 oc3 oc4 oc5 oc6 : Obj) : as = [cc, zt, c1, c2, c3, c4, c5, c6] → HitAt z1 h cc zt c1 c2 c3 c4 c5 c6 oc1 oc2 oc3 oc4 oc5 oc6 → Hit z1 h as
theorem HitAt.keeps {z1 : Addr} {h h' : Heap} {cc zt c1 c2 c3 c4 c5 c6 oc1 oc2 oc3 oc4 oc5 oc6} (x : HitAt z1 h cc zt c1 c2 c3 c4 c5 c6 oc1 oc2 oc3 oc4 oc5 oc6) (k : ∀ b o, b ∈ [z1, cc, zt, c1, c2, c3, c4, c5, c6] → h.get? b = some o → h'.get? b = some o) : HitAt z1 h' cc zt c1 c2 c3 c4 c5 c6 oc1 oc2 oc3 oc4 oc5 oc6 := by
  obtain ⟨o, vs, file, tf, flags, tg, inF, text, tt, e, r⟩ := x.hd
  exact ⟨k _ _ (by simp) x.t1, ⟨o, vs, file, tf, flags, tg, inF, text, tt, k _ _ (by simp) e, r⟩, k _ _ (by simp) x.t2, k _ _ (by simp) x.g1, k _ _ (by simp) x.g2, k _ _ (by simp) x.g3, k _ _ (by simp) x.g4, k _ _ (by simp) x.g5, k _ _ (by simp) x.g6, x.k1, x.k2, x.k3, x.k4, x.k5, x.k6⟩
theorem Hit.keeps {z1 : Addr} {h h' : Heap} {as : List Addr} (x : Hit z1 h as) (k : ∀ b o, b ∈ z1 :: as → h.get? b = some o → h'.get? b = some o) : Hit z1 h' as := by
  obtain ⟨cc, zt, c1, c2, c3, c4, c5, c6, oc1, oc2, oc3, oc4, oc5, oc6, rfl, x⟩ := x
  exact ⟨cc, zt, c1, c2, c3, c4, c5, c6, oc1, oc2, oc3, oc4, oc5, oc6, rfl, x.keeps k⟩
set_option maxHeartbeats 0 in
theorem class_def {prog : Program} {w : World} {A : Around} {E : Value → Shared → Prop} {Q : Flow → Shared → Prop} {h : Heap} {g d t0 os} {L cl ka c1 z1 : Addr} {oG oB : Obj} {mg mb : Str → Option Value} {rest : List Stmt}
    (hG : h.get? mainGlobals = some oG) (lkG : ∀ n, nsLook n oG = Sem.pure (mg n))
    (hB : h.get? builtinsNs = some oB) (lkB : ∀ n, nsLook n oB = Sem.pure (mb n))
    (b1 : mb (S "__build_class__") = some (.builtin "__build_class__")) (b2 : mb (S "object") = some (.type "object")) (g1 : mg (S "object") = none)
    (C1 : CodeHd h c1 z1) (hz1 : Hid (h.get? z1 = some (tabObj #[])))
    {esG : Array DictEntry} {epG : Nat} (hGd : oG.data = .dict esG epG) (hGk : StrKeys esG) (hGf : ∀ n, nsFind esG n = mg n) (hbA : h.BuiltinsAt mg z1) {vN : Value} (gn : mg (S "__name__") = some vN)
    (hlim : h.NoLimit) (hcz : cStatics ≠ z1) (hdep : A.depth < recursionLimit)
    {oS : Obj} (hS : h.get? cStatics = some oS) (hSl : nsLook (S "thirdparty.any") oS = Sem.pure none)
    {mL : Str → Option Value} (hLn : h.Ns L mL) (hLz : L ≠ z1)
    (q : ∀ C F as h' t', KeyF cl ((mg "__name__").getD .none) C F → (∀ b o, b ≠ z1 → b ≠ L → h.get? b = some o → h'.get? b = some o) → Hit z1 h' as → (∀ x ∈ as, h.get? x = none) → (∀ p ∈ F, h'.get? p.1 = some p.2 ∧ h.get? p.1 = none) → h'.Ns L (fun x => if x = S "K" then some (.ref C) else mL x) → Q .next ⟨h', g, d, t', os⟩)
    (st : Stmt) (hst : (defAt pw 13).body = st :: rest)
    : wpAny (model prog w) A (exec st (kEnv L cl ka c1)) Q E ⟨h, g, d, t0, os⟩ := by
  have hst' : st = match (defAt pw 13).body with | s :: _ => s | [] => default := by rw [hst]
  subst hst'
  clear hst
  show wpAny _ _ (exec (.ClassDef _ _ _ _ _ _ _ _ _ _ _) _) _ _ _
  rw [arm_exec_ClassDef]
  rw [PySem.W.XFast.xe1785580099245652887]
  have hGz : mainGlobals ≠ z1 := fun e => by rw [e, hz1.out] at hG; cases hG; cases hGd
  have D := Mem.start h
  repeat walk_at "qs_v"
  refine m_eq (lookAt0 lkB b1) ?_
  repeat walk_at "qs_v"
  refine m_eq (lookAt0 lkG g1) ?_
  repeat walk_at "qs_v"
  refine m_eq (lookAt0 lkB b2) ?_
  repeat walk_at "qs_v"
  repeat walk_at "qs_x"
  rename_i bT _ _ bp _ _ nsA h1 D1
  have hns : nsA ≠ sysModules := fun e => by
    have o := D1.ord
    simp only [List.map_cons, List.map_nil, List.pairwise_cons, List.mem_cons, List.not_mem_nil, or_false, forall_eq_or_imp, forall_eq] at o
    rw [e] at o
    exact Nat.not_lt_zero _ (Nat.lt_of_lt_of_le o.2.1 (Nat.le_of_lt_succ o.1.1))
  refine m_bool false (by simpa using hns) ?_
  repeat walk_at "qs_g"
  (with_reducible (conv => arg 3; whnf))
  rw [← PySem.W.XFast.xe17169027264674235893]
  obtain ⟨oc, vs, file, tf, flags, tg, inF, text, tt, k1, k2, k3, k4, k5, k6, k7, k8, k9, k10⟩ := id C1
  unfold classCode codeAt
  rw [show (kEnv L cl ka c1).code = .ref c1 from rfl, if_neg (show ¬ ((Value.ref c1 == Value.none) = true) from Bool.false_ne_true)]
  refine wpAny_bind (wpAny_fieldsOf (D1.keep _ _ k1 (by rw [show away [] c1 = true from rfl, Bool.or_true])) k3 ?_)
  rw [k5]
  refine wpAny_bind (wpAny_fieldsOf (D1.keep _ _ hz1.out (by rw [show away [] z1 = true from rfl, Bool.or_true])) rfl ?_)
  rw [show codeAmong { line := 64, col := 4, endLine := 85, endCol := 23 } (#[] : Array Value).toList = none from rfl, k6, k7, k8, k9]
  refine wpAny_bind ?_
  have fr : ∀ sc : Scope, sc.names.filter (·.2 == .free) = [(S "mycmp", .free)] → sc.freeNames = [S "mycmp"] := fun sc e => by unfold Scope.freeNames; rw [e]; simp [List.mergeSort]
  rw [fr _ (by kernel_rfl!)]
  repeat walk_at "qs_x"
  rename_i fv _ _ zt _ _ cc h2 D2
  refine wpAny_bind (m_grow D2 (more := #[rawInt 64, rawInt 4, .ref cc]) (CodeHd.tab C1 hz1.out) rfl (by first | rfl | kernel_rfl!) fun h3 D3 => ?_)
  refine wpAny_bind (wpAny_fieldsOf (D3.atC 0 _ _ rfl) rfl ?_)
  rw [show codeAmong { line := 64, col := 4, endLine := 85, endCol := 23 } ((#[] ++ #[rawInt 64, rawInt 4, .ref cc] : Array Value)).toList = some (.ref cc) from by first | rfl | simp [codeAmong]]
  refine x_pure ?_
  clear D2
  repeat walk_at "qs_g"
  rw [← PySem.W.XFast.xe6600643334278800223]
  obtain ⟨bm, ob, hbm, hne0, _, hneP, hbo, hcls, hdict, hdata⟩ := id hbA
  refine wpAny_builtinsFor (m := mg) ⟨oG, esG, epG, D3.keep _ _ hG ((congrArg (hasCls oG || ·) (away_one hGz)).trans (Bool.or_true _)), hGd, hGk, hGf⟩ hbm hne0 (D3.keep _ _ hbo (by rw [show hasCls ob = true from by unfold hasCls; rw [hcls]]; rfl)) hcls hdict hdata ?_
  repeat walk_at "qs_x"
  refine m_eq (lookAt lkG gn) ?_
  walk_at "qs_x"
  walk_at "qs_x"
  repeat walk_at "qs_g"
  walk_at "qs_x"
  repeat walk_at "qs_g"
  (with_reducible (conv => arg 3; whnf))
  rename_i frm h4 D4
  refine m_eq (congrFun PySem.W.XFast.enterX_eq.symm 0) ?_
  refine wpAny_enterFrame (hlim.at fun o e => D4.keep _ _ e (by rw [away_one hcz, Bool.or_true])) hdep ?_
  clear D3
  repeat walk_at "qs_g"
  (with_reducible (conv => arg 3; whnf))
  refine m_eq (lookT lkG gn) ?_
  refine x_pure ?_
  repeat walk_at "qs_g"
  (with_reducible (conv => arg 3; whnf))
  repeat walk_at "qs_x"
  walk_at "qs_u"
  refine' m_put ?D 4 ?hi #[] 1 (S "__module__") vN ?e ?_
  case D => with_reducible assumption
  case hi => exact rfl
  case e => kernel_rfl!
  intro hv0 tv0 h5 D5
  dsimp only [List.set] at D5
  clear D4
  repeat walk_at "qs_x"
  walk_at "qs_u"
  refine' m_put ?D 4 ?hi #[⟨hv0, .str (S "__module__") tv0, vN⟩] 2 (S "__qualname__") (.str (S "cmp_to_key.<locals>.K") (t0 + 1 + 1 + 1 + 1 + 1 + 1 + 1 + 1 + 1)) ?e ?_
  case D => with_reducible assumption
  case hi => exact rfl
  case e => kernel_rfl!
  intro hv1 tv1 h6 D6
  dsimp only [List.set] at D6
  clear D5
  repeat walk_at "qs_x"
  walk_at "qs_u"
  refine' m_put ?D 4 ?hi #[⟨hv0, .str (S "__module__") tv0, vN⟩, ⟨hv1, .str (S "__qualname__") tv1, .str (S "cmp_to_key.<locals>.K") (t0 + 1 + 1 + 1 + 1 + 1 + 1 + 1 + 1 + 1)⟩] 3 (S "__firstlineno__") (.int 64 (t0 + 1 + 1 + 1 + 1 + 1 + 1 + 1 + 1 + 1 + 1 + 1)) ?e ?_
  case D => with_reducible assumption
  case hi => exact rfl
  case e => kernel_rfl!
  intro hv2 tv2 h7 D7
  dsimp only [List.set] at D7
  clear D6
  repeat walk_at "qs_v"
  (with_reducible (conv => arg 3; whnf))
  refine wpAny_bind (run_body ?hb fun A' E' => ?_)
  case hb => kernel_rfl!
  refine m_eq (t₂ := execs clsBody (cEnv nsA cl frm cc)) (by kernel_rfl!) ?_
  have hncz : cc ≠ zt := D7.ne 1 2 _ _ _ _ rfl rfl rfl
  have hnz : zt ≠ nsA := D7.ne 2 4 _ _ _ _ rfl rfl rfl
  have old : ∀ b o, h.get? b = some o → b ≠ nsA ∧ b ≠ zt := fun b o e => ⟨(D7.ne_old 4 _ _ rfl _ _ e).symm, (D7.ne_old 2 _ _ rfl _ _ e).symm⟩
  have X : CCtx h7 nsA zt cc mg (cEnv nsA cl frm cc) := {
    locals := rfl, globals := rfl, code := rfl
    nN := ⟨_, D7.at 4 _ _ rfl⟩
    nZ := ⟨_, D7.at 2 _ _ rfl⟩
    hd := ⟨_, _, _, _, _, _, _, _, _, D7.at 1 _ _ rfl, rfl, rfl, rfl, rfl, rfl, rfl, rfl, rfl, hncz⟩
    ccN := D7.ne 1 4 _ _ _ _ rfl rfl rfl
    ns := ⟨oG, esG, epG, D7.keep _ _ hG ((congrArg (hasCls oG || ·) (away_one hGz)).trans (Bool.or_true _)), hGd, hGk, hGf⟩
    gN := (old _ _ hG).1
    gZ := (old _ _ hG).2
    bA := ⟨bm, ob, hbm, hne0, by assumption, (old _ _ hbo).2, D7.keep _ _ hbo (by rw [show hasCls ob = true from by unfold hasCls; rw [hcls]]; rfl), hcls, hdict, hdata⟩
    bN := ⟨bm, ob, hbm, hne0, by assumption, (old _ _ hbo).1, D7.keep _ _ hbo (by rw [show hasCls ob = true from by unfold hasCls; rw [hcls]]; rfl), hcls, hdict, hdata⟩ }
  refine body_K X (D7.at 2 _ _ rfl) (D7.at 4 _ _ rfl) ?_
  intro hf tf ts sl f1 f2 f3 f4 f5 f6 c1' c2 c3 c4 c5 c6 oc1 oc2 oc3 oc4 oc5 oc6 d1 d2 d3 d4 d5 d6 v1 v2 v3 v4 v5 v6 h8 t8 o1 o2 o3 o4 o5 o6 K
  have D8 := Mem.start h8
  clear D
  repeat walk_at "qs_g"
  refine wpAny_onRaise ?_
  show wpAny _ _ (Sem.bind (Sem.bind (Sem.pure _) _) _) _ _ _
  refine wpAny_bind ?_
  refine wpAny_bind ?_
  refine x_pure ?_
  (conv => arg 3; whnf)
  refine x_pure ?_
  repeat walk_at "qs_g"
  (with_reducible (conv => arg 3; whnf))
  rename_i sa h9 D9
  have k9 : ∀ b o, h8.get? b = some o → h9.get? b = some o := fun b o e => D9.keep _ _ e (by rw [show away [] b = true from rfl, Bool.or_true])
  have K9 := K.new k9 (D9.at 0 _ _ rfl) (by
    cases e : h7.get? sa with
    | none => rfl
    | some o => obtain ⟨o', e'⟩ := K.there e; have := (D9.nw _ (.head _)).2; rw [e'] at this; cases this)
  refine m_eq (t₂ := storeName (cEnv nsA cl frm cc) (S "__static_attributes__") (.ref sa)) (by rw [← PySem.W.XFast.xe7998390705656384164]; kernel_rfl!) ?_
  refine cls_new rfl (by kernel_rfl!) K9.ns (by kernel_rfl!) (fun _ _ => by kernel_rfl!) fun hh tk h10 t10 sb e10 => ?_
  have K10 := K9.store X.nN sb e10
  clear D8 D9 k9 sb e10
  have D10 := Mem.start h10
  repeat walk_at "qs_h"
  refine m_eq (t₂ := call (.type "type") [.str (S "K") t0, .ref bT, .ref nsA]) (by kernel_rfl!) ?_
  have o10 : ∀ b o, b ≠ z1 → h.get? b = some o → h10.get? b = some o := fun b o ne e => K10.keep b o (old b o e).1 (old b o e).2 (D7.keep b o e (by rw [away_one ne, Bool.or_true]))
  have mK := fun p hp => (K10.fs p hp).1
  refine call_type (hf := addH hf hh) (tf := addT tf tk t8) (o10 _ _ hcz hS) hSl (K10.keep _ _ (D7.ne 4 6 _ _ _ _ rfl rfl rfl).symm (D7.ne 2 6 _ _ _ _ rfl rfl rfl).symm (D7.at 6 _ _ rfl))
    (mK (sl, _) (by repeat (first | exact List.Mem.head _ | apply List.Mem.tail)))
    (mK (sa, _) (.head _)) (mK (f1, _) (by repeat (first | exact List.Mem.head _ | apply List.Mem.tail))) (mK (f2, _) (by repeat (first | exact List.Mem.head _ | apply List.Mem.tail))) (mK (f3, _) (by repeat (first | exact List.Mem.head _ | apply List.Mem.tail))) (mK (f4, _) (by repeat (first | exact List.Mem.head _ | apply List.Mem.tail))) (mK (f5, _) (by repeat (first | exact List.Mem.head _ | apply List.Mem.tail))) (mK (f6, _) (by repeat (first | exact List.Mem.head _ | apply List.Mem.tail))) hns K10.ns ?_
  intro bd su de C N aL hva hvb tva tvb tde h' tq D11
  show wpAny _ _ _ _ _ ⟨h', g, d, tq, os⟩
  (conv => arg 3; whnf)
  refine x_pure ?_
  refine wpAny_bind ?_
  (conv => arg 3; whnf)
  refine x_pure ?_
  refine wpAny_bind (wpAny_standAt ?_)
  have k11 : ∀ b o, h10.get? b = some o → h'.get? b = some o := fun b o e => D11.keep b o e (by rw [show away [] b = true from rfl, Bool.or_true])
  have oall : ∀ b o, b ≠ z1 → h.get? b = some o → h'.get? b = some o := fun b o ne e => k11 _ _ (o10 b o ne e)
  have ez10 : h10.get? z1 = some (tableObj (#[] ++ #[rawInt 64, rawInt 4, .ref cc])) := K10.keep _ _ (old _ _ hz1.out).1 (old _ _ hz1.out).2 (D7.atC 0 _ _ rfl)
  have th7 : ∀ b, h7.get? b = none → h.get? b = none := fun b e => by
    cases e' : h.get? b with
    | none => rfl
    | some o => obtain ⟨o', e2⟩ := D7.there e'; rw [e] at e2; cases e2
  have th10 : ∀ b, h10.get? b = none → h.get? b = none := fun b e => by
    cases e' : h.get? b with
    | none => rfl
    | some o =>
      by_cases hb : b = z1
      · subst hb; rw [e] at ez10; cases ez10
      · have := o10 b o hb e'; rw [e] at this; cases this
  obtain ⟨oL0, _, _, eL0, _⟩ := id hLn
  refine wpAny_bind (wpAny_bindName (wpAny_storeName_local (by rfl) (ns_but hLn fun o e => oall _ _ hLz e) fun h12 hn sb => wpAny_pure ?_))
  have neL : ∀ b, h.get? b = none → b ≠ L := fun b e e' => by subst e'; rw [e] at eL0; cases eL0
  have tr1 : ∀ p : Addr × Obj, h'.get? p.1 = some p.2 ∧ h10.get? p.1 = none → h12.get? p.1 = some p.2 ∧ h.get? p.1 = none := fun p x => ⟨(sb.2 _ (neL _ (th10 _ x.2))).trans x.1, th10 _ x.2⟩
  have tr2 : ∀ p : Addr × Obj, h10.get? p.1 = some p.2 ∧ h7.get? p.1 = none → h12.get? p.1 = some p.2 ∧ h.get? p.1 = none := fun p x => ⟨(sb.2 _ (neL _ (th7 _ x.2))).trans (k11 _ _ x.1), th7 _ x.2⟩
  have u7 : ∀ b o, h.get? b = none → b ≠ nsA → b ≠ zt → h7.get? b = some o → h12.get? b = some o := fun b o e n1 n2 e7 => (sb.2 _ (neL _ e)).trans (k11 _ _ (K10.keep b o n1 n2 e7))
  have mc : ∀ p : Addr × Obj, h10.get? p.1 = some p.2 ∧ h7.get? p.1 = none → h12.get? p.1 = some p.2 := fun p x => (tr2 p x).1
  have ccn : h.get? cc = none := (D7.nw (cc, _) (.tail _ (.head _))).2
  have ztn : h.get? zt = none := (D7.nw (zt, _) (.tail _ (.tail _ (.head _)))).2
  have HA : HitAt z1 h12 cc zt c1' c2 c3 c4 c5 c6 oc1 oc2 oc3 oc4 oc5 oc6 := by
    obtain ⟨oq, vq, file, tf', flags, tg, inF, text, tt, e, r⟩ := X.hd
    refine ⟨(sb.2 _ (Ne.symm hLz)).trans (k11 _ _ ez10), ⟨oq, vq, file, tf', flags, tg, inF, text, tt, u7 _ _ ccn X.ccN hncz e, r⟩, (sb.2 _ (neL _ ztn)).trans (k11 _ _ K10.tab), mc (c1', _) (K10.fs _ (by repeat (first | exact List.Mem.head _ | apply List.Mem.tail))), mc (c2, _) (K10.fs _ (by repeat (first | exact List.Mem.head _ | apply List.Mem.tail))), mc (c3, _) (K10.fs _ (by repeat (first | exact List.Mem.head _ | apply List.Mem.tail))), mc (c4, _) (K10.fs _ (by repeat (first | exact List.Mem.head _ | apply List.Mem.tail))), mc (c5, _) (K10.fs _ (by repeat (first | exact List.Mem.head _ | apply List.Mem.tail))), mc (c6, _) (K10.fs _ (by repeat (first | exact List.Mem.head _ | apply List.Mem.tail))), o1, o2, o3, o4, o5, o6⟩
  have hfr : ∀ x ∈ [cc, zt, c1', c2, c3, c4, c5, c6], h.get? x = none := by
    intro x hx
    simp only [List.mem_cons, List.not_mem_nil, or_false] at hx
    rcases hx with rfl | rfl | rfl | rfl | rfl | rfl | rfl | rfl
    · exact ccn
    · exact ztn
    · exact (tr2 (_, _) (K10.fs ((_, oc1)) (by repeat (first | exact List.Mem.head _ | apply List.Mem.tail)))).2
    · exact (tr2 (_, _) (K10.fs ((_, oc2)) (by repeat (first | exact List.Mem.head _ | apply List.Mem.tail)))).2
    · exact (tr2 (_, _) (K10.fs ((_, oc3)) (by repeat (first | exact List.Mem.head _ | apply List.Mem.tail)))).2
    · exact (tr2 (_, _) (K10.fs ((_, oc4)) (by repeat (first | exact List.Mem.head _ | apply List.Mem.tail)))).2
    · exact (tr2 (_, _) (K10.fs ((_, oc5)) (by repeat (first | exact List.Mem.head _ | apply List.Mem.tail)))).2
    · exact (tr2 (_, _) (K10.fs ((_, oc6)) (by repeat (first | exact List.Mem.head _ | apply List.Mem.tail)))).2
  refine q C (keyFs cl ((mg "__name__").getD .none) C bT N de sl sa f1 f2 f3 f4 f5 f6 c1' c2 c3 c4 c5 c6 oc1 oc2 oc3 oc4 oc5 oc6 d1 d2 d3 d4 d5 d6 v1 v2 v3 v4 v5 v6 t0 tde tva tvb hva hvb (addH hf hh) (addT tf tk t8)) [cc, zt, c1', c2, c3, c4, c5, c6] h12 _ ⟨bT, N, de, sl, sa, f1, f2, f3, f4, f5, f6, c1', c2, c3, c4, c5, c6, oc1, oc2, oc3, oc4, oc5, oc6, d1, d2, d3, d4, d5, d6, v1, v2, v3, v4, v5, v6, t0, tde, tva, tvb, hva, hvb, addH hf hh, addT tf tk t8, rfl, o1, o2, o3, o4, o5, o6⟩ (fun b o n1 n2 e => (sb.2 _ n2).trans (oall b o n1 e)) ⟨cc, zt, c1', c2, c3, c4, c5, c6, oc1, oc2, oc3, oc4, oc5, oc6, rfl, HA⟩ hfr ?_ hn
  intro p hp
  simp only [keyFs, List.mem_cons, List.not_mem_nil, or_false] at hp
  rcases hp with rfl | rfl | rfl | hp
  · exact tr1 _ (D11.nw (C, _) (by repeat (first | exact List.Mem.head _ | apply List.Mem.tail)))
  · exact tr1 _ (D11.nw (N, _) (by repeat (first | exact List.Mem.head _ | apply List.Mem.tail)))
  · exact tr1 _ (D11.nw (de, _) (by repeat (first | exact List.Mem.head _ | apply List.Mem.tail)))
  · refine tr2 p (K10.fs p ?_)
    simp only [List.mem_cons, List.not_mem_nil, or_false]
    rcases hp with h | h | h | h | h | h | h | h | h | h | h | h <;> simp [h]
set_option maxHeartbeats 0 in
theorem class_def2 {prog : Program} {w : World} {A : Around} {E : Value → Shared → Prop} {Q : Flow → Shared → Prop} {h : Heap} {g d t0 os} {L cl ka c1 z1 : Addr} {oG oB : Obj} {mg mb : Str → Option Value} {rest : List Stmt}
    (hG : h.get? mainGlobals = some oG) (lkG : ∀ n, nsLook n oG = Sem.pure (mg n))
    (hB : h.get? builtinsNs = some oB) (lkB : ∀ n, nsLook n oB = Sem.pure (mb n))
    (b1 : mb (S "__build_class__") = some (.builtin "__build_class__")) (b2 : mb (S "object") = some (.type "object")) (g1 : mg (S "object") = none)
    (C1 : CodeHd h c1 z1) {cc zt c1' c2 c3 c4 c5 c6 : Addr} {oc1 oc2 oc3 oc4 oc5 oc6 : Obj} (HH : Hid (HitAt z1 h cc zt c1' c2 c3 c4 c5 c6 oc1 oc2 oc3 oc4 oc5 oc6))
    {esG : Array DictEntry} {epG : Nat} (hGd : oG.data = .dict esG epG) (hGk : StrKeys esG) (hGf : ∀ n, nsFind esG n = mg n) (hbA : h.BuiltinsAt mg z1) {vN : Value} (gn : mg (S "__name__") = some vN)
    (hlim : h.NoLimit) (hcz : cStatics ≠ zt) (hdep : A.depth < recursionLimit)
    {oS : Obj} (hS : h.get? cStatics = some oS) (hSl : nsLook (S "thirdparty.any") oS = Sem.pure none)
    {mL : Str → Option Value} (hLn : h.Ns L mL) (hLz : L ≠ zt)
    (q : ∀ C F h' t', KeyF cl ((mg "__name__").getD .none) C F → (∀ b o, b ≠ L → h.get? b = some o → h'.get? b = some o) → (∀ p ∈ F, h'.get? p.1 = some p.2 ∧ (h.get? p.1 = none ∨ p.1 ∈ [c1', c2, c3, c4, c5, c6])) → h'.Ns L (fun x => if x = S "K" then some (.ref C) else mL x) → Q .next ⟨h', g, d, t', os⟩)
    (st : Stmt) (hst : (defAt pw 13).body = st :: rest)
    : wpAny (model prog w) A (exec st (kEnv L cl ka c1)) Q E ⟨h, g, d, t0, os⟩ := by
  have hst' : st = match (defAt pw 13).body with | s :: _ => s | [] => default := by rw [hst]
  subst hst'
  clear hst
  show wpAny _ _ (exec (.ClassDef _ _ _ _ _ _ _ _ _ _ _) _) _ _ _
  rw [arm_exec_ClassDef]
  rw [PySem.W.XFast.xe1785580099245652887]
  have hGz : mainGlobals ≠ z1 := fun e => by rw [e, HH.out.t1] at hG; cases hG; cases hGd
  have D := Mem.start h
  repeat walk_at "qs_v"
  refine m_eq (lookAt0 lkB b1) ?_
  repeat walk_at "qs_v"
  refine m_eq (lookAt0 lkG g1) ?_
  repeat walk_at "qs_v"
  refine m_eq (lookAt0 lkB b2) ?_
  repeat walk_at "qs_v"
  repeat walk_at "qs_x"
  rename_i bT _ _ bp _ _ nsA h1 D1
  have hns : nsA ≠ sysModules := fun e => by
    have o := D1.ord
    simp only [List.map_cons, List.map_nil, List.pairwise_cons, List.mem_cons, List.not_mem_nil, or_false, forall_eq_or_imp, forall_eq] at o
    rw [e] at o
    exact Nat.not_lt_zero _ (Nat.lt_of_lt_of_le o.2.1 (Nat.le_of_lt_succ o.1.1))
  refine m_bool false (by simpa using hns) ?_
  repeat walk_at "qs_g"
  (with_reducible (conv => arg 3; whnf))
  rw [← PySem.W.XFast.xe17169027264674235893]
  obtain ⟨oc, vs, file, tf, flags, tg, inF, text, tt, k1, k2, k3, k4, k5, k6, k7, k8, k9, k10⟩ := id C1
  unfold classCode codeAt
  rw [show (kEnv L cl ka c1).code = .ref c1 from rfl, if_neg (show ¬ ((Value.ref c1 == Value.none) = true) from Bool.false_ne_true)]
  refine wpAny_bind (wpAny_fieldsOf (D1.keep _ _ k1 (by rw [show away [] c1 = true from rfl, Bool.or_true])) k3 ?_)
  rw [k5]
  refine wpAny_bind (wpAny_fieldsOf (D1.keep _ _ HH.out.t1 (by rw [show away [] z1 = true from rfl, Bool.or_true])) rfl ?_)
  rw [show codeAmong { line := 64, col := 4, endLine := 85, endCol := 23 } ((#[rawInt 64, rawInt 4, .ref cc] : Array Value)).toList = some (.ref cc) from by first | rfl | simp [codeAmong]]
  refine x_pure ?_
  repeat walk_at "qs_g"
  rw [← PySem.W.XFast.xe6600643334278800223]
  obtain ⟨bm, ob, hbm, hne0, _, hneP, hbo, hcls, hdict, hdata⟩ := id hbA
  refine wpAny_builtinsFor (m := mg) ⟨oG, esG, epG, D1.keep _ _ hG (Bool.or_true _), hGd, hGk, hGf⟩ hbm hne0 (D1.keep _ _ hbo (by rw [show hasCls ob = true from by unfold hasCls; rw [hcls]]; rfl)) hcls hdict hdata ?_
  repeat walk_at "qs_x"
  refine m_eq (lookAt lkG gn) ?_
  walk_at "qs_x"
  walk_at "qs_x"
  repeat walk_at "qs_g"
  walk_at "qs_x"
  repeat walk_at "qs_g"
  (with_reducible (conv => arg 3; whnf))
  rename_i frm h4 D4
  refine m_eq (congrFun PySem.W.XFast.enterX_eq.symm 0) ?_
  refine wpAny_enterFrame (hlim.at fun o e => D4.keep _ _ e (Bool.or_true _)) hdep ?_
  repeat walk_at "qs_g"
  (with_reducible (conv => arg 3; whnf))
  refine m_eq (lookT lkG gn) ?_
  refine x_pure ?_
  repeat walk_at "qs_g"
  (with_reducible (conv => arg 3; whnf))
  repeat walk_at "qs_x"
  walk_at "qs_u"
  refine' m_put ?D 1 ?hi #[] 1 (S "__module__") vN ?e ?_
  case D => with_reducible assumption
  case hi => exact rfl
  case e => kernel_rfl!
  intro hv0 tv0 h5 D5
  dsimp only [List.set] at D5
  clear D4
  repeat walk_at "qs_x"
  walk_at "qs_u"
  refine' m_put ?D 1 ?hi #[⟨hv0, .str (S "__module__") tv0, vN⟩] 2 (S "__qualname__") (.str (S "cmp_to_key.<locals>.K") (t0 + 1 + 1 + 1)) ?e ?_
  case D => with_reducible assumption
  case hi => exact rfl
  case e => kernel_rfl!
  intro hv1 tv1 h6 D6
  dsimp only [List.set] at D6
  clear D5
  repeat walk_at "qs_x"
  walk_at "qs_u"
  refine' m_put ?D 1 ?hi #[⟨hv0, .str (S "__module__") tv0, vN⟩, ⟨hv1, .str (S "__qualname__") tv1, .str (S "cmp_to_key.<locals>.K") (t0 + 1 + 1 + 1)⟩] 3 (S "__firstlineno__") (.int 64 (t0 + 1 + 1 + 1 + 1 + 1)) ?e ?_
  case D => with_reducible assumption
  case hi => exact rfl
  case e => kernel_rfl!
  intro hv2 tv2 h7 D7
  dsimp only [List.set] at D7
  clear D6
  repeat walk_at "qs_v"
  (with_reducible (conv => arg 3; whnf))
  refine wpAny_bind (run_body ?hb fun A' E' => ?_)
  case hb => kernel_rfl!
  refine m_eq (t₂ := execs clsBody (cEnv nsA cl frm cc)) (by kernel_rfl!) ?_
  have e7 : ∀ b o, h.get? b = some o → h7.get? b = some o := fun b o e => D7.keep b o e (Bool.or_true _)
  obtain ⟨oq, vq, fileq, tfq, flagsq, tgq, inFq, textq, ttq, f1q, f2q, f3q⟩ := id HH.out.hd
  have hnzt : ∀ {b : Addr} {o : Obj}, h.get? b = some o → o.cls ≠ .none → b ≠ zt := fun e hc q => by rw [q, HH.out.t2] at e; cases e; exact hc rfl
  have hncz : cc ≠ zt := hnzt f1q (by rw [f2q]; nofun)
  have old : ∀ b o, h.get? b = some o → b ≠ nsA := fun b o e => (D7.ne_old 1 _ _ rfl _ _ e).symm
  have hGt : mainGlobals ≠ zt := fun q => by rw [q, HH.out.t2] at hG; cases hG; cases hGd
  have hobt : bm ≠ zt := hnzt hbo (by rw [hcls]; nofun)
  have X : CCtx h7 nsA zt cc mg (cEnv nsA cl frm cc) := {
    locals := rfl, globals := rfl, code := rfl
    nN := ⟨_, D7.at 1 _ _ rfl⟩
    nZ := ⟨_, e7 _ _ HH.out.t2⟩
    hd := HH.out.hd.keeps e7
    ccN := old _ _ f1q
    ns := ⟨oG, esG, epG, e7 _ _ hG, hGd, hGk, hGf⟩
    gN := old _ _ hG
    gZ := hGt
    bA := ⟨bm, ob, hbm, hne0, by assumption, hobt, e7 _ _ hbo, hcls, hdict, hdata⟩
    bN := ⟨bm, ob, hbm, hne0, by assumption, old _ _ hbo, e7 _ _ hbo, hcls, hdict, hdata⟩ }
  refine body_K2 X (e7 _ _ HH.out.t2) (D7.at 1 _ _ rfl) ?_
  intro hf tf ts sl f1 f2 f3 f4 f5 f6 d1 d2 d3 d4 d5 d6 v1 v2 v3 v4 v5 v6 h8 t8 K
  have D8 := Mem.start h8
  clear D
  repeat walk_at "qs_g"
  refine wpAny_onRaise ?_
  show wpAny _ _ (Sem.bind (Sem.bind (Sem.pure _) _) _) _ _ _
  refine wpAny_bind ?_
  refine wpAny_bind ?_
  refine x_pure ?_
  (conv => arg 3; whnf)
  refine x_pure ?_
  repeat walk_at "qs_g"
  (with_reducible (conv => arg 3; whnf))
  rename_i sa h9 D9
  have k9 : ∀ b o, h8.get? b = some o → h9.get? b = some o := fun b o e => D9.keep _ _ e (by rw [show away [] b = true from rfl, Bool.or_true])
  have K9 := K.new k9 (D9.at 0 _ _ rfl) (by
    cases e : h7.get? sa with
    | none => rfl
    | some o => obtain ⟨o', e'⟩ := K.there e; have := (D9.nw _ (.head _)).2; rw [e'] at this; cases this)
  refine m_eq (t₂ := storeName (cEnv nsA cl frm cc) (S "__static_attributes__") (.ref sa)) (by rw [← PySem.W.XFast.xe7998390705656384164]; kernel_rfl!) ?_
  refine cls_new rfl (by kernel_rfl!) K9.ns (by kernel_rfl!) (fun _ _ => by kernel_rfl!) fun hh tk h10 t10 sb e10 => ?_
  have K10 := K9.store X.nN sb e10
  clear D8 D9 k9 sb e10
  have D10 := Mem.start h10
  repeat walk_at "qs_h"
  refine m_eq (t₂ := call (.type "type") [.str (S "K") t0, .ref bT, .ref nsA]) (by kernel_rfl!) ?_
  have z10 : h10.get? zt = some (tabObj (psK c1' c2 c3 c4 c5 c6)) := K10.tab
  have o10 : ∀ b o, h.get? b = some o → h10.get? b = some o := fun b o e => by
    by_cases hb : b = zt
    · subst hb; rw [HH.out.t2] at e; cases e; exact z10
    · exact K10.keep b o (old b o e) hb (e7 _ _ e)
  have mK := fun p hp => (K10.fs p hp).1
  refine call_type (hf := addH hf hh) (tf := addT tf tk t8) (o10 _ _ hS) hSl (K10.keep _ _ (D7.ne 1 3 _ _ _ _ rfl rfl rfl).symm (D7.ne_old 3 _ _ rfl _ _ HH.out.t2) (D7.at 3 _ _ rfl))
    (mK (sl, _) (by repeat (first | exact List.Mem.head _ | apply List.Mem.tail)))
    (mK (sa, _) (.head _)) (mK (f1, _) (by repeat (first | exact List.Mem.head _ | apply List.Mem.tail))) (mK (f2, _) (by repeat (first | exact List.Mem.head _ | apply List.Mem.tail))) (mK (f3, _) (by repeat (first | exact List.Mem.head _ | apply List.Mem.tail))) (mK (f4, _) (by repeat (first | exact List.Mem.head _ | apply List.Mem.tail))) (mK (f5, _) (by repeat (first | exact List.Mem.head _ | apply List.Mem.tail))) (mK (f6, _) (by repeat (first | exact List.Mem.head _ | apply List.Mem.tail))) hns K10.ns ?_
  intro bd su de C N aL hva hvb tva tvb tde h' tq D11
  show wpAny _ _ _ _ _ ⟨h', g, d, tq, os⟩
  (conv => arg 3; whnf)
  refine x_pure ?_
  refine wpAny_bind ?_
  (conv => arg 3; whnf)
  refine x_pure ?_
  refine wpAny_bind (wpAny_standAt ?_)
  have k11 : ∀ b o, h10.get? b = some o → h'.get? b = some o := fun b o e => D11.keep b o e (by rw [show away [] b = true from rfl, Bool.or_true])
  have oall : ∀ b o, h.get? b = some o → h'.get? b = some o := fun b o e => k11 _ _ (o10 b o e)
  have th7 : ∀ b, h7.get? b = none → h.get? b = none := fun b e => by
    cases e' : h.get? b with
    | none => rfl
    | some o => obtain ⟨o', e2⟩ := D7.there e'; rw [e] at e2; cases e2
  have th10 : ∀ b, h10.get? b = none → h.get? b = none := fun b e => by
    cases e' : h.get? b with
    | none => rfl
    | some o => have := o10 b o e'; rw [e] at this; cases this
  obtain ⟨oL0, _, _, eL0, _⟩ := id hLn
  refine wpAny_bind (wpAny_bindName (wpAny_storeName_local (by rfl) (ns_but hLn fun o e => oall _ _ e) fun h12 hn sb => wpAny_pure ?_))
  have neL : ∀ b, h.get? b = none → b ≠ L := fun b e e' => by subst e'; rw [e] at eL0; cases eL0
  have tr1 : ∀ p : Addr × Obj, h'.get? p.1 = some p.2 ∧ h10.get? p.1 = none → h12.get? p.1 = some p.2 ∧ h.get? p.1 = none := fun p x => ⟨(sb.2 _ (neL _ (th10 _ x.2))).trans x.1, th10 _ x.2⟩
  have tr2 : ∀ p : Addr × Obj, h10.get? p.1 = some p.2 ∧ h7.get? p.1 = none → h12.get? p.1 = some p.2 ∧ h.get? p.1 = none := fun p x => ⟨(sb.2 _ (neL _ (th7 _ x.2))).trans (k11 _ _ x.1), th7 _ x.2⟩
  have neC : ∀ {b o vs}, h.get? b = some o → o.data = .fields vs → b ≠ L := fun e hc q => by
    obtain ⟨oL, es, ep, e', hd', _⟩ := hLn
    rw [q, e'] at e; cases e; rw [hd'] at hc; cases hc
  refine q C (keyFs cl ((mg "__name__").getD .none) C bT N de sl sa f1 f2 f3 f4 f5 f6 c1' c2 c3 c4 c5 c6 oc1 oc2 oc3 oc4 oc5 oc6 d1 d2 d3 d4 d5 d6 v1 v2 v3 v4 v5 v6 t0 tde tva tvb hva hvb (addH hf hh) (addT tf tk t8)) h12 _ ⟨bT, N, de, sl, sa, f1, f2, f3, f4, f5, f6, c1', c2, c3, c4, c5, c6, oc1, oc2, oc3, oc4, oc5, oc6, d1, d2, d3, d4, d5, d6, v1, v2, v3, v4, v5, v6, t0, tde, tva, tvb, hva, hvb, addH hf hh, addT tf tk t8, rfl, HH.out.k1, HH.out.k2, HH.out.k3, HH.out.k4, HH.out.k5, HH.out.k6⟩ (fun b o n2 e => (sb.2 _ n2).trans (oall b o e)) ?_ hn
  have cd : ∀ c oc (qq : Str), h.get? c = some oc → CodeO qq oc → h12.get? c = some oc := fun c oc qq e k => (sb.2 _ (let ⟨_, vs, _, k2, _⟩ := k; neC e k2)).trans (oall _ _ e)
  have nf : ∀ p : Addr × Obj, h12.get? p.1 = some p.2 ∧ h.get? p.1 = none → h12.get? p.1 = some p.2 ∧ (h.get? p.1 = none ∨ p.1 ∈ [c1', c2, c3, c4, c5, c6]) := fun p x => ⟨x.1, .inl x.2⟩
  intro p hp
  simp only [keyFs, List.mem_cons, List.not_mem_nil, or_false] at hp
  rcases hp with rfl | rfl | rfl | rfl | rfl | rfl | rfl | rfl | rfl | rfl | rfl | rfl | rfl | rfl | rfl
  · exact nf _ (tr1 _ (D11.nw (C, _) (by repeat (first | exact List.Mem.head _ | apply List.Mem.tail))))
  · exact nf _ (tr1 _ (D11.nw (N, _) (by repeat (first | exact List.Mem.head _ | apply List.Mem.tail))))
  · exact nf _ (tr1 _ (D11.nw (de, _) (by repeat (first | exact List.Mem.head _ | apply List.Mem.tail))))
  · exact nf _ (tr2 _ (K10.fs (f1, _) (by repeat (first | exact List.Mem.head _ | apply List.Mem.tail))))
  · exact ⟨cd _ _ _ HH.out.g1 HH.out.k1, .inr (by simp)⟩
  · exact nf _ (tr2 _ (K10.fs (f2, _) (by repeat (first | exact List.Mem.head _ | apply List.Mem.tail))))
  · exact ⟨cd _ _ _ HH.out.g2 HH.out.k2, .inr (by simp)⟩
  · exact nf _ (tr2 _ (K10.fs (f3, _) (by repeat (first | exact List.Mem.head _ | apply List.Mem.tail))))
  · exact ⟨cd _ _ _ HH.out.g3 HH.out.k3, .inr (by simp)⟩
  · exact nf _ (tr2 _ (K10.fs (f4, _) (by repeat (first | exact List.Mem.head _ | apply List.Mem.tail))))
  · exact ⟨cd _ _ _ HH.out.g4 HH.out.k4, .inr (by simp)⟩
  · exact nf _ (tr2 _ (K10.fs (f5, _) (by repeat (first | exact List.Mem.head _ | apply List.Mem.tail))))
  · exact ⟨cd _ _ _ HH.out.g5 HH.out.k5, .inr (by simp)⟩
  · exact nf _ (tr2 _ (K10.fs (f6, _) (by repeat (first | exact List.Mem.head _ | apply List.Mem.tail))))
  · exact ⟨cd _ _ _ HH.out.g6 HH.out.k6, .inr (by simp)⟩

theorem codeO_noIter {q : Str} {oc : Obj} (x : CodeO q oc) : ¬ IterObj oc := by
  rintro ⟨nm, vs, hc, _, _, h2, _⟩
  rw [x.1] at hc
  cases hc
  exact h2 rfl
theorem kfn_noIter {i : Nat} {clos : List (Str × Addr)} {doc pm : Value} {c : Addr} {ctv : Value} (hi : i = 2 ∨ i = 3 ∨ i = 4 ∨ i = 5 ∨ i = 6 ∨ i = 7) : ¬ IterObj (kfn i clos doc pm c ctv) := by
  rcases hi with rfl | rfl | rfl | rfl | rfl | rfl <;> (rintro ⟨nm, vs, _, hd, _⟩; cases hd)
theorem KeyF.noIter {cl : Addr} {pm : Value} {C : Addr} {F : List (Addr × Obj)} (x : KeyF cl pm C F) : ∀ q ∈ F, ¬ IterObj q.2 := by
  obtain ⟨b, N, de, sl, st, f1, f2, f3, f4, f5, f6, c1, c2, c3, c4, c5, c6, oc1, oc2, oc3, oc4, oc5, oc6, d1, d2, d3, d4, d5, d6, v1, v2, v3, v4, v5, v6, tK, tde, tv1, tv2, hv1, hv2, hf, tf, rfl, o1, o2, o3, o4, o5, o6⟩ := x
  intro q hq
  simp only [keyFs, List.mem_cons, List.not_mem_nil, or_false] at hq
  rcases hq with rfl | rfl | rfl | rfl | rfl | rfl | rfl | rfl | rfl | rfl | rfl | rfl | rfl | rfl | rfl
  · rintro ⟨nm, vs, _, hd, _⟩; cases hd
  · rintro ⟨nm, vs, _, hd, _⟩; cases hd
  · rintro ⟨nm, vs, hc, hd, _, _, h3⟩; cases hc; exact h3 rfl
  · exact kfn_noIter (by simp)
  · exact codeO_noIter o1
  · exact kfn_noIter (by simp)
  · exact codeO_noIter o2
  · exact kfn_noIter (by simp)
  · exact codeO_noIter o3
  · exact kfn_noIter (by simp)
  · exact codeO_noIter o4
  · exact kfn_noIter (by simp)
  · exact codeO_noIter o5
  · exact kfn_noIter (by simp)
  · exact codeO_noIter o6
def MakeK1 (B : Bas) (z1 ka : Addr) : Prop :=
  ∀ (s : Shared) (lam : Addr) A Q E, AOk 40 A → B.Here s.heap → s.heap.get? z1 = some (tabObj #[]) →
    (∀ C cl ocl F as h' t, KeyF cl ((B.mg "__name__").getD .none) C F → ocl.data = .cell (some (.ref lam)) → h'.get? cl = some ocl → s.heap.get? cl = none → (∀ b x, b ≠ z1 → s.heap.get? b = some x → h'.get? b = some x) → Hit z1 h' as → (∀ x ∈ as, s.heap.get? x = none) →
      (∀ p ∈ F, h'.get? p.1 = some p.2 ∧ s.heap.get? p.1 = none) → Q (.ref C) ⟨h', s.gens, s.drawn, t, s.os⟩) → wpAny (model B.prog B.w) A (call (.ref ka) [.ref lam]) Q E s
def MakeK2 (B : Bas) (ka : Addr) (as : List Addr) : Prop :=
  ∀ (s : Shared) (lam : Addr) A Q E, AOk 40 A → B.Here s.heap →
    (∀ C cl ocl F h' t, KeyF cl ((B.mg "__name__").getD .none) C F → ocl.data = .cell (some (.ref lam)) → h'.get? cl = some ocl → s.heap.get? cl = none → (∀ b x, s.heap.get? b = some x → h'.get? b = some x) →
      (∀ p ∈ F, h'.get? p.1 = some p.2 ∧ (s.heap.get? p.1 = none ∨ p.1 ∈ as)) → Q (.ref C) ⟨h', s.gens, s.drawn, t, s.os⟩) → wpAny (model B.prog B.w) A (call (.ref ka) [.ref lam]) Q E s
theorem make_k1 {B : Bas} (bo : B.Ok) {ka z1 c1 : Addr} {o : Obj} {pm doc vN : Value} {oS : Obj} (ho : B.hB.get? ka = some o) (hd : o.data = .func (docDef (S "cmp_to_key") (defAt pw 13).params (defAt pw 13).body (defAt pw 13).scope pm (.ref c1) doc)) (hcd : B.hB.CodeRec (.ref c1) (S "cmp_to_key"))
    (C1 : CodeHd B.hB c1 z1) (hbm : B.hB.BuiltinsAt B.mg z1) (gn : B.mg (S "__name__") = some vN) (g1 : B.mg (S "object") = none) (hS : B.hB.get? cStatics = some oS) (hSl : nsLook (S "thirdparty.any") oS = Sem.pure none) (hz1 : B.hB.get? z1 = none) : MakeK1 B z1 ka := by
  intro s lam A Q E ao hh hz q
  refine wpAny_call (codeAny_mono (codeAny_call_cells (R := fun res s' => ∃ v, res = .ok (.ret v) ∧ Q v s') (by have := ao.depth; omega) (hh _ _ ho) hd (bo.nolimit.keeps hh) (hcd.keeps hh) rfl (binds := [(S "mycmp", .ref lam)]) (by rfl) rfl ?_ ?_) ?_)
  · intro x hx
    simp only [List.mem_cons, List.not_mem_nil, or_false] at hx
    subst hx
    exact .inr ⟨by kernel_rfl!, by rfl⟩
  · intro s₁ K
    obtain ⟨h1, t1, rfl, k1⟩ := K.done
    have hh1 : ∀ b x, B.hB.get? b = some x → h1.get? b = some x := fun b x e => k1 _ _ (hh _ _ e)
    obtain ⟨oG, esG, epG, eG, hGd, hGk, hGf⟩ := bo.g.keeps hh1
    obtain ⟨oB, esB, epB, eB, hBd, hBk, hBf⟩ := bo.b.keeps hh1
    obtain ⟨ocl, ecl, dcl⟩ : h1.IsCell (s.heap.objs.size + 1) (some (.ref lam)) := K.cell (S "mycmp") _ (by rfl)
    have hL : s.heap.get? s.heap.objs.size = none := fresh_of (Nat.le_refl _)
    have hcl : s.heap.get? (s.heap.objs.size + 1) = none := fresh_of (Nat.le_succ _)
    have hclL : s.heap.objs.size + 1 ≠ s.heap.objs.size := Nat.succ_ne_self _
    obtain ⟨bm, ob, b1, b2, b3, b4, b5, b6, b7, b8⟩ := hbm
    have back : ∀ b, h1.get? b = none → s.heap.get? b = none := fun b e => by
      cases e' : s.heap.get? b with
      | none => rfl
      | some x => have := k1 _ _ e'; rw [e] at this; cases this
    have neL : ∀ b x, s.heap.get? b = some x → b ≠ s.heap.objs.size := fun b x e q => by rw [q, hL] at e; cases e
    have nz : ∀ {b x}, B.hB.get? b = some x → b ≠ z1 := fun e q => by rw [q, hz1] at e; cases e
    refine wpAny_execs_cons (class_def (mb := B.mb) (c1 := c1) (z1 := z1) (L := s.heap.objs.size) (cl := s.heap.objs.size + 1) (ka := ka) eG (fun n => by rw [look_ns hGd hGk n, hGf]) eB (fun n => by rw [look_ns hBd hBk n, hBf]) ?_ ?_ g1 (C1.keeps hh1) ⟨k1 _ _ hz⟩ hGd hGk hGf ⟨bm, ob, b1, b2, b3, b4, hh1 _ _ b5, b6, b7, b8⟩ gn (bo.nolimit.keeps hh1) (nz hS) ?_ (hh1 _ _ hS) hSl K.toInCall.ns ?_ (fun C F as h' t' kf keep hit has hF hn => ?_) _ rfl)
    · exact (bo.builtins _ (by decide +kernel)).trans (by kernel_rfl!)
    · exact (bo.builtins _ (by decide +kernel)).trans (by kernel_rfl!)
    · have := ao.depth; show A.depth + 1 < _; omega
    · intro e; rw [show s.heap.get? _ = none from hL ▸ (congrArg s.heap.get? e.symm)] at hz; cases hz
    · show wpAny _ _ (execs _ _) _ _ _
      refine wpAny_execs_cons (wpAny_Return_some (wpAny_Name (wpAny_loadName_local (by rfl) (by rfl) hn (if_pos rfl) ?_) (by decide +kernel)))
      refine ⟨_, rfl, ?_⟩
      have clz : s.heap.objs.size + 1 ≠ z1 := fun q => by rw [q, hz] at hcl; cases hcl
      exact q C _ ocl F as h' t' kf dcl (keep _ _ clz hclL ecl) hcl (fun b x nb e => keep b x nb (neL b x e) (k1 _ _ e)) hit (fun x hx => back _ (has x hx)) (fun p hp => ⟨(hF p hp).1, back _ (hF p hp).2⟩)
  · rintro res s' ⟨v, rfl, z⟩
    exact z
theorem make_k2 {B : Bas} (bo : B.Ok) {ka z1 c1 : Addr} {o : Obj} {pm doc vN : Value} {oS : Obj} (ho : B.hB.get? ka = some o) (hd : o.data = .func (docDef (S "cmp_to_key") (defAt pw 13).params (defAt pw 13).body (defAt pw 13).scope pm (.ref c1) doc)) (hcd : B.hB.CodeRec (.ref c1) (S "cmp_to_key"))
    (C1 : CodeHd B.hB c1 z1) (hbm : B.hB.BuiltinsAt B.mg z1) (gn : B.mg (S "__name__") = some vN) (g1 : B.mg (S "object") = none) (hS : B.hB.get? cStatics = some oS) (hSl : nsLook (S "thirdparty.any") oS = Sem.pure none) {as : List Addr} (HI : Hit z1 B.hB as) : MakeK2 B ka as := by
  obtain ⟨cc, zt, x1, x2, x3, x4, x5, x6, oc1, oc2, oc3, oc4, oc5, oc6, rfl, HH⟩ := HI
  intro s lam A Q E ao hh q
  refine wpAny_call (codeAny_mono (codeAny_call_cells (R := fun res s' => ∃ v, res = .ok (.ret v) ∧ Q v s') (by have := ao.depth; omega) (hh _ _ ho) hd (bo.nolimit.keeps hh) (hcd.keeps hh) rfl (binds := [(S "mycmp", .ref lam)]) (by rfl) rfl ?_ ?_) ?_)
  · intro x hx
    simp only [List.mem_cons, List.not_mem_nil, or_false] at hx
    subst hx
    exact .inr ⟨by kernel_rfl!, by rfl⟩
  · intro s₁ K
    obtain ⟨h1, t1, rfl, k1⟩ := K.done
    have hh1 : ∀ b x, B.hB.get? b = some x → h1.get? b = some x := fun b x e => k1 _ _ (hh _ _ e)
    obtain ⟨oG, esG, epG, eG, hGd, hGk, hGf⟩ := bo.g.keeps hh1
    obtain ⟨oB, esB, epB, eB, hBd, hBk, hBf⟩ := bo.b.keeps hh1
    obtain ⟨ocl, ecl, dcl⟩ : h1.IsCell (s.heap.objs.size + 1) (some (.ref lam)) := K.cell (S "mycmp") _ (by rfl)
    have hL : s.heap.get? s.heap.objs.size = none := fresh_of (Nat.le_refl _)
    have hcl : s.heap.get? (s.heap.objs.size + 1) = none := fresh_of (Nat.le_succ _)
    have hclL : s.heap.objs.size + 1 ≠ s.heap.objs.size := Nat.succ_ne_self _
    obtain ⟨bm, ob, b1, b2, b3, b4, b5, b6, b7, b8⟩ := hbm
    have back : ∀ b, h1.get? b = none → s.heap.get? b = none := fun b e => by
      cases e' : s.heap.get? b with
      | none => rfl
      | some x => have := k1 _ _ e'; rw [e] at this; cases this
    have neL : ∀ b x, s.heap.get? b = some x → b ≠ s.heap.objs.size := fun b x e q => by rw [q, hL] at e; cases e
    have HH1 : HitAt z1 h1 cc zt x1 x2 x3 x4 x5 x6 oc1 oc2 oc3 oc4 oc5 oc6 := HH.keeps fun b o _ e => hh1 b o e
    refine wpAny_execs_cons (class_def2 (mb := B.mb) (c1 := c1) (z1 := z1) (L := s.heap.objs.size) (cl := s.heap.objs.size + 1) (ka := ka) eG (fun n => by rw [look_ns hGd hGk n, hGf]) eB (fun n => by rw [look_ns hBd hBk n, hBf]) ?_ ?_ g1 (C1.keeps hh1) ⟨HH1⟩ hGd hGk hGf ⟨bm, ob, b1, b2, b3, b4, hh1 _ _ b5, b6, b7, b8⟩ gn (bo.nolimit.keeps hh1) ?_ ?_ (hh1 _ _ hS) hSl K.toInCall.ns ?_ (fun C F h' t' kf keep hF hn => ?_) _ rfl)
    · exact (bo.builtins _ (by decide +kernel)).trans (by kernel_rfl!)
    · exact (bo.builtins _ (by decide +kernel)).trans (by kernel_rfl!)
    · intro q; rw [q, HH.t2] at hS; cases hS; obtain ⟨mc, ⟨os, es, ep, e, hd', _⟩, _⟩ := bo.nolimit; rw [q, HH.t2] at e; cases e; cases hd'
    · have := ao.depth; show A.depth + 1 < _; omega
    · intro e; have := hh _ _ HH.t2; rw [show s.heap.get? _ = none from hL ▸ (congrArg s.heap.get? e.symm)] at this; cases this
    · show wpAny _ _ (execs _ _) _ _ _
      refine wpAny_execs_cons (wpAny_Return_some (wpAny_Name (wpAny_loadName_local (by rfl) (by rfl) hn (if_pos rfl) ?_) (by decide +kernel)))
      refine ⟨_, rfl, ?_⟩
      exact q C _ ocl F h' t' kf dcl (keep _ _ hclL ecl) hcl (fun b x e => keep b x (neL b x e) (k1 _ _ e)) (fun p hp => ⟨(hF p hp).1, (hF p hp).2.imp (back _) (fun m => .tail _ (.tail _ m))⟩)
  · rintro res s' ⟨v, rfl, z⟩
    exact z

set_option maxHeartbeats 0 in
theorem attr_obj {prog : Program} {w : World} {A : Around} {E : Value → Shared → Prop} {h : Heap} {g d t0 os} {b C N de sl f1 f2 f3 f4 f5 f6 st : Addr} {tK tde tv1 tv2 : Tok} {hv1 hv2 : Int} {hf : Nat → Int} {tf : Nat → Tok} {oS : Obj} {Q : Value → Shared → Prop} {ko dk : Addr} {v : Int} {tv : Tok}
    (hC : h.get? C = some (clsO N [.ref C, .type "object"] false [S "obj"] #[some (.ref b), none, some (.str (S "K") tK), some (.str (S "cmp_to_key.<locals>.K") (tf 21)), some (.builtin "object.__new__"), some (.bool false)]))
    (hN : h.get? N = some (putO ((kE1 hf tf sl f1 f2 f3 f4 f5 f6 st).push ⟨hv1, .str (S "obj") tv1, .ref de⟩) 3 (S "__doc__") .none hv2 tv2))
    (hde : h.get? de = some (deO C tde)) (hko : h.get? ko = some { cls := .ref C, dict := some dk, slots := #[some (.int v tv)] }) (hS : h.get? cStatics = some oS) (hlk : nsLook (S "thirdparty.any") oS = Sem.pure none)
    (q : ∀ t', Q (.int v tv) ⟨h, g, d, t', os⟩) : wpAny (model prog w) A (getAttr (.ref ko) (S "obj") true) Q E ⟨h, g, d, t0, os⟩ := by
  have D := Mem.start h
  repeat walk_at "qs_x"
  walk_at "qs_w"
  refine m_bool false (ncont_self _ _) ?_
  repeat walk_at "qs_x"
  walk_at "qs_w"
  refine x_pure ?_
  exact q _
set_option maxHeartbeats 0 in
theorem type_key {prog : Program} {w : World} {A : Around} {E : Value → Shared → Prop} {Q : Value → Shared → Prop} {h : Heap} {g d t0 os} {C ko dk : Addr} {v : Int} {tv : Tok}
    (hko : h.get? ko = some { cls := .ref C, dict := some dk, slots := #[some (.int v tv)] })
    (q : ∀ t', Q (.ref C) ⟨h, g, d, t', os⟩) : wpAny (model prog w) A (call (.type "type") [.ref ko]) Q E ⟨h, g, d, t0, os⟩ := by
  have D := Mem.start h
  repeat walk_at "qs_x"
  walk_at "qs_w"
  refine x_pure ?_
  exact q _
set_option maxHeartbeats 0 in
theorem getm_lt {prog : Program} {w : World} {A : Around} {E : Value → Shared → Prop} {h : Heap} {g d t0 os} {b C N de sl f1 f2 f3 f4 f5 f6 st : Addr} {tK tde tv1 tv2 : Tok} {hv1 hv2 : Int} {hf : Nat → Int} {tf : Nat → Tok} {oS : Obj} {Q : Value × List Value → Shared → Prop} {fd : FuncData} {pl : Sem Bool}
    (hC : h.get? C = some (clsO N [.ref C, .type "object"] false [S "obj"] #[some (.ref b), none, some (.str (S "K") tK), some (.str (S "cmp_to_key.<locals>.K") (tf 21)), some (.builtin "object.__new__"), some (.bool false)]))
    (hN : h.get? N = some (putO ((kE1 hf tf sl f1 f2 f3 f4 f5 f6 st).push ⟨hv1, .str (S "obj") tv1, .ref de⟩) 3 (S "__doc__") .none hv2 tv2))
    (ef : h.get? f2 = some { cls := .type "function", data := .func fd }) (hS : h.get? cStatics = some oS) (hlk : nsLook (S "thirdparty.any") oS = Sem.pure none)
    (q : ∀ t', Q (.ref f2, []) ⟨h, g, d, t', os⟩) : wpAny (model prog w) A (getMethod (.ref C) (S "__lt__") pl) Q E ⟨h, g, d, t0, os⟩ := by
  have D := Mem.start h
  repeat walk_at "qs_x"
  refine m_eq (t₂ := Sem.pure none) ?e ?_
  case e =>
    show PySem.W.XFast.xw12049290149238594875 _ oS = _
    rw [← PySem.W.XFast.xe12049290149238594875]
    exact hlk
  repeat walk_at "qs_x"
  walk_at "qs_w"
  refine x_pure ?_
  exact q _
set_option maxHeartbeats 0 in
theorem getm_gt {prog : Program} {w : World} {A : Around} {E : Value → Shared → Prop} {h : Heap} {g d t0 os} {b C N de sl f1 f2 f3 f4 f5 f6 st : Addr} {tK tde tv1 tv2 : Tok} {hv1 hv2 : Int} {hf : Nat → Int} {tf : Nat → Tok} {oS : Obj} {Q : Value × List Value → Shared → Prop} {fd : FuncData} {pl : Sem Bool}
    (hC : h.get? C = some (clsO N [.ref C, .type "object"] false [S "obj"] #[some (.ref b), none, some (.str (S "K") tK), some (.str (S "cmp_to_key.<locals>.K") (tf 21)), some (.builtin "object.__new__"), some (.bool false)]))
    (hN : h.get? N = some (putO ((kE1 hf tf sl f1 f2 f3 f4 f5 f6 st).push ⟨hv1, .str (S "obj") tv1, .ref de⟩) 3 (S "__doc__") .none hv2 tv2))
    (ef : h.get? f3 = some { cls := .type "function", data := .func fd }) (hS : h.get? cStatics = some oS) (hlk : nsLook (S "thirdparty.any") oS = Sem.pure none)
    (q : ∀ t', Q (.ref f3, []) ⟨h, g, d, t', os⟩) : wpAny (model prog w) A (getMethod (.ref C) (S "__gt__") pl) Q E ⟨h, g, d, t0, os⟩ := by
  have D := Mem.start h
  repeat walk_at "qs_x"
  refine m_eq (t₂ := Sem.pure none) ?e ?_
  case e =>
    show PySem.W.XFast.xw12049290149238594875 _ oS = _
    rw [← PySem.W.XFast.xe12049290149238594875]
    exact hlk
  repeat walk_at "qs_x"
  walk_at "qs_w"
  refine x_pure ?_
  exact q _
set_option maxHeartbeats 0 in
theorem getm_le {prog : Program} {w : World} {A : Around} {E : Value → Shared → Prop} {h : Heap} {g d t0 os} {b C N de sl f1 f2 f3 f4 f5 f6 st : Addr} {tK tde tv1 tv2 : Tok} {hv1 hv2 : Int} {hf : Nat → Int} {tf : Nat → Tok} {oS : Obj} {Q : Value × List Value → Shared → Prop} {fd : FuncData} {pl : Sem Bool}
    (hC : h.get? C = some (clsO N [.ref C, .type "object"] false [S "obj"] #[some (.ref b), none, some (.str (S "K") tK), some (.str (S "cmp_to_key.<locals>.K") (tf 21)), some (.builtin "object.__new__"), some (.bool false)]))
    (hN : h.get? N = some (putO ((kE1 hf tf sl f1 f2 f3 f4 f5 f6 st).push ⟨hv1, .str (S "obj") tv1, .ref de⟩) 3 (S "__doc__") .none hv2 tv2))
    (ef : h.get? f5 = some { cls := .type "function", data := .func fd }) (hS : h.get? cStatics = some oS) (hlk : nsLook (S "thirdparty.any") oS = Sem.pure none)
    (q : ∀ t', Q (.ref f5, []) ⟨h, g, d, t', os⟩) : wpAny (model prog w) A (getMethod (.ref C) (S "__le__") pl) Q E ⟨h, g, d, t0, os⟩ := by
  have D := Mem.start h
  repeat walk_at "qs_x"
  refine m_eq (t₂ := Sem.pure none) ?e ?_
  case e =>
    show PySem.W.XFast.xw12049290149238594875 _ oS = _
    rw [← PySem.W.XFast.xe12049290149238594875]
    exact hlk
  repeat walk_at "qs_x"
  walk_at "qs_w"
  refine x_pure ?_
  exact q _
set_option maxHeartbeats 0 in
theorem getm_ge {prog : Program} {w : World} {A : Around} {E : Value → Shared → Prop} {h : Heap} {g d t0 os} {b C N de sl f1 f2 f3 f4 f5 f6 st : Addr} {tK tde tv1 tv2 : Tok} {hv1 hv2 : Int} {hf : Nat → Int} {tf : Nat → Tok} {oS : Obj} {Q : Value × List Value → Shared → Prop} {fd : FuncData} {pl : Sem Bool}
    (hC : h.get? C = some (clsO N [.ref C, .type "object"] false [S "obj"] #[some (.ref b), none, some (.str (S "K") tK), some (.str (S "cmp_to_key.<locals>.K") (tf 21)), some (.builtin "object.__new__"), some (.bool false)]))
    (hN : h.get? N = some (putO ((kE1 hf tf sl f1 f2 f3 f4 f5 f6 st).push ⟨hv1, .str (S "obj") tv1, .ref de⟩) 3 (S "__doc__") .none hv2 tv2))
    (ef : h.get? f6 = some { cls := .type "function", data := .func fd }) (hS : h.get? cStatics = some oS) (hlk : nsLook (S "thirdparty.any") oS = Sem.pure none)
    (q : ∀ t', Q (.ref f6, []) ⟨h, g, d, t', os⟩) : wpAny (model prog w) A (getMethod (.ref C) (S "__ge__") pl) Q E ⟨h, g, d, t0, os⟩ := by
  have D := Mem.start h
  repeat walk_at "qs_x"
  refine m_eq (t₂ := Sem.pure none) ?e ?_
  case e =>
    show PySem.W.XFast.xw12049290149238594875 _ oS = _
    rw [← PySem.W.XFast.xe12049290149238594875]
    exact hlk
  repeat walk_at "qs_x"
  walk_at "qs_w"
  refine x_pure ?_
  exact q _

structure CmpFn (fd : FuncData) (op : CmpOp) (cl : Addr) : Prop where
  body : ∃ p1 p2 p3 p4 p5 p6 p7 p8 p9, fd.body = .stmts [.Return (some (.Compare (.Call (.Name (S "mycmp") p1) [.Attribute (.Name (S "self") p2) (S "obj") p3, .Attribute (.Name (S "other") p4) (S "obj") p5] [] p6) [op] [.Constant (.int 0) 0 p7] p8)) p9]
  bind : ∀ x y, bindArgs fd ⟨[x, y], []⟩ = pure [(S "self", x), (S "other", y)]
  clos : fd.closure = [(S "mycmp", cl)]
  self : fd.scope.names.lookup (S "self") = some .local
  other : fd.scope.names.lookup (S "other") = some .local
  my : fd.scope.names.lookup (S "mycmp") = some .free
  nocell : ∀ x ∈ fd.scope.names, x.2 ≠ .cell
  co : fd.scope.isCoroutine = false
  gen : fd.scope.isGenerator = false
  kind : fd.scope.kind = .function
structure LamOk (B : Bas) (m : Nat) (lam : Addr) (x y : Int) (Pre : Shared → Prop) (Lam : Shared → Int → Shared → Prop) : Prop where
  pre : ∀ s s', Keeps s s' → Pre s → Pre s'
  here : ∀ s r s', Lam s r s' → B.Here s.heap → B.Here s'.heap
  fn : ∀ s, Pre s → ∃ o fd, s.heap.get? lam = some o ∧ o.data = .func fd
  go : ∀ s A E Q tx ty, B.Ok → AOk m A → B.Here s.heap → Pre s → (∀ s' r t, Lam s r s' → Q (.int r t) s') → wpAny (model B.prog B.w) A (call (.ref lam) [.int x tx, .int y ty]) Q E s
theorem attrE {M : Model} {A : Around} {E : Value → Shared → Prop} {Q : Value → Shared → Prop} {s : Shared} {env : Env} {x a : Str} {p p' : Pos} (h : wpAny M A (eval (.Name x p) env) (fun v s₁ => wpAny M A (getAttr v a true) Q E s₁) E s) : wpAny M A (eval (.Attribute (.Name x p) a p') env) Q E s := by
  rw [arm_eval_Attribute]
  show wpAny _ _ (eval (.Name x p) env >>= _) _ _ _
  refine wpAny_bind (wpAny_mono h (fun v s₁ h₁ => ?_) fun _ _ e => e)
  refine wpAny_bind (wpAny_standAt (wpAny_bind (wpAny_holding (wpAny_mono h₁ (fun r s₂ h₂ => ?_) fun _ _ e => e))))
  exact wpAny_bind (wpAny_pure (wpAny_pure h₂))
theorem cmp_code {B : Bas} {m : Nat} {A : Around} {s : Shared} {R : Result → Shared → Prop} {fd : FuncData} {op : CmpOp} {cl lam f k1 k2 dk1 dk2 : Addr} {ocl of : Obj} {bo' : Int → Bool} {x y : Int} {tx ty : Tok} {Pre : Shared → Prop} {Lam : Shared → Int → Shared → Prop}
    {b C N de sl st f1 f2 f3 f4 f5 f6 : Addr} {tK tde tv1 tv2 : Tok} {hv1 hv2 : Int} {hf : Nat → Int} {tf : Nat → Tok} {oS : Obj}
    (bo : B.Ok) (ao : AOk (m + 1) A) (hh : B.Here s.heap) (F : CmpFn fd op cl) (hfo : s.heap.get? f = some of) (hfd : of.data = .func fd) (hcd : s.heap.CodeRec fd.code fd.qualname)
    (hC : s.heap.get? C = some (clsO N [.ref C, .type "object"] false [S "obj"] #[some (.ref b), none, some (.str (S "K") tK), some (.str (S "cmp_to_key.<locals>.K") (tf 21)), some (.builtin "object.__new__"), some (.bool false)]))
    (hN : s.heap.get? N = some (putO ((kE1 hf tf sl f1 f2 f3 f4 f5 f6 st).push ⟨hv1, .str (S "obj") tv1, .ref de⟩) 3 (S "__doc__") .none hv2 tv2))
    (hde : s.heap.get? de = some (deO C tde)) (hk1 : s.heap.get? k1 = some { cls := .ref C, dict := some dk1, slots := #[some (.int x tx)] }) (hk2 : s.heap.get? k2 = some { cls := .ref C, dict := some dk2, slots := #[some (.int y ty)] })
    (hcl : s.heap.get? cl = some ocl) (dcl : ocl.data = .cell (some (.ref lam))) (hS : s.heap.get? cStatics = some oS) (hlk : nsLook (S "thirdparty.any") oS = Sem.pure none)
    (L : LamOk B m lam x y Pre Lam) (hpre : Pre s) (hop : ∀ r, Cmp B m op (.int r) (.int 0) (bo' r)) (hmk : ∀ p, behindInMarks op (.Constant (.int 0) 0 p) = false)
    (q : ∀ s1 r s2 s3, Keeps s s1 → Lam s1 r s2 → Keeps s2 s3 → R (.ok (.ret (.bool (bo' r)))) s3) : codeAny (model B.prog B.w) A (.call (.ref f) ⟨[.ref k1, .ref k2], []⟩) R s := by
  obtain ⟨p1, p2, p3, p4, p5, p6, p7, p8, p9, hbody⟩ := F.body
  refine codeAny_call_def (by have := ao.depth; omega) hfo hfd (bo.nolimit.keeps hh) hcd hbody (.of_eq (F.bind _ _)) F.nocell ?_ ?_ F.co F.gen F.kind
  · intro z hz
    simp only [List.mem_cons, List.not_mem_nil, or_false] at hz
    rcases hz with rfl | rfl
    · exact F.self
    · exact F.other
  · intro h0 hns hk0
    generalize henv : callEnv fd s.heap.objs.size f = env
    have ek : env.scope.kind = .function := by rw [← henv]; exact F.kind
    have e1 : env.kindOf (S "self") = some .local := by rw [← henv]; exact F.self
    have e2 : env.kindOf (S "other") = some .local := by rw [← henv]; exact F.other
    have e3 : env.kindOf (S "mycmp") = some .free := by rw [← henv]; exact F.my
    have e4 : env.cells.lookup (S "mycmp") = some cl := by rw [← henv]; show fd.closure.lookup _ = _; rw [F.clos]; rfl
    have e5 : env.locals = s.heap.objs.size := by rw [← henv]; rfl
    rw [← e5] at hns
    have m1 : (fun z => List.lookup z [(S "self", Value.ref k1), (S "other", Value.ref k2)].reverse) (S "self") = some (.ref k1) := by rfl
    have m2 : (fun z => List.lookup z [(S "self", Value.ref k1), (S "other", Value.ref k2)].reverse) (S "other") = some (.ref k2) := by rfl
    have aoL : AOk m (A.deeper env) := ⟨ao.handled, by have := ao.depth; show A.depth + 1 + m < _; omega, by have := ao.units; show A.units + 3 + 5 * m + 100 < _; omega⟩
    have kk0 : Keeps s { s with heap := h0, toks := s.toks + 2 } := ⟨_, _, rfl, hk0⟩
    refine wpAny_execs_cons (wpAny_Return_some (wpAny_Compare1 (Call_ (wpAny_Name (wpAny_loadName_free ek e3 e4 ⟨ocl, hk0 _ _ hcl, dcl⟩ ?_) (by decide +kernel)) (by rfl)) (hmk _)))
    obtain ⟨olam, fdl, _, dl⟩ := L.fn s hpre
    have fnAt : ∀ s', Keeps s s' → s'.heap.get? lam = some olam := fun s' k => by
      obtain ⟨o', fd', e', _⟩ := L.fn s hpre
      rename_i e0 _
      exact kheap k _ _ e0
    refine callWith_def dl (args_cons (attrE (wpAny_Name (wpAny_loadName_local ek e1 hns m1 ?_) (by decide +kernel))) (by rfl)) (by rfl)
    refine attr_obj (hk0 _ _ hC) (hk0 _ _ hN) (hk0 _ _ hde) (hk0 _ _ hk1) (hk0 _ _ hS) hlk fun t1 => ?_
    refine args_cons (attrE (wpAny_Name (wpAny_loadName_local ek e2 hns m2 ?_) (by decide +kernel))) (by rfl)
    refine attr_obj (hk0 _ _ hC) (hk0 _ _ hN) (hk0 _ _ hde) (hk0 _ _ hk2) (hk0 _ _ hS) hlk fun t2 => ?_
    have k2' : Keeps s ⟨h0, s.gens, s.drawn, t2, s.os⟩ := ⟨_, _, rfl, hk0⟩
    refine args_nil ⟨fnAt _ k2', L.go _ _ _ _ _ _ bo aoL (fun b o e => hk0 _ _ (hh b o e)) (L.pre _ _ k2' hpre) fun s' r t hl => ?_⟩
    have hh' := L.here _ _ _ hl (fun b o e => hk0 _ _ (hh b o e))
    refine wpAny_Constant_int ?_
    refine hop r _ _ _ _ _ _ bo aoL (hh') (.int r t) (.int 0 _) fun s3 k3 => ?_
    exact q _ r s' s3 k2' hl (ktrans (ktok s' _) k3)
theorem kfn_lt {cl c : Addr} {doc pm ctv : Value} : ∃ fd, kfn 3 [(S "mycmp", cl)] doc pm c ctv = { cls := .type "function", data := .func fd } ∧ CmpFn fd .Lt cl ∧ fd.code = .ref c ∧ fd.qualname = S "cmp_to_key.<locals>.K.__lt__" :=
  ⟨_, rfl, ⟨⟨_, _, _, _, _, _, _, _, _, rfl⟩, fun _ _ => rfl, rfl, by kernel_rfl!, by kernel_rfl!, by kernel_rfl!, by simp [fnX], rfl, rfl, rfl⟩, rfl, by kernel_rfl!⟩
theorem kfn_gt {cl c : Addr} {doc pm ctv : Value} : ∃ fd, kfn 4 [(S "mycmp", cl)] doc pm c ctv = { cls := .type "function", data := .func fd } ∧ CmpFn fd .Gt cl ∧ fd.code = .ref c ∧ fd.qualname = S "cmp_to_key.<locals>.K.__gt__" :=
  ⟨_, rfl, ⟨⟨_, _, _, _, _, _, _, _, _, rfl⟩, fun _ _ => rfl, rfl, by kernel_rfl!, by kernel_rfl!, by kernel_rfl!, by simp [fnX], rfl, rfl, rfl⟩, rfl, by kernel_rfl!⟩
theorem kfn_eq {cl c : Addr} {doc pm ctv : Value} : ∃ fd, kfn 5 [(S "mycmp", cl)] doc pm c ctv = { cls := .type "function", data := .func fd } ∧ CmpFn fd .Eq cl ∧ fd.code = .ref c ∧ fd.qualname = S "cmp_to_key.<locals>.K.__eq__" :=
  ⟨_, rfl, ⟨⟨_, _, _, _, _, _, _, _, _, rfl⟩, fun _ _ => rfl, rfl, by kernel_rfl!, by kernel_rfl!, by kernel_rfl!, by simp [fnX], rfl, rfl, rfl⟩, rfl, by kernel_rfl!⟩
theorem kfn_le {cl c : Addr} {doc pm ctv : Value} : ∃ fd, kfn 6 [(S "mycmp", cl)] doc pm c ctv = { cls := .type "function", data := .func fd } ∧ CmpFn fd .LtE cl ∧ fd.code = .ref c ∧ fd.qualname = S "cmp_to_key.<locals>.K.__le__" :=
  ⟨_, rfl, ⟨⟨_, _, _, _, _, _, _, _, _, rfl⟩, fun _ _ => rfl, rfl, by kernel_rfl!, by kernel_rfl!, by kernel_rfl!, by simp [fnX], rfl, rfl, rfl⟩, rfl, by kernel_rfl!⟩
theorem kfn_ge {cl c : Addr} {doc pm ctv : Value} : ∃ fd, kfn 7 [(S "mycmp", cl)] doc pm c ctv = { cls := .type "function", data := .func fd } ∧ CmpFn fd .GtE cl ∧ fd.code = .ref c ∧ fd.qualname = S "cmp_to_key.<locals>.K.__ge__" :=
  ⟨_, rfl, ⟨⟨_, _, _, _, _, _, _, _, _, rfl⟩, fun _ _ => rfl, rfl, by kernel_rfl!, by kernel_rfl!, by kernel_rfl!, by simp [fnX], rfl, rfl, rfl⟩, rfl, by kernel_rfl!⟩

theorem bneV (C : Addr) : (Value.ref C != Value.ref C) = false := by simp
theorem m_follow {β : Type} {prog : Program} {w : World} {A : Around} {E : Value → Shared → Prop} {Q : Option β → Shared → Prop} {s : Shared} {c : Bool} {x : Sem β} {k : Value → Sem (Option β)} (h : ∀ E', wpAny (model prog w) A x (fun v s' => Q (some v) s') E' s) :
    wpAny (model prog w) A (if c = true then (do let v ← x; pure (some v)) else (do let v ← x; pure (some v) : Sem (Option β)).tryCatch k) Q E s := by
  cases c with
  | false => exact wpAny_tryCatch (wpAny_bind (wpAny_mono (h _) (fun v s' q => wpAny_pure q) fun _ _ e => e))
  | true => exact wpAny_bind (wpAny_mono (h _) (fun v s' q => wpAny_pure q) fun _ _ e => e)
set_option maxHeartbeats 0 in
theorem Eq_keys {prog : Program} {w : World} {A : Around} {E : Value → Shared → Prop} {h : Heap} {g d t0 os} {b C N de sl f1 f2 f3 f4 f5 f6 st : Addr} {tK tde tv1 tv2 : Tok} {hv1 hv2 : Int} {hf : Nat → Int} {tf : Nat → Tok} {oS : Obj} {Q : Value → Shared → Prop} {k1 k2 dk1 dk2 : Addr} {x y : Int} {tx ty : Tok} {fd : FuncData}
    (hC : h.get? C = some (clsO N [.ref C, .type "object"] false [S "obj"] #[some (.ref b), none, some (.str (S "K") tK), some (.str (S "cmp_to_key.<locals>.K") (tf 21)), some (.builtin "object.__new__"), some (.bool false)]))
    (hN : h.get? N = some (putO ((kE1 hf tf sl f1 f2 f3 f4 f5 f6 st).push ⟨hv1, .str (S "obj") tv1, .ref de⟩) 3 (S "__doc__") .none hv2 tv2))
    (ef : h.get? f4 = some { cls := .type "function", data := .func fd })
    (hde : h.get? de = some (deO C tde)) (hk1 : h.get? k1 = some { cls := .ref C, dict := some dk1, slots := #[some (.int x tx)] }) (hk2 : h.get? k2 = some { cls := .ref C, dict := some dk2, slots := #[some (.int y ty)] }) (hS : h.get? cStatics = some oS) (hlk : nsLook (S "thirdparty.any") oS = Sem.pure none)
    (hu : A.units + 5 < cLine) {P : Bool → Shared → Prop} (ha : A.handled = none) (go : ∀ A' t', A'.handled = none → A'.depth = A.depth → A'.units ≤ A.units + 5 → codeAny (model prog w) A' (.call (.ref f4) ⟨[.ref k1, .ref k2], []⟩) (fun r s' => ∃ b, r = .ok (.ret (.bool b)) ∧ P b s') ⟨h, g, d, t', os⟩)
    (q : ∀ b s', P b s' → Q (.bool b) s') : wpAny (model prog w) A (compareOp .Eq (.ref k1) (.ref k2)) Q E ⟨h, g, d, t0, os⟩ := by
  have D := Mem.start h
  show wpAny _ _ (richCompare .Eq (.ref k1) (.ref k2)) _ _ _
  unfold richCompare
  refine wpAny_holding (wpAny_bind (wpAny_cRoomFor (Nat.lt_of_le_of_lt (Nat.le_add_right _ _) hu) ?_))
  repeat walk_at "qs_v"
  walk_at "qs_w"
  refine m_decF (bneV C) ?_
  repeat walk_at "qs_v"
  show wpAny _ _ (if (w.params.followText "special-get-raises") = true then (do let v ← bindSpecial _ _; pure (some v)) else _) _ _ _
  refine m_follow (fun E' => ?_)
  repeat walk_at "qs_v"
  show wpAny _ _ (call (.ref f4) [.ref k1, .ref k2] >>= fun v => pure (some v)) _ _ _
  refine wpAny_bind (wpAny_call (codeAny_mono (go _ _ ha rfl (Nat.le_add_right _ _)) ?_))
  rintro _ s' ⟨b, rfl, hb⟩
  refine wpAny_pure ?_
  repeat walk_at "qs_x"
  walk_at "qs_w"
  refine x_pure ?_
  exact q b s' hb
theorem m_follow2 {β : Type} {prog : Program} {w : World} {A : Around} {E : Value → Shared → Prop} {Q : Option β → Shared → Prop} {s : Shared} {c : Bool} {x : Sem β} {k : Value → Sem (Option β)} (h : ∀ E', wpAny (model prog w) A x (fun v s' => Q (some v) s') E' s) :
    wpAny (model prog w) A (X.condFn (Sem (Option β)) c (do let v ← x; pure (some v)) ((do let v ← x; pure (some v) : Sem (Option β)).tryCatch k)) Q E s := by
  cases c with
  | false => exact wpAny_tryCatch (wpAny_bind (wpAny_mono (h _) (fun v s' q => wpAny_pure q) fun _ _ e => e))
  | true => exact wpAny_bind (wpAny_mono (h _) (fun v s' q => wpAny_pure q) fun _ _ e => e)
set_option maxHeartbeats 0 in
theorem NotEq_keys {prog : Program} {w : World} {A : Around} {E : Value → Shared → Prop} {h : Heap} {g d t0 os} {b C N de sl f1 f2 f3 f4 f5 f6 st : Addr} {tK tde tv1 tv2 : Tok} {hv1 hv2 : Int} {hf : Nat → Int} {tf : Nat → Tok} {oS : Obj} {Q : Value → Shared → Prop} {k1 k2 dk1 dk2 : Addr} {x y : Int} {tx ty : Tok} {fd : FuncData}
    (hC : h.get? C = some (clsO N [.ref C, .type "object"] false [S "obj"] #[some (.ref b), none, some (.str (S "K") tK), some (.str (S "cmp_to_key.<locals>.K") (tf 21)), some (.builtin "object.__new__"), some (.bool false)]))
    (hN : h.get? N = some (putO ((kE1 hf tf sl f1 f2 f3 f4 f5 f6 st).push ⟨hv1, .str (S "obj") tv1, .ref de⟩) 3 (S "__doc__") .none hv2 tv2))
    (ef : h.get? f4 = some { cls := .type "function", data := .func fd })
    (hde : h.get? de = some (deO C tde)) (hk1 : h.get? k1 = some { cls := .ref C, dict := some dk1, slots := #[some (.int x tx)] }) (hk2 : h.get? k2 = some { cls := .ref C, dict := some dk2, slots := #[some (.int y ty)] }) (hS : h.get? cStatics = some oS) (hlk : nsLook (S "thirdparty.any") oS = Sem.pure none)
    (hu : A.units + 5 < cLine) {P : Bool → Shared → Prop} (ha : A.handled = none) (go : ∀ A' t', A'.handled = none → A'.depth = A.depth → A'.units ≤ A.units + 5 → codeAny (model prog w) A' (.call (.ref f4) ⟨[.ref k1, .ref k2], []⟩) (fun r s' => ∃ b, r = .ok (.ret (.bool b)) ∧ P b s') ⟨h, g, d, t', os⟩)
    (q : ∀ b s', P b s' → Q (.bool (!b)) s') : wpAny (model prog w) A (compareOp .NotEq (.ref k1) (.ref k2)) Q E ⟨h, g, d, t0, os⟩ := by
  have D := Mem.start h
  show wpAny _ _ (richCompare .NotEq (.ref k1) (.ref k2)) _ _ _
  unfold richCompare
  refine wpAny_holding (wpAny_bind (wpAny_cRoomFor (Nat.lt_of_le_of_lt (Nat.le_add_right _ _) hu) ?_))
  repeat walk_at "qs_v"
  walk_at "qs_w"
  refine m_decF (bneV C) ?_
  repeat walk_at "qs_v"
  show wpAny _ _ (if (w.params.followText "special-get-raises") = true then (do let v ← bindSpecial _ _; pure (some v)) else _) _ _ _
  refine m_follow (fun E' => ?_)
  repeat walk_at "qs_v"
  walk_at "qs_w"
  refine m_call (by simp [byPass]) ?_
  repeat walk_at "qs_v"
  rename_i st0 L0
  have hr : roomF st0 = false := L0.room (Nat.lt_of_le_of_lt (Nat.add_le_add_left (show (Code.builtin "object.__ne__" ⟨[.ref k1, .ref k2], []⟩).cUnits ≤ 5 from Nat.le_of_ble_eq_true (by kernel_rfl!)) A.units) hu)
  walk_at "qs_w"
  rw [hr]
  repeat walk_at "qs_v"
  show wpAny _ _ (X.condFn _ (w.params.followText "special-get-raises") (do let v ← _; pure (some v)) _) _ _ _
  refine m_follow2 (fun E' => ?_)
  repeat walk_at "qs_v"
  show wpAny _ _ (call (.ref f4) [.ref k1, .ref k2] >>= fun v => pure (some v)) _ _ _
  refine wpAny_bind (wpAny_call (codeAny_mono (go _ _ ha rfl (Nat.add_le_add_left (show (Code.builtin "object.__ne__" ⟨[.ref k1, .ref k2], []⟩).cUnits ≤ 5 from Nat.le_of_ble_eq_true (by kernel_rfl!)) A.units)) ?_))
  rintro _ s' ⟨b, rfl, hb⟩
  refine wpAny_pure ?_
  repeat walk_at "qs_x"
  walk_at "qs_w"
  refine x_pure ?_
  exact q b s' hb

abbrev inst (C dk : Addr) (a : Int) (t : Tok) : Obj := { cls := .ref C, dict := some dk, slots := #[some (.int a t)] }
def KeyIs (C cl : Addr) (ocl : Obj) (F G : List (Addr × Obj)) (a : Int) (v : Value) (H : List (Addr × Obj)) : Prop :=
  ∃ ko dk t, v = .ref ko ∧ H = (ko, inst C dk a t) :: (cl, ocl) :: (F ++ G)
abbrev KI (C cl : Addr) (ocl : Obj) (F G : List (Addr × Obj)) (a : Int) : D := .abs (KeyIs C cl ocl F G a)
theorem rp_key {h : Heap} {X : Addr → Prop} {v : Value} {C cl : Addr} {ocl : Obj} {F G : List (Addr × Obj)} {a : Int} (r : Rp h X v (KI C cl ocl F G a)) :
    ∃ ko dk t, v = .ref ko ∧ h.get? ko = some (inst C dk a t) ∧ h.get? cl = some ocl ∧ (∀ q ∈ F, h.get? q.1 = some q.2) ∧ ∀ q ∈ G, h.get? q.1 = some q.2 := by
  cases r with
  | abs H hp hf =>
    obtain ⟨ko, dk, t, rfl, rfl⟩ := hp
    exact ⟨ko, dk, t, rfl, (hf _ (.head _)).1, (hf _ (.tail _ (.head _))).1, fun q hq => (hf q (.tail _ (.tail _ (List.mem_append_left _ hq)))).1, fun q hq => (hf q (.tail _ (.tail _ (List.mem_append_right _ hq)))).1⟩
structure KW (B : Bas) (m : Nat) (pm : Value) (C cl lam : Addr) (ocl : Obj) (F : List (Addr × Obj)) : Prop where
  kf : KeyF cl pm C F
  dcl : ocl.data = .cell (some (.ref lam))
  st : ∃ oS, B.hB.get? cStatics = some oS ∧ nsLook (S "thirdparty.any") oS = Sem.pure none
def opK : CmpOp → Int → Bool
  | .Lt, r => decide (r < 0)
  | .LtE, r => decide (r ≤ 0)
  | .Gt, r => decide (0 < r)
  | .GtE, r => decide (0 ≤ r)
  | .Eq, r => r == 0
  | _, _ => false
section
variable {B : Bas} {m : Nat} {pm : Value} {C cl lam : Addr} {ocl : Obj} {F : List (Addr × Obj)}
theorem aok_less {n k : Nat} {A : Around} (ao : AOk n A) (h : k ≤ n) : AOk k A := ⟨ao.handled, by have := ao.depth; omega, by have := ao.units; omega⟩
theorem own_get_lt (K : KW B m pm C cl lam ocl F) : ∃ f of fd, (f, of) ∈ F ∧ of.data = .func fd ∧ (∀ (s : Shared) (A : Around) (E : Value → Shared → Prop) (Q : Value × List Value → Shared → Prop) (pl : Sem Bool), B.Here s.heap → (∀ q ∈ F, s.heap.get? q.1 = some q.2) → (∀ s', Keeps s s' → Q (.ref f, []) s') → wpAny (model B.prog B.w) A (getMethod (.ref C) (S "__lt__") pl) Q E s) ∧
    ∀ (s : Shared) (A : Around) (R : Result → Shared → Prop) (k1 k2 dk1 dk2 : Addr) (x y : Int) (tx ty : Tok) (Pre : Shared → Prop) (Lam : Shared → Int → Shared → Prop), B.Ok → AOk (m + 1) A → B.Here s.heap → (∀ q ∈ F, s.heap.get? q.1 = some q.2) → s.heap.get? cl = some ocl → s.heap.get? k1 = some (inst C dk1 x tx) → s.heap.get? k2 = some (inst C dk2 y ty) → LamOk B m lam x y Pre Lam → Pre s →
    (∀ s1 r s2 s3, Keeps s s1 → Lam s1 r s2 → Keeps s2 s3 → R (.ok (.ret (.bool (opK .Lt r)))) s3) → codeAny (model B.prog B.w) A (.call (.ref f) ⟨[.ref k1, .ref k2], []⟩) R s := by
  obtain ⟨b, N, de, sl, st, f1, f2, f3, f4, f5, f6, c1, c2, c3, c4, c5, c6, oc1, oc2, oc3, oc4, oc5, oc6, d1, d2, d3, d4, d5, d6, v1, v2, v3, v4, v5, v6, tK, tde, tv1, tv2, hv1, hv2, hf, tf, rfl, o1, o2, o3, o4, o5, o6⟩ := K.kf
  obtain ⟨fd, ek, cf, e1, e2⟩ := @kfn_lt cl c2 d2 pm v2
  obtain ⟨oS, es, el⟩ := K.st
  obtain ⟨oc, vs, tc, q1, q2⟩ := o2
  refine ⟨f2, kfn 3 [(S "mycmp", cl)] d2 pm c2 v2, fd, (.tail _ (.tail _ (.tail _ (.tail _ (.tail _ (.head _)))))), by rw [ek], fun s A E Q pl hh hF q => ?_, fun s A R k1 k2 dk1 dk2 x y tx ty Pre Lam bo ao hh hF hcl h1 h2 L hp q => ?_⟩
  · unfold keyFs at hF
    exact getm_lt (tde := tde) (hF (C, _) (.head _)) (hF (N, _) (.tail _ (.head _))) ((hF (f2, _) (.tail _ (.tail _ (.tail _ (.tail _ (.tail _ (.head _))))))).trans (congrArg some ek)) (hh _ _ es) el fun t' => q _ ⟨_, _, rfl, fun _ _ e => e⟩
  unfold keyFs at hF
  refine cmp_code (op := .Lt) (bo' := opK .Lt) bo ao hh cf ((hF (f2, _) (.tail _ (.tail _ (.tail _ (.tail _ (.tail _ (.head _))))))).trans (congrArg some ek)) rfl ⟨c2, _, vs, tc, e1, hF (c2, _) (.tail _ (.tail _ (.tail _ (.tail _ (.tail _ (.tail _ (.head _))))))), q1, by rw [e2]; exact q2⟩ (hF (C, _) (.head _)) (hF (N, _) (.tail _ (.head _))) (hF (de, _) (.tail _ (.tail _ (.head _)))) h1 h2 hcl K.dcl (hh _ _ es) el L hp (fun r => ?_) (fun _ => rfl) q
  exact cmp_lt
theorem dun_lt (K : KW B m pm C cl lam ocl F) {G : List (Addr × Obj)} {a b r : Int} (L : LamOk B m lam a b (fun s => ∀ q ∈ G, s.heap.get? q.1 = some q.2) (fun s r' s' => Keeps s s' ∧ r' = r)) : DunK B (m + 2) "__lt__" (KI C cl ocl F G a) (KI C cl ocl F G b) (.bool (opK .Lt r)) := by
  obtain ⟨f, of, fd, hm, hd, g1, g2⟩ := own_get_lt K
  intro s va vb bo hh ra rb
  obtain ⟨k1, dk1, t1, rfl, e1, ecl, eF, eG⟩ := rp_key ra
  obtain ⟨k2, dk2, t2, rfl, e2, _, _, _⟩ := rp_key rb
  refine ⟨C, f, of, fd, eF _ hm, hd, fun A E Q ao q => type_key e1 fun t' => q _ ⟨_, _, rfl, fun _ _ e => e⟩, fun s₁ k pl A E Q ao q => g1 s₁ A E Q pl (fun b o e => kheap k _ _ (hh b o e)) (fun p hp => kheap k _ _ (eF p hp)) q, fun s₁ k A E Q ao q => ?_⟩
  refine wpAny_call (codeAny_mono (g2 s₁ A (fun res s' => res = .ok (.ret (.bool (opK .Lt r))) ∧ Keeps s₁ s') k1 k2 dk1 dk2 a b t1 t2 _ _ bo (aok_less ao (by omega)) (fun b o e => kheap k _ _ (hh b o e)) (fun p hp => kheap k _ _ (eF p hp)) (kheap k _ _ ecl) (kheap k _ _ e1) (kheap k _ _ e2) L (fun p hp => kheap k _ _ (eG p hp)) ?_) ?_)
  · rintro s1 r' s2 s3 j1 ⟨j2, rfl⟩ j3
    exact ⟨rfl, ktrans (ktrans j1 j2) j3⟩
  · rintro _ s' ⟨rfl, k'⟩
    exact q s' k'
theorem own_get_gt (K : KW B m pm C cl lam ocl F) : ∃ f of fd, (f, of) ∈ F ∧ of.data = .func fd ∧ (∀ (s : Shared) (A : Around) (E : Value → Shared → Prop) (Q : Value × List Value → Shared → Prop) (pl : Sem Bool), B.Here s.heap → (∀ q ∈ F, s.heap.get? q.1 = some q.2) → (∀ s', Keeps s s' → Q (.ref f, []) s') → wpAny (model B.prog B.w) A (getMethod (.ref C) (S "__gt__") pl) Q E s) ∧
    ∀ (s : Shared) (A : Around) (R : Result → Shared → Prop) (k1 k2 dk1 dk2 : Addr) (x y : Int) (tx ty : Tok) (Pre : Shared → Prop) (Lam : Shared → Int → Shared → Prop), B.Ok → AOk (m + 1) A → B.Here s.heap → (∀ q ∈ F, s.heap.get? q.1 = some q.2) → s.heap.get? cl = some ocl → s.heap.get? k1 = some (inst C dk1 x tx) → s.heap.get? k2 = some (inst C dk2 y ty) → LamOk B m lam x y Pre Lam → Pre s →
    (∀ s1 r s2 s3, Keeps s s1 → Lam s1 r s2 → Keeps s2 s3 → R (.ok (.ret (.bool (opK .Gt r)))) s3) → codeAny (model B.prog B.w) A (.call (.ref f) ⟨[.ref k1, .ref k2], []⟩) R s := by
  obtain ⟨b, N, de, sl, st, f1, f2, f3, f4, f5, f6, c1, c2, c3, c4, c5, c6, oc1, oc2, oc3, oc4, oc5, oc6, d1, d2, d3, d4, d5, d6, v1, v2, v3, v4, v5, v6, tK, tde, tv1, tv2, hv1, hv2, hf, tf, rfl, o1, o2, o3, o4, o5, o6⟩ := K.kf
  obtain ⟨fd, ek, cf, e1, e2⟩ := @kfn_gt cl c3 d3 pm v3
  obtain ⟨oS, es, el⟩ := K.st
  obtain ⟨oc, vs, tc, q1, q2⟩ := o3
  refine ⟨f3, kfn 4 [(S "mycmp", cl)] d3 pm c3 v3, fd, (.tail _ (.tail _ (.tail _ (.tail _ (.tail _ (.tail _ (.tail _ (.head _)))))))), by rw [ek], fun s A E Q pl hh hF q => ?_, fun s A R k1 k2 dk1 dk2 x y tx ty Pre Lam bo ao hh hF hcl h1 h2 L hp q => ?_⟩
  · unfold keyFs at hF
    exact getm_gt (tde := tde) (hF (C, _) (.head _)) (hF (N, _) (.tail _ (.head _))) ((hF (f3, _) (.tail _ (.tail _ (.tail _ (.tail _ (.tail _ (.tail _ (.tail _ (.head _))))))))).trans (congrArg some ek)) (hh _ _ es) el fun t' => q _ ⟨_, _, rfl, fun _ _ e => e⟩
  unfold keyFs at hF
  refine cmp_code (op := .Gt) (bo' := opK .Gt) bo ao hh cf ((hF (f3, _) (.tail _ (.tail _ (.tail _ (.tail _ (.tail _ (.tail _ (.tail _ (.head _))))))))).trans (congrArg some ek)) rfl ⟨c3, _, vs, tc, e1, hF (c3, _) (.tail _ (.tail _ (.tail _ (.tail _ (.tail _ (.tail _ (.tail _ (.tail _ (.head _))))))))), q1, by rw [e2]; exact q2⟩ (hF (C, _) (.head _)) (hF (N, _) (.tail _ (.head _))) (hF (de, _) (.tail _ (.tail _ (.head _)))) h1 h2 hcl K.dcl (hh _ _ es) el L hp (fun r => ?_) (fun _ => rfl) q
  exact cmp_gt
theorem dun_gt (K : KW B m pm C cl lam ocl F) {G : List (Addr × Obj)} {a b r : Int} (L : LamOk B m lam a b (fun s => ∀ q ∈ G, s.heap.get? q.1 = some q.2) (fun s r' s' => Keeps s s' ∧ r' = r)) : DunK B (m + 2) "__gt__" (KI C cl ocl F G a) (KI C cl ocl F G b) (.bool (opK .Gt r)) := by
  obtain ⟨f, of, fd, hm, hd, g1, g2⟩ := own_get_gt K
  intro s va vb bo hh ra rb
  obtain ⟨k1, dk1, t1, rfl, e1, ecl, eF, eG⟩ := rp_key ra
  obtain ⟨k2, dk2, t2, rfl, e2, _, _, _⟩ := rp_key rb
  refine ⟨C, f, of, fd, eF _ hm, hd, fun A E Q ao q => type_key e1 fun t' => q _ ⟨_, _, rfl, fun _ _ e => e⟩, fun s₁ k pl A E Q ao q => g1 s₁ A E Q pl (fun b o e => kheap k _ _ (hh b o e)) (fun p hp => kheap k _ _ (eF p hp)) q, fun s₁ k A E Q ao q => ?_⟩
  refine wpAny_call (codeAny_mono (g2 s₁ A (fun res s' => res = .ok (.ret (.bool (opK .Gt r))) ∧ Keeps s₁ s') k1 k2 dk1 dk2 a b t1 t2 _ _ bo (aok_less ao (by omega)) (fun b o e => kheap k _ _ (hh b o e)) (fun p hp => kheap k _ _ (eF p hp)) (kheap k _ _ ecl) (kheap k _ _ e1) (kheap k _ _ e2) L (fun p hp => kheap k _ _ (eG p hp)) ?_) ?_)
  · rintro s1 r' s2 s3 j1 ⟨j2, rfl⟩ j3
    exact ⟨rfl, ktrans (ktrans j1 j2) j3⟩
  · rintro _ s' ⟨rfl, k'⟩
    exact q s' k'
theorem own_get_le (K : KW B m pm C cl lam ocl F) : ∃ f of fd, (f, of) ∈ F ∧ of.data = .func fd ∧ (∀ (s : Shared) (A : Around) (E : Value → Shared → Prop) (Q : Value × List Value → Shared → Prop) (pl : Sem Bool), B.Here s.heap → (∀ q ∈ F, s.heap.get? q.1 = some q.2) → (∀ s', Keeps s s' → Q (.ref f, []) s') → wpAny (model B.prog B.w) A (getMethod (.ref C) (S "__le__") pl) Q E s) ∧
    ∀ (s : Shared) (A : Around) (R : Result → Shared → Prop) (k1 k2 dk1 dk2 : Addr) (x y : Int) (tx ty : Tok) (Pre : Shared → Prop) (Lam : Shared → Int → Shared → Prop), B.Ok → AOk (m + 1) A → B.Here s.heap → (∀ q ∈ F, s.heap.get? q.1 = some q.2) → s.heap.get? cl = some ocl → s.heap.get? k1 = some (inst C dk1 x tx) → s.heap.get? k2 = some (inst C dk2 y ty) → LamOk B m lam x y Pre Lam → Pre s →
    (∀ s1 r s2 s3, Keeps s s1 → Lam s1 r s2 → Keeps s2 s3 → R (.ok (.ret (.bool (opK .LtE r)))) s3) → codeAny (model B.prog B.w) A (.call (.ref f) ⟨[.ref k1, .ref k2], []⟩) R s := by
  obtain ⟨b, N, de, sl, st, f1, f2, f3, f4, f5, f6, c1, c2, c3, c4, c5, c6, oc1, oc2, oc3, oc4, oc5, oc6, d1, d2, d3, d4, d5, d6, v1, v2, v3, v4, v5, v6, tK, tde, tv1, tv2, hv1, hv2, hf, tf, rfl, o1, o2, o3, o4, o5, o6⟩ := K.kf
  obtain ⟨fd, ek, cf, e1, e2⟩ := @kfn_le cl c5 d5 pm v5
  obtain ⟨oS, es, el⟩ := K.st
  obtain ⟨oc, vs, tc, q1, q2⟩ := o5
  refine ⟨f5, kfn 6 [(S "mycmp", cl)] d5 pm c5 v5, fd, (.tail _ (.tail _ (.tail _ (.tail _ (.tail _ (.tail _ (.tail _ (.tail _ (.tail _ (.tail _ (.tail _ (.head _)))))))))))), by rw [ek], fun s A E Q pl hh hF q => ?_, fun s A R k1 k2 dk1 dk2 x y tx ty Pre Lam bo ao hh hF hcl h1 h2 L hp q => ?_⟩
  · unfold keyFs at hF
    exact getm_le (tde := tde) (hF (C, _) (.head _)) (hF (N, _) (.tail _ (.head _))) ((hF (f5, _) (.tail _ (.tail _ (.tail _ (.tail _ (.tail _ (.tail _ (.tail _ (.tail _ (.tail _ (.tail _ (.tail _ (.head _))))))))))))).trans (congrArg some ek)) (hh _ _ es) el fun t' => q _ ⟨_, _, rfl, fun _ _ e => e⟩
  unfold keyFs at hF
  refine cmp_code (op := .LtE) (bo' := opK .LtE) bo ao hh cf ((hF (f5, _) (.tail _ (.tail _ (.tail _ (.tail _ (.tail _ (.tail _ (.tail _ (.tail _ (.tail _ (.tail _ (.tail _ (.head _))))))))))))).trans (congrArg some ek)) rfl ⟨c5, _, vs, tc, e1, hF (c5, _) (.tail _ (.tail _ (.tail _ (.tail _ (.tail _ (.tail _ (.tail _ (.tail _ (.tail _ (.tail _ (.tail _ (.tail _ (.head _))))))))))))), q1, by rw [e2]; exact q2⟩ (hF (C, _) (.head _)) (hF (N, _) (.tail _ (.head _))) (hF (de, _) (.tail _ (.tail _ (.head _)))) h1 h2 hcl K.dcl (hh _ _ es) el L hp (fun r => ?_) (fun _ => rfl) q
  exact cmp_le
theorem dun_le (K : KW B m pm C cl lam ocl F) {G : List (Addr × Obj)} {a b r : Int} (L : LamOk B m lam a b (fun s => ∀ q ∈ G, s.heap.get? q.1 = some q.2) (fun s r' s' => Keeps s s' ∧ r' = r)) : DunK B (m + 2) "__le__" (KI C cl ocl F G a) (KI C cl ocl F G b) (.bool (opK .LtE r)) := by
  obtain ⟨f, of, fd, hm, hd, g1, g2⟩ := own_get_le K
  intro s va vb bo hh ra rb
  obtain ⟨k1, dk1, t1, rfl, e1, ecl, eF, eG⟩ := rp_key ra
  obtain ⟨k2, dk2, t2, rfl, e2, _, _, _⟩ := rp_key rb
  refine ⟨C, f, of, fd, eF _ hm, hd, fun A E Q ao q => type_key e1 fun t' => q _ ⟨_, _, rfl, fun _ _ e => e⟩, fun s₁ k pl A E Q ao q => g1 s₁ A E Q pl (fun b o e => kheap k _ _ (hh b o e)) (fun p hp => kheap k _ _ (eF p hp)) q, fun s₁ k A E Q ao q => ?_⟩
  refine wpAny_call (codeAny_mono (g2 s₁ A (fun res s' => res = .ok (.ret (.bool (opK .LtE r))) ∧ Keeps s₁ s') k1 k2 dk1 dk2 a b t1 t2 _ _ bo (aok_less ao (by omega)) (fun b o e => kheap k _ _ (hh b o e)) (fun p hp => kheap k _ _ (eF p hp)) (kheap k _ _ ecl) (kheap k _ _ e1) (kheap k _ _ e2) L (fun p hp => kheap k _ _ (eG p hp)) ?_) ?_)
  · rintro s1 r' s2 s3 j1 ⟨j2, rfl⟩ j3
    exact ⟨rfl, ktrans (ktrans j1 j2) j3⟩
  · rintro _ s' ⟨rfl, k'⟩
    exact q s' k'
theorem own_get_ge (K : KW B m pm C cl lam ocl F) : ∃ f of fd, (f, of) ∈ F ∧ of.data = .func fd ∧ (∀ (s : Shared) (A : Around) (E : Value → Shared → Prop) (Q : Value × List Value → Shared → Prop) (pl : Sem Bool), B.Here s.heap → (∀ q ∈ F, s.heap.get? q.1 = some q.2) → (∀ s', Keeps s s' → Q (.ref f, []) s') → wpAny (model B.prog B.w) A (getMethod (.ref C) (S "__ge__") pl) Q E s) ∧
    ∀ (s : Shared) (A : Around) (R : Result → Shared → Prop) (k1 k2 dk1 dk2 : Addr) (x y : Int) (tx ty : Tok) (Pre : Shared → Prop) (Lam : Shared → Int → Shared → Prop), B.Ok → AOk (m + 1) A → B.Here s.heap → (∀ q ∈ F, s.heap.get? q.1 = some q.2) → s.heap.get? cl = some ocl → s.heap.get? k1 = some (inst C dk1 x tx) → s.heap.get? k2 = some (inst C dk2 y ty) → LamOk B m lam x y Pre Lam → Pre s →
    (∀ s1 r s2 s3, Keeps s s1 → Lam s1 r s2 → Keeps s2 s3 → R (.ok (.ret (.bool (opK .GtE r)))) s3) → codeAny (model B.prog B.w) A (.call (.ref f) ⟨[.ref k1, .ref k2], []⟩) R s := by
  obtain ⟨b, N, de, sl, st, f1, f2, f3, f4, f5, f6, c1, c2, c3, c4, c5, c6, oc1, oc2, oc3, oc4, oc5, oc6, d1, d2, d3, d4, d5, d6, v1, v2, v3, v4, v5, v6, tK, tde, tv1, tv2, hv1, hv2, hf, tf, rfl, o1, o2, o3, o4, o5, o6⟩ := K.kf
  obtain ⟨fd, ek, cf, e1, e2⟩ := @kfn_ge cl c6 d6 pm v6
  obtain ⟨oS, es, el⟩ := K.st
  obtain ⟨oc, vs, tc, q1, q2⟩ := o6
  refine ⟨f6, kfn 7 [(S "mycmp", cl)] d6 pm c6 v6, fd, (.tail _ (.tail _ (.tail _ (.tail _ (.tail _ (.tail _ (.tail _ (.tail _ (.tail _ (.tail _ (.tail _ (.tail _ (.tail _ (.head _)))))))))))))), by rw [ek], fun s A E Q pl hh hF q => ?_, fun s A R k1 k2 dk1 dk2 x y tx ty Pre Lam bo ao hh hF hcl h1 h2 L hp q => ?_⟩
  · unfold keyFs at hF
    exact getm_ge (tde := tde) (hF (C, _) (.head _)) (hF (N, _) (.tail _ (.head _))) ((hF (f6, _) (.tail _ (.tail _ (.tail _ (.tail _ (.tail _ (.tail _ (.tail _ (.tail _ (.tail _ (.tail _ (.tail _ (.tail _ (.tail _ (.head _))))))))))))))).trans (congrArg some ek)) (hh _ _ es) el fun t' => q _ ⟨_, _, rfl, fun _ _ e => e⟩
  unfold keyFs at hF
  refine cmp_code (op := .GtE) (bo' := opK .GtE) bo ao hh cf ((hF (f6, _) (.tail _ (.tail _ (.tail _ (.tail _ (.tail _ (.tail _ (.tail _ (.tail _ (.tail _ (.tail _ (.tail _ (.tail _ (.tail _ (.head _))))))))))))))).trans (congrArg some ek)) rfl ⟨c6, _, vs, tc, e1, hF (c6, _) (.tail _ (.tail _ (.tail _ (.tail _ (.tail _ (.tail _ (.tail _ (.tail _ (.tail _ (.tail _ (.tail _ (.tail _ (.tail _ (.tail _ (.head _))))))))))))))), q1, by rw [e2]; exact q2⟩ (hF (C, _) (.head _)) (hF (N, _) (.tail _ (.head _))) (hF (de, _) (.tail _ (.tail _ (.head _)))) h1 h2 hcl K.dcl (hh _ _ es) el L hp (fun r => ?_) (fun _ => rfl) q
  exact cmp_ge
theorem dun_ge (K : KW B m pm C cl lam ocl F) {G : List (Addr × Obj)} {a b r : Int} (L : LamOk B m lam a b (fun s => ∀ q ∈ G, s.heap.get? q.1 = some q.2) (fun s r' s' => Keeps s s' ∧ r' = r)) : DunK B (m + 2) "__ge__" (KI C cl ocl F G a) (KI C cl ocl F G b) (.bool (opK .GtE r)) := by
  obtain ⟨f, of, fd, hm, hd, g1, g2⟩ := own_get_ge K
  intro s va vb bo hh ra rb
  obtain ⟨k1, dk1, t1, rfl, e1, ecl, eF, eG⟩ := rp_key ra
  obtain ⟨k2, dk2, t2, rfl, e2, _, _, _⟩ := rp_key rb
  refine ⟨C, f, of, fd, eF _ hm, hd, fun A E Q ao q => type_key e1 fun t' => q _ ⟨_, _, rfl, fun _ _ e => e⟩, fun s₁ k pl A E Q ao q => g1 s₁ A E Q pl (fun b o e => kheap k _ _ (hh b o e)) (fun p hp => kheap k _ _ (eF p hp)) q, fun s₁ k A E Q ao q => ?_⟩
  refine wpAny_call (codeAny_mono (g2 s₁ A (fun res s' => res = .ok (.ret (.bool (opK .GtE r))) ∧ Keeps s₁ s') k1 k2 dk1 dk2 a b t1 t2 _ _ bo (aok_less ao (by omega)) (fun b o e => kheap k _ _ (hh b o e)) (fun p hp => kheap k _ _ (eF p hp)) (kheap k _ _ ecl) (kheap k _ _ e1) (kheap k _ _ e2) L (fun p hp => kheap k _ _ (eG p hp)) ?_) ?_)
  · rintro s1 r' s2 s3 j1 ⟨j2, rfl⟩ j3
    exact ⟨rfl, ktrans (ktrans j1 j2) j3⟩
  · rintro _ s' ⟨rfl, k'⟩
    exact q s' k'
theorem cmpk_eq (K : KW B m pm C cl lam ocl F) {G : List (Addr × Obj)} {a b r : Int} (L : LamOk B m lam a b (fun s => ∀ q ∈ G, s.heap.get? q.1 = some q.2) (fun s r' s' => Keeps s s' ∧ r' = r)) : Cmp B (m + 2) .Eq (KI C cl ocl F G a) (KI C cl ocl F G b) (opK .Eq r) := by
  obtain ⟨b, N, de, sl, st, f1, f2, f3, f4, f5, f6, c1, c2, c3, c4, c5, c6, oc1, oc2, oc3, oc4, oc5, oc6, d1, d2, d3, d4, d5, d6, v1, v2, v3, v4, v5, v6, tK, tde, tv1, tv2, hv1, hv2, hf, tf, rfl, o1, o2, o3, o4, o5, o6⟩ := K.kf
  obtain ⟨fd, ek, cf, e1, e2⟩ := @kfn_eq cl c4 d4 pm v4
  obtain ⟨oS, es, el⟩ := K.st
  obtain ⟨oc, vs, tc, q1, q2⟩ := o4
  intro A s E Q va vb bo ao hh ra rb q
  obtain ⟨k1, dk1, t1, rfl, i1, ecl, eF, eG⟩ := rp_key ra
  obtain ⟨k2, dk2, t2, rfl, i2, _, _, _⟩ := rp_key rb
  unfold keyFs at eF
  have hu : A.units + 5 < cLine := by have := ao.units; omega
  refine Eq_keys (P := fun bb s' => bb = opK .Eq r ∧ Keeps s s') (eF (C, _) (.head _)) (eF (N, _) (.tail _ (.head _))) ((eF (f4, _) (.tail _ (.tail _ (.tail _ (.tail _ (.tail _ (.tail _ (.tail _ (.tail _ (.tail _ (.head _))))))))))).trans (congrArg some ek)) (eF (de, _) (.tail _ (.tail _ (.head _)))) i1 i2 (hh _ _ es) el hu ao.handled (fun A' t' a1 a2 a3 => ?_) fun bb s' hb => ?_
  · refine codeAny_mono (cmp_code (op := .Eq) (bo' := opK .Eq) (R := fun res s' => res = .ok (.ret (.bool (opK .Eq r))) ∧ Keeps s s') bo ⟨a1, by have := ao.depth; omega, by have := ao.units; omega⟩ hh cf ((eF (f4, _) (.tail _ (.tail _ (.tail _ (.tail _ (.tail _ (.tail _ (.tail _ (.tail _ (.tail _ (.head _))))))))))).trans (congrArg some ek)) rfl ⟨c4, _, vs, tc, e1, eF (c4, _) (.tail _ (.tail _ (.tail _ (.tail _ (.tail _ (.tail _ (.tail _ (.tail _ (.tail _ (.tail _ (.head _))))))))))), q1, by rw [e2]; exact q2⟩ (eF (C, _) (.head _)) (eF (N, _) (.tail _ (.head _))) (eF (de, _) (.tail _ (.tail _ (.head _)))) i1 i2 ecl K.dcl (hh _ _ es) el L eG (fun r => cmp_eq) (fun _ => rfl) ?_) ?_
    · rintro s1 r' s2 s3 j1 ⟨j2, rfl⟩ j3
      exact ⟨rfl, ktrans (ktrans (ktrans ⟨_, _, rfl, fun _ _ e => e⟩ j1) j2) j3⟩
    · rintro _ s' ⟨rfl, k'⟩
      exact ⟨_, rfl, rfl, k'⟩
  · obtain ⟨rfl, k'⟩ := hb
    exact q s' k'
theorem cmpk_ne (K : KW B m pm C cl lam ocl F) {G : List (Addr × Obj)} {a b r : Int} (L : LamOk B m lam a b (fun s => ∀ q ∈ G, s.heap.get? q.1 = some q.2) (fun s r' s' => Keeps s s' ∧ r' = r)) : Cmp B (m + 2) .NotEq (KI C cl ocl F G a) (KI C cl ocl F G b) (!opK .Eq r) := by
  obtain ⟨b, N, de, sl, st, f1, f2, f3, f4, f5, f6, c1, c2, c3, c4, c5, c6, oc1, oc2, oc3, oc4, oc5, oc6, d1, d2, d3, d4, d5, d6, v1, v2, v3, v4, v5, v6, tK, tde, tv1, tv2, hv1, hv2, hf, tf, rfl, o1, o2, o3, o4, o5, o6⟩ := K.kf
  obtain ⟨fd, ek, cf, e1, e2⟩ := @kfn_eq cl c4 d4 pm v4
  obtain ⟨oS, es, el⟩ := K.st
  obtain ⟨oc, vs, tc, q1, q2⟩ := o4
  intro A s E Q va vb bo ao hh ra rb q
  obtain ⟨k1, dk1, t1, rfl, i1, ecl, eF, eG⟩ := rp_key ra
  obtain ⟨k2, dk2, t2, rfl, i2, _, _, _⟩ := rp_key rb
  unfold keyFs at eF
  have hu : A.units + 5 < cLine := by have := ao.units; omega
  refine NotEq_keys (P := fun bb s' => bb = opK .Eq r ∧ Keeps s s') (eF (C, _) (.head _)) (eF (N, _) (.tail _ (.head _))) ((eF (f4, _) (.tail _ (.tail _ (.tail _ (.tail _ (.tail _ (.tail _ (.tail _ (.tail _ (.tail _ (.head _))))))))))).trans (congrArg some ek)) (eF (de, _) (.tail _ (.tail _ (.head _)))) i1 i2 (hh _ _ es) el hu ao.handled (fun A' t' a1 a2 a3 => ?_) fun bb s' hb => ?_
  · refine codeAny_mono (cmp_code (op := .Eq) (bo' := opK .Eq) (R := fun res s' => res = .ok (.ret (.bool (opK .Eq r))) ∧ Keeps s s') bo ⟨a1, by have := ao.depth; omega, by have := ao.units; omega⟩ hh cf ((eF (f4, _) (.tail _ (.tail _ (.tail _ (.tail _ (.tail _ (.tail _ (.tail _ (.tail _ (.tail _ (.head _))))))))))).trans (congrArg some ek)) rfl ⟨c4, _, vs, tc, e1, eF (c4, _) (.tail _ (.tail _ (.tail _ (.tail _ (.tail _ (.tail _ (.tail _ (.tail _ (.tail _ (.tail _ (.head _))))))))))), q1, by rw [e2]; exact q2⟩ (eF (C, _) (.head _)) (eF (N, _) (.tail _ (.head _))) (eF (de, _) (.tail _ (.tail _ (.head _)))) i1 i2 ecl K.dcl (hh _ _ es) el L eG (fun r => cmp_eq) (fun _ => rfl) ?_) ?_
    · rintro s1 r' s2 s3 j1 ⟨j2, rfl⟩ j3
      exact ⟨rfl, ktrans (ktrans (ktrans ⟨_, _, rfl, fun _ _ e => e⟩ j1) j2) j3⟩
    · rintro _ s' ⟨rfl, k'⟩
      exact ⟨_, rfl, rfl, k'⟩
  · obtain ⟨rfl, k'⟩ := hb
    exact q s' k'
end

structure LamFn (fd : FuncData) (body : Expr) (x : Str) (tc : Addr) : Prop where
  body : fd.body = .expr body
  bind : ∀ u v, bindArgs fd ⟨[u, v], []⟩ = pure [(S "a", u), (S "b", v)]
  clos : fd.closure = [(x, tc)]
  a : fd.scope.names.lookup (S "a") = some .local
  b : fd.scope.names.lookup (S "b") = some .local
  x : fd.scope.names.lookup x = some .free
  nocell : ∀ y ∈ fd.scope.names, y.2 ≠ .cell
  co : fd.scope.isCoroutine = false
  gen : fd.scope.isGenerator = false
  kind : fd.scope.kind = .function
  globals : fd.globals = mainGlobals
  builtins : fd.builtins = builtinsNs
theorem lam_enter {prog : Program} {w : World} {A : Around} {s : Shared} {R : Result → Shared → Prop} {lam : Addr} {o : Obj} {fd : FuncData} {body : Expr} {x : Str} {tc : Addr} {u v : Value} (F : LamFn fd body x tc) (hroom : A.depth < recursionLimit) (ho : s.heap.get? lam = some o) (hd : o.data = .func fd) (hlim : s.heap.NoLimit) (hcd : s.heap.CodeRec fd.code fd.qualname)
    (h : ∀ h0 E', h0.Ns s.heap.objs.size (fun z => [(S "a", u), (S "b", v)].reverse.lookup z) → (∀ b o, s.heap.get? b = some o → h0.get? b = some o) → wpAny (model prog w) (A.deeper (callEnv fd s.heap.objs.size lam)) (eval body (callEnv fd s.heap.objs.size lam)) (fun v s' => R (.ok (.ret v)) s') E' { s with heap := h0, toks := s.toks + 2 }) :
    codeAny (model prog w) A (.call (.ref lam) ⟨[u, v], []⟩) R s := by
  refine kla_callFunE hroom ho hd F.co F.gen F.body hcd ?_
  rw [F.bind]
  refine wpAny_pure (wpAny_newFunctionEnv F.nocell ?_ (fun h₁ hns hsb => ⟨hlim.fresh _ hsb, ?_⟩) F.kind)
  · intro z hz
    simp only [List.mem_cons, List.not_mem_nil, or_false] at hz
    rcases hz with rfl | rfl
    · exact F.a
    · exact F.b
  · show codeAny _ _ (.expr body (callEnv fd s.heap.objs.size lam)) _ _
    exact kla_codeExpr (h h₁ _ hns fun b o e => hsb.extBut b o (Nat.ne_of_lt (Heap.lt_size e)) (Heap.get?_push_of_some _ e))
theorem lam_st {B : Bas} {s : Shared} {h0 : Heap} {fd : FuncData} {body : Expr} {lam tc la : Addr} {i j : Int} {ti tj : Tok} {vs : List Value} {l : List Int} (F : LamFn fd body (S "table") tc) (hh : B.Here s.heap) (htc : B.hB.get? tc = none)
    (hns : h0.Ns s.heap.objs.size (fun z => [(S "a", Value.int i ti), (S "b", Value.int j tj)].reverse.lookup z)) (hk : ∀ b o, s.heap.get? b = some o → h0.get? b = some o) (hc : s.heap.IsCell tc (some (.ref la))) (hl : s.heap.IsList la vs.toArray) (hi : RpAll s.heap NoX vs (D.ofInts l)) :
    St B (hideAll s.heap [tc]) (fun _ => False) (callEnv fd s.heap.objs.size lam) [("a", .val (.int i)), ("b", .val (.int j)), ("table", .val (.list (D.ofInts l)))] (fun b => b = s.heap.objs.size ∨ b = tc) h0 := by
  have hL : s.heap.get? s.heap.objs.size = none := fresh_of (Nat.le_refl _)
  obtain ⟨oc, ec, dc⟩ := id hc
  obtain ⟨ol, el, cl, nl, dl⟩ := id hl
  have lat : la ≠ tc := fun q => by rw [q, ec] at el; cases el; rw [dc] at dl; cases dl
  have laL : la ≠ s.heap.objs.size := fun q => by rw [q, hL] at el; cases el
  have kf : (callEnv fd s.heap.objs.size lam).kindOf (S "table") = some .free := F.x
  have ka : (callEnv fd s.heap.objs.size lam).kindOf (S "a") = some .local := F.a
  have kb : (callEnv fd s.heap.objs.size lam).kindOf (S "b") = some .local := F.b
  have lk : ∀ x c, (callEnv fd s.heap.objs.size lam).cells.lookup x = some c → x = S "table" ∧ c = tc := fun x c e => by
    have e' : fd.closure.lookup x = some c := e
    rw [F.clos] at e'
    have m := PySem.mem_of_lookup e'
    simp only [List.mem_cons, List.not_mem_nil, or_false, Prod.mk.injEq] at m
    exact m
  refine ⟨fun b o e => hideAll_get _ (hh b o e) (fun z => by simp only [List.mem_cons, List.not_mem_nil, or_false] at z; rw [z, htc] at e; cases e), fun b o e => hk b o (of_hideAll _ e), fun a q => q.elim, ?_, ?_, ⟨F.kind, F.globals, F.builtins, fun x y c h1 h2 => (lk x c h1).1.trans (lk y c h2).1.symm⟩, .inl rfl, ⟨_, hns⟩, fun x c e => ?_, ?_, ?_⟩
  · rintro a (rfl | rfl)
    · obtain ⟨o, _, _, e, _⟩ := hns; exact ⟨o, e⟩
    · exact ⟨oc, hk _ _ ec⟩
  · rintro a (rfl | rfl)
    · cases e : (hideAll s.heap [tc]).get? s.heap.objs.size with
      | none => rfl
      | some o => rw [of_hideAll _ e] at hL; cases hL
    · exact hideAll_none _ (.head _)
  · obtain ⟨_, rfl⟩ := lk x c e
    exact ⟨⟨_, oc, hk _ _ ec, dc⟩, fun _ => .inr rfl⟩
  · intro x b e
    unfold Sto.get at e
    split at e
    · rename_i q; subst q; cases e
      exact ⟨.int i ti, .inl ⟨ka, _, hns, rfl⟩, .int i ti⟩
    · unfold Sto.get at e
      split at e
      · rename_i q; subst q; cases e
        exact ⟨.int j tj, .inl ⟨kb, _, hns, rfl⟩, .int j tj⟩
      · unfold Sto.get at e
        split at e
        · rename_i q; subst q; cases e
          refine ⟨.ref la, .inr ⟨.inr kf, tc, ?_, oc, hk _ _ ec, dc⟩, .list (hl.at fun o e => hk _ o e) ?_ ?_⟩
          · show fd.closure.lookup _ = _
            rw [F.clos]; rfl
          · rintro (q | q | q)
            · exact q
            · exact laL q
            · exact lat q
          · have : ∀ {vs : List Value} {l : List Int}, RpAll s.heap NoX vs (D.ofInts l) → RpAll h0 (fun a => False ∨ (a = s.heap.objs.size ∨ a = tc)) vs (D.ofInts l) := by
              intro vs l
              induction l generalizing vs with
              | nil => intro r; cases r; exact .nil
              | cons a r ih => intro x; cases x with | cons p q => obtain ⟨t, rfl⟩ := rp_int p; exact .cons (.int _ _) (ih q)
            exact this hi
        · cases e
  · intro x y ds es a ne hx
    unfold Sto.get at hx
    split at hx
    · cases hx
    · unfold Sto.get at hx
      split at hx
      · cases hx
      · unfold Sto.get at hx
        split at hx <;> cases hx

def ansI (l : List Int) (d : Int) : Int := l.getD (d.fmod l.length).toNat 0
theorem fmod_range {l : List Int} (hl : l ≠ []) (d : Int) : 0 ≤ d.fmod l.length ∧ d.fmod l.length < l.length := by
  have : 0 < l.length := List.length_pos_iff.mpr hl
  exact ⟨Int.fmod_nonneg_of_pos _ (by omega), Int.fmod_lt_of_pos _ (by omega)⟩
theorem answer_spec {B : Bas} (fr : Free B) {n : Nat} {a : Addr} (F : HasDef B "_law_answer" a (defAt pw 15)) {l : List Int} (hl : l ≠ []) (hsz : l.length ≤ 1000) {x y : Int} : FnS B (n + 1) a [.list (D.ofInts l), .int x, .int y] (.int (ansI l (x - y))) := by
  refine fns_of (xs := ["table", "a", "b"]) F.fn rfl (fun pm cd doc vs hvs => ?_) rfl (by decide) (by decide +kernel) fun env fe => ?_
  · match vs, hvs with
    | [u, v, w], _ => rfl
  · show Ex B n env [("table", .val (.list (D.ofInts l))), ("a", .val (.int x)), ("b", .val (.int y))] _ _
    have hlen : (D.ofInts l).length = l.length := by simp [D.ofInts]
    obtain ⟨r1, r2⟩ := fmod_range hl (x - y)
    have hp : 0 < l.length := List.length_pos_iff.mpr hl
    refine ex_cons (ex_return (Ev.ret (ev_item (ds := D.ofInts l) (d := .int (ansI l (x - y))) (k := (x - y).fmod l.length) (by walk_at "ev") (Ev.weak (ev_bin (by walk_at "w") (evw_eq (d := .int ((D.ofInts l).length : Int)) (by walk_at "w") (by rw [hlen])) (bin_mod (by omega)))) (by omega) (by omega) (by omega) ?_)) ?_)
    · rw [hlen]
      unfold place
      rw [if_neg (by omega)]
      exact ofInts_get (by omega)
    · rfl
inductive LamGX (G : List (Addr × Obj)) (lam tc : Addr) (l : List Int) : Prop
  | mk (olam : Obj) (c' : Addr) (oc' otc : Obj) (la : Addr) (ola : Obj) (fd : FuncData) (vs : List Value) (nn : Nat) (p1 p2 p3 p4 p5 : Pos) : G = [(lam, olam), (c', oc'), (tc, otc), (la, ola)] → olam.data = .func fd → LamFn fd (.Call (.Name (S "_law_answer") p1) [.Name (S "table") p2, .Name (S "a") p3, .Name (S "b") p4] [] p5) (S "table") tc → fd.code = .ref c' → CodeO fd.qualname oc' → otc.data = .cell (some (.ref la)) → ola.cls = .type "list" → ola.data = .seq vs.toArray nn → IntsAre vs l → fd.scope.names.lookup (S "_law_answer") = some .globalImplicit → LamGX G lam tc l
structure LamG (G : List (Addr × Obj)) (lam tc : Addr) (l : List Int) : Prop where
  ex : LamGX G lam tc l
theorem lam_table {B : Bas} (fr : Free B) {n : Nat} {a : Addr} (F : HasDef B "_law_answer" a (defAt pw 15)) {G : List (Addr × Obj)} {lam tc : Addr} {l : List Int} (LG : LamG G lam tc l) (hl : l ≠ []) (hsz : l.length ≤ 1000) (hno : B.hB.get? tc = none) (x y : Int) :
    LamOk B (n + 2) lam x y (fun s => ∀ q ∈ G, s.heap.get? q.1 = some q.2) (fun s r s' => Keeps s s' ∧ r = ansI l (x - y)) := by
  obtain ⟨olam, c', oc', otc, la, ola, fd, vs, nn, p1, p2, p3, p4, p5, rfl, d1, d2, d3, d4, d5, d6, d7, d8, d9⟩ := LG.ex
  refine ⟨fun s s' k h q hq => kheap k _ _ (h q hq), fun s r s' h hh b o e => kheap h.1 _ _ (hh b o e), fun s h => ⟨olam, fd, h _ (.head _), d1⟩, fun s A E Q tx ty bo ao hh hp q => ?_⟩
  have g1 := hp _ (.head _)
  have g2 := hp _ (.tail _ (.head _))
  have g3 := hp _ (.tail _ (.tail _ (.head _)))
  have g4 := hp _ (.tail _ (.tail _ (.tail _ (.head _))))
  dsimp only at g1 g2 g3 g4
  obtain ⟨oc1, vc, tq, oc2, oc3⟩ := d4
  refine wpAny_call (codeAny_mono (lam_enter (R := fun res s' => ∃ v, res = .ok (.ret v) ∧ Keeps s s' ∧ ∃ t, v = .int (ansI l (x - y)) t) d2 (by have := ao.depth; omega) g1 d1 (bo.nolimit.keeps hh) ⟨c', oc', vc, tq, d3, g2, oc2, oc3⟩ fun h0 E' hns hk => ?_) ?_)
  · have T := lam_st (lam := lam) (la := la) (vs := vs) (l := l) d2 hh hno hns hk ⟨otc, g3, d5⟩ ⟨ola, g4, d6, nn, d7⟩ (ints_rp' d8)
    have ev : Ev B (n + 1) (callEnv fd s.heap.objs.size lam) [("a", .val (.int x)), ("b", .val (.int y)), ("table", .val (.list (D.ofInts l)))] (.Call (.Name (S "_law_answer") p1) [.Name (S "table") p2, .Name (S "a") p3, .Name (S "b") p4] [] p5) (.int (ansI l (x - y))) :=
      ev_calld F (show fd.scope.names.lookup (S "_law_answer") = _ from d9) (ds := [.list (D.ofInts l), .int x, .int y]) (evas_cons (ev_name rfl) (evas_cons (ev_name rfl) (evas_cons (ev_name rfl) evas_nil))) (answer_spec fr F hl hsz)
    refine ev _ _ _ _ _ _ _ bo ⟨ao.handled, by have := ao.depth; show A.depth + 1 + (n + 1) < _; omega, by have := ao.units; show A.units + 3 + 5 * (n + 1) + 100 < _; omega⟩ T fun v s' k r => ?_
    obtain ⟨t, rfl⟩ := rp_int r
    obtain ⟨h', tk, rfl, k'⟩ := k
    exact ⟨_, rfl, ⟨h', tk, rfl, fun b o e => k' b o (hk b o e)⟩, t, rfl⟩
  · rintro _ s' ⟨_, rfl, k, t, rfl⟩
    exact q s' _ t ⟨k, rfl⟩
theorem fns_eqK {B : Bas} {n : Nat} {a : Addr} {ds : List D} {d d' : D} (x : FnS B n a ds d) (h : d = d') : FnS B n a ds d' := h ▸ x
def due0 (r : Int) : List Bool := [decide (0 < r), decide (0 < r), decide (0 < r), decide (r < 0), decide (r < 0), decide (r < 0), decide (0 ≤ r), decide (0 ≤ r), decide (0 ≤ r), decide (r ≤ 0), decide (r ≤ 0), decide (r ≤ 0)]
section
variable {B : Bas} (fr : Free B) {n : Nat} {a1 a2 a3 a4 a5 a6 a7 a8 a9 a10 a11 a12 : Addr} (F : Twelve B a1 a2 a3 a4 a5 a6 a7 a8 a9 a10 a11 a12)
include fr F
theorem twelve_spec {tw : Addr} (Ft : HasDef B "_law_twelve" tw (defAt pw 16)) {a b : D} {v1 v2 v3 v4 v5 v6 v7 v8 v9 v10 v11 v12 : Value} (h1 : FnS B (n + 1) a1 [a, b] (.val v1)) (h2 : FnS B (n + 1) a6 [a, b] (.val v2)) (h3 : FnS B (n + 1) a11 [a, b] (.val v3)) (h4 : FnS B (n + 1) a5 [a, b] (.val v4)) (h5 : FnS B (n + 1) a7 [a, b] (.val v5)) (h6 : FnS B (n + 1) a12 [a, b] (.val v6)) (h7 : FnS B (n + 1) a3 [a, b] (.val v7)) (h8 : FnS B (n + 1) a4 [a, b] (.val v8)) (h9 : FnS B (n + 1) a8 [a, b] (.val v9)) (h10 : FnS B (n + 1) a2 [a, b] (.val v10)) (h11 : FnS B (n + 1) a9 [a, b] (.val v11)) (h12 : FnS B (n + 1) a10 [a, b] (.val v12)) : FnS B (n + 2) tw [a, b] (.list ([v1, v2, v3, v4, v5, v6, v7, v8, v9, v10, v11, v12].map D.val)) := by
  refine fns_of (xs := ["a", "b"]) Ft.fn rfl (fun pm cd doc vs hvs => ?_) rfl (by decide) (by decide +kernel) fun env fe => ?_
  · match vs, hvs with
    | [v, w], _ => rfl
  · show Ex B (n + 1) env [("a", .val a), ("b", .val b)] _ _
    refine ex_cons (ex_assign (d := .list [.val v1, .val v2, .val v3]) (by walk_at "st") (EvN.ev (evn_list (evas_cons (ev_calld F.f1 (by walk_at "gk") (ds := [a, b]) (by walk_at "as") (h1)) (evas_cons (ev_calld F.f6 (by walk_at "gk") (ds := [a, b]) (by walk_at "as") (h2)) (evas_cons (ev_calld F.f11 (by walk_at "gk") (ds := [a, b]) (by walk_at "as") (h3)) evas_nil))) (by simp))) ?_ (by rfl))
    refine ex_cons (ex_assign (d := .list [.val v4, .val v5, .val v6]) (by walk_at "st") (EvN.ev (evn_list (evas_cons (ev_calld F.f5 (by walk_at "gk") (ds := [a, b]) (by walk_at "as") (h4)) (evas_cons (ev_calld F.f7 (by walk_at "gk") (ds := [a, b]) (by walk_at "as") (h5)) (evas_cons (ev_calld F.f12 (by walk_at "gk") (ds := [a, b]) (by walk_at "as") (h6)) evas_nil))) (by simp))) ?_ (by rfl))
    refine ex_cons (ex_assign (d := .list [.val v7, .val v8, .val v9]) (by walk_at "st") (EvN.ev (evn_list (evas_cons (ev_calld F.f3 (by walk_at "gk") (ds := [a, b]) (by walk_at "as") (h7)) (evas_cons (ev_calld F.f4 (by walk_at "gk") (ds := [a, b]) (by walk_at "as") (h8)) (evas_cons (ev_calld F.f8 (by walk_at "gk") (ds := [a, b]) (by walk_at "as") (h9)) evas_nil))) (by simp))) ?_ (by rfl))
    refine ex_cons (ex_assign (d := .list [.val v10, .val v11, .val v12]) (by walk_at "st") (EvN.ev (evn_list (evas_cons (ev_calld F.f2 (by walk_at "gk") (ds := [a, b]) (by walk_at "as") (h10)) (evas_cons (ev_calld F.f9 (by walk_at "gk") (ds := [a, b]) (by walk_at "as") (h11)) (evas_cons (ev_calld F.f10 (by walk_at "gk") (ds := [a, b]) (by walk_at "as") (h12)) evas_nil))) (by simp))) ?_ (by rfl))
    refine ex_cons (ex_return (Ev.ret (EvN.ev (evn_add (ds := [.val v1, .val v2, .val v3, .val v4, .val v5, .val v6, .val v7, .val v8, .val v9]) (es := [.val v10, .val v11, .val v12]) (EvN.ev (evn_add (ds := [.val v1, .val v2, .val v3, .val v4, .val v5, .val v6]) (es := [.val v7, .val v8, .val v9]) (EvN.ev (evn_add (ds := [.val v1, .val v2, .val v3]) (es := [.val v4, .val v5, .val v6]) (by walk_at "ev") (by walk_at "ev") (by simp))) (by walk_at "ev") (by simp))) (by walk_at "ev") (by simp)))) ?_)
    rfl
omit F in
theorem twelve_key {tw : Addr} (F : Twelve B a1 a2 a3 a4 a5 a6 a7 a8 a9 a10 a11 a12) (Ft : HasDef B "_law_twelve" tw (defAt pw 16)) {m : Nat} {pm : Value} {C cl lam : Addr} {ocl : Obj} {Fs G : List (Addr × Obj)} (K : KW B m pm C cl lam ocl Fs) {a b r : Int} (L : LamOk B m lam a b (fun s => ∀ q ∈ G, s.heap.get? q.1 = some q.2) (fun s r' s' => Keeps s s' ∧ r' = r)) :
    FnS B (m + 4) tw [KI C cl ocl Fs G a, KI C cl ocl Fs G b] (.list ((due0 r).map D.bool)) := by
  have lt := dun_lt K L
  have le := dun_le K L
  have gt := dun_gt K L
  have ge := dun_ge K L
  have eq := cmpk_eq K L
  have ne := cmpk_ne K L
  refine fns_eqK (twelve_spec fr F Ft (made_gt_lt fr F.f1 lt ne) (made_gt_le fr F.f6 le) (made_gt_ge fr F.f11 ge ne) (made_lt_le fr F.f5 le ne) (made_lt_gt fr F.f7 gt ne) (made_lt_ge fr F.f12 ge) (made_ge_lt fr F.f3 lt) (made_ge_le fr F.f4 le eq) (made_ge_gt fr F.f8 gt eq) (made_le_lt fr F.f2 lt eq) (made_le_gt fr F.f9 gt) (made_le_ge fr F.f10 ge eq)) ?_
  have c : r < 0 ∨ r = 0 ∨ 0 < r := by omega
  rcases c with c | c | c
  · have h1 : decide (r < 0) = true := decide_eq_true c
    have h2 : decide (r ≤ 0) = true := decide_eq_true (by omega)
    have h3 : decide (0 < r) = false := decide_eq_false (by omega)
    have h4 : decide (0 ≤ r) = false := decide_eq_false (by omega)
    have h5 : (r == 0) = false := by simp; omega
    simp [due0, opK, h1, h2, h3, h4, h5]
  · subst c; rfl
  · have h1 : decide (r < 0) = false := decide_eq_false (by omega)
    have h2 : decide (r ≤ 0) = false := decide_eq_false (by omega)
    have h3 : decide (0 < r) = true := decide_eq_true c
    have h4 : decide (0 ≤ r) = true := decide_eq_true (by omega)
    have h5 : (r == 0) = false := by simp; omega
    simp [due0, opK, h1, h2, h3, h4, h5]
end

def ButOne (a : Addr) (s s' : Shared) : Prop := ∃ h' tk, s' = { s with heap := h', toks := tk } ∧ ∀ b o, b ≠ a → s.heap.get? b = some o → h'.get? b = some o
theorem ButOne.trans {a : Addr} {s s' s'' : Shared} (x : ButOne a s s') (y : ButOne a s' s'') : ButOne a s s'' := by
  obtain ⟨h', tk, rfl, k⟩ := x
  obtain ⟨h'', tk', rfl, k'⟩ := y
  exact ⟨h'', tk', rfl, fun b o n e => k' b o n (k b o n e)⟩
theorem ButOne.of {a : Addr} {s s' : Shared} (x : Keeps s s') : ButOne a s s' := let ⟨h', tk, e, k⟩ := x; ⟨h', tk, e, fun b o _ y => k b o y⟩
theorem ButOne.get {a : Addr} {s s' : Shared} (x : ButOne a s s') {b : Addr} {o : Obj} (n : b ≠ a) (e : s.heap.get? b = some o) : s'.heap.get? b = some o := by
  obtain ⟨h', tk, rfl, k⟩ := x; exact k b o n e
theorem wp_pop {prog : Program} {w : World} {A : Around} {E : Value → Shared → Prop} {Q : Value → Shared → Prop} {s : Shared} {la : Addr} {vs : List Value} {y : Value} (hp : s.heap.PlainList la (vs ++ [y]).toArray) (hz : vs.length ≤ 1000)
    (q : ∀ h', (∀ b o, b ≠ la → s.heap.get? b = some o → h'.get? b = some o) → h'.PlainList la vs.toArray → Q y { s with heap := h' }) : wpAny (model prog w) A (call (.builtin "list.pop") [.ref la]) Q E s := by
  obtain ⟨n, e⟩ := hp
  have hsz : (vs ++ [y]).toArray.size = vs.length + 1 := by simp
  have hy : (vs ++ [y]).toArray[(vs ++ [y]).toArray.size - 1]? = some y := by rw [hsz]; simp
  refine call_meets PySem.F.slot_list_pop ⟨_, e, rfl⟩ PySem.F.entry_list_pop (PySem.F.args_list_pop_1 _) (PySem.MeetsSeq.list_pop_last la _ n y hy (Nat.le_trans (by rw [hsz]; omega) (show 1001 ≤ sizeLine by decide))) ⟨e, q _ (fun b o ne e' => ((Heap.SameBut.update ..).2 b ne).trans e') ?_⟩
  have z := PySem.IsL.update e (fun xs => xs.eraseIdxIfInBounds ((vs ++ [y]).toArray.size - 1))
  have he : (vs ++ [y]).toArray.eraseIdxIfInBounds ((vs ++ [y]).toArray.size - 1) = vs.toArray := by
    rw [hsz, Nat.add_sub_cancel, show (vs ++ [y]) = vs ++ y :: [] from rfl, kl_erase, List.append_nil]
  rw [he] at z
  exact ⟨_, z⟩
abbrev popBody : Expr := .Call (.Attribute (.Name (S "answers") ⟨98, 34, 98, 41⟩) (S "pop") ⟨98, 34, 98, 45⟩) [] [] ⟨98, 34, 98, 47⟩
structure PopG (G : List (Addr × Obj)) (lam la : Addr) : Prop where
  ex : ∃ olam c' oc' ac oac fd, G = [(lam, olam), (c', oc'), (ac, oac)] ∧ olam.data = .func fd ∧ LamFn fd popBody (S "answers") ac ∧ fd.code = .ref c' ∧ CodeO fd.qualname oc' ∧ oac.data = .cell (some (.ref la))
def PopPre (G : List (Addr × Obj)) (la : Addr) (items : List Value) (s : Shared) : Prop := (∀ q ∈ G, s.heap.get? q.1 = some q.2) ∧ s.heap.PlainList la items.toArray
def PopLam (la : Addr) (vs : List Value) (r0 : Int) (s : Shared) (r : Int) (s' : Shared) : Prop := r = r0 ∧ ButOne la s s' ∧ s'.heap.PlainList la vs.toArray
theorem lam_pop {B : Bas} {m : Nat} {G : List (Addr × Obj)} {lam la : Addr} (PG : PopG G lam la) (hla : B.hB.get? la = none) {vs : List Value} (hz : vs.length ≤ 1000) {r0 : Int} {t0 : Tok} (x y : Int) :
    LamOk B (m + 2) lam x y (PopPre G la (vs ++ [.int r0 t0])) (PopLam la vs r0) := by
  obtain ⟨olam, c', oc', ac, oac, fd, rfl, d1, d2, d3, d4, d5⟩ := PG.ex
  refine ⟨fun s s' k h => ⟨fun q hq => kheap k _ _ (h.1 q hq), h.2.at fun o e => kheap k _ _ e⟩, fun s r s' h hh b o e => h.2.1.get (fun q => by rw [q, hla] at e; cases e) (hh b o e), fun s h => ⟨olam, fd, h.1 _ (.head _), d1⟩, fun s A E Q tx ty bo ao hh hp q => ?_⟩
  obtain ⟨hp, hpl⟩ := hp
  have g1 := hp _ (.head _)
  have g2 := hp _ (.tail _ (.head _))
  have g3 := hp _ (.tail _ (.tail _ (.head _)))
  dsimp only at g1 g2 g3
  obtain ⟨oc1, vc, tq, oc2, oc3⟩ := d4
  refine wpAny_call (codeAny_mono (lam_enter (R := fun res s' => ∃ t, res = .ok (.ret (.int r0 t)) ∧ PopLam la vs r0 s r0 s') d2 (by have := ao.depth; omega) g1 d1 (bo.nolimit.keeps hh) ⟨c', oc', vc, tq, d3, g2, oc2, oc3⟩ fun h0 E' hns hk => ?_) ?_)
  · have ek : (callEnv fd s.heap.objs.size lam).scope.kind = .function := d2.kind
    have e3 : (callEnv fd s.heap.objs.size lam).kindOf (S "answers") = some .free := d2.x
    have e4 : (callEnv fd s.heap.objs.size lam).cells.lookup (S "answers") = some ac := by show fd.closure.lookup _ = _; rw [d2.clos]; rfl
    generalize callEnv fd s.heap.objs.size lam = env at ek e3 e4 ⊢
    refine methodCall_KW (wpAny_Name (wpAny_loadName_free ek e3 e4 ⟨oac, hk _ _ g3, d5⟩ ?_) (by decide +kernel))
    have hpl0 : h0.PlainList la (vs ++ [Value.int r0 t0]).toArray := hpl.at fun o e => hk _ _ e
    refine getMethod_builtin hpl0.isList.typeIs PySem.F.plainAttrs_list PySem.F.slot_list_pop PySem.F.type_list_pop (fun b e => by cases e; obtain ⟨k, e⟩ := hpl0; exact ⟨_, e, rfl⟩) ?_
    refine PyProof.Rows.callWith_method0 (wp_pop hpl0 hz fun h' k' hpl' => ?_)
    exact ⟨_, rfl, rfl, ⟨h', _, rfl, fun b o ne e => k' b o ne (hk b o e)⟩, hpl'⟩
  · rintro _ s' ⟨t, rfl, h⟩
    exact q s' _ t h

theorem St.takeZ {B : Bas} {h₀ h h' : Heap} {env : Env} {σ : Sto} {O : Addr → Prop} {Z : List Addr} (T : St B h₀ (fun a => a ∈ Z) env σ O h) (hf : env.func.isSome = true) (hk : ∀ b o, b ∉ Z → h.get? b = some o → h'.get? b = some o) (hl : ∀ z ∈ Z, ∃ o, h'.get? z = some o) :
    St B (hideAll h₀ Z) (fun _ => False) env σ (fun b => O b ∨ b ∈ Z) h' := by
  have nz : ∀ a, O a → a ∉ Z := fun a q z => by obtain ⟨⟨o, e⟩, _⟩ := T.plive a z; rw [T.new a q] at e; cases e
  have hll := nz _ T.loc
  have hc : ∀ x c, env.cells.lookup x = some c → c ∉ Z := fun x c l => nz _ ((T.cells x c l).2 hf)
  have mv : ∀ {x v}, VarIs env h x v → VarIs env h' x v := fun y => y.but hk hll hc
  have hkx : ∀ a o, ¬ (a ∈ Z ∨ O a) → h.get? a = some o → h'.get? a = some o := fun a o n e => hk a o (fun z => n (.inl z)) e
  have hx : ∀ a o, ¬ (a ∈ Z ∨ O a) → h.get? a = some o → ¬ (False ∨ (O a ∨ a ∈ Z)) := fun a o n _ q => n (q.elim False.elim (fun q => q.elim .inr .inl))
  have bck : ∀ {x w}, (∃ b, σ.get x = some b) → VarIs env h' (S x) w → VarIs env h (S x) w := by
    rintro x w ⟨b, hb⟩ hw
    obtain ⟨w', hw'⟩ := (T.vars x b hb).var
    rw [hw.fn (mv hw')]; exact hw'
  refine ⟨fun b o e => hideAll_get _ (T.base b o e) (fun z => by rw [(T.plive b z).2] at e; cases e), fun b o e => ?_, fun a q => q.elim, fun a q => ?_, fun a q => ?_, T.ok, .inl T.loc, ?_, fun x c l => ?_, fun x b e => ?_, fun x y ds es a ne hx' hy vx vy => ?_⟩
  · have nb : b ∉ Z := fun z => by rw [hideAll_none _ z] at e; cases e
    exact hk b o nb (T.keep b o (of_hideAll _ e))
  · rcases q with q | q
    · obtain ⟨o, e⟩ := T.live a q; exact ⟨o, hk _ _ (nz a q) e⟩
    · exact hl a q
  · rcases q with q | q
    · cases e : (hideAll h₀ Z).get? a with
      | none => rfl
      | some o => have := of_hideAll _ e; rw [T.new a q] at this; cases this
    · exact hideAll_none _ q
  · obtain ⟨m, o, es, ep, e, d, r⟩ := T.ns
    exact ⟨m, o, es, ep, hk _ _ hll e, d, r⟩
  · obtain ⟨⟨v, o, e, d⟩, g⟩ := T.cells x c l
    exact ⟨⟨v, o, hk _ _ (hc x c l) e, d⟩, fun q => .inl (g q)⟩
  · have := T.vars x b e
    cases b with
    | val d => obtain ⟨v, hv, r⟩ := this; exact ⟨v, mv hv, r.mono hkx hx⟩
    | own ds =>
      obtain ⟨a, vs, hv, h1, h2, ⟨k, h3⟩, h4⟩ := this
      exact ⟨a, vs, mv hv, .inl h1, h2, ⟨k, hk _ _ (nz a h1) h3⟩, h4.mono hkx hx⟩
  · exact T.apart x y ds es a ne hx' hy (bck ⟨_, hx'⟩ vx) (bck ⟨_, hy⟩ vy)
theorem cmpg_eq {B : Bas} {m : Nat} {pm : Value} {C cl lam : Addr} {ocl : Obj} {F : List (Addr × Obj)} (K : KW B m pm C cl lam ocl F) {a b : Int} {Pre : Shared → Prop} {Lam : Shared → Int → Shared → Prop} (L : LamOk B m lam a b Pre Lam) {A : Around} {s : Shared} {E Q : Value → Shared → Prop} {k1 k2 dk1 dk2 : Addr} {t1 t2 : Tok} (bo : B.Ok) (ao : AOk (m + 2) A) (hh : B.Here s.heap) (eF : ∀ q ∈ F, s.heap.get? q.1 = some q.2) (ecl : s.heap.get? cl = some ocl) (i1 : s.heap.get? k1 = some (inst C dk1 a t1)) (i2 : s.heap.get? k2 = some (inst C dk2 b t2)) (hp : Pre s)
    (q : ∀ s1 r s2 s3, Keeps s s1 → Lam s1 r s2 → Keeps s2 s3 → Q (.bool (opK .Eq r)) s3) : wpAny (model B.prog B.w) A (compareOp .Eq (.ref k1) (.ref k2)) Q E s := by
  obtain ⟨b, N, de, sl, st, f1, f2, f3, f4, f5, f6, c1, c2, c3, c4, c5, c6, oc1, oc2, oc3, oc4, oc5, oc6, d1, d2, d3, d4, d5, d6, v1, v2, v3, v4, v5, v6, tK, tde, tv1, tv2, hv1, hv2, hf, tf, rfl, o1, o2, o3, o4, o5, o6⟩ := K.kf
  obtain ⟨fd, ek, cf, e1, e2⟩ := @kfn_eq cl c4 d4 pm v4
  obtain ⟨oS, es, el⟩ := K.st
  obtain ⟨oc, vs, tc, q1, q2⟩ := o4
  unfold keyFs at eF
  have hu : A.units + 5 < cLine := by have := ao.units; omega
  refine Eq_keys (P := fun bb s' => ∃ s1 r s2 s3, Keeps s s1 ∧ Lam s1 r s2 ∧ Keeps s2 s3 ∧ bb = opK .Eq r ∧ s' = s3) (eF (C, _) (.head _)) (eF (N, _) (.tail _ (.head _))) ((eF (f4, _) (.tail _ (.tail _ (.tail _ (.tail _ (.tail _ (.tail _ (.tail _ (.tail _ (.tail _ (.head _))))))))))).trans (congrArg some ek)) (eF (de, _) (.tail _ (.tail _ (.head _)))) i1 i2 (hh _ _ es) el hu ao.handled (fun A' t' a1 a2 a3 => ?_) fun bb s' hb => ?_
  · refine cmp_code (op := .Eq) (bo' := opK .Eq) bo ⟨a1, by have := ao.depth; omega, by have := ao.units; omega⟩ hh cf ((eF (f4, _) (.tail _ (.tail _ (.tail _ (.tail _ (.tail _ (.tail _ (.tail _ (.tail _ (.tail _ (.head _))))))))))).trans (congrArg some ek)) rfl ⟨c4, _, vs, tc, e1, eF (c4, _) (.tail _ (.tail _ (.tail _ (.tail _ (.tail _ (.tail _ (.tail _ (.tail _ (.tail _ (.tail _ (.head _))))))))))), q1, by rw [e2]; exact q2⟩ (eF (C, _) (.head _)) (eF (N, _) (.tail _ (.head _))) (eF (de, _) (.tail _ (.tail _ (.head _)))) i1 i2 ecl K.dcl (hh _ _ es) el L (L.pre s _ ⟨_, _, rfl, fun _ _ e => e⟩ hp) (fun r => cmp_eq) (fun _ => rfl) ?_
    intro s1 r' s2 s3 j1 j2 j3
    exact ⟨_, rfl, s1, r', s2, s3, ktrans ⟨_, _, rfl, fun _ _ e => e⟩ j1, j2, j3, rfl, rfl⟩
  · obtain ⟨s1, r, s2, s3, j1, j2, j3, rfl, rfl⟩ := hb
    exact q s1 r s2 _ j1 j2 j3
theorem cmpg_ne {B : Bas} {m : Nat} {pm : Value} {C cl lam : Addr} {ocl : Obj} {F : List (Addr × Obj)} (K : KW B m pm C cl lam ocl F) {a b : Int} {Pre : Shared → Prop} {Lam : Shared → Int → Shared → Prop} (L : LamOk B m lam a b Pre Lam) {A : Around} {s : Shared} {E Q : Value → Shared → Prop} {k1 k2 dk1 dk2 : Addr} {t1 t2 : Tok} (bo : B.Ok) (ao : AOk (m + 2) A) (hh : B.Here s.heap) (eF : ∀ q ∈ F, s.heap.get? q.1 = some q.2) (ecl : s.heap.get? cl = some ocl) (i1 : s.heap.get? k1 = some (inst C dk1 a t1)) (i2 : s.heap.get? k2 = some (inst C dk2 b t2)) (hp : Pre s)
    (q : ∀ s1 r s2 s3, Keeps s s1 → Lam s1 r s2 → Keeps s2 s3 → Q (.bool (!opK .Eq r)) s3) : wpAny (model B.prog B.w) A (compareOp .NotEq (.ref k1) (.ref k2)) Q E s := by
  obtain ⟨b, N, de, sl, st, f1, f2, f3, f4, f5, f6, c1, c2, c3, c4, c5, c6, oc1, oc2, oc3, oc4, oc5, oc6, d1, d2, d3, d4, d5, d6, v1, v2, v3, v4, v5, v6, tK, tde, tv1, tv2, hv1, hv2, hf, tf, rfl, o1, o2, o3, o4, o5, o6⟩ := K.kf
  obtain ⟨fd, ek, cf, e1, e2⟩ := @kfn_eq cl c4 d4 pm v4
  obtain ⟨oS, es, el⟩ := K.st
  obtain ⟨oc, vs, tc, q1, q2⟩ := o4
  unfold keyFs at eF
  have hu : A.units + 5 < cLine := by have := ao.units; omega
  refine NotEq_keys (P := fun bb s' => ∃ s1 r s2 s3, Keeps s s1 ∧ Lam s1 r s2 ∧ Keeps s2 s3 ∧ bb = opK .Eq r ∧ s' = s3) (eF (C, _) (.head _)) (eF (N, _) (.tail _ (.head _))) ((eF (f4, _) (.tail _ (.tail _ (.tail _ (.tail _ (.tail _ (.tail _ (.tail _ (.tail _ (.tail _ (.head _))))))))))).trans (congrArg some ek)) (eF (de, _) (.tail _ (.tail _ (.head _)))) i1 i2 (hh _ _ es) el hu ao.handled (fun A' t' a1 a2 a3 => ?_) fun bb s' hb => ?_
  · refine cmp_code (op := .Eq) (bo' := opK .Eq) bo ⟨a1, by have := ao.depth; omega, by have := ao.units; omega⟩ hh cf ((eF (f4, _) (.tail _ (.tail _ (.tail _ (.tail _ (.tail _ (.tail _ (.tail _ (.tail _ (.tail _ (.head _))))))))))).trans (congrArg some ek)) rfl ⟨c4, _, vs, tc, e1, eF (c4, _) (.tail _ (.tail _ (.tail _ (.tail _ (.tail _ (.tail _ (.tail _ (.tail _ (.tail _ (.tail _ (.head _))))))))))), q1, by rw [e2]; exact q2⟩ (eF (C, _) (.head _)) (eF (N, _) (.tail _ (.head _))) (eF (de, _) (.tail _ (.tail _ (.head _)))) i1 i2 ecl K.dcl (hh _ _ es) el L (L.pre s _ ⟨_, _, rfl, fun _ _ e => e⟩ hp) (fun r => cmp_eq) (fun _ => rfl) ?_
    intro s1 r' s2 s3 j1 j2 j3
    exact ⟨_, rfl, s1, r', s2, s3, ktrans ⟨_, _, rfl, fun _ _ e => e⟩ j1, j2, j3, rfl, rfl⟩
  · obtain ⟨s1, r, s2, s3, j1, j2, j3, rfl, rfl⟩ := hb
    exact q s1 r s2 _ j1 j2 j3

def NoSeq (o : Obj) : Prop := ∀ its n, o.data ≠ .seq its n
theorem KeyF.noSeq {cl : Addr} {pm : Value} {C : Addr} {F : List (Addr × Obj)} (x : KeyF cl pm C F) : ∀ q ∈ F, NoSeq q.2 := by
  obtain ⟨b, N, de, sl, st, f1, f2, f3, f4, f5, f6, c1, c2, c3, c4, c5, c6, oc1, oc2, oc3, oc4, oc5, oc6, d1, d2, d3, d4, d5, d6, v1, v2, v3, v4, v5, v6, tK, tde, tv1, tv2, hv1, hv2, hf, tf, rfl, o1, o2, o3, o4, o5, o6⟩ := x
  have cd : ∀ {q oc}, CodeO q oc → NoSeq oc := fun x its n e => by obtain ⟨_, vs, _, h, _⟩ := x; rw [h] at e; cases e
  have kf : ∀ {i clos doc pm c ctv}, (i = 2 ∨ i = 3 ∨ i = 4 ∨ i = 5 ∨ i = 6 ∨ i = 7) → NoSeq (kfn i clos doc pm c ctv) := by
    intro i clos doc pm c ctv hi its n e
    rcases hi with rfl | rfl | rfl | rfl | rfl | rfl <;> cases e
  intro q hq
  simp only [keyFs, List.mem_cons, List.not_mem_nil, or_false] at hq
  rcases hq with rfl | rfl | rfl | rfl | rfl | rfl | rfl | rfl | rfl | rfl | rfl | rfl | rfl | rfl | rfl
  · intro its n e; cases e
  · intro its n e; cases e
  · intro its n e; cases e
  · exact kf (by simp)
  · exact cd o1
  · exact kf (by simp)
  · exact cd o2
  · exact kf (by simp)
  · exact cd o3
  · exact kf (by simp)
  · exact cd o4
  · exact kf (by simp)
  · exact cd o5
  · exact kf (by simp)
  · exact cd o6
theorem PopG.ok {G : List (Addr × Obj)} {lam la : Addr} (x : PopG G lam la) : ∀ q ∈ G, ¬ IterObj q.2 ∧ NoSeq q.2 := by
  obtain ⟨olam, c', oc', ac, oac, fd, rfl, d1, d2, d3, d4, d5⟩ := x.ex
  intro q hq
  simp only [List.mem_cons, List.not_mem_nil, or_false] at hq
  rcases hq with rfl | rfl | rfl
  · exact ⟨fun ⟨nm, vs, _, e, _⟩ => (by rw [d1] at e; cases e), fun its n e => by rw [d1] at e; cases e⟩
  · exact ⟨codeO_noIter d4, fun its n e => by obtain ⟨_, vs, _, h, _⟩ := d4; rw [h] at e; cases e⟩
  · exact ⟨fun ⟨nm, vs, _, e, _⟩ => (by rw [d5] at e; cases e), fun its n e => by rw [d5] at e; cases e⟩
theorem key_rp {h : Heap} {X : Addr → Prop} {C cl k dk : Addr} {ocl : Obj} {F G : List (Addr × Obj)} {a : Int} {t : Tok} {pm : Value} {lam : Addr} (kf : KeyF cl pm C F) (dcl : ocl.data = .cell (some (.ref lam))) (hG : ∀ q ∈ G, ¬ IterObj q.2) (e1 : h.get? k = some (inst C dk a t)) (ecl : h.get? cl = some ocl) (eF : ∀ q ∈ F, h.get? q.1 = some q.2) (eG : ∀ q ∈ G, h.get? q.1 = some q.2)
    (nX : ∀ q ∈ (k, inst C dk a t) :: (cl, ocl) :: (F ++ G), ¬ X q.1) : Rp h X (.ref k) (KI C cl ocl F G a) := by
  refine .abs _ ⟨k, dk, t, rfl, rfl⟩ fun q hq => ?_
  have nx := nX q hq
  rcases List.mem_cons.mp hq with rfl | hq
  · exact ⟨e1, fun ⟨nm, vs, hc, _⟩ => (by cases hc), nx⟩
  rcases List.mem_cons.mp hq with rfl | hq
  · exact ⟨ecl, fun ⟨nm, vs, _, hd, _⟩ => (by rw [dcl] at hd; cases hd), nx⟩
  rcases List.mem_append.mp hq with hq | hq
  · exact ⟨eF q hq, kf.noIter q hq, nx⟩
  · exact ⟨eG q hq, hG q hq, nx⟩
def OwnGet (B : Bas) (m : Nat) (C cl lam : Addr) (ocl : Obj) (F : List (Addr × Obj)) (attr : String) (op : CmpOp) : Prop :=
  ∃ f of fd, (f, of) ∈ F ∧ of.data = .func fd ∧ (∀ (s : Shared) (A : Around) (E : Value → Shared → Prop) (Q : Value × List Value → Shared → Prop) (pl : Sem Bool), B.Here s.heap → (∀ q ∈ F, s.heap.get? q.1 = some q.2) → (∀ s', Keeps s s' → Q (.ref f, []) s') → wpAny (model B.prog B.w) A (getMethod (.ref C) (S attr) pl) Q E s) ∧
    ∀ (s : Shared) (A : Around) (R : Result → Shared → Prop) (k1 k2 dk1 dk2 : Addr) (x y : Int) (tx ty : Tok) (Pre : Shared → Prop) (Lam : Shared → Int → Shared → Prop), B.Ok → AOk (m + 1) A → B.Here s.heap → (∀ q ∈ F, s.heap.get? q.1 = some q.2) → s.heap.get? cl = some ocl → s.heap.get? k1 = some (inst C dk1 x tx) → s.heap.get? k2 = some (inst C dk2 y ty) → LamOk B m lam x y Pre Lam → Pre s →
    (∀ s1 r s2 s3, Keeps s s1 → Lam s1 r s2 → Keeps s2 s3 → R (.ok (.ret (.bool (opK op r)))) s3) → codeAny (model B.prog B.w) A (.call (.ref f) ⟨[.ref k1, .ref k2], []⟩) R s
structure PopBase (cl la : Addr) (ocl : Obj) (F G : List (Addr × Obj)) (items : List Value) (h : Heap) : Prop where
  eF : ∀ q ∈ F, h.get? q.1 = some q.2
  ecl : h.get? cl = some ocl
  eG : ∀ q ∈ G, h.get? q.1 = some q.2
  pl : h.PlainList la items.toArray
section
variable {C cl lam la : Addr} {ocl : Obj} {F G : List (Addr × Obj)} {pm : Value} {items items' : List Value} {h h' : Heap}
theorem PopBase.neq (x : PopBase cl la ocl F G items h) {b : Addr} {o : Obj} (e : h.get? b = some o) (n : NoSeq o) : b ≠ la := fun q => by
  obtain ⟨k, e'⟩ := x.pl
  rw [q, e'] at e; cases e
  exact n _ _ rfl
theorem PopBase.but (x : PopBase cl la ocl F G items h) (kf : KeyF cl pm C F) (dcl : ocl.data = .cell (some (.ref lam))) (PG : PopG G lam la) (k : ∀ b o, b ≠ la → h.get? b = some o → h'.get? b = some o) (hp : h'.PlainList la items'.toArray) : PopBase cl la ocl F G items' h' :=
  ⟨fun q hq => k _ _ (x.neq (x.eF q hq) (kf.noSeq q hq)) (x.eF q hq), k _ _ (x.neq x.ecl fun its n e => by rw [dcl] at e; cases e) x.ecl, fun q hq => k _ _ (x.neq (x.eG q hq) (PG.ok q hq).2) (x.eG q hq), hp⟩
end
theorem pop_first {B : Bas} (fr : Free B) {m : Nat} {a : Addr} {nm : String} {d : Def} (F : HasDef B nm a d) {pm : Value} {C cl lam la : Addr} {ocl : Obj} {Fs G : List (Addr × Obj)} (K : KW B (m + 2) pm C cl lam ocl Fs) (PG : PopG G lam la) (hla : B.hB.get? la = none) {attr : String} {op : CmpOp} (og : OwnGet B (m + 2) C cl lam ocl Fs attr op)
    (hk : d.scope.kind = .function) (hbind : ∀ pm cd doc vs, vs.length = 2 → bindArgs (docDef d.name d.params d.body d.scope pm cd doc) ⟨vs, []⟩ = pure (([S "self", S "other"]).zip vs)) (hl1 : d.scope.names.lookup (S "self") = some .local) (hl2 : d.scope.names.lookup (S "other") = some .local)
    (hl3 : d.scope.names.lookup (S "op_result") = some .local) (ht : d.scope.names.lookup (S "type") = some .globalImplicit) (hn : d.scope.names.lookup (S "NotImplemented") = some .globalImplicit) (hnc : ∀ x ∈ d.scope.names, x.2 ≠ .cell) {p0 p1 p2 p3 p4 p5 p5' p6 p7 q1 q2 q3 q4 q5 q6 q7 : Pos} {e : Expr} {pl : Env → Sem Bool}
    (hb : d.body = [.Assign [.Name (S "op_result") p0] (.Call (.Attribute (.Call (.Name (S "type") p1) [.Name (S "self") p2] [] p3) (S attr) p4) [.Name (S "self") p5, .Name (S "other") p5'] [] p6) p7, .If (.Compare (.Name (S "op_result") q1) [.Is] [.Name (S "NotImplemented") q2] q3) [.Return (some (.Name (S "op_result") q4)) q5] [] q6, .Return (some e) q7])
    (he : ∀ env : Env, eval (.Call (.Attribute (.Call (.Name (S "type") p1) [.Name (S "self") p2] [] p3) (S attr) p4) [.Name (S "self") p5, .Name (S "other") p5'] [] p6) env = (do
      let ov ← eval (.Call (.Name (S "type") p1) [.Name (S "self") p2] [] p3) env
      standAt p4.atName
      let (f, first) ← holding [ov] (getMethod ov (S attr) (pl env))
      callWith p6 f first (backTo p6 (starEach [.Name (S "self") p5, .Name (S "other") p5'] env)) (backToKw p6 (keywordEach [] env))))
    {vs : List Value} {r1 : Int} {t1 : Tok} (hz : vs.length ≤ 1000) {s : Shared} {A : Around} {E Q : Value → Shared → Prop} {k1 k2 dk1 dk2 : Addr} {u1 u2 : Tok} (bo : B.Ok) (ao : AOk (m + 6) A) (hh : B.Here s.heap) (X : PopBase cl la ocl Fs G (vs ++ [.int r1 t1]) s.heap) (e1 : s.heap.get? k1 = some (inst C dk1 0 u1)) (e2 : s.heap.get? k2 = some (inst C dk2 0 u2))
    (hco : d.scope.isCoroutine = false) (hgen : d.scope.isGenerator = false)
    (q : ∀ env A' (O : Addr → Prop) s1 E', FEnv d.scope env → AOk (m + 5) A' → ButOne la s s1 → PopBase cl la ocl Fs G vs s1.heap → St B (hideAll s.heap [la]) (fun _ => False) env [("self", .val (KI C cl ocl Fs G 0)), ("other", .val (KI C cl ocl Fs G 0)), ("op_result", .val (.bool (opK op r1)))] (fun b => O b ∨ b ∈ [la]) s1.heap → wpAny (model B.prog B.w) A' (eval e env) (fun v s' => Q v s') E' s1) : wpAny (model B.prog B.w) A (call (.ref a) [.ref k1, .ref k2]) Q E s := by
  obtain ⟨o, pm', cd, doc, ho, hd, hcd⟩ := F.fn.at_
  obtain ⟨c0, oc0, vs0, tq0, rfl, hcd'⟩ := id hcd
  obtain ⟨f, of, fd, hm, hdf, g1, g2⟩ := og
  have nX : ∀ {k dk t}, s.heap.get? k = some (inst C dk 0 t) → ∀ q ∈ (k, inst C dk 0 t) :: (cl, ocl) :: (Fs ++ G), ¬ q.1 ∈ [la] := by
    intro k dk t ek q hq hx
    have hx' := List.mem_singleton.mp hx
    rcases List.mem_cons.mp hq with rfl | hq
    · exact X.neq ek (fun its n e => by cases e) hx'
    rcases List.mem_cons.mp hq with rfl | hq
    · exact X.neq X.ecl (fun its n e => by rw [K.dcl] at e; cases e) hx'
    rcases List.mem_append.mp hq with hq | hq
    · exact X.neq (X.eF q hq) (K.kf.noSeq q hq) hx'
    · exact X.neq (X.eG q hq) (PG.ok q hq).2 hx'
  have hGi : ∀ q ∈ G, ¬ IterObj q.2 := fun q hq => (PG.ok q hq).1
  refine lawZ_of (n := m + 5) (Z := [la]) (xs := ["self", "other"]) (ds := [KI C cl ocl Fs G 0, KI C cl ocl Fs G 0]) ⟨o, pm', doc, ho, hd, hcd⟩ hk (fun pm cd doc vs hv => hbind pm cd doc vs hv) rfl (by decide) (fun x hx => ?_) hco hgen s E Q [.ref k1, .ref k2] bo ao hh ?_ (.cons (key_rp K.kf K.dcl hGi e1 X.ecl X.eF X.eG (nX e1)) (.cons (key_rp K.kf K.dcl hGi e2 X.ecl X.eF X.eG (nX e2)) .nil)) (fun env A' O s₁ E' fe hcode hf hgl hbi ao' kK T => ?_)
  · simp only [List.mem_cons, List.not_mem_nil, or_false] at hx
    rcases hx with rfl | rfl
    · exact .inl hl1
    · exact .inl hl2
  · intro x hx
    rw [List.mem_singleton.mp hx]
    obtain ⟨k, ek⟩ := X.pl
    exact ⟨⟨_, ek⟩, hla⟩
  · rw [hb]
    have kt : env.kindOf (S "type") = some .globalImplicit := fe.glob ht
    have X1 : PopBase cl la ocl Fs G (vs ++ [.int r1 t1]) s₁.heap := X.but K.kf K.dcl PG (fun b o _ e => kheap kK _ _ e) (X.pl.at fun o e => kheap kK _ _ e)
    obtain ⟨va, hva, ra⟩ := T.vars "self" _ rfl
    obtain ⟨vb, hvb, rb⟩ := T.vars "other" _ rfl
    obtain ⟨j1, dj1, w1, rfl, i1, _, _, _⟩ := rp_key ra
    obtain ⟨j2, dj2, w2, rfl, i2, _, _, _⟩ := rp_key rb
    have hx : BootName B env "type" (.type "type") := bn fr kt boot_type
    refine wpAny_execs_cons (wpAny_Assign_Name (methodCall_KW (Call_ (wp_boot bo T hx.kind hx.miss hx.boot (PyProof.Rows.callWith_type1 (args_cons (wp_name T hva ?_ (by decide +kernel) (by decide +kernel)) (by rfl)) (by rfl) (by rfl)) hx.d hx.n) (by rfl)) (he env)) (by rfl))
    refine args_nil (type_key i1 fun t' => ?_)
    have kA : Keeps s₁ ⟨s₁.heap, s₁.gens, s₁.drawn, t', s₁.os⟩ := ⟨_, _, rfl, fun _ _ e => e⟩
    refine g1 _ A' _ _ _ T.here X1.eF fun s2 k2' => ?_
    have k02 := ktrans kA k2'
    have T2 := T.kp k02
    refine callWith_def (o := of) hdf (args_cons (wp_name T2 (hva.keeps (kheap k02)) (args_cons (wp_name T2 (hvb.keeps (kheap k02)) ?_ (by decide +kernel) (by decide +kernel)) (by rfl)) (by decide +kernel) (by decide +kernel)) (by rfl)) (by rfl)
    refine args_nil ⟨kheap k02 _ _ (X1.eF _ hm), ?_⟩
    have X2 : PopBase cl la ocl Fs G (vs ++ [.int r1 t1]) s2.heap := X1.but K.kf K.dcl PG (fun b o _ e => kheap k02 _ _ e) (X1.pl.at fun o e => kheap k02 _ _ e)
    refine wpAny_call (codeAny_mono (g2 s2 A' (fun res s' => res = .ok (.ret (.bool (opK op r1))) ∧ ButOne la s2 s' ∧ s'.heap.PlainList la vs.toArray) j1 j2 dj1 dj2 0 0 w1 w2 _ _ bo (aok_less ao' (by omega)) T2.here X2.eF X2.ecl (kheap k02 _ _ i1) (kheap k02 _ _ i2) (lam_pop PG hla hz 0 0) ⟨X2.eG, X2.pl⟩ ?_) ?_)
    · rintro s3 r s4 s5 a1 ⟨rfl, a2, a3⟩ a4
      exact ⟨rfl, ((ButOne.of a1).trans a2).trans (ButOne.of a4), a3.at fun o e => kheap a4 _ _ e⟩
    rintro _ s3 ⟨rfl, b3, pl3⟩
    have X3 : PopBase cl la ocl Fs G vs s3.heap := X2.but K.kf K.dcl PG (fun b o n e => b3.get n e) pl3
    have kZ : ∀ b o, b ∉ [la] → s₁.heap.get? b = some o → s3.heap.get? b = some o := fun b o n e => b3.get (fun q => n (List.mem_singleton.mpr q)) (kheap k02 _ _ e)
    have T3 := T.takeZ hf kZ (fun z hz => by rw [List.mem_singleton.mp hz]; obtain ⟨k, ek⟩ := pl3; exact ⟨_, ek⟩)
    dsimp only
    refine wp_store (b := .val (.bool (opK op r1))) T3 (FEnv.sl fe hl3) (.val _ rfl) fun s4 m4 T4 => ?_
    have nzO : ∀ a, O a → s.heap.get? a = none := T.new
    have la0 : ∃ o, s.heap.get? la = some o := by obtain ⟨k, ek⟩ := X.pl; exact ⟨_, ek⟩
    have nN : ∀ b o, s.heap.get? b = some o → ¬ Names env b := fun b o e hn => by
      have : O b := by
        rcases hn with hn | ⟨hf', x, hx'⟩
        · rw [hn]; exact T.loc
        · exact (T.cells x b hx').2 hf'
      rw [T.new b this] at e; cases e
    obtain ⟨h4, tk4, rfl, k4⟩ := m4
    have X4 : PopBase cl la ocl Fs G vs h4 := ⟨fun q hq => k4 _ _ (nN _ _ (X.eF q hq)) (X3.eF q hq), k4 _ _ (nN _ _ X.ecl) X3.ecl, fun q hq => k4 _ _ (nN _ _ (X.eG q hq)) (X3.eG q hq), by
      obtain ⟨o, e⟩ := la0
      exact X3.pl.at fun o' e' => k4 _ _ (nN _ _ e) e'⟩
    have b4 : ButOne la s ⟨h4, s3.gens, s3.drawn, tk4, s3.os⟩ := by
      have b1 := ((ButOne.of (a := la) kK).trans (ButOne.of k02)).trans b3
      obtain ⟨h3, tk3, rfl, k3⟩ := b1
      exact ⟨h4, tk4, rfl, fun b o n e => k4 b o (nN b o e) (k3 b o n e)⟩
    have tt : Tst B (m + 5) env [("self", .val (KI C cl ocl Fs G 0)), ("other", .val (KI C cl ocl Fs G 0)), ("op_result", .val (.bool (opK op r1)))] (.Compare (.Name (S "op_result") q1) [.Is] [.Name (S "NotImplemented") q2] q3) false :=
      tst_cmp (Ev.weak (ev_name (d := .val (.bool (opK op r1))) rfl)) (Ev.weak (ev_ni fr (fe.glob hn))) cmp_is_bool_ni (by with_unfolding_all rfl)
    refine wpAny_execs_cons (wpAny_If (tt _ _ _ A' _ _ _ bo ao' T4 fun s5 k5 => ?_))
    simp only [Bool.false_eq_true, if_false]
    refine wpAny_execs_nil ?_
    dsimp only
    refine wpAny_execs_cons (wpAny_Return_some ?_)
    refine q env A' O s5 _ fe ao' (b4.trans (ButOne.of k5)) (X4.but K.kf K.dcl PG (fun b o _ e => kheap k5 _ _ e) (X4.pl.at fun o e => kheap k5 _ _ e)) (T4.kp k5)
def PopDo (B : Bas) (m : Nat) (C cl la : Addr) (ocl : Obj) (Fs G : List (Addr × Obj)) (a : Addr) (items : List Value) (res : Bool) : Prop :=
  ∀ (s : Shared) (A : Around) (E Q : Value → Shared → Prop) (k1 k2 dk1 dk2 : Addr) (u1 u2 : Tok), B.Ok → AOk (m + 6) A → B.Here s.heap → PopBase cl la ocl Fs G items s.heap → s.heap.get? k1 = some (inst C dk1 0 u1) → s.heap.get? k2 = some (inst C dk2 0 u2) →
    (∀ s', ButOne la s s' → Q (.bool res) s') → wpAny (model B.prog B.w) A (call (.ref a) [.ref k1, .ref k2]) Q E s
theorem pop_gt_lt {B : Bas} (fr : Free B) {m : Nat} {a : Addr} (F : HasDef B "_gt_from_lt" a (defAt pw 1)) {pm : Value} {C cl lam la : Addr} {ocl : Obj} {Fs G : List (Addr × Obj)} (K : KW B (m + 2) pm C cl lam ocl Fs) (PG : PopG G lam la) (hla : B.hB.get? la = none) {r1 r2 : Int} {t1 t2 : Tok} : PopDo B m C cl la ocl Fs G a [.int r2 t2, .int 0 t1] (!opK .Eq r2) := by
  intro s A E Q k1 k2 dk1 dk2 u1 u2 bo ao hh X e1 e2 q
  refine pop_first fr F K PG hla (vs := [.int r2 t2]) (own_get_lt K) rfl (fun pm cd doc vs hv => ?_) (by decide +kernel) (by decide +kernel) (by decide +kernel) (by decide +kernel) (by decide +kernel) (by decide +kernel) rfl (fun env => rfl) (show 1 ≤ 1000 by decide) bo ao hh X e1 e2 rfl rfl (fun env A1 O s1 E1 fe ao1 b1 X1 T => ?_)
  · match vs, hv with
    | [u, v], _ => rfl
  · refine BoolOp_and ((ev_eq (n := m + 5) (d' := .bool true) (ev_not (Ev.weak (ev_name (d := .val (.bool (opK .Lt 0))) rfl)) tru_bool) rfl) _ _ _ A1 s1 _ _ bo ao1 T fun v s2 k r => ?_)
    cases rp_val r
    refine wpAny_truthy_bool ?_
    have T2 := T.kp k
    obtain ⟨va, hva, ra⟩ := T2.vars "self" _ rfl
    obtain ⟨vb, hvb, rb⟩ := T2.vars "other" _ rfl
    obtain ⟨j1, dj1, w1, rfl, i1, _, _, _⟩ := rp_key ra
    obtain ⟨j2, dj2, w2, rfl, i2, _, _, _⟩ := rp_key rb
    have X2 : PopBase cl la ocl Fs G [.int r2 t2] s2.heap := X1.but K.kf K.dcl PG (fun b o _ e => kheap k _ _ e) (X1.pl.at fun o e => kheap k _ _ e)
    refine BoolOp_one (wpAny_Compare1 (wp_name T2 hva (wp_name T2 hvb ?_ (by decide +kernel) (by decide +kernel)) (by decide +kernel) (by decide +kernel)))
    refine cmpg_ne K (lam_pop PG hla (vs := []) (r0 := r2) (t0 := t2) (by decide) 0 0) bo (aok_less ao1 (by omega)) T2.here X2.eF X2.ecl i1 i2 ⟨X2.eG, X2.pl⟩ ?_
    rintro s3 r s4 s5 a1 ⟨rfl, a2, a3⟩ a4
    exact q s5 (((b1.trans (ButOne.of k)).trans ((ButOne.of a1).trans a2)).trans (ButOne.of a4))
theorem pop_le_lt {B : Bas} (fr : Free B) {m : Nat} {a : Addr} (F : HasDef B "_le_from_lt" a (defAt pw 2)) {pm : Value} {C cl lam la : Addr} {ocl : Obj} {Fs G : List (Addr × Obj)} (K : KW B (m + 2) pm C cl lam ocl Fs) (PG : PopG G lam la) (hla : B.hB.get? la = none) {r1 r2 : Int} {t1 t2 : Tok} : PopDo B m C cl la ocl Fs G a [.int r2 t2, .int 0 t1] (opK .Eq r2) := by
  intro s A E Q k1 k2 dk1 dk2 u1 u2 bo ao hh X e1 e2 q
  refine pop_first fr F K PG hla (vs := [.int r2 t2]) (own_get_lt K) rfl (fun pm cd doc vs hv => ?_) (by decide +kernel) (by decide +kernel) (by decide +kernel) (by decide +kernel) (by decide +kernel) (by decide +kernel) rfl (fun env => rfl) (show 1 ≤ 1000 by decide) bo ao hh X e1 e2 rfl rfl (fun env A1 O s1 E1 fe ao1 b1 X1 T => ?_)
  · match vs, hv with
    | [u, v], _ => rfl
  · refine BoolOp_or ((ev_eq (n := m + 5) (d' := .bool false) (ev_name (d := .val (.bool (opK .Lt 0))) rfl) rfl) _ _ _ A1 s1 _ _ bo ao1 T fun v s2 k r => ?_)
    cases rp_val r
    refine wpAny_truthy_bool ?_
    have T2 := T.kp k
    obtain ⟨va, hva, ra⟩ := T2.vars "self" _ rfl
    obtain ⟨vb, hvb, rb⟩ := T2.vars "other" _ rfl
    obtain ⟨j1, dj1, w1, rfl, i1, _, _, _⟩ := rp_key ra
    obtain ⟨j2, dj2, w2, rfl, i2, _, _, _⟩ := rp_key rb
    have X2 : PopBase cl la ocl Fs G [.int r2 t2] s2.heap := X1.but K.kf K.dcl PG (fun b o _ e => kheap k _ _ e) (X1.pl.at fun o e => kheap k _ _ e)
    refine BoolOp_one (wpAny_Compare1 (wp_name T2 hva (wp_name T2 hvb ?_ (by decide +kernel) (by decide +kernel)) (by decide +kernel) (by decide +kernel)))
    refine cmpg_eq K (lam_pop PG hla (vs := []) (r0 := r2) (t0 := t2) (by decide) 0 0) bo (aok_less ao1 (by omega)) T2.here X2.eF X2.ecl i1 i2 ⟨X2.eG, X2.pl⟩ ?_
    rintro s3 r s4 s5 a1 ⟨rfl, a2, a3⟩ a4
    exact q s5 (((b1.trans (ButOne.of k)).trans ((ButOne.of a1).trans a2)).trans (ButOne.of a4))
theorem pop_ge_lt {B : Bas} (fr : Free B) {m : Nat} {a : Addr} (F : HasDef B "_ge_from_lt" a (defAt pw 3)) {pm : Value} {C cl lam la : Addr} {ocl : Obj} {Fs G : List (Addr × Obj)} (K : KW B (m + 2) pm C cl lam ocl Fs) (PG : PopG G lam la) (hla : B.hB.get? la = none) {r1 r2 : Int} {t1 t2 : Tok} : PopDo B m C cl la ocl Fs G a [.int r2 t2, .int r1 t1] (!opK .Lt r1) := by
  intro s A E Q k1 k2 dk1 dk2 u1 u2 bo ao hh X e1 e2 q
  refine pop_first fr F K PG hla (vs := [.int r2 t2]) (own_get_lt K) rfl (fun pm cd doc vs hv => ?_) (by decide +kernel) (by decide +kernel) (by decide +kernel) (by decide +kernel) (by decide +kernel) (by decide +kernel) rfl (fun env => rfl) (show 1 ≤ 1000 by decide) bo ao hh X e1 e2 rfl rfl (fun env A1 O s1 E1 fe ao1 b1 X1 T => ?_)
  · match vs, hv with
    | [u, v], _ => rfl
  · refine (ev_not (n := m + 5) (Ev.weak (ev_name (d := .val (.bool (opK .Lt r1))) rfl)) tru_bool) _ _ _ A1 s1 _ _ bo ao1 T fun v s2 k r => ?_
    cases rp_val r
    exact q s2 (b1.trans (ButOne.of k))
theorem pop_ge_le {B : Bas} (fr : Free B) {m : Nat} {a : Addr} (F : HasDef B "_ge_from_le" a (defAt pw 4)) {pm : Value} {C cl lam la : Addr} {ocl : Obj} {Fs G : List (Addr × Obj)} (K : KW B (m + 2) pm C cl lam ocl Fs) (PG : PopG G lam la) (hla : B.hB.get? la = none) {r1 r2 : Int} {t1 t2 : Tok} : PopDo B m C cl la ocl Fs G a [.int r2 t2, .int 0 t1] (opK .Eq r2) := by
  intro s A E Q k1 k2 dk1 dk2 u1 u2 bo ao hh X e1 e2 q
  refine pop_first fr F K PG hla (vs := [.int r2 t2]) (own_get_le K) rfl (fun pm cd doc vs hv => ?_) (by decide +kernel) (by decide +kernel) (by decide +kernel) (by decide +kernel) (by decide +kernel) (by decide +kernel) rfl (fun env => rfl) (show 1 ≤ 1000 by decide) bo ao hh X e1 e2 rfl rfl (fun env A1 O s1 E1 fe ao1 b1 X1 T => ?_)
  · match vs, hv with
    | [u, v], _ => rfl
  · refine BoolOp_or ((ev_eq (n := m + 5) (d' := .bool false) (ev_not (Ev.weak (ev_name (d := .val (.bool (opK .LtE 0))) rfl)) tru_bool) rfl) _ _ _ A1 s1 _ _ bo ao1 T fun v s2 k r => ?_)
    cases rp_val r
    refine wpAny_truthy_bool ?_
    have T2 := T.kp k
    obtain ⟨va, hva, ra⟩ := T2.vars "self" _ rfl
    obtain ⟨vb, hvb, rb⟩ := T2.vars "other" _ rfl
    obtain ⟨j1, dj1, w1, rfl, i1, _, _, _⟩ := rp_key ra
    obtain ⟨j2, dj2, w2, rfl, i2, _, _, _⟩ := rp_key rb
    have X2 : PopBase cl la ocl Fs G [.int r2 t2] s2.heap := X1.but K.kf K.dcl PG (fun b o _ e => kheap k _ _ e) (X1.pl.at fun o e => kheap k _ _ e)
    refine BoolOp_one (wpAny_Compare1 (wp_name T2 hva (wp_name T2 hvb ?_ (by decide +kernel) (by decide +kernel)) (by decide +kernel) (by decide +kernel)))
    refine cmpg_eq K (lam_pop PG hla (vs := []) (r0 := r2) (t0 := t2) (by decide) 0 0) bo (aok_less ao1 (by omega)) T2.here X2.eF X2.ecl i1 i2 ⟨X2.eG, X2.pl⟩ ?_
    rintro s3 r s4 s5 a1 ⟨rfl, a2, a3⟩ a4
    exact q s5 (((b1.trans (ButOne.of k)).trans ((ButOne.of a1).trans a2)).trans (ButOne.of a4))
theorem pop_lt_le {B : Bas} (fr : Free B) {m : Nat} {a : Addr} (F : HasDef B "_lt_from_le" a (defAt pw 5)) {pm : Value} {C cl lam la : Addr} {ocl : Obj} {Fs G : List (Addr × Obj)} (K : KW B (m + 2) pm C cl lam ocl Fs) (PG : PopG G lam la) (hla : B.hB.get? la = none) {r1 r2 : Int} {t1 t2 : Tok} : PopDo B m C cl la ocl Fs G a [.int r2 t2, .int 0 t1] (!opK .Eq r2) := by
  intro s A E Q k1 k2 dk1 dk2 u1 u2 bo ao hh X e1 e2 q
  refine pop_first fr F K PG hla (vs := [.int r2 t2]) (own_get_le K) rfl (fun pm cd doc vs hv => ?_) (by decide +kernel) (by decide +kernel) (by decide +kernel) (by decide +kernel) (by decide +kernel) (by decide +kernel) rfl (fun env => rfl) (show 1 ≤ 1000 by decide) bo ao hh X e1 e2 rfl rfl (fun env A1 O s1 E1 fe ao1 b1 X1 T => ?_)
  · match vs, hv with
    | [u, v], _ => rfl
  · refine BoolOp_and ((ev_eq (n := m + 5) (d' := .bool true) (ev_name (d := .val (.bool (opK .LtE 0))) rfl) rfl) _ _ _ A1 s1 _ _ bo ao1 T fun v s2 k r => ?_)
    cases rp_val r
    refine wpAny_truthy_bool ?_
    have T2 := T.kp k
    obtain ⟨va, hva, ra⟩ := T2.vars "self" _ rfl
    obtain ⟨vb, hvb, rb⟩ := T2.vars "other" _ rfl
    obtain ⟨j1, dj1, w1, rfl, i1, _, _, _⟩ := rp_key ra
    obtain ⟨j2, dj2, w2, rfl, i2, _, _, _⟩ := rp_key rb
    have X2 : PopBase cl la ocl Fs G [.int r2 t2] s2.heap := X1.but K.kf K.dcl PG (fun b o _ e => kheap k _ _ e) (X1.pl.at fun o e => kheap k _ _ e)
    refine BoolOp_one (wpAny_Compare1 (wp_name T2 hva (wp_name T2 hvb ?_ (by decide +kernel) (by decide +kernel)) (by decide +kernel) (by decide +kernel)))
    refine cmpg_ne K (lam_pop PG hla (vs := []) (r0 := r2) (t0 := t2) (by decide) 0 0) bo (aok_less ao1 (by omega)) T2.here X2.eF X2.ecl i1 i2 ⟨X2.eG, X2.pl⟩ ?_
    rintro s3 r s4 s5 a1 ⟨rfl, a2, a3⟩ a4
    exact q s5 (((b1.trans (ButOne.of k)).trans ((ButOne.of a1).trans a2)).trans (ButOne.of a4))
theorem pop_gt_le {B : Bas} (fr : Free B) {m : Nat} {a : Addr} (F : HasDef B "_gt_from_le" a (defAt pw 6)) {pm : Value} {C cl lam la : Addr} {ocl : Obj} {Fs G : List (Addr × Obj)} (K : KW B (m + 2) pm C cl lam ocl Fs) (PG : PopG G lam la) (hla : B.hB.get? la = none) {r1 r2 : Int} {t1 t2 : Tok} : PopDo B m C cl la ocl Fs G a [.int r2 t2, .int r1 t1] (!opK .LtE r1) := by
  intro s A E Q k1 k2 dk1 dk2 u1 u2 bo ao hh X e1 e2 q
  refine pop_first fr F K PG hla (vs := [.int r2 t2]) (own_get_le K) rfl (fun pm cd doc vs hv => ?_) (by decide +kernel) (by decide +kernel) (by decide +kernel) (by decide +kernel) (by decide +kernel) (by decide +kernel) rfl (fun env => rfl) (show 1 ≤ 1000 by decide) bo ao hh X e1 e2 rfl rfl (fun env A1 O s1 E1 fe ao1 b1 X1 T => ?_)
  · match vs, hv with
    | [u, v], _ => rfl
  · refine (ev_not (n := m + 5) (Ev.weak (ev_name (d := .val (.bool (opK .LtE r1))) rfl)) tru_bool) _ _ _ A1 s1 _ _ bo ao1 T fun v s2 k r => ?_
    cases rp_val r
    exact q s2 (b1.trans (ButOne.of k))
theorem pop_lt_gt {B : Bas} (fr : Free B) {m : Nat} {a : Addr} (F : HasDef B "_lt_from_gt" a (defAt pw 7)) {pm : Value} {C cl lam la : Addr} {ocl : Obj} {Fs G : List (Addr × Obj)} (K : KW B (m + 2) pm C cl lam ocl Fs) (PG : PopG G lam la) (hla : B.hB.get? la = none) {r1 r2 : Int} {t1 t2 : Tok} : PopDo B m C cl la ocl Fs G a [.int r2 t2, .int 0 t1] (!opK .Eq r2) := by
  intro s A E Q k1 k2 dk1 dk2 u1 u2 bo ao hh X e1 e2 q
  refine pop_first fr F K PG hla (vs := [.int r2 t2]) (own_get_gt K) rfl (fun pm cd doc vs hv => ?_) (by decide +kernel) (by decide +kernel) (by decide +kernel) (by decide +kernel) (by decide +kernel) (by decide +kernel) rfl (fun env => rfl) (show 1 ≤ 1000 by decide) bo ao hh X e1 e2 rfl rfl (fun env A1 O s1 E1 fe ao1 b1 X1 T => ?_)
  · match vs, hv with
    | [u, v], _ => rfl
  · refine BoolOp_and ((ev_eq (n := m + 5) (d' := .bool true) (ev_not (Ev.weak (ev_name (d := .val (.bool (opK .Gt 0))) rfl)) tru_bool) rfl) _ _ _ A1 s1 _ _ bo ao1 T fun v s2 k r => ?_)
    cases rp_val r
    refine wpAny_truthy_bool ?_
    have T2 := T.kp k
    obtain ⟨va, hva, ra⟩ := T2.vars "self" _ rfl
    obtain ⟨vb, hvb, rb⟩ := T2.vars "other" _ rfl
    obtain ⟨j1, dj1, w1, rfl, i1, _, _, _⟩ := rp_key ra
    obtain ⟨j2, dj2, w2, rfl, i2, _, _, _⟩ := rp_key rb
    have X2 : PopBase cl la ocl Fs G [.int r2 t2] s2.heap := X1.but K.kf K.dcl PG (fun b o _ e => kheap k _ _ e) (X1.pl.at fun o e => kheap k _ _ e)
    refine BoolOp_one (wpAny_Compare1 (wp_name T2 hva (wp_name T2 hvb ?_ (by decide +kernel) (by decide +kernel)) (by decide +kernel) (by decide +kernel)))
    refine cmpg_ne K (lam_pop PG hla (vs := []) (r0 := r2) (t0 := t2) (by decide) 0 0) bo (aok_less ao1 (by omega)) T2.here X2.eF X2.ecl i1 i2 ⟨X2.eG, X2.pl⟩ ?_
    rintro s3 r s4 s5 a1 ⟨rfl, a2, a3⟩ a4
    exact q s5 (((b1.trans (ButOne.of k)).trans ((ButOne.of a1).trans a2)).trans (ButOne.of a4))
theorem pop_ge_gt {B : Bas} (fr : Free B) {m : Nat} {a : Addr} (F : HasDef B "_ge_from_gt" a (defAt pw 8)) {pm : Value} {C cl lam la : Addr} {ocl : Obj} {Fs G : List (Addr × Obj)} (K : KW B (m + 2) pm C cl lam ocl Fs) (PG : PopG G lam la) (hla : B.hB.get? la = none) {r1 r2 : Int} {t1 t2 : Tok} : PopDo B m C cl la ocl Fs G a [.int r2 t2, .int 0 t1] (opK .Eq r2) := by
  intro s A E Q k1 k2 dk1 dk2 u1 u2 bo ao hh X e1 e2 q
  refine pop_first fr F K PG hla (vs := [.int r2 t2]) (own_get_gt K) rfl (fun pm cd doc vs hv => ?_) (by decide +kernel) (by decide +kernel) (by decide +kernel) (by decide +kernel) (by decide +kernel) (by decide +kernel) rfl (fun env => rfl) (show 1 ≤ 1000 by decide) bo ao hh X e1 e2 rfl rfl (fun env A1 O s1 E1 fe ao1 b1 X1 T => ?_)
  · match vs, hv with
    | [u, v], _ => rfl
  · refine BoolOp_or ((ev_eq (n := m + 5) (d' := .bool false) (ev_name (d := .val (.bool (opK .Gt 0))) rfl) rfl) _ _ _ A1 s1 _ _ bo ao1 T fun v s2 k r => ?_)
    cases rp_val r
    refine wpAny_truthy_bool ?_
    have T2 := T.kp k
    obtain ⟨va, hva, ra⟩ := T2.vars "self" _ rfl
    obtain ⟨vb, hvb, rb⟩ := T2.vars "other" _ rfl
    obtain ⟨j1, dj1, w1, rfl, i1, _, _, _⟩ := rp_key ra
    obtain ⟨j2, dj2, w2, rfl, i2, _, _, _⟩ := rp_key rb
    have X2 : PopBase cl la ocl Fs G [.int r2 t2] s2.heap := X1.but K.kf K.dcl PG (fun b o _ e => kheap k _ _ e) (X1.pl.at fun o e => kheap k _ _ e)
    refine BoolOp_one (wpAny_Compare1 (wp_name T2 hva (wp_name T2 hvb ?_ (by decide +kernel) (by decide +kernel)) (by decide +kernel) (by decide +kernel)))
    refine cmpg_eq K (lam_pop PG hla (vs := []) (r0 := r2) (t0 := t2) (by decide) 0 0) bo (aok_less ao1 (by omega)) T2.here X2.eF X2.ecl i1 i2 ⟨X2.eG, X2.pl⟩ ?_
    rintro s3 r s4 s5 a1 ⟨rfl, a2, a3⟩ a4
    exact q s5 (((b1.trans (ButOne.of k)).trans ((ButOne.of a1).trans a2)).trans (ButOne.of a4))
theorem pop_le_gt {B : Bas} (fr : Free B) {m : Nat} {a : Addr} (F : HasDef B "_le_from_gt" a (defAt pw 9)) {pm : Value} {C cl lam la : Addr} {ocl : Obj} {Fs G : List (Addr × Obj)} (K : KW B (m + 2) pm C cl lam ocl Fs) (PG : PopG G lam la) (hla : B.hB.get? la = none) {r1 r2 : Int} {t1 t2 : Tok} : PopDo B m C cl la ocl Fs G a [.int r2 t2, .int r1 t1] (!opK .Gt r1) := by
  intro s A E Q k1 k2 dk1 dk2 u1 u2 bo ao hh X e1 e2 q
  refine pop_first fr F K PG hla (vs := [.int r2 t2]) (own_get_gt K) rfl (fun pm cd doc vs hv => ?_) (by decide +kernel) (by decide +kernel) (by decide +kernel) (by decide +kernel) (by decide +kernel) (by decide +kernel) rfl (fun env => rfl) (show 1 ≤ 1000 by decide) bo ao hh X e1 e2 rfl rfl (fun env A1 O s1 E1 fe ao1 b1 X1 T => ?_)
  · match vs, hv with
    | [u, v], _ => rfl
  · refine (ev_not (n := m + 5) (Ev.weak (ev_name (d := .val (.bool (opK .Gt r1))) rfl)) tru_bool) _ _ _ A1 s1 _ _ bo ao1 T fun v s2 k r => ?_
    cases rp_val r
    exact q s2 (b1.trans (ButOne.of k))
theorem pop_le_ge {B : Bas} (fr : Free B) {m : Nat} {a : Addr} (F : HasDef B "_le_from_ge" a (defAt pw 10)) {pm : Value} {C cl lam la : Addr} {ocl : Obj} {Fs G : List (Addr × Obj)} (K : KW B (m + 2) pm C cl lam ocl Fs) (PG : PopG G lam la) (hla : B.hB.get? la = none) {r1 r2 : Int} {t1 t2 : Tok} : PopDo B m C cl la ocl Fs G a [.int r2 t2, .int 0 t1] (opK .Eq r2) := by
  intro s A E Q k1 k2 dk1 dk2 u1 u2 bo ao hh X e1 e2 q
  refine pop_first fr F K PG hla (vs := [.int r2 t2]) (own_get_ge K) rfl (fun pm cd doc vs hv => ?_) (by decide +kernel) (by decide +kernel) (by decide +kernel) (by decide +kernel) (by decide +kernel) (by decide +kernel) rfl (fun env => rfl) (show 1 ≤ 1000 by decide) bo ao hh X e1 e2 rfl rfl (fun env A1 O s1 E1 fe ao1 b1 X1 T => ?_)
  · match vs, hv with
    | [u, v], _ => rfl
  · refine BoolOp_or ((ev_eq (n := m + 5) (d' := .bool false) (ev_not (Ev.weak (ev_name (d := .val (.bool (opK .GtE 0))) rfl)) tru_bool) rfl) _ _ _ A1 s1 _ _ bo ao1 T fun v s2 k r => ?_)
    cases rp_val r
    refine wpAny_truthy_bool ?_
    have T2 := T.kp k
    obtain ⟨va, hva, ra⟩ := T2.vars "self" _ rfl
    obtain ⟨vb, hvb, rb⟩ := T2.vars "other" _ rfl
    obtain ⟨j1, dj1, w1, rfl, i1, _, _, _⟩ := rp_key ra
    obtain ⟨j2, dj2, w2, rfl, i2, _, _, _⟩ := rp_key rb
    have X2 : PopBase cl la ocl Fs G [.int r2 t2] s2.heap := X1.but K.kf K.dcl PG (fun b o _ e => kheap k _ _ e) (X1.pl.at fun o e => kheap k _ _ e)
    refine BoolOp_one (wpAny_Compare1 (wp_name T2 hva (wp_name T2 hvb ?_ (by decide +kernel) (by decide +kernel)) (by decide +kernel) (by decide +kernel)))
    refine cmpg_eq K (lam_pop PG hla (vs := []) (r0 := r2) (t0 := t2) (by decide) 0 0) bo (aok_less ao1 (by omega)) T2.here X2.eF X2.ecl i1 i2 ⟨X2.eG, X2.pl⟩ ?_
    rintro s3 r s4 s5 a1 ⟨rfl, a2, a3⟩ a4
    exact q s5 (((b1.trans (ButOne.of k)).trans ((ButOne.of a1).trans a2)).trans (ButOne.of a4))
theorem pop_gt_ge {B : Bas} (fr : Free B) {m : Nat} {a : Addr} (F : HasDef B "_gt_from_ge" a (defAt pw 11)) {pm : Value} {C cl lam la : Addr} {ocl : Obj} {Fs G : List (Addr × Obj)} (K : KW B (m + 2) pm C cl lam ocl Fs) (PG : PopG G lam la) (hla : B.hB.get? la = none) {r1 r2 : Int} {t1 t2 : Tok} : PopDo B m C cl la ocl Fs G a [.int r2 t2, .int 0 t1] (!opK .Eq r2) := by
  intro s A E Q k1 k2 dk1 dk2 u1 u2 bo ao hh X e1 e2 q
  refine pop_first fr F K PG hla (vs := [.int r2 t2]) (own_get_ge K) rfl (fun pm cd doc vs hv => ?_) (by decide +kernel) (by decide +kernel) (by decide +kernel) (by decide +kernel) (by decide +kernel) (by decide +kernel) rfl (fun env => rfl) (show 1 ≤ 1000 by decide) bo ao hh X e1 e2 rfl rfl (fun env A1 O s1 E1 fe ao1 b1 X1 T => ?_)
  · match vs, hv with
    | [u, v], _ => rfl
  · refine BoolOp_and ((ev_eq (n := m + 5) (d' := .bool true) (ev_name (d := .val (.bool (opK .GtE 0))) rfl) rfl) _ _ _ A1 s1 _ _ bo ao1 T fun v s2 k r => ?_)
    cases rp_val r
    refine wpAny_truthy_bool ?_
    have T2 := T.kp k
    obtain ⟨va, hva, ra⟩ := T2.vars "self" _ rfl
    obtain ⟨vb, hvb, rb⟩ := T2.vars "other" _ rfl
    obtain ⟨j1, dj1, w1, rfl, i1, _, _, _⟩ := rp_key ra
    obtain ⟨j2, dj2, w2, rfl, i2, _, _, _⟩ := rp_key rb
    have X2 : PopBase cl la ocl Fs G [.int r2 t2] s2.heap := X1.but K.kf K.dcl PG (fun b o _ e => kheap k _ _ e) (X1.pl.at fun o e => kheap k _ _ e)
    refine BoolOp_one (wpAny_Compare1 (wp_name T2 hva (wp_name T2 hvb ?_ (by decide +kernel) (by decide +kernel)) (by decide +kernel) (by decide +kernel)))
    refine cmpg_ne K (lam_pop PG hla (vs := []) (r0 := r2) (t0 := t2) (by decide) 0 0) bo (aok_less ao1 (by omega)) T2.here X2.eF X2.ecl i1 i2 ⟨X2.eG, X2.pl⟩ ?_
    rintro s3 r s4 s5 a1 ⟨rfl, a2, a3⟩ a4
    exact q s5 (((b1.trans (ButOne.of k)).trans ((ButOne.of a1).trans a2)).trans (ButOne.of a4))
theorem pop_lt_ge {B : Bas} (fr : Free B) {m : Nat} {a : Addr} (F : HasDef B "_lt_from_ge" a (defAt pw 12)) {pm : Value} {C cl lam la : Addr} {ocl : Obj} {Fs G : List (Addr × Obj)} (K : KW B (m + 2) pm C cl lam ocl Fs) (PG : PopG G lam la) (hla : B.hB.get? la = none) {r1 r2 : Int} {t1 t2 : Tok} : PopDo B m C cl la ocl Fs G a [.int r2 t2, .int r1 t1] (!opK .GtE r1) := by
  intro s A E Q k1 k2 dk1 dk2 u1 u2 bo ao hh X e1 e2 q
  refine pop_first fr F K PG hla (vs := [.int r2 t2]) (own_get_ge K) rfl (fun pm cd doc vs hv => ?_) (by decide +kernel) (by decide +kernel) (by decide +kernel) (by decide +kernel) (by decide +kernel) (by decide +kernel) rfl (fun env => rfl) (show 1 ≤ 1000 by decide) bo ao hh X e1 e2 rfl rfl (fun env A1 O s1 E1 fe ao1 b1 X1 T => ?_)
  · match vs, hv with
    | [u, v], _ => rfl
  · refine (ev_not (n := m + 5) (Ev.weak (ev_name (d := .val (.bool (opK .GtE r1))) rfl)) tru_bool) _ _ _ A1 s1 _ _ bo ao1 T fun v s2 k r => ?_
    cases rp_val r
    exact q s2 (b1.trans (ButOne.of k))

theorem execs_step {B : Bas} {n : Nat} {A : Around} {env : Env} {σ : Sto} {h₀ : Heap} {P O : Addr → Prop} {s : Shared} {E : Value → Shared → Prop} {st : Stmt} {rest : List Stmt} {R : Fl → Sto → Prop} {Q : Flow → Shared → Prop} (bo : B.Ok) (ao : AOk n A) (T : St B h₀ P env σ O s.heap) (x : Ex1 B n env σ st R)
    (h : ∀ f s', Post B h₀ P env O s R f s' → match f with | .next => wpAny (model B.prog B.w) A (execs rest env) Q E s' | f => Q f s') : wpAny (model B.prog B.w) A (execs (st :: rest) env) Q E s :=
  wpAny_execs_cons (wpAny_mono (x h₀ P O A s E bo ao T) (fun f s' q => h f s' q) fun _ _ q => q)
theorem KeyF.call2 {B : Bas} (bo : B.Ok) {cl : Addr} {pm : Value} {C : Addr} {F : List (Addr × Obj)} (x : KeyF cl pm C F) {s : Shared} (hh : B.Here s.heap) (hF : ∀ q ∈ F, s.heap.get? q.1 = some q.2) {A : Around} {v : Int} {t : Tok} {Q E : Value → Shared → Prop} (ao : AOk 3 A)
    (q : ∀ ko dk s', Keeps s s' → s.heap.get? ko = none → s'.heap.get? ko = some (inst C dk v t) → Q (.ref ko) s') : wpAny (model B.prog B.w) A (PySem.call (.ref C) [.int v t]) Q E s := by
  obtain ⟨b, N, de, sl, st, f1, f2, f3, f4, f5, f6, c1, c2, c3, c4, c5, c6, oc1, oc2, oc3, oc4, oc5, oc6, d1, d2, d3, d4, d5, d6, v1, v2, v3, v4, v5, v6, tK, tde, tv1, tv2, hv1, hv2, hf, tf, rfl, o1, o2, o3, o4, o5, o6⟩ := x
  obtain ⟨oc, vs, tc, k1, k2⟩ := o1
  have m : ∀ {q}, q ∈ keyFs cl pm C b N de sl st f1 f2 f3 f4 f5 f6 c1 c2 c3 c4 c5 c6 oc1 oc2 oc3 oc4 oc5 oc6 d1 d2 d3 d4 d5 d6 v1 v2 v3 v4 v5 v6 tK tde tv1 tv2 hv1 hv2 hf tf → s.heap.get? q.1 = some q.2 := fun hm => hF _ hm
  unfold keyFs at m
  refine key_call (m (q := (C, _)) (.head _)) (m (q := (N, _)) (.tail _ (.head _))) (m (q := (de, _)) (.tail _ (.tail _ (.head _)))) (m (q := (f1, _)) (.tail _ (.tail _ (.tail _ (.head _))))) ?_ ?_ (bo.nolimit.keeps hh) (by have := ao.depth; omega) fun ko dk h' tk k n e => ?_
  · exact ⟨⟨_, _, _, _, rfl⟩, fun _ _ => rfl, rfl, by kernel_rfl!, by kernel_rfl!, rfl, rfl, rfl⟩
  · exact ⟨c1, oc1, vs, tc, rfl, m (q := (c1, _)) (.tail _ (.tail _ (.tail _ (.tail _ (.head _))))), k1, k2.trans (by kernel_rfl!)⟩
  · exact q ko dk _ ⟨_, _, rfl, k⟩ n e
theorem KeyF.cls {cl : Addr} {pm : Value} {C : Addr} {F : List (Addr × Obj)} (x : KeyF cl pm C F) : ∃ oC cd, (C, oC) ∈ F ∧ oC.cls = .type "type" ∧ oC.data = .cls cd := by
  obtain ⟨b, N, de, sl, st, f1, f2, f3, f4, f5, f6, c1, c2, c3, c4, c5, c6, oc1, oc2, oc3, oc4, oc5, oc6, d1, d2, d3, d4, d5, d6, v1, v2, v3, v4, v5, v6, tK, tde, tv1, tv2, hv1, hv2, hf, tf, rfl, _⟩ := x
  exact ⟨_, _, .head _, rfl, rfl⟩
def ClsIs (C cl : Addr) (ocl : Obj) (F : List (Addr × Obj)) (v : Value) (H : List (Addr × Obj)) : Prop := v = .ref C ∧ H = (cl, ocl) :: F
abbrev KC (C cl : Addr) (ocl : Obj) (F : List (Addr × Obj)) : D := .abs (ClsIs C cl ocl F)
theorem rp_cls {h : Heap} {X : Addr → Prop} {v : Value} {C cl : Addr} {ocl : Obj} {F : List (Addr × Obj)} (r : Rp h X v (KC C cl ocl F)) : v = .ref C ∧ h.get? cl = some ocl ∧ ∀ q ∈ F, h.get? q.1 = some q.2 := by
  cases r with
  | abs H hp hf =>
    obtain ⟨rfl, rfl⟩ := hp
    exact ⟨rfl, (hf _ (.head _)).1, fun q hq => (hf q (.tail _ hq)).1⟩
theorem wp_key0 {B : Bas} {h₀ : Heap} {P O : Addr → Prop} {env : Env} {σ : Sto} {A : Around} {s : Shared} {E Q : Value → Shared → Prop} {C cl : Addr} {ocl : Obj} {F : List (Addr × Obj)} {pm : Value} {p1 p2 p3 : Pos} {k : Nat} {i : Int} (bo : B.Ok) (ao : AOk 3 A) (T : St B h₀ P env σ O s.heap) (kf : KeyF cl pm C F) (hx : σ.get "key" = some (.val (KC C cl ocl F)))
    (q : ∀ ko dk t s', Keeps s s' → s'.heap.get? ko = some (inst C dk i t) → Q (.ref ko) s')
    (he : starEach [Expr.Constant (.int i) k p2] env = (false, eval (Expr.Constant (.int i) k p2) env) :: starEach [] env := by rfl) (hp : (backTo p3 (starEach [] env)).any (·.1) = false := by rfl)
    (hc : eval (.Call (.Name (S "key") p1) [.Constant (.int i) k p2] [] p3) env = (do callWith p3 (← eval (.Name (S "key") p1) env) [] (backTo p3 (starEach [.Constant (.int i) k p2] env)) (backToKw p3 (keywordEach [] env))) := by rfl) :
    wpAny (model B.prog B.w) A (eval (.Call (.Name (S "key") p1) [.Constant (.int i) k p2] [] p3) env) Q E s := by
  obtain ⟨v, hv, r⟩ := T.vars "key" _ hx
  obtain ⟨rfl, e1, e2⟩ := rp_cls r
  obtain ⟨oC, cd, hm, hc1, hc2⟩ := kf.cls
  refine Call_ (wp_name T hv (callWith_clsD hc1 hc2 (args_cons (wpAny_Constant_int ?_) he) he hp) (by decide +kernel) (by decide +kernel)) hc
  refine args_nil ⟨e2 _ hm, ?_⟩
  exact kf.call2 (s := { s with toks := s.toks + 1 }) bo (fun b o e => T.here b o e) e2 ao fun ko dk s' k n e => q ko dk _ s' (ktrans (ktok s _) k) e
def MadeDo (B : Bas) (m : Nat) (am : Addr) (f t : Int) (res : Bool) : Prop :=
  ∀ (pm : Value) (C cl lam la : Addr) (ocl : Obj) (Fs G : List (Addr × Obj)) (t1 t2 : Tok), KW B (m + 2) pm C cl lam ocl Fs → PopG G lam la → B.hB.get? la = none → PopDo B m C cl la ocl Fs G am [.int t t2, .int f t1] res
theorem again_tail {B : Bas} {m : Nat} {am ka lam cL ac : Addr} {as : List Addr} {z1 : Addr} {f t : Int} {res : Bool} {olam oL : Obj} {fdl : FuncData} (MD : MadeDo B m am f t res) (mk2 : MakeK2 B ka as) (HI : Hit z1 B.hB as) {d13 : Def} (Fk : HasDef B "cmp_to_key" ka d13) (st : ∃ oS, B.hB.get? cStatics = some oS ∧ nsLook (S "thirdparty.any") oS = Sem.pure none)
    {env : Env} {h₀ : Heap} {O : Addr → Prop} {A : Around} {s : Shared} {E : Value → Shared → Prop} {Q : Flow → Shared → Prop} (bo : B.Ok) (ao : AOk (m + 45) A) (fe : FEnv (defAt pw 17).scope env)
    (T : St B h₀ (fun _ => False) env [("made", .val (.val (.ref am))), ("first", .val (.int f)), ("then", .val (.int t)), ("answers", .own [.int t, .int f])] O s.heap)
    (e1 : s.heap.get? lam = some olam) (d1 : olam.data = .func fdl) (d2 : LamFn fdl popBody (S "answers") ac) (d3 : fdl.code = .ref cL) (e2 : s.heap.get? cL = some oL) (d4 : CodeO fdl.qualname oL) (hac : env.cells.lookup (S "answers") = some ac) (n1 : ¬ O lam) (n2 : ¬ O cL) {st3 : Stmt} (hst3 : ∃ st1 st2, (defAt pw 17).body = [st1, st2, st3])
    (q : ∀ h' tk, (∀ b o, h₀.get? b = some o → h'.get? b = some o) → (∀ b o, ¬ O b → s.heap.get? b = some o → h'.get? b = some o) → Q (.ret (.bool res)) ⟨h', s.gens, s.drawn, tk, s.os⟩) :
    wpAny (model B.prog B.w) A (call (.ref ka) [.ref lam]) (fun v s₁ => wpAny (model B.prog B.w) A (storeName env (S "key") v) (fun _ s₂ => wpAny (model B.prog B.w) A (execs [st3] env) Q E s₂) E s₁) E s := by
  refine mk2 s lam A _ E (aok_less ao (by omega)) T.here fun C cl ocl F h1 tk1 kf dcl ecl hcl keep hF => ?_
  have K : KW B (m + 2) _ C cl lam ocl F := ⟨kf, dcl, st⟩
  have T1 : St B h₀ (fun _ => False) env _ O h1 := T.keeps keep
  have hB : ∀ {b o}, B.hB.get? b = some o → ¬ O b := fun e q => by have := T.new _ q; rw [T.base _ _ e] at this; cases this
  have fresh : ∀ {b}, s.heap.get? b = none → ¬ O b := fun e q => by obtain ⟨o, e'⟩ := T.live _ q; rw [e] at e'; cases e'
  have asB : ∀ x ∈ as, ¬ O x := by
    obtain ⟨cc, zt, c1, c2, c3, c4, c5, c6, oc1, oc2, oc3, oc4, oc5, oc6, rfl, H⟩ := HI
    obtain ⟨_, _, _, _, _, _, _, _, _, ecc, _⟩ := H.hd
    intro x hx
    simp only [List.mem_cons, List.not_mem_nil, or_false] at hx
    rcases hx with rfl | rfl | rfl | rfl | rfl | rfl | rfl | rfl
    · exact hB ecc
    · exact hB H.t2
    · exact hB H.g1
    · exact hB H.g2
    · exact hB H.g3
    · exact hB H.g4
    · exact hB H.g5
    · exact hB H.g6
  have nF : ∀ q ∈ F, ¬ O q.1 := fun q hq => (hF q hq).2.elim fresh (asB _)
  have rv : Rp h1 (fun a => False ∨ O a) (.ref C) (KC C cl ocl F) := .abs _ ⟨rfl, rfl⟩ fun q hq => by
    rcases List.mem_cons.mp hq with rfl | hq
    · exact ⟨ecl, fun ⟨nm, vs, _, hd, _⟩ => (by rw [dcl] at hd; cases hd), fun z => z.elim id (fresh hcl)⟩
    · exact ⟨(hF q hq).1, kf.noIter q hq, fun z => z.elim id (nF q hq)⟩
  refine wp_store (s := ⟨h1, s.gens, s.drawn, tk1, s.os⟩) (b := .val (KC C cl ocl F)) T1 (FEnv.sl fe (by decide +kernel)) rv fun s2 m2 T2 => ?_
  obtain ⟨h2, tk2, rfl, k2⟩ := m2.names T1
  obtain ⟨st1, st2, hb⟩ := hst3
  have hst : st3 = (match (defAt pw 17).body with | [_, _, x] => x | _ => default) := by rw [hb]
  subst hst
  obtain ⟨vm, hvm, rm⟩ := T2.vars "made" _ rfl
  cases rm with
  | val _ hbv => cases hbv
  | fn _ om fm hom hdm hnm =>
  obtain ⟨la, vs, hva, hOl, hnl, hpl, rs⟩ := T2.vars "answers" _ rfl
  obtain ⟨w2, w1, rfl⟩ : ∃ t2 t1, vs = [.int t t2, .int f t1] := by
    cases rs with | cons a r =>
    cases r with | cons b r =>
    cases r
    obtain ⟨x, rfl⟩ := rp_int a
    obtain ⟨y, rfl⟩ := rp_int b
    exact ⟨x, y, rfl⟩
  have hla0 : h₀.get? la = none := T.new la hOl
  have hlaB : B.hB.get? la = none := by
    cases e : B.hB.get? la with
    | none => rfl
    | some o => rw [T.base _ _ e] at hla0; cases hla0
  obtain ⟨oac, eac, dac⟩ : ∃ oac, h2.get? ac = some oac ∧ oac.data = .cell (some (.ref la)) := by
    rcases hva with ⟨kd, _⟩ | ⟨_, c, l, ic⟩
    · rw [fe.cell (by decide +kernel : (defAt pw 17).scope.names.lookup (S "answers") = some .cell)] at kd; cases kd
    · rw [hac] at l; cases l; exact ic
  have PG : PopG [(lam, olam), (cL, oL), (ac, oac)] lam la := ⟨olam, cL, oL, ac, oac, fdl, rfl, d1, d2, d3, d4, dac⟩
  have X2 : PopBase cl la ocl F [(lam, olam), (cL, oL), (ac, oac)] [.int t w2, .int f w1] h2 := by
    refine ⟨fun q hq => k2 _ _ (nF q hq) (hF q hq).1, k2 _ _ (fresh hcl) ecl, fun q hq => ?_, hpl⟩
    simp only [List.mem_cons, List.not_mem_nil, or_false] at hq
    rcases hq with rfl | rfl | rfl
    · exact k2 _ _ n1 (keep _ _ e1)
    · exact k2 _ _ n2 (keep _ _ e2)
    · exact eac
  show wpAny _ _ (execs [.Return (some (.Call (.Name (S "made") _) [.Call (.Name (S "key") _) [.Constant (.int 0) _ _] [] _, .Call (.Name (S "key") _) [.Constant (.int 0) _ _] [] _] [] _)) _] env) _ _ _
  refine wpAny_execs_cons (wpAny_Return_some (Call_ (wp_name T2 hvm (callWith_def (o := om) hdm (args_cons ?_ (by rfl)) (by rfl)) (by decide +kernel) (by decide +kernel)) (by rfl)))
  refine wp_key0 bo (aok_less ao (by omega)) T2 kf rfl (fun k1 dk1 u1 s3 j3 i1 => ?_)
  refine args_cons ?_ (by rfl)
  refine wp_key0 bo (aok_less ao (by omega)) (T2.kp j3) kf rfl (fun k4 dk4 u4 s4 j4 i4 => ?_)
  have j34 := ktrans j3 j4
  refine args_nil ⟨kheap j34 _ _ hom, ?_⟩
  refine MD _ C cl lam la ocl F _ w1 w2 K PG hlaB s4 A E _ k1 k4 dk1 dk4 u1 u4 bo (aok_less ao (by omega)) (T2.kp j34).here (X2.but kf dcl PG (fun b o _ e => kheap j34 _ _ e) (X2.pl.at fun o e => kheap j34 _ _ e)) (kheap j4 _ _ i1) i4 fun s5 b5 => ?_
  obtain ⟨h4, tk4, rfl, k34⟩ := j34
  obtain ⟨h5, tk5, rfl, k5⟩ := b5
  refine q h5 tk5 (fun b o e => k5 b o (fun z => by rw [z, hla0] at e; cases e) (k34 _ _ (T2.keep b o e))) fun b o nb e => k5 b o (fun z => nb (z ▸ hOl)) (k34 _ _ (k2 b o nb (keep _ _ e)))

section
variable {M : Model} {A : Around} {E : Value → Shared → Prop} {s : Shared}
theorem mk_lam {name qual : Str} {params : Arguments} {body : Expr} {scope : Scope} {env : Env} {c P : Addr} {ps : Array Value} {pos : Pos} {firstLine : Nat} {mg : Str → Option Value} {clos : List (Str × Addr)} {Q : Value → Shared → Prop}
    (hcl : closureFor scope env = pure clos) (hne : clos.isEmpty = false) (hge0 : env.globals = mainGlobals) (hg : s.heap.Ns mainGlobals mg) (hcode : env.code = .ref c) (C : CodeHd s.heap c P) (hP : s.heap.get? P = some (tabObj ps)) (ht : TriplesOk ps.toList)
    (hnf : codeAmong pos ps.toList = none) (hgP : mainGlobals ≠ P) (hb : s.heap.BuiltinsAt mg P)
    (h : ∀ c' oc ctv h' tk, Heap.ExtBut P s.heap h' → s.heap.objs.size ≤ c' → h'.get? c' = some oc → CodeO qual oc → h'.get? P = some (tabObj (ps ++ #[rawInt pos.line, rawInt pos.col, .ref c'])) →
      Q (.ref h'.objs.size) { s with heap := h'.push (kla_obj name qual params body scope clos ((mg "__name__").getD .none) c' ctv), toks := tk }) :
    wpAny M A (makeFunction name qual params (.expr body) scope env [] [] [] pos firstLine) Q E s := by
  obtain ⟨bm, ob, hbm, hne0, _, hneP, hbo, hcls, hdict, hdata⟩ := hb
  have back : ∀ {h' : Heap} {c' : Addr}, h'.CodeRec (.ref c') qual → (∃ P', s.heap.objs.size + 1 ≤ P' ∧ h'.IsCode c' P' #[] ∧ h'.TableAt c' P' #[]) → ∃ oc, h'.get? c' = some oc ∧ CodeO qual oc := by
    rintro h' c' ⟨c₂, oc, vs, t, e2, e3, e4, e5⟩ ⟨P', _, _, ⟨o', vs', f1, f2, f3, f4⟩, _⟩
    cases e2
    rw [e3] at f1; cases f1
    exact ⟨oc, e3, f2, vs, t, e4, e5⟩
  rw [makeFunction_eq]
  simp only [List.zip_nil_right, List.filterMap_nil, List.isEmpty_nil, if_true, pure_bind]
  unfold makeTail
  rw [hcl, hge0]
  refine wpAny_bind (wpAny_pure ?_)
  simp only [hne, Bool.false_eq_true, if_false]
  refine wpAny_bind (wpAny_newTextTuple ?_)
  refine wpAny_bind (wpAny_functionCodeX hcode ((C.keeps fun b o e => Heap.get?_push_of_some _ e).code (Heap.get?_push_of_some _ hP) ht) ((C.keeps fun b o e => Heap.get?_push_of_some _ e).tab (Heap.get?_push_of_some _ hP)) hnf fun c' h' tk hx hge hlt _ hrec htb hnew => ?_)
  have hg' := (hg.push _).extBut hx hgP
  have hx' : Heap.ExtBut P s.heap h' := fun b o hb' e => hx b o hb' (Heap.get?_push_of_some _ e)
  have hge' : s.heap.objs.size ≤ c' := by rw [Heap.size_push] at hge; exact Nat.le_of_succ_le hge
  refine wpAny_bind (wpAny_builtinsFor hg' hbm hne0 (hx' _ _ hneP hbo) hcls hdict hdata ?_)
  refine wpAny_bind (wpAny_nsGet hg' ?_)
  obtain ⟨oc, k1, k2⟩ := back hrec (by obtain ⟨P', a, b, c⟩ := hnew; rw [Heap.size_push] at a; exact ⟨P', a, b, c⟩)
  exact wpAny_bind (wpAny_pure (wpAny_newObj_type (h c' oc _ h' tk hx' hge' k1 k2 htb.2) (by size_fits)))
end
theorem lawQ_of {B : Bas} {n : Nat} {A : Around} {a c : Addr} {name : Str} {params : Arguments} {body : List Stmt} {scope : Scope} {xs : List String} {ds : List D} {Z : List Addr}
    (F : ∃ o pm doc, B.hB.get? a = some o ∧ o.data = .func (docDef name params body scope pm (.ref c) doc) ∧ B.hB.CodeRec (.ref c) name) (hk : scope.kind = .function)
    (hbind : ∀ pm cd doc vs, vs.length = xs.length → bindArgs (docDef name params body scope pm cd doc) ⟨vs, []⟩ = pure ((xs.map S).zip vs)) (hlen : xs.length = ds.length) (hnd : xs.Nodup)
    (hkind : ∀ x ∈ xs, scope.names.lookup (S x) = some .local ∨ scope.names.lookup (S x) = some .cell)
    (hco : scope.isCoroutine = false := by rfl) (hgen : scope.isGenerator = false := by rfl) (s : Shared) (E : Value → Shared → Prop) (Q : Value → Shared → Prop) (vs : List Value) (bo : B.Ok) (ao : AOk (n + 1) A) (hh : B.Here s.heap) (hP : ∀ x, x ∈ Z → (∃ o, s.heap.get? x = some o) ∧ B.hB.get? x = none) (r : RpAll s.heap (fun x => x ∈ Z) vs ds)
    (h : ∀ env A' O s₁ E', FEnv scope env → env.code = .ref c → env.qual = name ++ ".<locals>." → env.func.isSome = true → env.globals = mainGlobals → env.builtins = builtinsNs → AOk n A' → Keeps s s₁ → St B s.heap (fun x => x ∈ Z) env (binds0 xs ds) O s₁.heap →
      wpAny (model B.prog B.w) A' (execs body env) (fun f s' => Q (match f with | .ret v => v | _ => .none) s') E' s₁) :
    wpAny (model B.prog B.w) A (call (.ref a) vs) Q E s := by
  obtain ⟨o, pm, doc, ho, hd, hcd⟩ := F
  have hvl : vs.length = xs.length := by rw [r.length, hlen]
  refine wpAny_call (codeAny_mono (codeAny_call_cells (R := fun res s' => ∃ v, res = .ok (.ret v) ∧ Q v s') (by have := ao.depth; omega) (hh _ _ ho) hd (bo.nolimit.keeps hh) (hcd.keeps hh) rfl (hbind pm (.ref c) doc vs hvl) rfl ?_ ?_ hco hgen hk) ?_)
  · intro x hx
    obtain ⟨y, hy, e⟩ : ∃ y ∈ xs, x.1 = S y := by
      have := List.of_mem_zip hx
      obtain ⟨y, hy, e⟩ := List.mem_map.mp this.1
      exact ⟨y, hy, e.symm⟩
    rw [e]
    rcases hkind y hy with q | q
    · exact .inl q
    · exact .inr ⟨q, cellsFrom_some _ _ _ _ (.inl q)⟩
  · intro s₁ C
    obtain ⟨env, henv, fe, hfrm, kK, hnl, T⟩ := st_call hk hlen hnd hkind hh hP r C
    have hcode : env.code = .ref c := by rw [← henv]; rfl
    have hq : env.qual = name ++ ".<locals>." := by rw [← henv]; rfl
    rw [henv]
    refine wpAny_mono (h env (A.deeper env) _ s₁ _ fe hcode hq fe.func T.ok.globals T.ok.builtins ⟨ao.handled, by have := ao.depth; show A.depth + 1 + n < _; omega, by have := ao.units; show A.units + 3 + 5 * n + 100 < _; omega⟩ kK T) (fun f s' z => ⟨_, rfl, z⟩) fun _ _ z => z
  · rintro res s' ⟨v, rfl, z⟩
    exact z
def againLam : Arguments × Scope := match (defAt pw 17).body with | [_, .Assign _ (.Call _ [.Lambda p _ sc _] _ _) _, _] => (p, sc) | _ => default
abbrev againP : Arguments := againLam.1
abbrev againS : Scope := againLam.2
theorem clos_answers {env : Env} {ac : Addr} (hac : env.cells.lookup (S "answers") = some ac) {sc : Scope} (hsc : sc.names = [(S "a", .local), (S "b", .local), (S "answers", .free)]) : closureFor sc env = pure [(S "answers", ac)] := by
  rw [closureFor_eq]
  · rw [hsc]
    show pure [(S "answers", (env.cells.lookup (S "answers")).getD 0)] = _
    rw [hac]; rfl
  · rw [hsc]
    intro x hx hx2
    simp only [List.mem_cons, List.not_mem_nil, or_false] at hx
    rcases hx with rfl | rfl | rfl
    · cases hx2
    · cases hx2
    · show (env.cells.lookup (S "answers")).isSome = true
      rw [hac]; rfl
theorem lamFn_again (nm q : Str) (ac : Addr) (pm : Value) {cdv ctv : Value} : LamFn (kla_fn nm q againP popBody againS [(S "answers", ac)] pm cdv ctv) popBody (S "answers") ac :=
  ⟨rfl, fun _ _ => rfl, rfl, by kernel_rfl!, by kernel_rfl!, by kernel_rfl!, by show ∀ x ∈ ([(S "a", .local), (S "b", .local), (S "answers", .free)] : List (Str × NameKind)), x.2 ≠ .cell; simp, rfl, rfl, rfl, rfl, rfl⟩
def againQ : Str := (defAt pw 17).name ++ ".<locals>." ++ "<lambda>"
theorem again_later {B : Bas} (fr : Free B) {m : Nat} {ag am ka c3 z3 cL z1 : Addr} {as : List Addr} {f t : Int} {res : Bool} {oL : Obj} (FF : ∃ o pm doc, B.hB.get? ag = some o ∧ o.data = .func (docDef (defAt pw 17).name (defAt pw 17).params (defAt pw 17).body (defAt pw 17).scope pm (.ref c3) doc) ∧ B.hB.CodeRec (.ref c3) (defAt pw 17).name)
    (C3 : CodeHd B.hB c3 z3) (ez : B.hB.get? z3 = some (tabObj #[rawInt 98, rawInt 21, .ref cL])) (eL : B.hB.get? cL = some oL) (kL : CodeO againQ oL) (hbm : B.hB.BuiltinsAt B.mg z3)
    (MD : MadeDo B m am f t res) (mk2 : MakeK2 B ka as) (HI : Hit z1 B.hB as) (Fk : HasDef B "cmp_to_key" ka (defAt pw 13)) (st : ∃ oS, B.hB.get? cStatics = some oS ∧ nsLook (S "thirdparty.any") oS = Sem.pure none) :
    FnS B (m + 46) ag [.val (.ref am), .int f, .int t] (.bool res) := by
  intro P A s E Q vs bo ao hh hP r q
  refine lawQ_of (n := m + 45) (Z := []) (xs := ["made", "first", "then"]) (ds := [.val (.ref am), .int f, .int t]) FF rfl (fun pm cd doc vs hvs => ?_) rfl (by decide) (by decide +kernel) rfl rfl s E Q vs bo ao hh (fun x hx => nomatch hx) (r.sub fun _ q => nomatch q) (fun env A' O s1 E' fe hcode hqual hf hgl hbi ao' kK T => ?_)
  · match vs, hvs with
    | [u, v, w], _ => rfl
  · obtain ⟨ac, hac⟩ := Option.isSome_iff_exists.mp (fe.cells (S "answers") (by decide +kernel))
    refine execs_step bo ao' T (R := fun fl σ' => fl = .next ∧ σ' = [("made", .val (.val (.ref am))), ("first", .val (.int f)), ("then", .val (.int t)), ("answers", .own [.int t, .int f])]) (ex_assignN (by walk_at "st") (evn_list (ds := [.int t, .int f]) (by walk_at "as") (show 2 ≤ 1000000 by decide)) ⟨rfl, rfl⟩ (by rfl)) fun fl s2 z => ?_
    obtain ⟨fl', σ', O2, mv, hfl, ⟨rfl, rfl⟩, hO2, T2⟩ := z
    cases fl <;> try exact hfl.elim
    dsimp only
    obtain ⟨o13, pm13, cd13, doc13, ho13, hd13, hcd13⟩ := Fk.fn.at_
    refine wpAny_execs_cons (wpAny_Assign_Name (Call_ (wp_glob bo T2 (by walk_at "gk") Fk.mg (callWith_def (o := o13) hd13 (args_cons (kla_eval (by rfl) ?_) (by rfl)) (by rfl)) (by decide)) (by rfl)) (by rfl))
    refine kla_makeFunctionHit (mg := B.mg) (cv := .ref cL) (clos := [(S "answers", ac)]) ?_ T2.ok.globals (bo.g.keeps T2.here) hcode (C3.keeps T2.here) (T2.here _ _ ez) (show TriplesOk [rawInt 98, rawInt 21, .ref cL] from trivial) (by kernel_rfl!) (by obtain ⟨bm, ob, b1, b2, b3, b4, b5, b6, b7, b8⟩ := hbm; exact ⟨bm, ob, b1, b2, b3, b4, T2.here _ _ b5, b6, b7, b8⟩) fun ctv h' tk hk hsz => ?_
    · exact clos_answers hac (by rfl)
    have hL0 : ∀ b o, s2.heap.get? b = some o → (h'.push (kla_obj "<lambda>" (env.qual ++ "<lambda>") againP popBody againS [(S "answers", ac)] ((B.mg "__name__").getD .none) cL ctv)).get? b = some o := fun b o e => Heap.get?_push_of_some _ (hk b o e)
    refine args_nil ⟨hL0 _ _ (T2.here _ _ ho13), ?_⟩
    have hq2 : env.qual ++ "<lambda>" = againQ := by rw [hqual]; rfl
    have T3 := T2.takeZ hf (fun b o _ e => hL0 b o e) (fun z hz => nomatch hz)
    have nO : ∀ {b}, s2.heap.get? b = none → ¬ (O2 b ∨ b ∈ []) := fun e q => by
      rcases q with q | q
      · obtain ⟨o, e'⟩ := T2.live _ q; rw [e] at e'; cases e'
      · cases q
    have fz : s2.heap.get? h'.objs.size = none := by
      cases e : s2.heap.get? h'.objs.size with
      | none => rfl
      | some o => exact absurd (Heap.lt_size (hk _ _ e)) (Nat.lt_irrefl _)
    refine again_tail (s := ⟨h'.push (kla_obj "<lambda>" (env.qual ++ "<lambda>") againP popBody againS [(S "answers", ac)] ((B.mg "__name__").getD .none) cL ctv), s2.gens, s2.drawn, tk, s2.os⟩) MD mk2 HI Fk st bo ao' fe T3 (Heap.get?_push_size _ rfl) rfl (lamFn_again _ _ _ _) rfl (hL0 _ _ (T2.here _ _ eL)) (show CodeO (env.qual ++ "<lambda>") oL by rw [hq2]; exact kL) hac (nO fz) (fun q => by
      rcases q with q | q
      · have := T2.new _ q; rw [hh _ _ eL] at this; cases this
      · cases q) ⟨_, _, rfl⟩ fun h5 tk5 k5 k5' => ?_
    obtain ⟨h2, tk2, rfl, k2⟩ := mv
    obtain ⟨h1, tk1, rfl, k1⟩ := kK
    exact q _ _ ⟨h5, tk5, rfl, fun b o e => k5 b o (hideAll_get _ e (fun z => nomatch z))⟩ (.val _ rfl)
theorem again_first {B : Bas} (fr : Free B) {m : Nat} {ag am ka c3 z3 z1 : Addr} {as : List Addr} {f t : Int} {res : Bool} (FF : ∃ o pm doc, B.hB.get? ag = some o ∧ o.data = .func (docDef (defAt pw 17).name (defAt pw 17).params (defAt pw 17).body (defAt pw 17).scope pm (.ref c3) doc) ∧ B.hB.CodeRec (.ref c3) (defAt pw 17).name)
    (C3 : CodeHd B.hB c3 z3) (ez0 : B.hB.get? z3 = none) (hbm : B.hB.BuiltinsAt B.mg z3)
    (MD : MadeDo B m am f t res) (mk2 : MakeK2 B ka as) (HI : Hit z1 B.hB as) (Fk : HasDef B "cmp_to_key" ka (defAt pw 13)) (st : ∃ oS, B.hB.get? cStatics = some oS ∧ nsLook (S "thirdparty.any") oS = Sem.pure none)
    {A : Around} {s : Shared} {E Q : Value → Shared → Prop} {vs : List Value} (bo : B.Ok) (ao : AOk (m + 46) A) (hh : B.Here s.heap) (hz3 : s.heap.get? z3 = some (tabObj #[])) (r : RpAll s.heap (fun x => x ∈ [z3]) vs [.val (.ref am), .int f, .int t])
    (q : ∀ h' tk cL oL, h'.get? z3 = some (tabObj #[rawInt 98, rawInt 21, .ref cL]) → h'.get? cL = some oL → CodeO againQ oL → s.heap.get? cL = none → (∀ b o, b ≠ z3 → s.heap.get? b = some o → h'.get? b = some o) → Q (.bool res) ⟨h', s.gens, s.drawn, tk, s.os⟩) :
    wpAny (model B.prog B.w) A (call (.ref ag) vs) Q E s := by
  refine lawQ_of (n := m + 45) (Z := [z3]) (xs := ["made", "first", "then"]) (ds := [.val (.ref am), .int f, .int t]) FF rfl (fun pm cd doc vs hvs => ?_) rfl (by decide) (by decide +kernel) rfl rfl s E Q vs bo ao hh (fun x hx => by rw [List.mem_singleton.mp hx]; exact ⟨⟨_, hz3⟩, ez0⟩) r (fun env A' O s1 E' fe hcode hqual hf hgl hbi ao' kK T => ?_)
  · match vs, hvs with
    | [u, v, w], _ => rfl
  · obtain ⟨ac, hac⟩ := Option.isSome_iff_exists.mp (fe.cells (S "answers") (by decide +kernel))
    refine execs_step bo ao' T (R := fun fl σ' => fl = .next ∧ σ' = [("made", .val (.val (.ref am))), ("first", .val (.int f)), ("then", .val (.int t)), ("answers", .own [.int t, .int f])]) (ex_assignN (by walk_at "st") (evn_list (ds := [.int t, .int f]) (by walk_at "as") (show 2 ≤ 1000000 by decide)) ⟨rfl, rfl⟩ (by rfl)) fun fl s2 z => ?_
    obtain ⟨fl', σ', O2, mv, hfl, ⟨rfl, rfl⟩, hO2, T2⟩ := z
    cases fl <;> try exact hfl.elim
    dsimp only
    obtain ⟨o13, pm13, cd13, doc13, ho13, hd13, hcd13⟩ := Fk.fn.at_
    refine wpAny_execs_cons (wpAny_Assign_Name (Call_ (wp_glob bo T2 (by walk_at "gk") Fk.mg (callWith_def (o := o13) hd13 (args_cons (kla_eval (by rfl) ?_) (by rfl)) (by rfl)) (by decide)) (by rfl)) (by rfl))
    obtain ⟨bm, ob, b1, b2, b3, b4, b5, b6, b7, b8⟩ := id hbm
    have gz : mainGlobals ≠ z3 := fun e => by obtain ⟨o, es, ep, e', _⟩ := bo.g; rw [e, ez0] at e'; cases e'
    have nO2 : ¬ O2 z3 := fun e => by have := T2.new _ e; rw [hz3] at this; cases this
    have ez2 : s2.heap.get? z3 = some (tabObj #[]) := T2.keep _ _ hz3
    refine mk_lam (mg := B.mg) (clos := [(S "answers", ac)]) ?_ rfl T2.ok.globals (bo.g.keeps T2.here) hcode (C3.keeps T2.here) ez2 (show TriplesOk [] from trivial) (by kernel_rfl!) gz ⟨bm, ob, b1, b2, b3, b4, T2.here _ _ b5, b6, b7, b8⟩ fun cL oL ctv h' tk hx hge eL kL htb => ?_
    · exact clos_answers hac (by rfl)
    have hk : ∀ b o, b ≠ z3 → s2.heap.get? b = some o → h'.get? b = some o := hx
    have hL0 : ∀ b o, b ≠ z3 → s2.heap.get? b = some o → (h'.push (kla_obj "<lambda>" (env.qual ++ "<lambda>") againP popBody againS [(S "answers", ac)] ((B.mg "__name__").getD .none) cL ctv)).get? b = some o := fun b o n e => Heap.get?_push_of_some _ (hk b o n e)
    have nzB : ∀ {b o}, B.hB.get? b = some o → b ≠ z3 := fun e q => by rw [q, ez0] at e; cases e
    refine args_nil ⟨hL0 _ _ (nzB ho13) (T2.here _ _ ho13), ?_⟩
    have hq2 : env.qual ++ "<lambda>" = againQ := by rw [hqual]; rfl
    have T3 := T2.leaveZ hf (fun b o n e => hL0 b o (fun q => n (List.mem_singleton.mpr q)) e)
    have nO : ∀ {b}, s2.heap.get? b = none → ¬ O2 b := fun e q => by obtain ⟨o, e'⟩ := T2.live _ q; rw [e] at e'; cases e'
    have fz : s2.heap.get? h'.objs.size = none := by
      cases e : s2.heap.get? h'.objs.size with
      | none => rfl
      | some o =>
        by_cases hz : h'.objs.size = z3
        · rw [hz] at e
          exact absurd (Heap.lt_size htb) (by rw [hz]; exact Nat.lt_irrefl _)
        · exact absurd (Heap.lt_size (hk _ _ hz e)) (Nat.lt_irrefl _)
    have fc : s2.heap.get? cL = none := fresh_of hge
    refine again_tail (s := ⟨h'.push (kla_obj "<lambda>" (env.qual ++ "<lambda>") againP popBody againS [(S "answers", ac)] ((B.mg "__name__").getD .none) cL ctv), s2.gens, s2.drawn, tk, s2.os⟩) MD mk2 HI Fk st bo ao' fe T3 (Heap.get?_push_size _ rfl) rfl (lamFn_again _ _ _ _) rfl (Heap.get?_push_of_some _ eL) kL hac (nO fz) (nO fc) ⟨_, _, rfl⟩ fun h5 tk5 k5 k5' => ?_
    obtain ⟨h2, tk2, rfl, k2⟩ := mv
    obtain ⟨h1, tk1, rfl, k1⟩ := kK
    have back : s.heap.get? cL = none := by
      cases e : s.heap.get? cL with
      | none => rfl
      | some o => have := T2.keep _ _ e; rw [fc] at this; cases this
    exact q h5 tk5 cL oL (k5' _ _ nO2 (Heap.get?_push_of_some _ htb)) (k5' _ _ (nO fc) (Heap.get?_push_of_some _ eL)) (by rw [← hq2]; exact kL) back fun b o n e => k5 b o (hideAll_get _ e (fun z => n (List.mem_singleton.mp z)))

open Classical in
noncomputable def hideP (h : Heap) (p : Addr → Prop) : Heap := hideAll h ((List.range h.objs.size).filter fun a => decide (p a))
theorem hideP_of {h : Heap} {p : Addr → Prop} {b : Addr} {o : Obj} (e : (hideP h p).get? b = some o) : h.get? b = some o := of_hideAll _ e
theorem hideP_get {h : Heap} {p : Addr → Prop} {b : Addr} {o : Obj} (e : h.get? b = some o) (n : ¬ p b) : (hideP h p).get? b = some o :=
  hideAll_get _ e fun hm => n (by have := (List.mem_filter.mp hm).2; simpa using this)
theorem hideP_none {h : Heap} {p : Addr → Prop} {b : Addr} (y : p b) : (hideP h p).get? b = none := by
  cases e : (hideP h p).get? b with
  | none => rfl
  | some o =>
    have hl := Heap.lt_size (hideP_of e)
    have : (hideP h p).get? b = none := hideAll_none _ (List.mem_filter.mpr ⟨List.mem_range.mpr hl, by simpa using y⟩)
    rw [this] at e; cases e
abbrev Bas.at (B : Bas) (hB : Heap) : Bas := ⟨B.prog, B.w, hB, B.mg, B.mb⟩
theorem Bas.Ok.grow {B : Bas} (bo : B.Ok) {hB : Heap} (k : ∀ b o, B.hB.get? b = some o → hB.get? b = some o) : (B.at hB).Ok := ⟨bo.g.keeps k, bo.b.keeps k, bo.builtins, bo.nolimit.keeps k⟩
theorem HasDef.grow {B : Bas} {x : String} {a : Addr} {d : Def} (F : HasDef B x a d) {hB : Heap} (k : ∀ b o, B.hB.get? b = some o → hB.get? b = some o) : HasDef (B.at hB) x a d := by
  obtain ⟨o, pm, cd, doc, h1, h2, h3⟩ := F.fn.at_
  exact ⟨F.mg, ⟨o, pm, cd, doc, k _ _ h1, h2, h3.keeps k⟩⟩
theorem BuiltinsAt.grow {h h' : Heap} {mg : Str → Option Value} {P : Addr} (x : h.BuiltinsAt mg P) (k : ∀ b o, h.get? b = some o → h'.get? b = some o) : h'.BuiltinsAt mg P := by
  obtain ⟨bm, ob, b1, b2, b3, b4, b5, r⟩ := x
  exact ⟨bm, ob, b1, b2, b3, b4, k _ _ b5, r⟩
theorem St.rebase {B : Bas} {h₀ h h' : Heap} {env : Env} {σ : Sto} {P O : Addr → Prop} (T : St B h₀ P env σ O h) (hf : ∀ x c, env.cells.lookup x = some c → O c ∨ env.func.isSome = false) (Z : Addr → Prop) (hZ : ∀ a, Z a → P a) (hZc : ∀ x c, env.cells.lookup x = some c → ¬ Z c) (hk : ∀ b o, ¬ Z b → h.get? b = some o → h'.get? b = some o)
    (hB : Heap) (hB1 : ∀ b o, hB.get? b = some o → h'.get? b = some o) (Px : Addr → Prop) (hP : ∀ a, Px a → (∃ o, h'.get? a = some o) ∧ hB.get? a = none ∧ ¬ O a ∧ P a) (hO : ∀ a, O a → hB.get? a = none) :
    St (B.at hB) (hideP h' O) Px env σ O h' := by
  have nz : ∀ a, O a → ¬ Z a := fun a q z => by obtain ⟨⟨o, e⟩, _⟩ := T.plive a (hZ a z); rw [T.new a q] at e; cases e
  have hl := nz _ T.loc
  have mv : ∀ {x v}, VarIs env h x v → VarIs env h' x v := by
    rintro x v (⟨k, m, n, e⟩ | ⟨k, c, l, o, e1, e2⟩)
    · exact .inl ⟨k, m, ns_but n (fun o e' => hk _ _ hl e'), e⟩
    · exact .inr ⟨k, c, l, o, hk _ _ (hZc _ _ l) e1, e2⟩
  have hkx : ∀ a o, ¬ (P a ∨ O a) → h.get? a = some o → h'.get? a = some o := fun a o n e => hk a o (fun z => n (.inl (hZ a z))) e
  have hx : ∀ a o, ¬ (P a ∨ O a) → h.get? a = some o → ¬ (Px a ∨ O a) := fun a o n _ q => n (q.imp (fun z => (hP a z).2.2.2) id)
  have bck : ∀ {x w}, (∃ b, σ.get x = some b) → VarIs env h' (S x) w → VarIs env h (S x) w := by
    rintro x w ⟨b, hb⟩ hw
    obtain ⟨w', hw'⟩ := (T.vars x b hb).var
    rw [hw.fn (mv hw')]; exact hw'
  refine ⟨fun b o e => hideP_get (hB1 b o e) (fun q => by rw [hO b q] at e; cases e), fun b o e => hideP_of e, fun a q => ?_, fun a q => ?_, fun a q => hideP_none q, T.ok, T.loc, ?_, fun x c l => ?_, fun x b e => ?_, fun x y ds es a ne hx' hy vx vy => ?_⟩
  · obtain ⟨⟨o, e⟩, h1, h2, _⟩ := hP a q
    exact ⟨⟨o, hideP_get e h2⟩, h1⟩
  · obtain ⟨o, e⟩ := T.live a q; exact ⟨o, hk _ _ (nz a q) e⟩
  · obtain ⟨m, n⟩ := T.ns
    exact ⟨m, ns_but n fun o e' => hk _ _ hl e'⟩
  · obtain ⟨⟨v, o, e, d⟩, g⟩ := T.cells x c l
    exact ⟨⟨v, o, hk _ _ (hZc x c l) e, d⟩, g⟩
  · have := T.vars x b e
    cases b with
    | val d => obtain ⟨v, hv, r⟩ := this; exact ⟨v, mv hv, r.mono hkx hx⟩
    | own ds =>
      obtain ⟨a, vs, hv, h1, h2, ⟨k, h3⟩, h4⟩ := this
      exact ⟨a, vs, mv hv, h1, h2, ⟨k, hk _ _ (nz a h1) h3⟩, h4.mono hkx hx⟩
  · exact T.apart x y ds es a ne hx' hy (bck ⟨_, hx'⟩ vx) (bck ⟨_, hy⟩ vy)
theorem St.rebaseW {B : Bas} {h₀ h h' : Heap} {env : Env} {σ : Sto} {P O : Addr → Prop} (T : St B h₀ P env σ O h) (hf : ∀ x c, env.cells.lookup x = some c → O c ∨ env.func.isSome = false) (Z : Addr → Prop) (hZ : ∀ a, Z a → P a) (hZc : ∀ x c, env.cells.lookup x = some c → ¬ Z c) (hk : ∀ b o, ¬ Z b → h.get? b = some o → h'.get? b = some o)
    (hB : Heap) (hB1 : ∀ b o, hB.get? b = some o → h'.get? b = some o) (Px : Addr → Prop) (hP : ∀ a, Px a → (∃ o, h'.get? a = some o) ∧ hB.get? a = none ∧ ¬ O a ∧ P a) (hO : ∀ a, O a → hB.get? a = none) (W : Addr → Prop) (hW : ∀ a, W a → hB.get? a = none ∧ ¬ Px a) :
    St (B.at hB) (hideP h' fun a => O a ∨ W a) Px env σ O h' := by
  have nz : ∀ a, O a → ¬ Z a := fun a q z => by obtain ⟨⟨o, e⟩, _⟩ := T.plive a (hZ a z); rw [T.new a q] at e; cases e
  have hl := nz _ T.loc
  have mv : ∀ {x v}, VarIs env h x v → VarIs env h' x v := by
    rintro x v (⟨k, m, n, e⟩ | ⟨k, c, l, o, e1, e2⟩)
    · exact .inl ⟨k, m, ns_but n (fun o e' => hk _ _ hl e'), e⟩
    · exact .inr ⟨k, c, l, o, hk _ _ (hZc _ _ l) e1, e2⟩
  have hkx : ∀ a o, ¬ (P a ∨ O a) → h.get? a = some o → h'.get? a = some o := fun a o n e => hk a o (fun z => n (.inl (hZ a z))) e
  have hx : ∀ a o, ¬ (P a ∨ O a) → h.get? a = some o → ¬ (Px a ∨ O a) := fun a o n _ q => n (q.imp (fun z => (hP a z).2.2.2) id)
  have bck : ∀ {x w}, (∃ b, σ.get x = some b) → VarIs env h' (S x) w → VarIs env h (S x) w := by
    rintro x w ⟨b, hb⟩ hw
    obtain ⟨w', hw'⟩ := (T.vars x b hb).var
    rw [hw.fn (mv hw')]; exact hw'
  refine ⟨fun b o e => hideP_get (hB1 b o e) (fun q => by rcases q with q | q; (rw [hO b q] at e; cases e); (rw [(hW b q).1] at e; cases e)), fun b o e => hideP_of e, fun a q => ?_, fun a q => ?_, fun a q => hideP_none (.inl q), T.ok, T.loc, ?_, fun x c l => ?_, fun x b e => ?_, fun x y ds es a ne hx' hy vx vy => ?_⟩
  · obtain ⟨⟨o, e⟩, h1, h2, _⟩ := hP a q
    exact ⟨⟨o, hideP_get e (fun z => z.elim h2 fun z => (hW a z).2 q)⟩, h1⟩
  · obtain ⟨o, e⟩ := T.live a q; exact ⟨o, hk _ _ (nz a q) e⟩
  · obtain ⟨m, n⟩ := T.ns
    exact ⟨m, ns_but n fun o e' => hk _ _ hl e'⟩
  · obtain ⟨⟨v, o, e, d⟩, g⟩ := T.cells x c l
    exact ⟨⟨v, o, hk _ _ (hZc x c l) e, d⟩, g⟩
  · have := T.vars x b e
    cases b with
    | val d => obtain ⟨v, hv, r⟩ := this; exact ⟨v, mv hv, r.mono hkx hx⟩
    | own ds =>
      obtain ⟨a, vs, hv, h1, h2, ⟨k, h3⟩, h4⟩ := this
      exact ⟨a, vs, mv hv, h1, h2, ⟨k, hk _ _ (nz a h1) h3⟩, h4.mono hkx hx⟩
  · exact T.apart x y ds es a ne hx' hy (bck ⟨_, hx'⟩ vx) (bck ⟨_, hy⟩ vy)

def lawLam : Arguments × Scope := match (defAt pw 18).body with | _ :: .Assign _ (.Call _ [.Lambda p _ sc _] _ _) _ :: _ => (p, sc) | _ => default
abbrev lawP : Arguments := lawLam.1
abbrev lawS : Scope := lawLam.2
theorem clos_table {env : Env} {tc : Addr} (hac : env.cells.lookup (S "table") = some tc) {sc : Scope} (hsc : sc.names = [(S "a", .local), (S "b", .local), (S "table", .free), (S "_law_answer", .globalImplicit)]) : closureFor sc env = pure [(S "table", tc)] := by
  rw [closureFor_eq]
  · rw [hsc]
    show pure [(S "table", (env.cells.lookup (S "table")).getD 0)] = _
    rw [hac]; rfl
  · rw [hsc]
    intro x hx hx2
    simp only [List.mem_cons, List.not_mem_nil, or_false] at hx
    rcases hx with rfl | rfl | rfl | rfl
    · cases hx2
    · cases hx2
    · show (env.cells.lookup (S "table")).isSome = true
      rw [hac]; rfl
    · cases hx2
structure LawCls (B : Bas) (tc : Addr) (C cl lam cL : Addr) (ocl olam oL : Obj) (fdl : FuncData) (F : List (Addr × Obj)) : Prop where
  kf : KeyF cl ((B.mg "__name__").getD .none) C F
  dcl : ocl.data = .cell (some (.ref lam))
  d1 : olam.data = .func fdl
  d2 : ∃ p1 p2 p3 p4 p5, LamFn fdl (.Call (.Name (S "_law_answer") p1) [.Name (S "table") p2, .Name (S "a") p3, .Name (S "b") p4] [] p5) (S "table") tc
  d3 : fdl.code = .ref cL
  d4 : CodeO fdl.qualname oL
  d5 : fdl.scope.names.lookup (S "_law_answer") = some .globalImplicit
theorem key10 {B : Bas} {n : Nat} {A : Around} {env : Env} {O : Addr → Prop} {σ : Sto} {h₀ : Heap} {s : Shared} {E : Value → Shared → Prop} {Q : Flow → Shared → Prop} {z1 z2 z3 c ka tc : Addr} {d : Def} {p1 p2 p3 p4 p5 q1 q2 q3 q4 q5 : Pos}
    (bo : B.Ok) (ao : AOk (n + 40) A) (T : St B h₀ (fun a => a ∈ [z1, z3, z2]) env σ O s.heap) (hf : env.func.isSome = true) (hcode : env.code = .ref c) (hne : z1 ≠ z2) (hne3 : z3 ≠ z1 ∧ z3 ≠ z2)
    (C : CodeHd B.hB c z2) (hz1 : s.heap.get? z1 = some (tabObj #[])) (hz2 : s.heap.get? z2 = some (tabObj #[])) (hz3 : s.heap.get? z3 = some (tabObj #[])) (hbm : B.hB.BuiltinsAt B.mg z2) (htc : env.cells.lookup (S "table") = some tc)
    (Fk : HasDef B "cmp_to_key" ka d) (hk : env.kindOf (S "cmp_to_key") = some .globalImplicit) (hst : Storable env "key") (mk : MakeK1 B z1 ka)
    (q : ∀ C cl lam cL ocl olam oL fdl F as h' h'' t, LawCls B tc C cl lam cL ocl olam oL fdl F → (∀ b o, b ∉ [z1, z2] → s.heap.get? b = some o → h'.get? b = some o) → (∃ ps, h'.get? z2 = some (tabObj ps)) → Hit z1 h' as → (∀ x ∈ as, s.heap.get? x = none) → (∀ p ∈ F, h'.get? p.1 = some p.2 ∧ s.heap.get? p.1 = none) →
      h'.get? cl = some ocl ∧ s.heap.get? cl = none → h'.get? lam = some olam ∧ s.heap.get? lam = none → h'.get? cL = some oL ∧ s.heap.get? cL = none → (∀ b o, ¬ O b → h'.get? b = some o → h''.get? b = some o) →
      St (B.at (hideP h' fun a => O a ∨ a = z3)) (hideP h' O) (fun a => a = z3) env (σ.put "key" (.val (KC C cl ocl F))) O h'' → Q .next ⟨h'', s.gens, s.drawn, t, s.os⟩)
    (hsw : swapsWith (.Call (.Name (S "cmp_to_key") p2) [.Lambda lawP (.Call (.Name (S "_law_answer") q1) [.Name (S "table") q2, .Name (S "a") q3, .Name (S "b") q4] [] q5) lawS p3] [] p4) (some (.Name (S "key") p1)) p5.line env = pure false) :
    wpAny (model B.prog B.w) A (exec (.Assign [.Name (S "key") p1] (.Call (.Name (S "cmp_to_key") p2) [.Lambda lawP (.Call (.Name (S "_law_answer") q1) [.Name (S "table") q2, .Name (S "a") q3, .Name (S "b") q4] [] q5) lawS p3] [] p4) p5) env) Q E s := by
  have hz : ∀ b, b ∈ [z1, z3, z2] → B.hB.get? b = none := fun b m => (T.plive b m).2
  have hz1B := hz z1 (by simp)
  have hz2B := hz z2 (by simp)
  have nz2 : ∀ {b x}, B.hB.get? b = some x → b ≠ z2 := fun e q => by rw [q, hz2B] at e; cases e
  have gz : mainGlobals ≠ z2 := by obtain ⟨o, es, ep, e, _⟩ := bo.g; exact nz2 e
  obtain ⟨bm, ob, b1, b2, b3, b4, b5, b6, b7, b8⟩ := hbm
  obtain ⟨o, pm, cdv, doc, ho, hd, hcd⟩ := Fk.fn.at_
  refine wpAny_Assign_Name (Call_ (wp_glob bo T hk Fk.mg (callWith_def (o := o) hd (args_cons (kla_eval (by rfl) ?_) (by rfl)) (by rfl)) (by decide)) (by rfl)) hsw
  refine mk_lam (mg := B.mg) (clos := [(S "table", tc)]) (clos_table htc (by rfl)) rfl T.ok.globals (bo.g.keeps T.here) hcode (C.keeps T.here) hz2 (show TriplesOk [] from trivial) (by rfl) gz ⟨bm, ob, b1, b2, b3, b4, T.here _ _ b5, b6, b7, b8⟩ fun cL oL ctv h1 tk hx hge eL kL htb => ?_
  generalize hlo : kla_obj "<lambda>" (env.qual ++ "<lambda>") lawP (.Call (.Name (S "_law_answer") q1) [.Name (S "table") q2, .Name (S "a") q3, .Name (S "b") q4] [] q5) lawS [(S "table", tc)] ((B.mg "__name__").getD .none) cL ctv = olam
  have k1 : ∀ b x, b ≠ z2 → s.heap.get? b = some x → (h1.push olam).get? b = some x := fun b x n e => Heap.get?_push_of_some _ (hx b x n e)
  have fl : s.heap.get? h1.objs.size = none := by
    cases e : s.heap.get? h1.objs.size with
    | none => rfl
    | some x =>
      by_cases hq : h1.objs.size = z2
      · exact absurd (Heap.lt_size htb) (by rw [hq]; exact Nat.lt_irrefl _)
      · exact absurd (Heap.lt_size (hx _ _ hq e)) (Nat.lt_irrefl _)
  have fc : s.heap.get? cL = none := fresh_of hge
  refine args_nil ⟨k1 _ _ (nz2 ho) (T.here _ _ ho), ?_⟩
  refine mk ⟨h1.push olam, s.gens, s.drawn, tk, s.os⟩ _ A _ _ (aok_less ao (by omega)) (fun b x e => k1 _ _ (nz2 e) (T.here _ _ e)) (k1 _ _ hne hz1) fun Cc cl ocl F as h2 t2 kf dcl ecl hcl keep hit has hF => ?_
  have eq2 : (h1.push olam).get? z2 = some (tabObj (#[] ++ #[rawInt p3.line, rawInt p3.col, .ref cL])) := Heap.get?_push_of_some _ htb
  have bk : ∀ b, (h1.push olam).get? b = none → s.heap.get? b = none := fun b e => by
    cases e' : s.heap.get? b with
    | none => rfl
    | some x =>
      by_cases hq : b = z2
      · rw [hq, eq2] at e; cases e
      · rw [k1 _ _ hq e'] at e; cases e
  have k2 : ∀ b x, b ∉ [z1, z2] → s.heap.get? b = some x → h2.get? b = some x := fun b x n e => by
    simp only [List.mem_cons, List.not_mem_nil, or_false, not_or] at n
    exact keep _ _ n.1 (k1 _ _ n.2 e)
  have nO : ∀ {b}, s.heap.get? b = none → ¬ O b := fun e q => by obtain ⟨x, e'⟩ := T.live _ q; rw [e] at e'; cases e'
  have nzO : ∀ z, z ∈ [z1, z3, z2] → ¬ O z := fun z hz q => by obtain ⟨⟨o, e⟩, _⟩ := T.plive z hz; rw [T.new z q] at e; cases e
  have z3n : z3 ∉ [z1, z2] := by simp only [List.mem_cons, List.not_mem_nil, or_false, not_or]; exact hne3
  have T2 := T.rebase (fun x c l => .inl ((T.cells x c l).2 hf)) (fun a => a ∈ [z1, z2]) (fun a m => by simp only [List.mem_cons, List.not_mem_nil, or_false] at m ⊢; rcases m with m | m <;> simp [m]) (fun x c l m => nzO c (by simp only [List.mem_cons, List.not_mem_nil, or_false] at m ⊢; rcases m with m | m <;> simp [m]) ((T.cells x c l).2 hf)) k2
    (hideP h2 fun a => O a ∨ a = z3) (fun b o e => hideP_of e) (fun a => a = z3) (fun a e => by subst e; exact ⟨⟨_, k2 _ _ z3n hz3⟩, hideP_none (.inr rfl), nzO _ (by simp), by simp⟩) (fun a q => hideP_none (.inl q))
  have ne3 : ∀ {b}, s.heap.get? b = none → b ≠ z3 := fun e q => by rw [q, hz3] at e; cases e
  have rv : Rp h2 (fun a => a = z3 ∨ O a) (.ref Cc) (KC Cc cl ocl F) := .abs _ ⟨rfl, rfl⟩ fun q hq => by
    rcases List.mem_cons.mp hq with rfl | hq
    · exact ⟨ecl, fun ⟨nm, vs, _, hd, _⟩ => (by rw [dcl] at hd; cases hd), fun z => z.elim (ne3 (bk _ hcl)) (nO (bk _ hcl))⟩
    · have f := bk _ (hF q hq).2
      exact ⟨(hF q hq).1, kf.noIter q hq, fun z => z.elim (ne3 f) (nO f)⟩
  refine wp_store (B := B.at _) (s := ⟨h2, s.gens, s.drawn, t2, s.os⟩) (b := .val (KC Cc cl ocl F)) T2 hst rv fun s3 m3 T3 => ?_
  obtain ⟨h3, tk3, rfl, k3⟩ := m3.names T2
  have ll : (h1.push olam).get? h1.objs.size = some olam := Heap.get?_push_size _ (by rw [← hlo]; rfl)
  have lz1 : h1.objs.size ≠ z1 := fun q => by rw [q, hz1] at fl; cases fl
  have cz1 : cL ≠ z1 := fun q => by rw [q, hz1] at fc; cases fc
  refine q Cc cl _ cL ocl olam oL _ F as h2 h3 tk3 ⟨kf, dcl, by rw [← hlo], ⟨q1, q2, q3, q4, q5, ⟨rfl, fun _ _ => rfl, rfl, by kernel_rfl!, by kernel_rfl!, by kernel_rfl!, ?_, rfl, rfl, rfl, rfl, rfl⟩⟩, rfl, kL, by kernel_rfl!⟩ k2 ⟨_, keep _ _ (Ne.symm hne) eq2⟩ hit (fun x hx => bk _ (has x hx)) (fun p hp => ⟨(hF p hp).1, bk _ (hF p hp).2⟩) ⟨ecl, bk _ hcl⟩ ⟨keep _ _ lz1 ll, fl⟩ ⟨keep _ _ cz1 (Heap.get?_push_of_some _ eL), fc⟩ k3 T3
  show ∀ x ∈ ([(S "a", .local), (S "b", .local), (S "table", .free), (S "_law_answer", .globalImplicit)] : List (Str × NameKind)), x.2 ≠ .cell
  simp

def Filled (z3 line col : Addr) (qn : Str) (h : Heap) : Prop := ∃ cL oL, h.get? z3 = some (tabObj #[rawInt line, rawInt col, .ref cL]) ∧ h.get? cL = some oL ∧ CodeO qn oL
structure GoodB (B : Bas) (z3 line col : Addr) (qn : Str) (hBx : Heap) : Prop where
  sub : ∀ b o, B.hB.get? b = some o → hBx.get? b = some o
  fil : Filled z3 line col qn hBx
theorem rpVals {h h' : Heap} {X X' : Addr → Prop} {α : Type} {fv : α → Value} (hb : ∀ d, byVal (fv d) = true) : ∀ {ds : List α} {ys : List Value}, RpAll h X ys (ds.map fun d => D.val (fv d)) → RpAll h' X' ys (ds.map fun d => D.val (fv d))
  | [], _, r => by cases r; exact .nil
  | d :: ds, _, r => by
    cases r with | cons a r =>
    cases rp_val a
    exact .cons (.val _ (hb d)) (rpVals hb r)
theorem comp_first {B : Bas} {n : Nat} {env : Env} {σ : Sto} {elt target iter : Expr} {sc : Scope} {pos : Pos} {α : Type} {ds : List α} {caps : List String} {z3 line col : Addr} {qn : Str} (g : α → D) (fv : α → Value) (hb : ∀ d, byVal (fv d) = true) (ok : CompOk sc env caps) (hsz : ds.length ≤ 1000000) (hne : 0 < ds.length)
    (it0 : EvIt true B n env σ iter (ds.map g))
    (turn0 : ∀ cenv, CEnv sc cenv → ∀ d, ds[0]? = some d → ∃ σd, Asg B n cenv (capt σ caps) target (g d) σd ∧ (∀ x b, (capt σ caps).get x = some b → σd.get x = some b) ∧
      ∀ (h₀ : Heap) (P O : Addr → Prop) (A : Around) (s : Shared) (E Q : Value → Shared → Prop), AOk n A → St B h₀ P cenv σd O s.heap → P z3 → s.heap.get? z3 = some (tabObj #[]) →
        (∀ h' t cL oL, h'.get? z3 = some (tabObj #[rawInt line, rawInt col, .ref cL]) → h'.get? cL = some oL → CodeO qn oL → s.heap.get? cL = none → (∀ b o, b ≠ z3 → s.heap.get? b = some o → h'.get? b = some o) → Q (fv d) ⟨h', s.gens, s.drawn, t, s.os⟩) → wpAny (model B.prog B.w) A (eval elt cenv) Q E s)
    (turn : ∀ hBx, GoodB B z3 line col qn hBx → ∀ cenv, CEnv sc cenv → ∀ d ∈ ds, ∃ σd, Asg (B.at hBx) n cenv (capt σ caps) target (g d) σd ∧ (∀ x b, (capt σ caps).get x = some b → σd.get x = some b) ∧ Ev (B.at hBx) n cenv σd elt (.val (fv d)))
    (hs : ∀ x, foldedSetIterable iter env x = pure x)
    {h₀ : Heap} {O : Addr → Prop} {A : Around} {s : Shared} {E Q : Value → Shared → Prop} (bo : B.Ok) (ao : AOk n A) (hf : env.func.isSome = true) (T : St B h₀ (fun a => a = z3) env σ O s.heap) (ez : s.heap.get? z3 = some (tabObj #[]))
    (q : ∀ Da ys h' t hBx, GoodB B z3 line col qn hBx → (∀ b o, b ≠ z3 → s.heap.get? b = some o → h'.get? b = some o) → s.heap.get? Da = none → h'.PlainList Da (List.toArray ys) → RpAll h' NoX ys (ds.map fun d => D.val (fv d)) → St (B.at hBx) (hideP h' O) (fun _ => False) env σ O h' → Q (.ref Da) ⟨h', s.gens, s.drawn, t, s.os⟩) :
    wpAny (model B.prog B.w) A (eval (.ListComp elt [⟨target, iter, [], 0⟩] sc pos) env) Q E s := by
  rw [eval_ListComp]
  refine wpAny_comprehension_free (use := none) rfl hs (closureFor_eq ok.free) ok.kind ok.locals (it0 h₀ _ O A s E _ bo ao T fun s₂ I fp wr Pv Si k₂ it st hw hfp hfX hr₀ => ?_)
  rw [List.length_map] at it
  have hr : ∀ i v, Pv i v → ∃ d, ds[i]? = some d ∧ Rp s₂.heap (fun a => a = z3 ∨ O a) v (g d) := fun i v h => by
    obtain ⟨d, hd, r⟩ := hr₀ i v h
    rw [List.getElem?_map] at hd
    obtain ⟨x, hx, rfl⟩ := Option.map_eq_some_iff.mp hd
    exact ⟨x, hx, r⟩
  refine wpAny_newObj_type (wpAny_newFunctionEnv ok.nocell (by intro y hy; simp at hy) (fun h₁ hns₁ hsb₁ => ?_) ok.kind)
  dsimp only at hns₁ hsb₁ ⊢
  generalize hH2 : s₂.heap.push { cls := .type "list", dict := none, data := .seq ([] : List Value).toArray } = H2 at hns₁ hsb₁ ⊢
  have hCsz : H2.objs.size = s₂.heap.objs.size + 1 := by rw [← hH2, Heap.size_push]
  generalize hC : H2.objs.size = C at hns₁ hsb₁ hCsz ⊢
  generalize hD : s₂.heap.objs.size = Da at hCsz ⊢
  have hDC : Da ≠ C := by omega
  have Dnew : s₂.heap.get? Da = none := fresh_of (by omega)
  have Cnew : s₂.heap.get? C = none := fresh_of (by omega)
  have old : ∀ b o, s₂.heap.get? b = some o → h₁.get? b = some o := fun b o e => hsb₁.extBut b o (fun q => by subst q; rw [Cnew] at e; cases e) (Heap.get?_push_of_some _ (hH2 ▸ Heap.get?_push_of_some _ e))
  have hacc : h₁.PlainList Da #[] := by
    refine ⟨_, hsb₁.extBut _ _ hDC (Heap.get?_push_of_some _ (hH2 ▸ hD ▸ Heap.get?_push_size _ rfl))⟩
  show codeAny _ A (.compStart (.ListComp elt [⟨target, iter, [], 0⟩] sc pos) 0 (.ref I) (.ref Da) (compEnvC sc (closG env sc.names []) C env)) (compPost (model B.prog B.w) A E none Q (.ref Da) C) { s₂ with heap := h₁, toks := s₂.toks + 0 }
  generalize hce : compEnvC sc (closG env sc.names []) C env = cenv
  have cscope : cenv.scope = relabel sc env := by rw [← hce]; rfl
  have clocals : cenv.locals = C := by rw [← hce]; rfl
  have cglobals : cenv.globals = env.globals := by rw [← hce]; rfl
  have cbuiltins : cenv.builtins = env.builtins := by rw [← hce]; rfl
  have ccells : cenv.cells = closG env sc.names [] := by rw [← hce]; rfl
  have cfunc : cenv.func = none := by rw [← hce]; rfl
  have csub : ∀ x c, cenv.cells.lookup x = some c → env.cells.lookup x = some c := by rw [ccells]; exact closG_sub ok.free (by intro x c h; cases h)
  have CE : CEnv sc cenv := ⟨fun x h => by unfold Env.kindOf; rw [cscope]; exact lookup_relabel (by decide) h, fun x h => by unfold Env.kindOf; rw [cscope]; exact lookup_relabel (by decide) h⟩
  have T₂ := T.kp k₂
  have sNone : ∀ {b}, s₂.heap.get? b = none → s.heap.get? b = none := fun {b} e' => by
    cases e : s.heap.get? b with
    | none => rfl
    | some o => rw [kheap k₂ _ _ e] at e'; cases e'
  have sD := sNone Dnew
  have sC := sNone Cnew
  have hx2 : ∀ a o, ¬ (a = z3 ∨ O a) → s₂.heap.get? a = some o → ¬ ((a = z3 ∨ O a) ∨ (a = C ∨ a = Da)) := by
    rintro a o na e (q | q | q)
    · exact na q
    · subst q; rw [Cnew] at e; cases e
    · subst q; rw [Dnew] at e; cases e
  have T0 : St B s.heap (fun b => b = z3 ∨ O b) cenv (capt σ caps) (fun b => b = C ∨ b = Da) h₁ := by
    refine ⟨T.here, fun b o e => old b o (kheap k₂ b o e), ?_, ?_, ?_, ⟨?_, by rw [cglobals]; exact T.ok.globals, by rw [cbuiltins]; exact T.ok.builtins, fun x y c h1 h2 => T.ok.apart x y c (csub _ _ h1) (csub _ _ h2)⟩, .inl clocals, ⟨_, clocals ▸ hns₁⟩, ?_, ?_, ?_⟩
    · exact fun b q => T.xlive q
    · rintro b (q | q)
      · subst q; obtain ⟨o, _, _, e, _⟩ := hns₁; exact ⟨o, e⟩
      · subst q; obtain ⟨o, e⟩ := hacc; exact ⟨_, e⟩
    · rintro b (q | q)
      · subst q; exact sC
      · subst q; exact sD
    · rw [cscope]; exact ok.kind
    · intro x c l
      obtain ⟨⟨v, e⟩, _⟩ := T₂.cells x c (csub x c l)
      exact ⟨⟨v, e.keeps old⟩, fun q => by rw [cfunc] at q; cases q⟩
    · intro x b hb
      obtain ⟨hxc, d, rfl, hσ⟩ := capt_get hb
      obtain ⟨v, hv, r⟩ := T₂.vars x _ hσ
      obtain ⟨h1, h2⟩ := ok.caps x hxc
      refine ⟨v, ?_, r.mono (fun a o _ e => old a o e) hx2⟩
      have hin : (S x, NameKind.free) ∈ sc.names := PySem.mem_of_lookup h1
      obtain ⟨c, hc⟩ := Option.isSome_iff_exists.mp (closG_free (env := env) (acc := []) (.inl hin))
      rw [← ccells] at hc
      refine .inr ⟨?_, c, hc, ?_⟩
      · unfold Env.kindOf; rw [cscope]; exact lookup_relabel_free h1
      · rcases hv with ⟨kd, _⟩ | ⟨kd, c', l, e⟩
        · rcases h2 with h2 | h2 <;> rw [h2] at kd <;> cases kd
        · rw [csub _ _ hc] at l; cases l; exact e.keeps old
    · intro x y ds' es a ne hx
      obtain ⟨_, _, e, _⟩ := capt_get hx; cases e
  have st₁ : Si 0 h₁ := it.W.frame _ _ _ st fun b _ o e => old b o e
  have ez1 : h₁.get? z3 = some (tabObj #[]) := old _ _ (kheap k₂ _ _ ez)
  have fpz : ∀ b ∈ fp, b ≠ z3 := fun b hb e => hfX rfl b hb (.inl e)
  have nzOO : ∀ a, O a → a ≠ z3 := fun a q e => by have := T.new a q; obtain ⟨⟨o, e'⟩, _⟩ := T.plive z3 rfl; rw [e, e'] at this; cases this
  have wrz : ∀ b ∈ wr, b ≠ z3 := fun b hb e => by have := hw b hb; rw [e, ez] at this; cases this
  have Cz : C ≠ z3 := fun e => by rw [e, ez] at sC; cases sC
  have Dz : Da ≠ z3 := fun e => by rw [e, ez] at sD; cases sD
  have fpD : ∀ b ∈ fp, b ≠ Da := fun b hb q => by have := hfp b hb; rw [hD, q] at this; exact Nat.lt_irrefl _ this
  have fpC : ∀ b ∈ fp, b ≠ C := fun b hb q => by have := hfp b hb; rw [hD, q, hCsz] at this; exact Nat.lt_irrefl _ (Nat.lt_of_succ_lt this)
  have nm : ∀ b, Names cenv b → b = C := by
    rintro b (q | ⟨q, _⟩)
    · rw [clocals] at q; exact q
    · rw [cfunc] at q; cases q
  have loop : ∀ s₃ : Shared, s₃ = { s₂ with heap := h₁, toks := s₂.toks + 0 } → codeAny (model B.prog B.w) A (.compLoop (.ListComp elt [⟨target, iter, [], 0⟩] sc pos) 0 (.ref I) (.ref Da) cenv) (compPost (model B.prog B.w) A E none Q (.ref Da) C) s₃ := by
    rintro s₃ rfl
    obtain ⟨IV, hIV⟩ : ∃ I : Nat → Shared → Prop, ∀ kk s', I kk s' ↔ (∃ i ys, kk = ds.length + 1 - i ∧ i ≤ ds.length ∧ (∃ h' tk, s' = { s₂ with heap := h', toks := tk }) ∧ Si i s'.heap ∧ s'.heap.PlainList Da (List.toArray ys) ∧ RpAll s'.heap NoX ys ((ds.take i).map fun d => D.val (fv d)) ∧
        (∀ b o, b ∉ wr → b ≠ z3 → s₂.heap.get? b = some o → s'.heap.get? b = some o) ∧
        ((i = 0 ∧ St B s.heap (fun b => b = z3 ∨ O b) cenv (capt σ caps) (fun b => b = C ∨ b = Da) s'.heap ∧ s'.heap.get? z3 = some (tabObj #[])) ∨
         (0 < i ∧ ∃ hBx h₀x, GoodB B z3 line col qn hBx ∧ (∀ a, O a → hBx.get? a = none) ∧ (∀ b ∈ wr, h₀x.get? b = none) ∧ (∀ b ∈ wr, hBx.get? b = none) ∧ St (B.at hBx) h₀x O cenv (capt σ caps) (fun b => b = C ∨ b = Da) s'.heap))) := ⟨_, fun _ _ => Iff.rfl⟩
    refine comp_loop IV ?_ (ds.length + 1) ((hIV _ _).mpr ⟨0, [], rfl, Nat.zero_le _, ⟨_, _, rfl⟩, st₁, hacc, by simpa using RpAll.nil, fun b o _ _ e => old b o e, .inl ⟨rfl, T0, ez1⟩⟩)
    intro kk s' hI0
    replace hI0 := (hIV _ _).mp hI0
    obtain ⟨i, ys, rfl, hi, ⟨hh, tk, rfl⟩, st', hl', hy', hk', ph⟩ := hI0
    have stepK : ∀ h₁ : Heap, (∀ b o, b ∉ wr → hh.get? b = some o → h₁.get? b = some o) → ∀ b o, ¬ IterObj o → hh.get? b = some o → h₁.get? b = some o := fun h₁ hk₁ a o ni e =>
      hk₁ a o (fun hbw => by obtain ⟨o', e', q⟩ := it.kind i _ st' a hbw; rw [e] at e'; cases e'; exact ni q) e
    have hlenY : ys.length ≤ 1000000 := by
      rw [hy'.length, List.length_map, List.length_take]; omega
    by_cases hlt : i < ds.length
    · refine it.W.item i _ _ _ hlt st' fun v h₂ tk₂ hPv st₂ hk₂ => ?_
      obtain ⟨d, hd, rd⟩ := hr i v hPv
      obtain ⟨e1, e2⟩ := take_split hd
      have hl2 : h₂.PlainList Da ys.toArray := plist_step (stepK h₂ hk₂) hl'
      rcases ph with ⟨rfl, T', ezh⟩ | ⟨hip, hBx, h₀x, GB, gO, gw, gw2, T'⟩
      · -- the first element
        have Tn : St B s.heap (fun b => b = z3 ∨ O b) cenv (capt σ caps) (fun b => b = C ∨ b = Da) h₂ := by
          refine T'.step (stepK h₂ hk₂) (fun b o e => hk₂ b o (fun hbw => by have := hw b hbw; rw [e] at this; cases this) (T'.keep b o e)) ?_
          rintro a q
          obtain ⟨o, e⟩ := T'.live a q
          refine ⟨o, hk₂ a o (fun hbw => ?_) e⟩
          rcases q with q | q
          · exact fpC a (it.W.sub a hbw) q
          · exact fpD a (it.W.sub a hbw) q
        have rd' : Rp h₂ (fun a => (a = z3 ∨ O a) ∨ (a = C ∨ a = Da)) v (g d) := (rd.stepX (h' := hh) (fun a o na ni e => hk' a o (fun haw => by obtain ⟨o', e', q⟩ := it.kind 0 _ st a haw; rw [e] at e'; cases e'; exact ni q) (fun q => na (.inl q)) e) hx2).step (stepK h₂ hk₂)
        obtain ⟨σd, ha, hfor, hel⟩ := turn0 cenv CE d (by simpa using hd)
        refine it.go _ _ _ _ _ _ st₂ (ha _ _ _ A _ _ _ v bo ao Tn rd' fun s₃ m₃ T₃ => ?_)
        obtain ⟨h3, tk3, rfl, k3⟩ := m₃
        have k3' : ∀ b o, b ≠ C → h₂.get? b = some o → h3.get? b = some o := fun b o n e => k3 b o (fun q => n (nm b q)) e
        have ez3 : h3.get? z3 = some (tabObj #[]) := k3' _ _ (Ne.symm Cz) (hk₂ _ _ (fun hbw => wrz _ hbw rfl) ezh)
        refine tsts_nil _ _ _ A _ _ _ bo ao T₃ fun s₄ k₄ => ?_
        simp only [if_true]
        obtain ⟨h4, tk4, rfl, k4⟩ := k₄
        refine hel _ _ _ A ⟨h4, s₂.gens, s₂.drawn, tk4, s₂.os⟩ _ _ ao (T₃.keeps k4) (.inl rfl) (k4 _ _ ez3) fun h5 tk5 cL oL g1 g2 g3 g4 g5 => ?_
        have up5 : ∀ b o, b ∉ wr → b ≠ z3 → b ≠ C → s₂.heap.get? b = some o → h5.get? b = some o := fun b o n1 n2 n3 e => g5 b o n2 (k4 _ _ (k3' b o n3 (hk₂ b o n1 (hk' b o n1 n2 e))))
        have ys0 : ys = [] := by
          have := hy'.length
          simpa using this
        subst ys0
        have hl3 : h3.PlainList Da ([] : List Value).toArray := by obtain ⟨o, e⟩ := hl2; exact ⟨o, k3' _ _ hDC e⟩
        have hl5 : h5.PlainList Da ([] : List Value).toArray := by obtain ⟨o, e⟩ := hl3; exact ⟨o, g5 _ _ Dz (k4 _ _ e)⟩
        have st5 : Si 1 h5 := it.W.frame _ _ _ st₂ fun b hb o e => g5 b o (fpz b hb) (k4 _ _ (k3' b o (fpC b hb) e))
        have sUp : ∀ b o, s.heap.get? b = some o → b ≠ z3 → h5.get? b = some o := fun b o e n => up5 b o (fun hbw => by rw [hw b hbw] at e; cases e) n (fun q => by rw [q, sC] at e; cases e) (kheap k₂ _ _ e)
        have Olive : ∀ a, O a → ∃ o, s.heap.get? a = some o := T.live
        have T5 : St B s.heap (fun b => b = z3 ∨ O b) cenv (capt σ caps) (fun b => b = C ∨ b = Da) h4 := (T₃.keeps k4).forget hfor
        generalize hXe : hideP h5 (fun a => O a ∨ (a = C ∨ a = Da) ∨ a ∈ wr) = hBx
        have wl4 : ∀ b ∈ wr, ∃ o, h4.get? b = some o := fun b hb => by
          obtain ⟨o, e, _⟩ := it.kind _ _ st₂ b hb
          exact ⟨o, k4 _ _ (k3' b o (fpC b (it.W.sub b hb)) e)⟩
        have GB : GoodB B z3 line col qn hBx := by
          subst hXe
          refine ⟨fun b o e => hideP_get (sUp b o (T.here _ _ e) (fun q => by rw [q, (T.plive z3 rfl).2] at e; cases e)) ?_, cL, oL, hideP_get g1 ?_, hideP_get g2 ?_, g3⟩
          · rintro (q | (q | q) | q)
            · have := T.new b q; rw [T.base _ _ e] at this; cases this
            · rw [q] at e; have := T.here _ _ e; rw [sC] at this; cases this
            · rw [q] at e; have := T.here _ _ e; rw [sD] at this; cases this
            · have := T.here _ _ e; rw [hw b q] at this; cases this
          · rintro (q | (q | q) | q)
            · exact nzOO _ q rfl
            · exact Cz q.symm
            · exact Dz q.symm
            · exact wrz _ q rfl
          · rintro (q | (q | q) | q)
            · obtain ⟨⟨o, e⟩, _⟩ := T5.plive cL (.inr q); have := T5.keep _ _ e; rw [g4] at this; cases this
            · obtain ⟨o, e⟩ := T5.live C (.inl rfl); rw [← q, g4] at e; cases e
            · obtain ⟨o, e⟩ := T5.live Da (.inr rfl); rw [← q, g4] at e; cases e
            · obtain ⟨o, e⟩ := wl4 _ q; rw [g4] at e; cases e
        have xO : ∀ a, O a → hBx.get? a = none := fun a q => by rw [← hXe]; exact hideP_none (p := fun a => O a ∨ (a = C ∨ a = Da) ∨ a ∈ wr) (.inl q)
        have xC : ∀ a, (a = C ∨ a = Da) → hBx.get? a = none := fun a q => by rw [← hXe]; exact hideP_none (p := fun a => O a ∨ (a = C ∨ a = Da) ∨ a ∈ wr) (.inr (.inl q))
        have xW : ∀ a, a ∈ wr → hBx.get? a = none := fun a q => by rw [← hXe]; exact hideP_none (p := fun a => O a ∨ (a = C ∨ a = Da) ∨ a ∈ wr) (.inr (.inr q))
        have T6 := T5.rebaseW (fun x c l => .inr (by rw [cfunc]; rfl)) (fun a => a = z3) (fun a e => .inl e) (fun x c l e => by
            obtain ⟨⟨v, o, e1, e2⟩, _⟩ := T5.cells x c l
            rw [e, k4 _ _ ez3] at e1; cases e1; cases e2) (fun b o n e => g5 b o n e) hBx (fun b o e => by rw [← hXe] at e; exact hideP_of e) O (fun a q => by
            obtain ⟨o, e⟩ := Olive a q
            refine ⟨⟨o, sUp a o e (nzOO a q)⟩, xO a q, ?_, .inr q⟩
            rintro (z | z)
            · rw [z, sC] at e; cases e
            · rw [z, sD] at e; cases e) xC (fun a => a ∈ wr) (fun a q => ⟨xW a q, fun z => by obtain ⟨o, e⟩ := Olive a z; rw [hw a q] at e; cases e⟩)
        refine wpAny_list_append_plain (s := ⟨h5, s₂.gens, s₂.drawn, tk5, s₂.os⟩) hl5 (fun h6 hl6 hs6 => ?_) (show 0 ≤ _ from Nat.zero_le _)
        have hk6 : ∀ a o, a ≠ Da → h5.get? a = some o → h6.get? a = some o := fun a o ne e => (hs6.2 a ne).trans e
        refine ⟨ds.length + 1 - 1, by omega, (hIV _ _).mpr ⟨1, [fv d], rfl, by omega, ⟨h6, tk5, rfl⟩, it.W.frame _ _ _ st5 fun b hb o e => hk6 b o (fpD b hb) e, by simpa using hl6, ?_, fun b o n1 n2 e => hk6 b o (fun q => by rw [q, Dnew] at e; cases e) (up5 b o n1 n2 (fun q => by rw [q, Cnew] at e; cases e) e), .inr ⟨Nat.one_pos, hBx, _, GB, xO, fun b hb => hideP_none (h := h5) (p := fun a => (a = C ∨ a = Da) ∨ a ∈ wr) (.inr hb), xW, ?_⟩⟩⟩
        · have e3 : ds.take 1 = [d] := by simpa using e2
          rw [e3]
          exact .cons (.val _ (hb d)) .nil
        · refine T6.chg (.inr rfl) hs6 (by obtain ⟨o, e⟩ := hl6; exact ⟨_, e⟩) (by rw [clocals]; exact hDC) ?_ ?_
          · intro y c l q
            obtain ⟨⟨v', e'⟩, _⟩ := T6.cells y c l
            exact plain_ne_cell hl5.isList e' q.symm
          · intro x es hx
            obtain ⟨_, _, e, _⟩ := capt_get hx; cases e
      · -- the others
        have Tn : St (B.at hBx) h₀x O cenv (capt σ caps) (fun b => b = C ∨ b = Da) h₂ := by
          refine T'.step (stepK h₂ hk₂) (fun b o e => hk₂ b o (fun hbw => by have := gw b hbw; rw [e] at this; cases this) (T'.keep b o e)) ?_
          rintro a q
          obtain ⟨o, e⟩ := T'.live a q
          refine ⟨o, hk₂ a o (fun hbw => ?_) e⟩
          rcases q with q | q
          · exact fpC a (it.W.sub a hbw) q
          · exact fpD a (it.W.sub a hbw) q
        have rd' : Rp h₂ (fun a => O a ∨ (a = C ∨ a = Da)) v (g d) := (rd.stepX (h' := hh) (fun a o na ni e => hk' a o (fun haw => by obtain ⟨o', e', q⟩ := it.kind 0 _ st a haw; rw [e] at e'; cases e'; exact ni q) (fun q => na (.inl q)) e) (fun a o na e q => (hx2 a o na e) (q.imp .inr id))).step (stepK h₂ hk₂)
        obtain ⟨σd, ha, hfor, hel⟩ := turn hBx GB cenv CE d (List.mem_of_getElem? hd)
        have box : (B.at hBx).Ok := bo.grow GB.sub
        refine it.go _ _ _ _ _ _ st₂ (ha _ _ _ A _ _ _ v box ao Tn rd' fun s₃ m₃ T₃ => ?_)
        obtain ⟨h3, tk3, rfl, k3⟩ := m₃
        have k3' : ∀ b o, b ≠ C → h₂.get? b = some o → h3.get? b = some o := fun b o n e => k3 b o (fun q => n (nm b q)) e
        refine tsts_nil (B := B.at hBx) _ _ _ A _ _ _ box ao T₃ fun s₄ k₄ => ?_
        simp only [if_true]
        refine hel _ _ _ A _ _ _ box ao (T₃.kp k₄) fun w s₅ k₅ rw' => ?_
        cases rp_val rw'
        obtain ⟨h5, tk5, rfl, k5⟩ := ktrans k₄ k₅
        have hl3 : h3.PlainList Da ys.toArray := by obtain ⟨o, e⟩ := hl2; exact ⟨o, k3' _ _ hDC e⟩
        have hl5 : h5.PlainList Da ys.toArray := hl3.at fun o e => k5 _ o e
        have up5 : ∀ b o, b ∉ wr → b ≠ z3 → b ≠ C → s₂.heap.get? b = some o → h5.get? b = some o := fun b o n1 n2 n3 e => k5 _ _ (k3' b o n3 (hk₂ b o n1 (hk' b o n1 n2 e)))
        have st5 : Si (i + 1) h5 := it.W.frame _ _ _ st₂ fun b hb o e => k5 _ _ (k3' b o (fpC b hb) e)
        have T₅ : St (B.at hBx) h₀x O cenv (capt σ caps) (fun b => b = C ∨ b = Da) h5 := (T₃.keeps k5).forget hfor
        refine wpAny_list_append_plain (s := ⟨h5, s₂.gens, s₂.drawn, tk5, s₂.os⟩) hl5 (fun h6 hl6 hs6 => ?_) (by rw [List.size_toArray]; exact szLine hlenY)
        have hk6 : ∀ a o, a ≠ Da → h5.get? a = some o → h6.get? a = some o := fun a o ne e => (hs6.2 a ne).trans e
        refine ⟨ds.length + 1 - (i + 1), by omega, (hIV _ _).mpr ⟨i + 1, ys ++ [fv d], rfl, hlt, ⟨h6, tk5, rfl⟩, it.W.frame _ _ _ st5 fun b hb o e => hk6 b o (fpD b hb) e, by simpa using hl6, ?_, fun b o n1 n2 e => hk6 b o (fun q => by rw [q, Dnew] at e; cases e) (up5 b o n1 n2 (fun q => by rw [q, Cnew] at e; cases e) e), .inr ⟨Nat.succ_pos _, hBx, h₀x, GB, gO, gw, gw2, ?_⟩⟩⟩
        · rw [e2, List.map_append]
          exact (rpVals hb hy').append (.one (.val _ (hb d)))
        · refine T₅.chg (.inr rfl) hs6 (by obtain ⟨o, e⟩ := hl6; exact ⟨_, e⟩) (by rw [clocals]; exact hDC) ?_ ?_
          · intro y c l q
            obtain ⟨⟨v', e'⟩, _⟩ := T₅.cells y c l
            exact plain_ne_cell hl5.isList e' q.symm
          · intro x es hx
            obtain ⟨_, _, e, _⟩ := capt_get hx; cases e
    · have hi' : i = ds.length := by omega
      subst hi'
      rw [List.take_length] at hy'
      rcases ph with ⟨h0, _⟩ | ⟨hip, hBx, h₀x, GB, gO, gw, gw2, T'⟩
      · omega
      refine it.W.done _ _ _ st' fun h₂ tk₂ hk₂ => ?_
      have Tn : St (B.at hBx) h₀x O cenv (capt σ caps) (fun b => b = C ∨ b = Da) h₂ := by
        refine T'.step (stepK h₂ hk₂) (fun b o e => hk₂ b o (fun hbw => by have := gw b hbw; rw [e] at this; cases this) (T'.keep b o e)) ?_
        rintro a q
        obtain ⟨o, e⟩ := T'.live a q
        refine ⟨o, hk₂ a o (fun hbw => ?_) e⟩
        rcases q with q | q
        · exact fpC a (it.W.sub a hbw) q
        · exact fpD a (it.W.sub a hbw) q
      obtain ⟨m', hn'⟩ := Tn.ns
      rw [clocals] at hn'
      refine ⟨m', hn', fun h'' hs'' => ?_⟩
      have up : ∀ a o, a ≠ C → h₂.get? a = some o → h''.get? a = some o := fun a o ne e => (hs''.2 a ne).trans e
      have all : ∀ b o, b ≠ z3 → s.heap.get? b = some o → h''.get? b = some o := fun b o n e => up b o (fun q => by rw [q, sC] at e; cases e) (hk₂ b o (fun hbw => by rw [hw b hbw] at e; cases e) (hk' b o (fun hbw => by rw [hw b hbw] at e; cases e) n (kheap k₂ _ _ e)))
      have BxIn : ∀ b o, hBx.get? b = some o → h''.get? b = some o := fun b o e => up b o (fun q => by
        have := Tn.new C (.inl rfl)
        rw [q] at e; rw [Tn.base _ _ e] at this; cases this) (Tn.here b o e)
      have kh := kheap k₂
      obtain ⟨hz, tz, rfl, k2'⟩ := k₂
      refine q Da ys h'' _ hBx GB all sD (by obtain ⟨o, e⟩ := plist_step (stepK h₂ hk₂) hl'; exact ⟨o, up _ _ hDC e⟩) (rpVals hb hy') ?_
      exact T.rebase (fun x c l => .inl ((T.cells x c l).2 hf)) (fun a => a = z3) (fun a e => e) (fun x c l e => nzOO c ((T.cells x c l).2 hf) e) (fun b o n e => all b o n e) hBx BxIn (fun _ => False) (fun a z => z.elim) gO
  exact codeAny_compStart_list (loop _ rfl) (it.W.self 0 _ _ _ st₁ (loop _ rfl))

theorem for_first {B : Bas} {n : Nat} {env : Env} {σ : Sto} {target iter : Expr} {body : List Stmt} {p : Pos} {ds : List D} {z3 line col : Addr} {qn : Str} (Inv : List D → Sto → Prop) (x : EvIt true B n env σ iter ds) (hne : 0 < ds.length)
    (turn0 : ∀ d post, ds = d :: post → ∃ σ'', Asg B n env σ target d σ'' ∧
      ∀ (h₀ : Heap) (O : Addr → Prop) (A : Around) (s : Shared) (E : Value → Shared → Prop) (Q : Flow → Shared → Prop), AOk n A → St B h₀ (fun a => a = z3) env σ'' O s.heap → s.heap.get? z3 = some (tabObj #[]) →
        (∀ h' t hBx O' τ, GoodB B z3 line col qn hBx → (∀ b o, b ≠ z3 → ¬ O b → s.heap.get? b = some o → h'.get? b = some o) → (∀ b, O' b → O b ∨ s.heap.get? b = none) → Inv [d] τ → St (B.at hBx) (hideP h' O') (fun _ => False) env τ O' h' → Q .next ⟨h', s.gens, s.drawn, t, s.os⟩) →
        wpAny (model B.prog B.w) A (execs body env) Q E s)
    (turn : ∀ hBx, GoodB B z3 line col qn hBx → ∀ pre d post σ', ds = pre ++ d :: post → 0 < pre.length → Inv pre σ' → ∃ σ'', Asg (B.at hBx) n env σ' target d σ'' ∧
      Ex (B.at hBx) n env σ'' body (fun fl τ => fl = .next ∧ Inv (pre ++ [d]) τ))
    (hs : ∀ x, foldedSetIterable iter env x = pure x)
    {h₀ : Heap} {O : Addr → Prop} {A : Around} {s : Shared} {E : Value → Shared → Prop} {Q : Flow → Shared → Prop} (bo : B.Ok) (ao : AOk n A) (hf : env.func.isSome = true) (T : St B h₀ (fun a => a = z3) env σ O s.heap) (ez : s.heap.get? z3 = some (tabObj #[]))
    (q : ∀ h' t hBx h₁ O' τ, GoodB B z3 line col qn hBx → (∀ b o, b ≠ z3 → h₀.get? b = some o → h₁.get? b = some o) → Inv ds τ → St (B.at hBx) h₁ (fun _ => False) env τ O' h' → Q .next ⟨h', s.gens, s.drawn, t, s.os⟩) :
    wpAny (model B.prog B.w) A (exec (.For target iter body [] p) env) Q E s := by
  refine wpAny_For (x h₀ _ O A s E _ bo ao T fun s₂ I fp wr Pv Si k it st hw hb hfX hr => ?_) hs
  have hfX := hfX rfl
  have T₂ := T.kp k
  have hlive := it.live 0 _ st
  have ez2 : s₂.heap.get? z3 = some (tabObj #[]) := kheap k _ _ ez
  have fpz : ∀ b ∈ fp, b ≠ z3 := fun b hb e => hfX b hb (.inl e)
  have wrz : ∀ b ∈ wr, b ≠ z3 := fun b hb e => fpz b (it.W.sub b hb) e
  have nzO : ∀ a, O a → a ≠ z3 := fun a q e => by have := T.new a q; obtain ⟨⟨o, e'⟩, _⟩ := T.plive z3 rfl; rw [e, e'] at this; cases this
  obtain ⟨IV, hIV⟩ : ∃ I : Nat → Shared → Prop, ∀ kk s', I kk s' ↔ (∃ i σ' O', kk = ds.length + 1 - i ∧ i ≤ ds.length ∧ (∃ h' tk, s' = { s₂ with heap := h', toks := tk }) ∧ Si i s'.heap ∧
      (∀ b o, b ≠ z3 → ¬ O b → b ∉ wr → s₂.heap.get? b = some o → s'.heap.get? b = some o) ∧ (∀ b, O' b → O b ∨ s₂.heap.get? b = none) ∧ (∀ b ∈ wr, ¬ O' b) ∧
      ((i = 0 ∧ σ' = σ ∧ O' = O ∧ St B h₀ (fun a => a = z3) env σ O s'.heap ∧ s'.heap.get? z3 = some (tabObj #[])) ∨
       (0 < i ∧ ∃ hBx h₁, GoodB B z3 line col qn hBx ∧ (∀ b o, b ≠ z3 → h₀.get? b = some o → h₁.get? b = some o) ∧ (∀ b ∈ wr, h₁.get? b = none) ∧ Inv (ds.take i) σ' ∧ St (B.at hBx) h₁ (fun _ => False) env σ' O' s'.heap))) := ⟨_, fun _ _ => Iff.rfl⟩
  refine codeAny_forLoop_any IV ?_ (ds.length + 1) ((hIV _ _).mpr ⟨0, σ, O, rfl, Nat.zero_le _, ⟨s₂.heap, s₂.toks, rfl⟩, st, fun _ _ _ _ _ e => e, fun _ q => .inl q, fun b hb q => hfX b (it.W.sub b hb) (.inr q), .inl ⟨rfl, rfl, rfl, T₂, ez2⟩⟩)
  intro kk s' hI0
  replace hI0 := (hIV _ _).mp hI0
  obtain ⟨i, σ', O', rfl, hi, ⟨hh, tk, rfl⟩, st', hk, hO, hwO, ph⟩ := hI0
  have fpO : ∀ b ∈ fp, ¬ O' b := fun b hbf q => by
    rcases hO b q with q | q
    · exact hfX b hbf (.inr q)
    · obtain ⟨o, e⟩ := hlive b hbf; rw [q] at e; cases e
  have nIter : ∀ (h₁ : Heap), (∀ b o, b ∉ wr → hh.get? b = some o → h₁.get? b = some o) → ∀ b o, ¬ IterObj o → hh.get? b = some o → h₁.get? b = some o := fun h₁ hk₁ a o ni e =>
    hk₁ a o (fun hbw => by obtain ⟨o', e', q⟩ := it.kind i _ st' a hbw; rw [e] at e'; cases e'; exact ni q) e
  by_cases hlt : i < ds.length
  · refine it.W.item i _ _ _ hlt st' fun v h₁ tk₁ hPv st₁ hk₁ => ?_
    obtain ⟨d, hd, rd⟩ := hr i v hPv
    obtain ⟨e1, e2⟩ := take_split hd
    refine it.go _ _ _ _ _ _ st₁ ?_
    have frO : ∀ (h3 : Heap) (O'' : Addr → Prop), (∀ b o, ¬ O' b → h₁.get? b = some o → h3.get? b = some o) → (∃ o, h3.get? z3 = some o) → (∀ b, O'' b → O' b ∨ h3.get? b = none) → (∀ b, O'' b → O b ∨ s₂.heap.get? b = none) ∧ ∀ b ∈ wr, ¬ O'' b := by
      intro h3 O'' k3 z3l hO''
      have wl : ∀ b ∈ wr, ∃ o, h3.get? b = some o := fun b hbw => by
        obtain ⟨o, e⟩ := it.live _ _ st₁ b (it.W.sub b hbw)
        exact ⟨o, k3 b o (hwO b hbw) e⟩
      refine ⟨fun b q => ?_, fun b hbw q => ?_⟩
      · rcases hO'' b q with q | q
        · exact hO b q
        · by_cases hOb : O b
          · exact .inl hOb
          · by_cases hbw : b ∈ wr
            · obtain ⟨o, e⟩ := wl b hbw
              rw [e] at q; cases q
            · refine .inr ?_
              cases e : s₂.heap.get? b with
              | none => rfl
              | some o =>
                by_cases hbz : b = z3
                · obtain ⟨o', e'⟩ := z3l; rw [hbz, e'] at q; cases q
                · have h5 := hk₁ b o hbw (hk b o hbz hOb hbw e)
                  by_cases ho' : O' b
                  · rcases hO b ho' with z | z
                    · exact absurd z hOb
                    · rw [z] at e; cases e
                  · have := k3 b o ho' h5
                    rw [this] at q; cases q
      · rcases hO'' b q with q | q
        · exact hwO b hbw q
        · obtain ⟨o, e⟩ := wl b hbw
          rw [e] at q; cases q
    rcases ph with ⟨rfl, rfl, rfl, T', ezh⟩ | ⟨hip, hBx, h₁x, GB, gk, gw, hI, T'⟩
    · have T₁ : St B h₀ (fun a => a = z3) env σ' O' h₁ := T'.step (nIter h₁ hk₁) (fun b o e => hk₁ b o (fun hbw => by have := hw b hbw; rw [T.keep b o e] at this; cases this) (T'.keep b o e))
        (fun a q => by obtain ⟨o, e⟩ := T'.live a q; exact ⟨o, hk₁ a o (fun hbw => hwO a hbw q) e⟩)
      have rd' : Rp h₁ (fun a => a = z3 ∨ O' a) v d :=
        Rp.step (nIter h₁ hk₁) (rd.stepX (h' := hh) (X' := fun a => a = z3 ∨ O' a) (fun a o na ni e => hk a o (fun q => na (.inl q)) (fun q => na (.inr q)) (fun haw => by obtain ⟨o', e', q⟩ := it.kind 0 _ st a haw; rw [e] at e'; cases e'; exact ni q) e) fun a o na e q => na q)
      obtain ⟨σ'', hasg, hex⟩ := turn0 d _ (by simpa using e1)
      refine hasg h₀ _ O' A _ _ _ v bo ao T₁ rd' fun s₃ m₃ T₃ => ?_
      obtain ⟨h3, tk3, rfl, k3⟩ := m₃.names T₁
      have ez3 : h3.get? z3 = some (tabObj #[]) := k3 _ _ (fun q => nzO _ q rfl) (hk₁ _ _ (fun q => wrz _ q rfl) ezh)
      refine hex h₀ O' A _ _ _ ao T₃ ez3 fun h4 t4 hBx O'' τ GB k4 hO'' hI T₄ => ?_
      obtain ⟨fO, fw⟩ := frO h3 O'' k3 ⟨_, ez3⟩ hO''
      have hk4 : ∀ b o, b ≠ z3 → ¬ O' b → b ∉ wr → s₂.heap.get? b = some o → h4.get? b = some o := fun b o n1 n2 n3 e => k4 b o n1 n2 (k3 b o n2 (hk₁ b o n3 (hk b o n1 n2 n3 e)))
      have stN : Si 1 h4 := it.W.frame _ _ _ st₁ fun b hbf o e => k4 b o (fpz b hbf) (fpO b hbf) (k3 b o (fpO b hbf) e)
      have wB : ∀ b o, B.hB.get? b = some o → b ∉ wr := fun b o e hbw => by have := hw b hbw; rw [T.here b o e] at this; cases this
      have GB' : GoodB B z3 line col qn (hideP hBx fun a => a ∈ wr) := by
        obtain ⟨cL, oL, g1, g2, g3⟩ := GB.fil
        refine ⟨fun b o e => hideP_get (GB.sub b o e) (wB b o e), cL, oL, hideP_get g1 (fun q => wrz _ q rfl), hideP_get g2 (fun q => ?_), g3⟩
        obtain ⟨o, e, hi⟩ := it.kind _ _ stN _ q
        rw [T₄.here _ _ g2] at e; cases e
        obtain ⟨nm, vs, c1, c2, c3, c4, c5⟩ := hi
        rw [g3.1] at c1; cases c1
        exact c4 rfl
      have T5 := T₄.rebaseW (fun x c l => .inl ((T₄.cells x c l).2 hf)) (fun _ => False) (fun a z => z) (fun _ _ _ z => z) (fun b o _ e => e) (hideP hBx fun a => a ∈ wr) (fun b o e => T₄.here b o (hideP_of e)) (fun _ => False) (fun a z => z.elim) (fun a q => by
        have h1 := T₄.new a q
        cases e : (hideP hBx fun a => a ∈ wr).get? a with
        | none => rfl
        | some o => rw [T₄.base a o (hideP_of e)] at h1; cases h1) (fun a => a ∈ wr) (fun a q => ⟨hideP_none (p := fun a => a ∈ wr) q, fun z => z⟩)
      refine ⟨_, ?_, (hIV _ _).mpr ⟨1, τ, O'', rfl, by omega, ⟨h4, t4, rfl⟩, stN, hk4, fO, fw, .inr ⟨Nat.one_pos, _, _, GB', fun b o n e => ?_, fun b hbw => hideP_none (p := fun a => O'' a ∨ a ∈ wr) (.inr hbw), ?_, T5⟩⟩⟩
      · omega
      · have nO : ¬ O' b := fun q => by have := T.new b q; rw [e] at this; cases this
        have e' := T.keep b o e
        have nw : b ∉ wr := fun hbw => by have := hw b hbw; rw [e'] at this; cases this
        have e2 := kheap k _ _ e'
        refine hideP_get (hk4 b o n nO nw e2) ?_
        rintro (q | q)
        · rcases fO b q with z | z
          · exact nO z
          · rw [z] at e2; cases e2
        · exact nw q
      · have e3 : ds.take 1 = [d] := by simpa using e2
        rw [e3]; exact hI
    · have T₁ : St (B.at hBx) h₁x (fun _ => False) env σ' O' h₁ := T'.step (nIter h₁ hk₁) (fun b o e => hk₁ b o (fun hbw => by rw [gw b hbw] at e; cases e) (T'.keep b o e))
        (fun a q => by obtain ⟨o, e⟩ := T'.live a q; exact ⟨o, hk₁ a o (fun hbw => hwO a hbw q) e⟩)
      have rd' : Rp h₁ (fun a => False ∨ O' a) v d :=
        Rp.step (nIter h₁ hk₁) (rd.stepX (h' := hh) (X' := fun a => False ∨ O' a) (fun a o na ni e => hk a o (fun q => na (.inl q)) (fun q => na (.inr q)) (fun haw => by obtain ⟨o', e', q⟩ := it.kind 0 _ st a haw; rw [e] at e'; cases e'; exact ni q) e) fun a o na e q => by
          rcases q with q | q
          · exact q
          · rcases hO a q with z | z
            · exact na (.inr z)
            · rw [z] at e; cases e)
      have hpl : (ds.take i).length = i := by rw [List.length_take]; omega
      obtain ⟨σ'', hasg, hex⟩ := turn hBx GB _ d _ σ' e1 (by omega) hI
      have bo' : (B.at hBx).Ok := bo.grow GB.sub
      refine hasg h₁x _ O' A _ _ _ v bo' ao T₁ rd' fun s₃ m₃ T₃ => ?_
      refine wpAny_mono (hex h₁x _ O' A s₃ _ bo' ao T₃) (fun f s₄ q => ?_) fun _ _ q => q
      obtain ⟨fl, τ, O₄, m₄, hfl, ⟨rfl, hI'⟩, hO₄, T₄⟩ := q
      cases f <;> try exact hfl.elim
      obtain ⟨h3, tk3, rfl, k3⟩ := m₃.names T₁
      obtain ⟨h4, tk4, rfl, k4⟩ := m₄
      have ez3 : ∃ o, h3.get? z3 = some o := by
        obtain ⟨cL, oL, g1, _⟩ := GB.fil
        exact ⟨_, T₃.here _ _ g1⟩
      obtain ⟨fO, fw⟩ := frO h3 O₄ k3 ez3 hO₄
      have keepAll : ∀ b o, ¬ O' b → h₁.get? b = some o → h4.get? b = some o := fun b o nb e => k4 b o nb (k3 b o nb e)
      refine ⟨_, ?_, (hIV _ _).mpr ⟨i + 1, τ, O₄, rfl, hlt, ⟨h4, tk4, rfl⟩, it.W.frame _ _ _ st₁ fun b hbf o e => keepAll b o (fpO b hbf) e, fun b o n1 n2 n3 e => ?_, fO, fw, .inr ⟨Nat.succ_pos _, hBx, h₁x, GB, gk, gw, e2 ▸ hI', T₄⟩⟩⟩
      · omega
      · refine keepAll b o (fun q => ?_) (hk₁ b o n3 (hk b o n1 n2 n3 e))
        rcases hO b q with z | z
        · exact n2 z
        · rw [z] at e; cases e
  · have hi' : i = ds.length := by omega
    subst hi'
    rcases ph with ⟨h0, _⟩ | ⟨hip, hBx, h₁x, GB, gk, gw, hI, T'⟩
    · omega
    rw [List.take_length] at hI
    refine it.W.done _ _ _ st' fun h₁ tk₁ hk₁ => ?_
    have T₁ : St (B.at hBx) h₁x (fun _ => False) env σ' O' h₁ := T'.step (nIter h₁ hk₁) (fun b o e => hk₁ b o (fun hbw => by rw [gw b hbw] at e; cases e) (T'.keep b o e))
      (fun a q => by obtain ⟨o, e⟩ := T'.live a q; exact ⟨o, hk₁ a o (fun hbw => hwO a hbw q) e⟩)
    obtain ⟨h2, tk2, rfl, k2⟩ := k
    refine wpAny_execs_nil ?_
    exact q _ _ hBx h₁x O' σ' GB gk hI T₁

section
variable {B : Bas} (fr : Free B) {m : Nat} {a : Addr}
include fr
theorem do_gt_lt (F : HasDef B "_gt_from_lt" a (defAt pw 1)) (x : Int) : MadeDo B m a 0 x (!opK .Eq x) := fun pm C cl lam la ocl Fs G t1 t2 K PG h => pop_gt_lt fr F K PG h (r1 := 0)
theorem do_le_lt (F : HasDef B "_le_from_lt" a (defAt pw 2)) (x : Int) : MadeDo B m a 0 x (opK .Eq x) := fun pm C cl lam la ocl Fs G t1 t2 K PG h => pop_le_lt fr F K PG h (r1 := 0)
theorem do_ge_lt (F : HasDef B "_ge_from_lt" a (defAt pw 3)) (x : Int) : MadeDo B m a x 0 (!opK .Lt x) := fun pm C cl lam la ocl Fs G t1 t2 K PG h => pop_ge_lt fr F K PG h (r1 := x)
theorem do_ge_le (F : HasDef B "_ge_from_le" a (defAt pw 4)) (x : Int) : MadeDo B m a 0 x (opK .Eq x) := fun pm C cl lam la ocl Fs G t1 t2 K PG h => pop_ge_le fr F K PG h (r1 := 0)
theorem do_lt_le (F : HasDef B "_lt_from_le" a (defAt pw 5)) (x : Int) : MadeDo B m a 0 x (!opK .Eq x) := fun pm C cl lam la ocl Fs G t1 t2 K PG h => pop_lt_le fr F K PG h (r1 := 0)
theorem do_gt_le (F : HasDef B "_gt_from_le" a (defAt pw 6)) (x : Int) : MadeDo B m a x 0 (!opK .LtE x) := fun pm C cl lam la ocl Fs G t1 t2 K PG h => pop_gt_le fr F K PG h (r1 := x)
theorem do_lt_gt (F : HasDef B "_lt_from_gt" a (defAt pw 7)) (x : Int) : MadeDo B m a 0 x (!opK .Eq x) := fun pm C cl lam la ocl Fs G t1 t2 K PG h => pop_lt_gt fr F K PG h (r1 := 0)
theorem do_ge_gt (F : HasDef B "_ge_from_gt" a (defAt pw 8)) (x : Int) : MadeDo B m a 0 x (opK .Eq x) := fun pm C cl lam la ocl Fs G t1 t2 K PG h => pop_ge_gt fr F K PG h (r1 := 0)
theorem do_le_gt (F : HasDef B "_le_from_gt" a (defAt pw 9)) (x : Int) : MadeDo B m a x 0 (!opK .Gt x) := fun pm C cl lam la ocl Fs G t1 t2 K PG h => pop_le_gt fr F K PG h (r1 := x)
theorem do_le_ge (F : HasDef B "_le_from_ge" a (defAt pw 10)) (x : Int) : MadeDo B m a 0 x (opK .Eq x) := fun pm C cl lam la ocl Fs G t1 t2 K PG h => pop_le_ge fr F K PG h (r1 := 0)
theorem do_gt_ge (F : HasDef B "_gt_from_ge" a (defAt pw 11)) (x : Int) : MadeDo B m a 0 x (!opK .Eq x) := fun pm C cl lam la ocl Fs G t1 t2 K PG h => pop_gt_ge fr F K PG h (r1 := 0)
theorem do_lt_ge (F : HasDef B "_lt_from_ge" a (defAt pw 12)) (x : Int) : MadeDo B m a x 0 (!opK .GtE x) := fun pm C cl lam la ocl Fs G t1 t2 K PG h => pop_lt_ge fr F K PG h (r1 := x)
end
structure LB (B : Bas) (z1 z3 c3 ka ag an tw a1 a2 a3 a4 a5 a6 a7 a8 a9 a10 a11 a12 : Addr) (as : List Addr) : Prop where
  bo : B.Ok
  fr : Free B
  F : Twelve B a1 a2 a3 a4 a5 a6 a7 a8 a9 a10 a11 a12
  Fk : HasDef B "cmp_to_key" ka (defAt pw 13)
  Fn : HasDef B "_law_answer" an (defAt pw 15)
  Ft : HasDef B "_law_twelve" tw (defAt pw 16)
  Fg : HasDef B "_law_again" ag (defAt pw 17)
  FF : ∃ o pm doc, B.hB.get? ag = some o ∧ o.data = .func (docDef (defAt pw 17).name (defAt pw 17).params (defAt pw 17).body (defAt pw 17).scope pm (.ref c3) doc) ∧ B.hB.CodeRec (.ref c3) (defAt pw 17).name
  C3 : CodeHd B.hB c3 z3
  hbm : B.hB.BuiltinsAt B.mg z3
  st : ∃ oS, B.hB.get? cStatics = some oS ∧ nsLook (S "thirdparty.any") oS = Sem.pure none
  mk2 : MakeK2 B ka as
  HI : Hit z1 B.hB as
section
variable {B : Bas} {z1 z3 c3 ka ag an tw a1 a2 a3 a4 a5 a6 a7 a8 a9 a10 a11 a12 : Addr} {as : List Addr}
theorem LB.grow (L : LB B z1 z3 c3 ka ag an tw a1 a2 a3 a4 a5 a6 a7 a8 a9 a10 a11 a12 as) {hB : Heap} (k : ∀ b o, B.hB.get? b = some o → hB.get? b = some o) : LB (B.at hB) z1 z3 c3 ka ag an tw a1 a2 a3 a4 a5 a6 a7 a8 a9 a10 a11 a12 as := by
  obtain ⟨o, pm, doc, h1, h2, h3⟩ := L.FF
  obtain ⟨oS, h4, h5⟩ := L.st
  exact ⟨L.bo.grow k, L.fr, ⟨L.F.f1.grow k, L.F.f2.grow k, L.F.f3.grow k, L.F.f4.grow k, L.F.f5.grow k, L.F.f6.grow k, L.F.f7.grow k, L.F.f8.grow k, L.F.f9.grow k, L.F.f10.grow k, L.F.f11.grow k, L.F.f12.grow k⟩,
    L.Fk.grow k, L.Fn.grow k, L.Ft.grow k, L.Fg.grow k, ⟨o, pm, doc, k _ _ h1, h2, h3.keeps k⟩, L.C3.keeps k, BuiltinsAt.grow L.hbm k, ⟨oS, k _ _ h4, h5⟩, fun s lam A Q E ao hh q => L.mk2 s lam A Q E ao (fun b o e => hh b o (k b o e)) q, L.HI.keeps fun b o _ e => k b o e⟩
theorem LB.again (L : LB B z1 z3 c3 ka ag an tw a1 a2 a3 a4 a5 a6 a7 a8 a9 a10 a11 a12 as) (fl : Filled z3 98 21 againQ B.hB) {am : Addr} {f t : Int} {res : Bool} (MD : MadeDo B 12 am f t res) : FnS B 58 ag [.val (.ref am), .int f, .int t] (.bool res) := by
  obtain ⟨cL, oL, h1, h2, h3⟩ := fl
  exact again_later L.fr L.FF L.C3 h1 h2 h3 L.hbm MD L.mk2 L.HI L.Fk L.st
end
def eightOf (a1 a2 a4 a5 a7 a8 a10 a11 : Addr) (x : Int) : List (Addr × Bool) := [(a1, !opK .Eq x), (a11, !opK .Eq x), (a5, !opK .Eq x), (a7, !opK .Eq x), (a2, opK .Eq x), (a10, opK .Eq x), (a4, opK .Eq x), (a8, opK .Eq x)]
def fourOf (a3 a6 a9 a12 : Addr) (x : Int) : List (Addr × Bool) := [(a6, !opK .LtE x), (a12, !opK .GtE x), (a3, !opK .Lt x), (a9, !opK .Gt x)]
def fnsOf (l : List Addr) : D := .list (l.map fun a => .val (.ref a))

section
variable {B : Bas} {z1 z3 c3 ka ag an tw a1 a2 a3 a4 a5 a6 a7 a8 a9 a10 a11 a12 : Addr} {as : List Addr}
abbrev sto5 (nb : List Int) (K : D) (a1 a2 a3 a4 a5 a6 a7 a8 a9 a10 a11 a12 : Addr) : Sto := [("table", .val (.list (D.ofInts nb))), ("key", .val K), ("unlike", .val (fnsOf [a1, a11, a5, a7])), ("alike", .val (fnsOf [a2, a10, a4, a8])), ("plain", .val (fnsOf [a6, a12, a3, a9]))]
def loopBody : List Stmt := match (defAt pw 18).body with | [_, _, _, _, _, .For _ _ b _ _, _, _, _, _] => b | _ => []
def if1 : Stmt := match loopBody with | [x, _] => x | _ => default
def if2 : Stmt := match loopBody with | [_, x] => x | _ => default
theorem mades8 (fr : Free B) (F : Twelve B a1 a2 a3 a4 a5 a6 a7 a8 a9 a10 a11 a12) (x : Int) : ∀ d ∈ eightOf a1 a2 a4 a5 a7 a8 a10 a11 x, MadeDo B 12 d.1 0 x d.2 := by
  intro d hd
  unfold eightOf at hd
  simp only [List.mem_cons, List.not_mem_nil, or_false] at hd
  rcases hd with rfl | rfl | rfl | rfl | rfl | rfl | rfl | rfl
  · exact do_gt_lt fr F.f1 x
  · exact do_gt_ge fr F.f11 x
  · exact do_lt_le fr F.f5 x
  · exact do_lt_gt fr F.f7 x
  · exact do_le_lt fr F.f2 x
  · exact do_le_ge fr F.f10 x
  · exact do_ge_le fr F.f4 x
  · exact do_ge_gt fr F.f8 x
theorem mades4 (fr : Free B) (F : Twelve B a1 a2 a3 a4 a5 a6 a7 a8 a9 a10 a11 a12) (x : Int) : ∀ d ∈ fourOf a3 a6 a9 a12 x, MadeDo B 12 d.1 x 0 d.2 := by
  intro d hd
  unfold fourOf at hd
  simp only [List.mem_cons, List.not_mem_nil, or_false] at hd
  rcases hd with rfl | rfl | rfl | rfl
  · exact do_gt_le fr F.f6 x
  · exact do_lt_ge fr F.f12 x
  · exact do_ge_lt fr F.f3 x
  · exact do_le_gt fr F.f9 x
theorem four_bools (x : Int) : (fourOf a3 a6 a9 a12 x).map (·.2) = [decide (0 < x), decide (x < 0), decide (0 ≤ x), decide (x ≤ 0)] := by
  have e1 : (!decide (x ≤ 0)) = decide (0 < x) := by rw [Bool.eq_iff_iff]; simp
  have e2 : (!decide (0 ≤ x)) = decide (x < 0) := by rw [Bool.eq_iff_iff]; simp
  have e3 : (!decide (x < 0)) = decide (0 ≤ x) := by rw [Bool.eq_iff_iff]; simp
  have e4 : (!decide (0 < x)) = decide (x ≤ 0) := by rw [Bool.eq_iff_iff]; simp
  show [!decide (x ≤ 0), !decide (0 ≤ x), !decide (x < 0), !decide (0 < x)] = _
  rw [e1, e2, e3, e4]
theorem right8 {B : Bas} {n : Nat} {env : Env} {nb : List Int} {K : D} {x : Int} (fe : FEnv (defAt pw 18).scope env) : EvW B n env (sto5 nb K a1 a2 a3 a4 a5 a6 a7 a8 a9 a10 a11 a12 ++ [("x", .val (.int x))]) (match if1 with | .If (.Compare _ _ [r] _) _ _ _ => r | _ => default) (.list (((eightOf a1 a2 a4 a5 a7 a8 a10 a11 x).map (·.2)).map D.bool)) := by
  show EvW B n env _ (.BinOp (.BinOp (.List [_] _) .Mult _ _) .Add (.BinOp (.List [_] _) .Mult _ _) _) _
  refine Ev.weak (ev_eq (EvN.ev (evn_add (EvN.ev (evn_mul (EvN.ev (evn_list (ds := [_]) (by walk_at "as") (show 1 ≤ 1000000 by decide))) (by walk_at "w") (by decide) (by decide) (by simp) (by simp))) (EvN.ev (evn_mul (EvN.ev (evn_list (ds := [_]) (by walk_at "as") (show 1 ≤ 1000000 by decide))) (by walk_at "w") (by decide) (by decide) (by simp) (by simp))) (by simp))) ?_)
  rfl
theorem if2_ex (L : LB B z1 z3 c3 ka ag an tw a1 a2 a3 a4 a5 a6 a7 a8 a9 a10 a11 a12 as) (fl : Filled z3 98 21 againQ B.hB) {env : Env} (fe : FEnv (defAt pw 18).scope env) {nb : List Int} {K : D} {x : Int} {σ : Sto} (hσ : SubL (sto5 nb K a1 a2 a3 a4 a5 a6 a7 a8 a9 a10 a11 a12 ++ [("x", .val (.int x))]) σ) :
    Ex B 58 env σ [if2] (fun fl τ => fl = .next ∧ SubL (sto5 nb K a1 a2 a3 a4 a5 a6 a7 a8 a9 a10 a11 a12) τ) := by
  have fr := L.fr
  refine ex_sub hσ ?_
  refine ex_cons (ex_if (t := false) (tst_eq (tst_cmp (Ev.weak (EvN.ev (evn_comp (ds := fourOf a3 a6 a9 a12 x) ["x"] (fun p => D.val (.ref p.1)) (fun _ => true) (fun p => D.bool p.2) (compOk_of fe rfl (by decide +kernel) (by decide +kernel) (by decide +kernel) (by decide +kernel)) (show 4 ≤ 1000000 by decide) (evit_list (ev_eq (by walk_at "ev") rfl)) ?_))) (Ev.weak (ev_eq (EvN.ev (evn_list (ds := [D.bool (decide (0 < x)), D.bool (decide (x < 0)), D.bool (decide (0 ≤ x)), D.bool (decide (x ≤ 0))]) (by walk_at "as") (show 4 ≤ 1000000 by decide))) ?_)) (cmp_ne_bools ((fourOf a3 a6 a9 a12 x).map (·.2)) ((fourOf a3 a6 a9 a12 x).map (·.2)))) (by simp)) (fun h => nomatch h) fun _ => ?_)
  · intro cenv ce d hd
    exact ⟨_, asg_name (by walk_at "st"), SubL.get (τ := [("x", .val (.int x))]) ⟨rfl, trivial⟩, tsts_nil, fun _ => ev_calld L.Fg (by walk_at "gk") (ds := [.val (.ref d.1), .int x, .int 0]) (by walk_at "as") (L.again fl (mades4 fr L.F x d hd))⟩
  · rw [four_bools]; rfl
  · exact ex_nil (ex_nil ⟨rfl, rfl, rfl, rfl, rfl, rfl, trivial⟩)
theorem turn_later (L : LB B z1 z3 c3 ka ag an tw a1 a2 a3 a4 a5 a6 a7 a8 a9 a10 a11 a12 as) (fl : Filled z3 98 21 againQ B.hB) {env : Env} (fe : FEnv (defAt pw 18).scope env) {nb : List Int} {K : D} {x : Int} {σ : Sto} (hσ : SubL (sto5 nb K a1 a2 a3 a4 a5 a6 a7 a8 a9 a10 a11 a12 ++ [("x", .val (.int x))]) σ) :
    Ex B 58 env σ loopBody (fun fl τ => fl = .next ∧ SubL (sto5 nb K a1 a2 a3 a4 a5 a6 a7 a8 a9 a10 a11 a12) τ) := by
  have fr := L.fr
  show Ex B 58 env σ [.If (.Compare _ [.NotEq] [_] _) _ [] _, if2] _
  refine ex_sub hσ ?_
  refine ex_cons (ex_if (t := false) (tst_eq (tst_cmp (Ev.weak (EvN.ev (evn_comp (ds := eightOf a1 a2 a4 a5 a7 a8 a10 a11 x) ["x"] (fun p => D.val (.ref p.1)) (fun _ => true) (fun p => D.bool p.2) (compOk_of fe rfl (by decide +kernel) (by decide +kernel) (by decide +kernel) (by decide +kernel)) (show 8 ≤ 1000000 by decide) (evit_list (ev_eq (EvN.ev (evn_add (ds := [a1, a11, a5, a7].map fun a => D.val (.ref a)) (es := [a2, a10, a4, a8].map fun a => D.val (.ref a)) (by walk_at "ev") (by walk_at "ev") (show 8 ≤ 1000000 by decide))) rfl)) ?_))) (right8 fe) (cmp_ne_bools ((eightOf a1 a2 a4 a5 a7 a8 a10 a11 x).map (·.2)) ((eightOf a1 a2 a4 a5 a7 a8 a10 a11 x).map (·.2)))) (by simp)) (fun h => nomatch h) fun _ => ?_)
  · intro cenv ce d hd
    exact ⟨_, asg_name (by walk_at "st"), SubL.get (τ := [("x", .val (.int x))]) ⟨rfl, trivial⟩, tsts_nil, fun _ => ev_calld L.Fg (by walk_at "gk") (ds := [.val (.ref d.1), .int 0, .int x]) (by walk_at "as") (L.again fl (mades8 fr L.F x d hd))⟩
  · exact ex_nil (if2_ex L fl fe ⟨rfl, rfl, rfl, rfl, rfl, rfl, trivial⟩)
def eltArgs : List Expr := match if1 with | .If (.Compare (.ListComp (.Call _ as _ _) _ _ _) _ _ _) _ _ _ => as | _ => []
theorem turn_first (L : LB B z1 z3 c3 ka ag an tw a1 a2 a3 a4 a5 a6 a7 a8 a9 a10 a11 a12 as) (ez0 : B.hB.get? z3 = none) {env : Env} (fe : FEnv (defAt pw 18).scope env) (hf : env.func.isSome = true) {nb : List Int} {K : D} {x : Int}
    {h₀ : Heap} {O : Addr → Prop} {A : Around} {s : Shared} {E : Value → Shared → Prop} {Q : Flow → Shared → Prop} (ao : AOk 58 A) (T : St B h₀ (fun a => a = z3) env (sto5 nb K a1 a2 a3 a4 a5 a6 a7 a8 a9 a10 a11 a12 ++ [("x", .val (.int x))]) O s.heap) (ez : s.heap.get? z3 = some (tabObj #[]))
    (q : ∀ h' t hBx O' τ, GoodB B z3 98 21 againQ hBx → (∀ b o, b ≠ z3 → ¬ O b → s.heap.get? b = some o → h'.get? b = some o) → (∀ b, O' b → O b ∨ s.heap.get? b = none) → SubL (sto5 nb K a1 a2 a3 a4 a5 a6 a7 a8 a9 a10 a11 a12) τ → St (B.at hBx) (hideP h' O') (fun _ => False) env τ O' h' → Q .next ⟨h', s.gens, s.drawn, t, s.os⟩) :
    wpAny (model B.prog B.w) A (execs loopBody env) Q E s := by
  have fr := L.fr
  have bo := L.bo
  show wpAny _ _ (execs [.If (.Compare (.ListComp _ [⟨_, _, [], 0⟩] _ _) [.NotEq] [_] _) _ [] _, if2] env) _ _ _
  refine wpAny_execs_cons (wpAny_If (wpAny_isTrue_Compare1 (comp_first (B := B) (n := 58) (ds := eightOf a1 a2 a4 a5 a7 a8 a10 a11 x) (caps := ["x"]) (z3 := z3) (line := 98) (col := 21) (qn := againQ) (fun p => D.val (.ref p.1)) (fun p => .bool p.2) (fun _ => rfl) (compOk_of fe rfl (by decide +kernel) (by decide +kernel) (by decide +kernel) (by decide +kernel)) (show 8 ≤ 1000000 by decide) (show 0 < 8 by decide)
    (evit_list (ev_eq (EvN.ev (evn_add (ds := [a1, a11, a5, a7].map fun a => D.val (.ref a)) (es := [a2, a10, a4, a8].map fun a => D.val (.ref a)) (by walk_at "ev") (by walk_at "ev") (show 8 ≤ 1000000 by decide))) rfl)) ?t0 ?tl (by intro _; rfl) bo ao hf T ez fun Da ys h1 t1 hBx GB keep fr1 hl ra T1 => ?_) (by with_unfolding_all rfl)))
  case t0 =>
    intro cenv ce d hd
    have hd' : d ∈ eightOf a1 a2 a4 a5 a7 a8 a10 a11 x := List.mem_of_getElem? hd
    refine ⟨_, asg_name (by walk_at "st"), SubL.get (τ := [("x", .val (.int x))]) ⟨rfl, trivial⟩, fun h₀ P O A s E Q ao T hP ez q => ?_⟩
    obtain ⟨o, pm, doc, ho, hdd, _⟩ := L.FF
    have as3 : EvAs B 58 cenv ((capt (sto5 nb K a1 a2 a3 a4 a5 a6 a7 a8 a9 a10 a11 a12 ++ [("x", .val (.int x))]) ["x"]).put "made" (.val (.val (.ref d.1)))) eltArgs [.val (.ref d.1), .int 0, .int x] := by
      show EvAs _ _ _ _ [_, _, _] _
      walk_at "as"
    refine Call_ (wp_glob bo T (by walk_at "gk") L.Fg.mg (callWith_def (o := o) hdd (as3 h₀ P O A s E _ _ bo ao T fun vs s₁ k r => ⟨(T.kp k).here _ _ ho, ?_⟩) (by rfl)) (by decide)) (by rfl)
    obtain ⟨h1, tk1, rfl, k1⟩ := k
    refine again_first (m := 12) fr L.FF L.C3 ez0 L.hbm (mades8 fr L.F x d hd') L.mk2 L.HI L.Fk L.st bo ao (T.kp ⟨h1, tk1, rfl, k1⟩).here (k1 _ _ ez) (r.sub fun a qa => .inl (by rw [List.mem_singleton.mp qa]; exact hP)) fun h' t cL oL g1 g2 g3 g4 g5 => q h' t cL oL g1 g2 g3 (by
      cases e : s.heap.get? cL with
      | none => rfl
      | some o => have := k1 _ _ e; rw [g4] at this; cases this) fun b o n e => g5 b o n (k1 b o e)
  case tl =>
    intro hBx GB cenv ce d hd
    exact ⟨_, asg_name (by walk_at "st"), SubL.get (τ := [("x", .val (.int x))]) ⟨rfl, trivial⟩, ev_calld (L.grow GB.sub).Fg (by walk_at "gk") (ds := [.val (.ref d.1), .int 0, .int x]) (by walk_at "as") ((L.grow GB.sub).again GB.fil (mades8 (B := B.at hBx) fr (L.grow GB.sub).F x d hd))⟩
  have L1 := L.grow GB.sub
  have ra : RpAll h1 NoX ys (((eightOf a1 a2 a4 a5 a7 a8 a10 a11 x).map (·.2)).map D.bool) := by rw [List.map_map]; exact ra
  have bo1 := L1.bo
  refine right8 (B := B.at hBx) (n := 58) (nb := nb) (K := K) (x := x) (a1 := a1) (a2 := a2) (a3 := a3) (a4 := a4) (a5 := a5) (a6 := a6) (a7 := a7) (a8 := a8) (a9 := a9) (a10 := a10) (a11 := a11) (a12 := a12) fe _ _ O A _ E _ bo1 ao T1 fun vb s2 k2 r2 => ?_
  refine cmp_ne_bools (B := B.at hBx) (n := 58) ((eightOf a1 a2 a4 a5 a7 a8 a10 a11 x).map (·.2)) ((eightOf a1 a2 a4 a5 a7 a8 a10 a11 x).map (·.2)) A s2 E _ _ _ bo1 ao (T1.kp k2).here (.list (hl.at fun o e => kheap k2 _ _ e).isList id (ra.keeps (kheap k2))) r2 fun s3 k3 => wpAny_truthy_bool ?_
  rw [show (!((eightOf a1 a2 a4 a5 a7 a8 a10 a11 x).map (·.2) == (eightOf a1 a2 a4 a5 a7 a8 a10 a11 x).map (·.2))) = false by simp]
  refine wpAny_execs_nil ?_
  have k23 := ktrans k2 k3
  have T3 := T1.kp k23
  refine wpAny_mono (if2_ex L1 GB.fil fe (nb := nb) (K := K) (x := x) ⟨rfl, rfl, rfl, rfl, rfl, rfl, trivial⟩ _ _ O A s3 E bo1 ao T3) (fun f s4 z => ?_) fun _ _ q => q
  obtain ⟨fl, τ, O4, mv, hfl, ⟨rfl, hτ⟩, hO4, T4⟩ := z
  cases f <;> try exact hfl.elim
  obtain ⟨h3, tk3, rfl, k3'⟩ := k23
  obtain ⟨h4, tk4, rfl, k4⟩ := mv
  have all4 : ∀ b o, b ≠ z3 → ¬ O b → s.heap.get? b = some o → h4.get? b = some o := fun b o n1 n2 e => k4 b o n2 (k3' b o (keep b o n1 e))
  obtain ⟨cL, oL, g1, g2, g3⟩ := id GB.fil
  have nO : ∀ b, O4 b → O b ∨ s.heap.get? b = none := fun b z => by
    rcases hO4 b z with z | z
    · exact .inl z
    · refine .inr ?_
      cases e : s.heap.get? b with
      | none => rfl
      | some o =>
        by_cases hb : b = z3
        · have := k3' _ _ (T1.here _ _ g1); rw [hb, this] at z; cases z
        · have := k3' _ _ (keep b o hb e); rw [this] at z; cases z
  refine q h4 tk4 hBx O4 τ GB all4 nO hτ ?_
  exact T4.rebase (fun y c l => .inl ((T4.cells y c l).2 hf)) (fun _ => False) (fun a z => z.elim) (fun _ _ _ z => z) (fun b o _ e => e) hBx T4.here (fun _ => False) (fun a z => z.elim) fun a z => by
    have h1 := T4.new a z
    cases e : hBx.get? a with
    | none => rfl
    | some o => rw [T4.base a o e] at h1; cases h1
end

section
variable {B : Bas} {n : Nat} {env : Env} {σ : Sto} {R : Fl → Sto → Prop}
theorem ex_extend {x : String} {p1 p2 p3 p4 : Pos} {e : Expr} {ds es : List D} {pl : Sem Bool} (hx : σ.get x = some (.own ds)) (v : EvN B n env σ e es) (hsz : ds.length + es.length ≤ 1000000)
    (h : R .next (σ.put x (.own (ds ++ es)))) (h1 : x ≠ "__debug__" := by decide) (h2 : x ≠ "__classdict__" := by decide)
    (hstar : starEach [e] env = (false, eval e env) :: starEach [] env := by rfl) (hp : (backTo p3 (starEach [] env)).any (·.1) = false := by rfl)
    (he : eval (.Call (.Attribute (.Name (S x) p1) (S "extend") p2) [e] [] p3) env = (do
      let ov ← eval (.Name (S x) p1) env
      standAt p2.atName
      let (f, first) ← holding [ov] (getMethod ov (S "extend") pl)
      callWith p3 f first (backTo p3 (starEach [e] env)) (backToKw p3 (keywordEach [] env))) := by rfl)
    (hs : swapsWith (.Call (.Attribute (.Name (S x) p1) (S "extend") p2) [e] [] p3) none p4.line env = pure false := by rfl) : Ex1 B n env σ (.Expr (.Call (.Attribute (.Name (S x) p1) (S "extend") p2) [e] [] p3) p4) R := by
  intro h₀ P O A s E bo ao T
  refine wpAny_Expr ?_ (by unfold interactive; rw [T.ok.kind]; rfl) hs
  refine methodCall_KW ?_ he
  obtain ⟨a, vs, hv, hO, hne, hpl, rs⟩ := T.vars x _ hx
  refine wp_name T hv ?_ (plainName h1) (plainName h2)
  refine getMethod_builtin hpl.isList.typeIs F.plainAttrs_list F.slot_list_extend F.type_list_extend (fun b e => by cases e; obtain ⟨k, e⟩ := hpl; exact ⟨_, e, rfl⟩) ?_
  refine PyProof.Rows.callWith_method1 (args_cons (v h₀ P O A s E _ bo ao T fun b ws s₁ k₁ hb hpb rb => args_nil ?_) hstar) hstar hp
  have T₁ := T.kp k₁
  have hpl₁ : s₁.heap.PlainList a vs.toArray := hpl.at fun o e => kheap k₁ _ o e
  obtain ⟨ep, ho⟩ := id hpl₁
  obtain ⟨ep2, hob⟩ := id hpb
  have hlen := rs.length
  have hlen2 := rb.length
  have hsz' : vs.toArray.size + ws.toArray.size ≤ sizeLine := by rw [List.size_toArray, List.size_toArray, hlen, hlen2]; exact szLine hsz
  refine call_meets PySem.F.slot_list_extend ⟨_, ho, rfl⟩ PySem.F.entry_list_extend (PySem.F.args_list_extend_2 _ _) (AutoSeq1.list_extend_list_list_0 a vs.toArray ep b ws.toArray ep2 (extend_door hsz') (Nat.le_trans (Nat.le_add_right _ _) hsz') (Nat.le_succ_of_le hsz')) ⟨ho, hob, ?_⟩
  have ee : vs.toArray ++ ws.toArray = (vs ++ ws).toArray := by simp
  have eo : Obj.mapSeq (fun xs => xs ++ ws.toArray) { cls := .type "list", data := .seq vs.toArray ep } = { cls := .type "list", data := .seq (vs ++ ws).toArray (if (vs ++ ws).toArray.size == vs.toArray.size then ep else ep + 1) } := by
    unfold Obj.mapSeq
    dsimp only
    rw [← ee]
  have ho2 : (s₁.heap.update a (Obj.mapSeq fun xs => xs ++ ws.toArray)).PlainList a (vs ++ ws).toArray := ⟨_, by rw [Heap.get?_update_self _ ho (by rw [eo]; rfl), eo]⟩
  have kk : ∀ c o, c ≠ a → s₁.heap.get? c = some o → (s₁.heap.update a (Obj.mapSeq fun xs => xs ++ ws.toArray)).get? c = some o := fun c o nc e => (Heap.get?_update_ne _ _ _ _ nc).trans e
  have T₂ := T₁.mut hx (hv.keeps (kheap k₁)) hO hne hpl₁ kk ho2 ((rs.keeps (kheap k₁)).append (rb.sub fun c z => z.elim .inl fun z => .inr (.inl z)))
  exact ⟨.next, _, O, (Mov.of_keeps k₁).trans (O' := O) ⟨_, s₁.toks, rfl, fun c o nc e => kk c o (fun q => nc (q ▸ hO)) e⟩ (fun _ q => .inl q), trivial, h, fun _ q => .inl q, T₂⟩
end

theorem bi_isbool {B : Bas} {n : Nat} {b : Bool} : Bi B n (.builtin "isinstance") [.bool b, .val (.type "bool")] (.bool true) := fun A s E Q vs bo ao hh r q => by
  cases r with | cons r rn =>
  cases rn with | cons r' rn =>
  cases rn
  cases rp_val r; cases rp_val r'
  exact PySem.IsiPair.bool_bool (q _ _ (krefl s) fun _ _ => .val _ rfl)
theorem ev_isbool {B : Bas} {n : Nat} {env : Env} {σ : Sto} {e e' : Expr} {p p' : Pos} {b : Bool} (fr : Free B) (hk : env.kindOf (S "isinstance") = some .globalImplicit) (v : EvW B n env σ e (.bool b)) (v' : EvW B n env σ e' (.val (.type "bool")))
    (he : starEach [e, e'] env = (false, eval e env) :: starEach [e'] env := by rfl) (he' : starEach [e'] env = (false, eval e' env) :: starEach [] env := by rfl) (hp : (backTo p (starEach [e'] env)).any (·.1) = false := by rfl)
    (hc : eval (.Call (.Name (S "isinstance") p') [e, e'] [] p) env = (do callWith p (← eval (.Name (S "isinstance") p') env) [] (backTo p (starEach [e, e'] env)) (backToKw p (keywordEach [] env))) := by rfl) : Ev B n env σ (.Call (.Name (S "isinstance") p') [e, e'] [] p) (.bool true) :=
  ev_builtin (bn fr hk boot_isinstance) (evasw_cons v (evasw_cons v' evasw_nil he') he) bi_isbool he hp hc
theorem filter_false {α : Type} (l : List α) : l.filter (fun _ => false) = [] := by induction l <;> simp_all
theorem rpInts {h : Heap} {X : Addr → Prop} : ∀ {vs : List Value} {l : List Int}, RpAll h X vs (D.ofInts l) → IntsAre vs l
  | _, [], r => by cases r; exact .nil
  | _, x :: l, r => by
    cases r with | cons a r =>
    obtain ⟨t, rfl⟩ := rp_int a
    exact .cons x t (rpInts r)
theorem wp_keyN {B : Bas} {n : Nat} {h₀ : Heap} {P O : Addr → Prop} {env : Env} {σ : Sto} {A : Around} {s : Shared} {E Q : Value → Shared → Prop} {C cl : Addr} {ocl : Obj} {F : List (Addr × Obj)} {pm : Value} {p1 p2 p3 : Pos} {x : String} {i : Int} (bo : B.Ok) (ao : AOk n A) (hn : 3 ≤ n) (T : St B h₀ P env σ O s.heap) (kf : KeyF cl pm C F) (hx : σ.get "key" = some (.val (KC C cl ocl F))) (v : Ev B n env σ (.Name (S x) p2) (.int i))
    (q : ∀ ko dk t s', Keeps s s' → s.heap.get? ko = none → s'.heap.get? ko = some (inst C dk i t) → Q (.ref ko) s')
    (he : starEach [Expr.Name (S x) p2] env = (false, eval (.Name (S x) p2) env) :: starEach [] env := by rfl) (hp : (backTo p3 (starEach [] env)).any (·.1) = false := by rfl)
    (hc : eval (.Call (.Name (S "key") p1) [.Name (S x) p2] [] p3) env = (do callWith p3 (← eval (.Name (S "key") p1) env) [] (backTo p3 (starEach [.Name (S x) p2] env)) (backToKw p3 (keywordEach [] env))) := by rfl) :
    wpAny (model B.prog B.w) A (eval (.Call (.Name (S "key") p1) [.Name (S x) p2] [] p3) env) Q E s := by
  obtain ⟨vk, hv, r⟩ := T.vars "key" _ hx
  obtain ⟨rfl, e1, e2⟩ := rp_cls r
  obtain ⟨oC, cd, hm, hc1, hc2⟩ := kf.cls
  refine Call_ (wp_name T hv (callWith_clsD hc1 hc2 (args_cons (v h₀ P O A s E _ bo ao T fun w s1 k1 r1 => ?_) he) he hp) (by decide +kernel) (by decide +kernel)) hc
  obtain ⟨t, rfl⟩ := rp_int r1
  refine args_nil ⟨kheap k1 _ _ (e2 _ hm), ?_⟩
  exact kf.call2 bo (T.kp k1).here (fun p m => kheap k1 _ _ (e2 p m)) (aok_less ao hn) fun ko dk s' k nn e => q ko dk _ s' (ktrans k1 k) (by
    cases e' : s.heap.get? ko with
    | none => rfl
    | some o => rw [kheap k1 _ _ e'] at nn; cases nn) e
section
variable {B : Bas} {z1 z3 c3 ka ag an tw a1 a2 a3 a4 a5 a6 a7 a8 a9 a10 a11 a12 : Addr} {as : List Addr}
theorem ev_told (L : LB B z1 z3 c3 ka ag an tw a1 a2 a3 a4 a5 a6 a7 a8 a9 a10 a11 a12 as) {n : Nat} {env : Env} {C cl lam cL tc : Addr} {ocl olam oL : Obj} {fdl : FuncData} {Fs : List (Addr × Obj)} (LC : LawCls B tc C cl lam cL ocl olam oL fdl Fs) (hlam : B.hB.get? lam = some olam) (hcL : B.hB.get? cL = some oL)
    (fe : FEnv (defAt pw 18).scope env) (hf : env.func.isSome = true) (htc : env.cells.lookup (S "table") = some tc) {l : List Int} (hl : l ≠ []) (hsz : l.length ≤ 1000) {σ : Sto} {a b : Int} (h1 : σ.get "table" = some (.val (.list (D.ofInts l)))) (h2 : σ.get "key" = some (.val (KC C cl ocl Fs))) (h3 : σ.get "a" = some (.val (.int a))) (h4 : σ.get "b" = some (.val (.int b))) {p1 p2 p3 p4 p5 p6 p7 p8 : Pos} :
    Ev B (n + 6) env σ (.Call (.Name (S "_law_twelve") p1) [.Call (.Name (S "key") p2) [.Name (S "a") p3] [] p4, .Call (.Name (S "key") p5) [.Name (S "b") p6] [] p7] [] p8) (.list ((due0 (ansI l (a - b))).map D.bool)) := by
  intro h₀ P O A s E Q bo ao T q
  have fr := L.fr
  obtain ⟨ot, pm, cdv, doc, hot, hdt, hcdt⟩ := L.Ft.fn.at_
  refine Call_ (wp_glob bo T (by walk_at "gk") L.Ft.mg (callWith_def (o := ot) hdt (args_cons (wp_keyN bo ao (by omega) T LC.kf h2 (ev_name h3) fun k1 dk1 u1 s1 j1 f1 i1 => args_cons (wp_keyN bo ao (by omega) (T.kp j1) LC.kf h2 (ev_name h4) fun k2 dk2 u2 s2 j2 f2 i2 => args_nil ⟨(T.kp (ktrans j1 j2)).here _ _ hot, ?_⟩) (by rfl)) (by rfl)) (by rfl)) (by decide)) (by rfl)
  have j12 := ktrans j1 j2
  have T2 := T.kp j12
  obtain ⟨vt, hvt, rt⟩ := T2.vars "table" _ h1
  cases rt with
  | @list la vs _ ht hnla hr =>
  obtain ⟨ola, hola, hcla, nn, hdla⟩ := id ht
  obtain ⟨otc, hotc, hdtc⟩ : ∃ otc, s2.heap.get? tc = some otc ∧ otc.data = .cell (some (.ref la)) := by
    rcases hvt with ⟨kd, _⟩ | ⟨_, c, lk, ic⟩
    · rw [fe.cell (by decide +kernel : (defAt pw 18).scope.names.lookup (S "table") = some .cell)] at kd; cases kd
    · rw [htc] at lk; cases lk; exact ic
  obtain ⟨q1, q2, q3, q4, q5, hLF⟩ := LC.d2
  have LG : LamG [(lam, olam), (cL, oL), (tc, otc), (la, ola)] lam tc l := ⟨olam, cL, oL, otc, la, ola, fdl, vs, nn, q1, q2, q3, q4, q5, rfl, LC.d1, hLF, LC.d3, LC.d4, hdtc, hcla, hdla, rpInts hr, LC.d5⟩
  have hOtc : O tc := (T2.cells _ _ htc).2 hf
  have LO := lam_table (n := n) fr L.Fn LG hl hsz (T2.xlive (.inr hOtc)).2 a b
  have nB : ∀ {x o}, B.hB.get? x = some o → ¬ (P x ∨ O x) := fun e z => by rw [(T2.xlive z).2] at e; cases e
  have nF : ∀ {x}, s.heap.get? x = none → ¬ (P x ∨ O x) := fun e z => by obtain ⟨⟨o, e'⟩, _⟩ := T.xlive z; rw [e] at e'; cases e'
  have f2' : s.heap.get? k2 = none := by
    cases e' : s.heap.get? k2 with
    | none => rfl
    | some o => rw [kheap j1 _ _ e'] at f2; cases f2
  obtain ⟨vk, hvk, rk⟩ := T2.vars "key" _ h2
  cases rk with
  | abs H hp hH =>
  obtain ⟨rfl, rfl⟩ := hp
  have rK : ∀ (i : Int) (ko dk : Addr) (u : Tok), s2.heap.get? ko = some (inst C dk i u) → s.heap.get? ko = none → Rp s2.heap (fun x => (P x ∨ O x) ∧ x ≠ tc) (.ref ko) (KI C cl ocl Fs [(lam, olam), (cL, oL), (tc, otc), (la, ola)] i) := fun i ko dk u e f => .abs _ ⟨ko, dk, u, rfl, rfl⟩ fun p hp => by
    rcases List.mem_cons.mp hp with rfl | hp
    · exact ⟨e, fun ⟨nm, vs, hc, _⟩ => (by cases hc), fun z => nF f z.1⟩
    rcases List.mem_cons.mp hp with rfl | hp
    · obtain ⟨y1, y2, y3⟩ := hH _ (.head _)
      exact ⟨y1, y2, fun z => y3 z.1⟩
    rcases List.mem_append.mp hp with hp | hp
    · obtain ⟨y1, y2, y3⟩ := hH _ (.tail _ hp)
      exact ⟨y1, y2, fun z => y3 z.1⟩
    simp only [List.mem_cons, List.not_mem_nil, or_false] at hp
    rcases hp with rfl | rfl | rfl | rfl
    · exact ⟨T2.here _ _ hlam, fun ⟨nm, vs, _, hd, _⟩ => (by have := LC.d1; rw [hd] at this; cases this), fun z => nB hlam z.1⟩
    · exact ⟨T2.here _ _ hcL, codeO_noIter LC.d4, fun z => nB hcL z.1⟩
    · exact ⟨hotc, fun ⟨nm, vs, _, hd, _⟩ => (by rw [hdtc] at hd; cases hd), fun z => z.2 rfl⟩
    · exact ⟨hola, fun ⟨nm, vs, _, hd, _⟩ => (by rw [hdla] at hd; cases hd), fun z => hnla z.1⟩
  refine twelve_key fr L.F L.Ft (m := n + 2) ⟨LC.kf, LC.dcl, L.st⟩ LO (fun x => (P x ∨ O x) ∧ x ≠ tc) A s2 E Q _ bo ao T2.here (fun x z => T2.xlive z.1) (.cons (rK a k1 dk1 u1 (kheap j2 _ _ i1) f1) (.cons (rK b k2 dk2 u2 i2 f2') .nil)) fun v s' k r => q v s' (ktrans j12 k) ?_
  cases r with
  | @list ld ws _ hd hn hr2 =>
  refine .list hd (fun z => hn ⟨z, fun e => ?_⟩) (rpVals (fv := Value.bool) (fun _ => rfl) hr2)
  obtain ⟨o', ho', _, nn', hd'⟩ := hd
  rw [e, kheap k _ _ hotc] at ho'
  cases ho'
  rw [hdtc] at hd'; cases hd'
end
theorem ex_weak {B : Bas} {n : Nat} {env : Env} {σ : Sto} {ss : List Stmt} {R R' : Fl → Sto → Prop} (x : Ex B n env σ ss R) (h : ∀ fl τ, R fl τ → R' fl τ) : Ex B n env σ ss R' := fun h₀ P O A s E bo ao T => wpAny_mono (x h₀ P O A s E bo ao T) (fun f s' q => q.mono h) fun _ _ q => q
def pp (a b : Int) : D := .tuple [.int a, .int b]
def secondPart : List Stmt := match (defAt pw 18).body with | [_, _, _, _, _, _, x, y, z, w] => [x, y, z, w] | _ => []
def pairBody : List Stmt := match (defAt pw 18).body with | [_, _, _, _, _, _, _, _, .For _ _ b _ _, _] => b | _ => []
theorem map0 (m : Nat) : rngD 0 (m : Int) = (List.range m).map fun (k : Nat) => D.int (k : Int) := by
  unfold rngD; rw [show ((m : Int) - 0).toNat = m by omega]
  exact List.map_congr_left fun k _ => by rw [Int.zero_add]
theorem map1 (m : Nat) : rngD 1 (m : Int) = (List.range (m - 1)).map fun (k : Nat) => D.int (1 + (k : Int)) := by
  unfold rngD; rw [show ((m : Int) - 1).toNat = m - 1 by omega]
section
variable {B : Bas} {z1 z3 c3 ka ag an tw a1 a2 a3 a4 a5 a6 a7 a8 a9 a10 a11 a12 : Addr} {as : List Addr}
theorem pair_turn (L : LB B z1 z3 c3 ka ag an tw a1 a2 a3 a4 a5 a6 a7 a8 a9 a10 a11 a12 as) {env : Env} {C cl lam cL tc : Addr} {ocl olam oL : Obj} {fdl : FuncData} {Fs : List (Addr × Obj)} (LC : LawCls B tc C cl lam cL ocl olam oL fdl Fs) (hlam : B.hB.get? lam = some olam) (hcL : B.hB.get? cL = some oL)
    (fe : FEnv (defAt pw 18).scope env) (htc : env.cells.lookup (S "table") = some tc) {nb : List Int} (hl : nb ≠ []) (hsz : nb.length ≤ 1000) {a b : Int} {σ : Sto} (hσ : SubL [("table", .val (.list (D.ofInts nb))), ("key", .val (KC C cl ocl Fs)), ("a", .val (.int a)), ("b", .val (.int b))] σ) :
    Ex B 58 env σ pairBody (fun fl υ => match fl with | .next => SubL [("table", .val (.list (D.ofInts nb))), ("key", .val (KC C cl ocl Fs))] υ | .cont => SubL [("table", .val (.list (D.ofInts nb))), ("key", .val (KC C cl ocl Fs))] υ | .brk => False | .ret v => False) := by
  have fr := L.fr
  refine ex_sub hσ ?_
  show Ex B 58 env _ [_, .Assign _ (.Call _ [.Call _ [_] _ _, .Call _ [_] _ _] _ _) _, _, _] _
  generalize hr : ansI nb (a - b) = r
  refine ex_cons (ex_assign (d := .int r) (by walk_at "st") (ev_calld L.Fn (by walk_at "gk") (ds := [.list (D.ofInts nb), .int a, .int b]) (by walk_at "as") (fns_eqK (answer_spec (n := 57) fr L.Fn hl hsz) (by rw [hr]))) ?_ (by rfl))
  refine ex_cons (ex_assign (d := .list ((due0 r).map D.bool)) (by walk_at "st") (ev_eq (ev_told (n := 52) L LC hlam hcL fe fe.func htc hl hsz rfl rfl rfl rfl) (by rw [hr])) ?_ (by rfl))
  refine ex_cons (ex_if (t := false) (tst_cmp (Ev.weak (EvN.ev (evn_comp (ds := due0 r) [] D.bool (fun _ => false) D.bool (compOk_of fe rfl (by decide +kernel) (by decide +kernel) (by decide +kernel) (by decide +kernel)) (show 12 ≤ 1000000 by decide) (evit_list (by walk_at "ev")) ?_))) (Ev.weak (EvN.ev (evn_list (ds := [].map D.bool) evas_nil (by decide)))) (cmp_p (t := !(([] : List Bool) == [])) ?_ rfl)) (fun h => nomatch h) fun _ => ?_)
  · intro cenv ce k hk
    exact ⟨_, asg_name (by walk_at "st"), SubL.get (τ := []) trivial, tsts_one (tst_eq (tst_not (tst_ev (Ev.weak (ev_isbool fr (by walk_at "gk") (by walk_at "w") (Ev.weak (ev_boot (bn fr (by walk_at "gk") boot_bool) rfl)))) tru_bool)) rfl), fun h => nomatch h⟩
  · rw [filter_false]; exact cmp_ne_bools [] []
  refine ex_nil ?_
  refine ex_cons (ex_if (t := false) (tst_eq (tst_cmp (by walk_at "w") (b := .list ((due0 r).map D.bool)) ?_ (cmp_ne_bools (due0 r) (due0 r))) (by simp)) (fun h => nomatch h) fun _ => ex_nil (ex_nil ⟨rfl, rfl, trivial⟩))
  · refine Ev.weak (ev_eq (EvN.ev (evn_add (EvN.ev (evn_add (EvN.ev (evn_add (EvN.ev (evn_mul (EvN.ev (evn_list (ds := [_]) (by walk_at "as") (show 1 ≤ 1000000 by decide))) (by walk_at "w") (by decide) (by decide) (by simp) (by simp))) (EvN.ev (evn_mul (EvN.ev (evn_list (ds := [_]) (by walk_at "as") (show 1 ≤ 1000000 by decide))) (by walk_at "w") (by decide) (by decide) (by simp) (by simp))) (by simp))) (EvN.ev (evn_mul (EvN.ev (evn_list (ds := [_]) (by walk_at "as") (show 1 ≤ 1000000 by decide))) (by walk_at "w") (by decide) (by decide) (by simp) (by simp))) (by simp))) (EvN.ev (evn_mul (EvN.ev (evn_list (ds := [_]) (by walk_at "as") (show 1 ≤ 1000000 by decide))) (by walk_at "w") (by decide) (by decide) (by simp) (by simp))) (by simp))) ?_)
    rfl
theorem second (L : LB B z1 z3 c3 ka ag an tw a1 a2 a3 a4 a5 a6 a7 a8 a9 a10 a11 a12 as) {env : Env} {C cl lam cL tc : Addr} {ocl olam oL : Obj} {fdl : FuncData} {Fs : List (Addr × Obj)} (LC : LawCls B tc C cl lam cL ocl olam oL fdl Fs) (hlam : B.hB.get? lam = some olam) (hcL : B.hB.get? cL = some oL)
    (fe : FEnv (defAt pw 18).scope env) (htc : env.cells.lookup (S "table") = some tc) {nb : List Int} (hl : nb ≠ []) (hsz : nb.length ≤ 1000) {σ : Sto} (hσ : SubL [("table", .val (.list (D.ofInts nb))), ("key", .val (KC C cl ocl Fs))] σ) :
    Ex B 58 env σ secondPart (fun fl _ => fl = .ret (.bool true)) := by
  have fr := L.fr
  have hln : (D.ofInts nb).length = nb.length := ofInts_length nb
  have hpos : 0 < nb.length := List.length_pos_iff.mpr hl
  refine ex_sub hσ ?_
  show Ex B 58 env _ [.Assign _ _ _, .Expr (.Call (.Attribute _ _ _) [.ListComp _ _ _ _] _ _) _, .For (.Tuple [_, _] _ _) _ pairBody [] _, _] _
  refine ex_cons (ex_assign_comp (ds := List.range nb.length) [] (fun (k : Nat) => D.int (k : Int)) (fun _ => true) (fun k => pp k 0) (compOk_of fe rfl (by decide +kernel) (by decide +kernel) (by decide +kernel) (by decide +kernel)) (by simp; omega)
    (evit_eq (evit_range (a := 0) (b := ((D.ofInts nb).length : Int)) (ev_rng1 fr (by walk_at "gk") (by walk_at "w")) (by omega) (by omega) (by omega) (by omega)) (by rw [hln, map0])) ?_ (fe.loc (by decide +kernel)) (swaps_true (by rw [fe.scope]; rfl) (fe.loc (by decide +kernel)) (by decide) (by decide +kernel)) ?_)
  · intro cenv ce k hk
    exact ⟨_, asg_name (by walk_at "st"), SubL.get (τ := []) trivial, tsts_nil, fun _ => ev_tuple (by walk_at "as") (show 2 ≤ 1000000 by decide)⟩
  rw [filt_true]
  refine ex_cons (ex_extend (ds := (List.range nb.length).map fun (k : Nat) => pp k 0) (es := (List.range (nb.length - 1)).map fun (k : Nat) => pp 0 (1 + k)) rfl (evn_eq (evn_comp (ds := List.range (nb.length - 1)) [] (fun (k : Nat) => D.int (1 + (k : Int))) (fun _ => true) (fun k => pp 0 (1 + k)) (compOk_of fe rfl (by decide +kernel) (by decide +kernel) (by decide +kernel) (by decide +kernel)) (by simp; omega)
    (evit_eq (evit_range (a := 1) (b := ((D.ofInts nb).length : Int)) (ev_rng2 fr (by walk_at "gk") (by walk_at "w") (by walk_at "w")) (by omega) (by omega) (by omega) (by omega)) (by rw [hln, map1])) ?_) (by rw [filt_true])) (by simp; omega) ?_)
  · intro cenv ce k hk
    exact ⟨_, asg_name (by walk_at "st"), SubL.get (τ := []) trivial, tsts_nil, fun _ => ev_tuple (by walk_at "as") (show 2 ≤ 1000000 by decide)⟩
  generalize hps : ((List.range nb.length).map fun (k : Nat) => pp k 0) ++ ((List.range (nb.length - 1)).map fun (k : Nat) => pp 0 (1 + k)) = ps
  have hall : ∀ d ∈ ps, ∃ a b : Int, d = pp a b := by
    intro d hd
    rw [← hps] at hd
    rcases List.mem_append.mp hd with h | h
    · obtain ⟨k, _, rfl⟩ := List.mem_map.mp h; exact ⟨_, _, rfl⟩
    · obtain ⟨k, _, rfl⟩ := List.mem_map.mp h; exact ⟨_, _, rfl⟩
  refine ex_freeze (x := "pairs") (ds := ps) rfl ?_
  refine ex_sub (τ := [("table", .val (.list (D.ofInts nb))), ("key", .val (KC C cl ocl Fs)), ("pairs", .val (.list ps))]) ⟨rfl, rfl, rfl, trivial⟩ ?_
  refine ex_cons (ex_forS (fun _ => [("table", .val (.list (D.ofInts nb))), ("key", .val (KC C cl ocl Fs))]) (evit_list (ds := ps) (by walk_at "ev")) ⟨rfl, rfl, trivial⟩ ?_ ?_)
  · intro pre d post e
    obtain ⟨a, b, rfl⟩ := hall d (by rw [e]; simp)
    refine ⟨_, asg_tuple (asgs_cons (asg_name (by walk_at "st")) (asgs_cons (asg_name (by walk_at "st")) asgs_nil)), ?_⟩
    refine ex_weak (pair_turn (a := a) (b := b) L LC hlam hcL fe htc hl hsz ⟨rfl, rfl, rfl, rfl, trivial⟩) fun fl υ h => ?_
    cases fl with
    | next => exact h
    | cont => exact h
    | brk => exact h.elim
    | ret v => exact h.elim
  · intro υ hυ
    exact ex_sub hυ (ex_cons (ex_return (Ev.ret ev_bool) rfl))
end

theorem execs_rest {B : Bas} {n : Nat} {A : Around} {env : Env} {σ : Sto} {h₀ : Heap} {P O : Addr → Prop} {s : Shared} {E : Value → Shared → Prop} {ss : List Stmt} {R : Fl → Sto → Prop} {Q : Flow → Shared → Prop} (bo : B.Ok) (ao : AOk n A) (T : St B h₀ P env σ O s.heap) (x : Ex B n env σ ss R)
    (h : ∀ f s', Post B h₀ P env O s R f s' → Q f s') : wpAny (model B.prog B.w) A (execs ss env) Q E s :=
  wpAny_mono (x h₀ P O A s E bo ao T) (fun f s' q => h f s' q) fun _ _ q => q
theorem cut63 (l : List Int) : D.list (List.take ((some (63 : Int)).elim (D.ofInts l).length (clipAt (D.ofInts l).length) - (none : Option Int).elim 0 (clipAt (D.ofInts l).length)) (List.drop ((none : Option Int).elim 0 (clipAt (D.ofInts l).length)) (D.ofInts l))) = D.list (D.ofInts (l.take 63)) := by
  simp only [Option.elim, List.drop_zero, Nat.sub_zero]
  congr 1
  unfold D.ofInts
  rw [List.map_take, List.length_map]
  by_cases h : l.length ≤ 63
  · rw [List.take_of_length_le, List.take_of_length_le] <;> simp [clipAt] <;> omega
  · congr 1
    simp [clipAt]; omega
theorem ofInts_append (a b : List Int) : D.ofInts a ++ D.ofInts b = D.ofInts (a ++ b) := by simp [D.ofInts]
theorem sto3_ex {B : Bas} {n : Nat} {env : Env} {σ : Sto} {x : String} {p p' p1 : Pos} {es : List Expr} {l : List Addr} (hx : Storable env x) (v : EvAs B n env σ es (l.map fun a => D.val (.ref a))) (hl : l.length ≤ 1000000) (hsw : swapsWith (.List es p1) (some (.Name (S x) p)) p'.line env = pure false) :
    Ex1 B n env σ (.Assign [.Name (S x) p] (.List es p1) p') (fun fl τ => fl = .next ∧ τ = σ.put x (.val (fnsOf l))) :=
  ex_assign (d := fnsOf l) hx (EvN.ev (evn_list v (by rw [List.length_map]; exact hl))) ⟨rfl, rfl⟩ hsw
theorem law_spec {B : Bas} (fr : Free B) {A : Around} {a1 a2 a3 a4 a5 a6 a7 a8 a9 a10 a11 a12 an tw ag ka a c c1 c3 z1 z2 z3 : Addr} (F : Twelve B a1 a2 a3 a4 a5 a6 a7 a8 a9 a10 a11 a12) (Fk : HasDef B "cmp_to_key" ka (defAt pw 13)) (Fn : HasDef B "_law_answer" an (defAt pw 15)) (Ft : HasDef B "_law_twelve" tw (defAt pw 16)) (Fg : HasDef B "_law_again" ag (defAt pw 17))
    (FF : ∃ o pm doc, B.hB.get? a = some o ∧ o.data = .func (docDef (defAt pw 18).name (defAt pw 18).params (defAt pw 18).body (defAt pw 18).scope pm (.ref c) doc) ∧ B.hB.CodeRec (.ref c) (defAt pw 18).name)
    (FG : ∃ o pm doc, B.hB.get? ag = some o ∧ o.data = .func (docDef (defAt pw 17).name (defAt pw 17).params (defAt pw 17).body (defAt pw 17).scope pm (.ref c3) doc) ∧ B.hB.CodeRec (.ref c3) (defAt pw 17).name)
    (FK : ∃ o pm doc, B.hB.get? ka = some o ∧ o.data = .func (docDef (S "cmp_to_key") (defAt pw 13).params (defAt pw 13).body (defAt pw 13).scope pm (.ref c1) doc) ∧ B.hB.CodeRec (.ref c1) (S "cmp_to_key"))
    (C : CodeHd B.hB c z2) (C1 : CodeHd B.hB c1 z1) (C3 : CodeHd B.hB c3 z3) (hne : z1 ≠ z2) (hne3 : z3 ≠ z1 ∧ z3 ≠ z2) (hbm : B.hB.BuiltinsAt B.mg z2) (hbm1 : B.hB.BuiltinsAt B.mg z1) (hbm3 : B.hB.BuiltinsAt B.mg z3)
    {vN : Value} {oS : Obj} (gn : B.mg (S "__name__") = some vN) (g1 : B.mg (S "object") = none) (hS : B.hB.get? cStatics = some oS) (hSl : nsLook (S "thirdparty.any") oS = Sem.pure none) {l : List Int} (hl : l.length ≤ 63)
    (s : Shared) (E : Value → Shared → Prop) (Q : Value → Shared → Prop) (vs : List Value) (bo : B.Ok) (ao : AOk 60 A) (hh : B.Here s.heap) (hz1 : s.heap.get? z1 = some (tabObj #[])) (hz2 : s.heap.get? z2 = some (tabObj #[])) (hz3 : s.heap.get? z3 = some (tabObj #[])) (hB1 : B.hB.get? z1 = none) (hB2 : B.hB.get? z2 = none) (hB3 : B.hB.get? z3 = none) (r : RpAll s.heap (fun x => x ∈ [z1, z3, z2]) vs [.list (D.ofInts l)])
    (q : ∀ h' t, (∃ ps, h'.get? z1 = some (tabObj ps)) → (∃ ps, h'.get? z2 = some (tabObj ps)) → (∃ ps, h'.get? z3 = some (tabObj ps)) → (∀ b o, (hideAll s.heap [z1, z3, z2]).get? b = some o → h'.get? b = some o) → Q (.bool true) ⟨h', s.gens, s.drawn, t, s.os⟩) : wpAny (model B.prog B.w) A (call (.ref a) vs) Q E s := by
  obtain ⟨oK, pmK, docK, hoK, hdK, hcK⟩ := id FK
  refine lawQ_of (n := 59) (xs := ["script"]) FF rfl (fun pm cd doc vs hvs => ?_) rfl (by decide) (by decide +kernel) rfl rfl s E Q vs bo ao hh ?_ r (fun env A' O s₁ E' fe hcode hqual hf hgl hbi ao' kK T => ?_)
  · match vs, hvs with
    | [v], _ => rfl
  · intro x hx
    simp only [List.mem_cons, List.not_mem_nil, or_false] at hx
    rcases hx with rfl | rfl | rfl
    · exact ⟨⟨_, hz1⟩, hB1⟩
    · exact ⟨⟨_, hz3⟩, hB3⟩
    · exact ⟨⟨_, hz2⟩, hB2⟩
  show wpAny _ _ (execs (_ :: _ :: .Assign _ (.List [_, _, _, _] _) _ :: .Assign _ (.List [_, _, _, _] _) _ :: .Assign _ (.List [_, _, _, _] _) _ :: .For _ _ loopBody [] _ :: secondPart) env) _ _ _
  generalize hnb : l.take 63 ++ [0] = nb
  have hlen : nb.length ≤ 64 ∧ 1 ≤ nb.length := by rw [← hnb]; simp; omega
  have hnn : nb ≠ [] := by intro e; rw [e] at hlen; simp at hlen
  have hln : (D.ofInts nb).length = nb.length := ofInts_length nb
  obtain ⟨tc, htc⟩ := Option.isSome_iff_exists.mp (fe.cells (S "table") (by decide +kernel))
  -- the table
  refine execs_step (R := fun fl σ => fl = .next ∧ σ = [("script", .val (.list (D.ofInts l))), ("table", .val (.list (D.ofInts nb)))]) bo ao' T ?_ (fun f s₂ z => ?_)
  · exact ex_assign (d := .list (D.ofInts nb)) (by walk_at "st") (ev_eq (EvN.ev (evn_add (ds := D.ofInts (l.take 63)) (es := D.ofInts [0]) (ev_eq (EvN.ev (evn_cut (ds := D.ofInts l) (lo := none) (hi := some 63) (evl_ev (by walk_at "ev")) evp_none (evp_some (by walk_at "w")) (by rw [ofInts_length]; omega))) (cut63 l)) (EvN.ev (evn_list (by walk_at "as") (by decide))) (by simp [ofInts_length]; omega))) (by rw [ofInts_append, hnb])) ⟨rfl, rfl⟩ (by rfl)
  obtain ⟨fl, σ', O', mv, hfl, ⟨rfl, rfl⟩, hO, T2⟩ := z
  cases f <;> try exact hfl.elim
  dsimp only
  obtain ⟨h2, tk2, rfl, k2⟩ := mv
  obtain ⟨h1, tk1, rfl, k1⟩ := kK
  have nz : ∀ z, z ∈ [z1, z3, z2] → ¬ O z := fun z hz q => by obtain ⟨⟨o, e⟩, _⟩ := T.plive z hz; rw [T.new z q] at e; cases e
  have nz' : ∀ z, z ∈ [z1, z3, z2] → ¬ O' z := fun z hz q => by obtain ⟨⟨o, e⟩, _⟩ := T2.plive z hz; rw [T2.new z q] at e; cases e
  have hz1' : h2.get? z1 = some (tabObj #[]) := k2 _ _ (nz z1 (by simp)) (k1 _ _ hz1)
  have hz2' : h2.get? z2 = some (tabObj #[]) := k2 _ _ (nz z2 (by simp)) (k1 _ _ hz2)
  have hz3' : h2.get? z3 = some (tabObj #[]) := k2 _ _ (nz z3 (by simp)) (k1 _ _ hz3)
  -- the class
  refine wpAny_execs_cons (key10 (n := 19) bo ao' T2 hf hcode hne hne3 C hz1' hz2' hz3' hbm htc Fk (by walk_at "gk") (by walk_at "st") (make_k1 bo hoK hdK hcK C1 hbm1 gn g1 hS hSl hB1) (fun Cc cl lam cL ocl olam oL fdl Fs as h3 h4 t4 LC keep tz2 hit has hF hcl hlam hcL k4 T3 => ?_) (by rfl))
  have dead : ∀ {b}, h2.get? b = none → ¬ (O' b ∨ b = z3) := fun e z => z.elim (fun z => by obtain ⟨o, e'⟩ := T2.live _ z; rw [e] at e'; cases e') fun z => by rw [z, hz3'] at e; cases e
  have old2 : ∀ b o, B.hB.get? b = some o → h2.get? b = some o := fun b o e => T2.here _ _ e
  have sub1 : ∀ b o, B.hB.get? b = some o → (hideP h3 fun a => O' a ∨ a = z3).get? b = some o := fun b o e => by
    have n1 : b ≠ z1 := fun q => by rw [q, hB1] at e; cases e
    have n2 : b ≠ z2 := fun q => by rw [q, hB2] at e; cases e
    have n3 : b ≠ z3 := fun q => by rw [q, hB3] at e; cases e
    exact hideP_get (keep b o (by simp [n1, n2]) (old2 b o e)) fun z => z.elim (fun z => by have := (T2.xlive (.inr z)).2; rw [e] at this; cases this) n3
  have nz1 : ¬ (O' z1 ∨ z1 = z3) := fun z => z.elim (nz' z1 (by simp)) fun z => hne3.1 z.symm
  have nz2 : ¬ (O' z2 ∨ z2 = z3) := fun z => z.elim (nz' z2 (by simp)) fun z => hne3.2 z.symm
  have HI : Hit z1 (hideP h3 fun a => O' a ∨ a = z3) as := hit.keeps fun b o m e => hideP_get e (by
    rcases List.mem_cons.mp m with rfl | m
    · exact nz1
    · exact dead (has b m))
  have bo1 : (B.at (hideP h3 fun a => O' a ∨ a = z3)).Ok := bo.grow sub1
  have L1 : LB (B.at (hideP h3 fun a => O' a ∨ a = z3)) z1 z3 c3 ka ag an tw a1 a2 a3 a4 a5 a6 a7 a8 a9 a10 a11 a12 as := by
    obtain ⟨oG, pmG, docG, hoG, hdG, hcG⟩ := FG
    exact ⟨bo1, fr, ⟨F.f1.grow sub1, F.f2.grow sub1, F.f3.grow sub1, F.f4.grow sub1, F.f5.grow sub1, F.f6.grow sub1, F.f7.grow sub1, F.f8.grow sub1, F.f9.grow sub1, F.f10.grow sub1, F.f11.grow sub1, F.f12.grow sub1⟩,
      Fk.grow sub1, Fn.grow sub1, Ft.grow sub1, Fg.grow sub1, ⟨oG, pmG, docG, sub1 _ _ hoG, hdG, hcG.keeps sub1⟩, C3.keeps sub1, BuiltinsAt.grow hbm3 sub1, ⟨oS, sub1 _ _ hS, hSl⟩,
      make_k2 bo1 (sub1 _ _ hoK) hdK (hcK.keeps sub1) (C1.keeps sub1) (BuiltinsAt.grow hbm1 sub1) gn g1 (sub1 _ _ hS) hSl HI, HI⟩
  have LC1 : LawCls (B.at (hideP h3 fun a => O' a ∨ a = z3)) tc Cc cl lam cL ocl olam oL fdl Fs := ⟨LC.kf, LC.dcl, LC.d1, LC.d2, LC.d3, LC.d4, LC.d5⟩
  have hlam1 : (B.at (hideP h3 fun a => O' a ∨ a = z3)).hB.get? lam = some olam := hideP_get hlam.1 (dead hlam.2)
  have hcL1 : (B.at (hideP h3 fun a => O' a ∨ a = z3)).hB.get? cL = some oL := hideP_get hcL.1 (dead hcL.2)
  obtain ⟨ps2, tz2⟩ := tz2
  have z2B : (hideP h3 fun a => O' a ∨ a = z3).get? z2 = some (tabObj ps2) := hideP_get tz2 nz2
  have z3n : z3 ∉ [z1, z2] := by simp only [List.mem_cons, List.not_mem_nil, or_false, not_or]; exact hne3
  have ez4 : h4.get? z3 = some (tabObj #[]) := k4 _ _ (nz' z3 (by simp)) (keep _ _ z3n hz3')
  have old1 : ∀ b o, (hideAll s.heap [z1, z3, z2]).get? b = some o → (hideP h3 fun a => O' a ∨ a = z3).get? b = some o := fun b o e => by
    have e0 := of_hideAll _ e
    have nm : b ∉ [z1, z3, z2] := fun m => by rw [hideAll_none _ m] at e; cases e
    simp only [List.mem_cons, List.not_mem_nil, or_false, not_or] at nm
    exact hideP_get (keep b o (by simp [nm.1, nm.2.2]) (T2.keep b o e0)) fun z => z.elim (fun z => by have := T2.new b z; rw [e0] at this; cases this) nm.2.1
  obtain ⟨cc, zt, x1, x2, x3, x4, x5, x6, oc1, oc2, oc3, oc4, oc5, oc6, _, HH⟩ := id HI
  have z1B := HH.t1
  have ez0 : (B.at (hideP h3 fun a => O' a ∨ a = z3)).hB.get? z3 = none := hideP_none (.inr rfl)
  generalize hbase : (hideP h3 fun a => O' a ∨ a = z3) = hB1' at T3 L1 LC1 hlam1 hcL1 z2B old1 z1B ez0 bo1
  have ao58 : AOk 58 A' := aok_less ao' (by omega)
  -- the three lists
  refine execs_step (n := 58) (B := B.at hB1') (st := .Assign _ (.List [_, _, _, _] _) _) bo1 ao58 T3 (sto3_ex (l := [a1, a11, a5, a7]) (by walk_at "st") (evas_cons (ev_gfn L1.F.f1 (by walk_at "gk")) (evas_cons (ev_gfn L1.F.f11 (by walk_at "gk")) (evas_cons (ev_gfn L1.F.f5 (by walk_at "gk")) (evas_cons (ev_gfn L1.F.f7 (by walk_at "gk")) evas_nil)))) (show 4 ≤ 1000000 by decide) (by rfl)) (fun f s₅ z => ?_)
  obtain ⟨fl, σ5, O5, mv5, hfl, ⟨rfl, rfl⟩, hO5, T5⟩ := z
  cases f <;> try exact hfl.elim
  dsimp only
  refine execs_step (n := 58) (B := B.at hB1') (st := .Assign _ (.List [_, _, _, _] _) _) bo1 ao58 T5 (sto3_ex (l := [a2, a10, a4, a8]) (by walk_at "st") (evas_cons (ev_gfn L1.F.f2 (by walk_at "gk")) (evas_cons (ev_gfn L1.F.f10 (by walk_at "gk")) (evas_cons (ev_gfn L1.F.f4 (by walk_at "gk")) (evas_cons (ev_gfn L1.F.f8 (by walk_at "gk")) evas_nil)))) (show 4 ≤ 1000000 by decide) (by rfl)) (fun f s₆ z => ?_)
  obtain ⟨fl, σ6, O6, mv6, hfl, ⟨rfl, rfl⟩, hO6, T6⟩ := z
  cases f <;> try exact hfl.elim
  dsimp only
  refine execs_step (n := 58) (B := B.at hB1') (st := .Assign _ (.List [_, _, _, _] _) _) bo1 ao58 T6 (sto3_ex (l := [a6, a12, a3, a9]) (by walk_at "st") (evas_cons (ev_gfn L1.F.f6 (by walk_at "gk")) (evas_cons (ev_gfn L1.F.f12 (by walk_at "gk")) (evas_cons (ev_gfn L1.F.f3 (by walk_at "gk")) (evas_cons (ev_gfn L1.F.f9 (by walk_at "gk")) evas_nil)))) (show 4 ≤ 1000000 by decide) (by rfl)) (fun f s₇ z => ?_)
  obtain ⟨fl, σ7, O7, mv7, hfl, ⟨rfl, rfl⟩, hO7, T7⟩ := z
  cases f <;> try exact hfl.elim
  dsimp only
  have T8 := T7.forget (σ' := sto5 nb (KC Cc cl ocl Fs) a1 a2 a3 a4 a5 a6 a7 a8 a9 a10 a11 a12) (SubL.get (τ := sto5 nb (KC Cc cl ocl Fs) a1 a2 a3 a4 a5 a6 a7 a8 a9 a10 a11 a12) ⟨rfl, rfl, rfl, rfl, rfl, trivial⟩)
  obtain ⟨h5, tk5, rfl, k5⟩ := mv5
  obtain ⟨h6, tk6, rfl, k6⟩ := mv6
  obtain ⟨h7, tk7, rfl, k7⟩ := mv7
  have nO5 : ¬ O5 z3 := fun z => by obtain ⟨⟨o, e⟩, _⟩ := T5.plive z3 rfl; rw [T5.new _ z] at e; cases e
  have nO6 : ¬ O6 z3 := fun z => by obtain ⟨⟨o, e⟩, _⟩ := T6.plive z3 rfl; rw [T6.new _ z] at e; cases e
  have ez7 : h7.get? z3 = some (tabObj #[]) := k7 _ _ nO6 (k6 _ _ nO5 (k5 _ _ (nz' z3 (by simp)) ez4))
  -- the first loop
  refine wpAny_execs_cons (for_first (B := B.at hB1') (n := 58) (z3 := z3) (line := 98) (col := 21) (qn := againQ) (fun _ τ => SubL (sto5 nb (KC Cc cl ocl Fs) a1 a2 a3 a4 a5 a6 a7 a8 a9 a10 a11 a12) τ) (evit_list (ds := D.ofInts nb) (by walk_at "ev")) (by omega) ?t0 ?tl (fun _ => rfl) bo1 ao58 hf T8 ez7 fun h8 t8 hBx h9 O8 τ GB keep8 hτ T9 => ?fin)
  case t0 =>
    intro d post e
    obtain ⟨x, rfl⟩ : ∃ x, d = .int x := by
      have hm : d ∈ D.ofInts nb := by rw [e]; exact .head _
      obtain ⟨x, _, rfl⟩ := List.mem_map.mp hm
      exact ⟨x, rfl⟩
    refine ⟨_, asg_name (by walk_at "st"), fun h₀ O A s E Q ao T ez q => ?_⟩
    exact turn_first L1 ez0 fe hf ao T ez q
  case tl =>
    intro hBx GB pre d post σ' e hpre hσ'
    obtain ⟨x, rfl⟩ : ∃ x, d = .int x := by
      have hm : d ∈ D.ofInts nb := by rw [e]; simp
      obtain ⟨x, _, rfl⟩ := List.mem_map.mp hm
      exact ⟨x, rfl⟩
    exact ⟨_, asg_sub hσ' (asg_name (by walk_at "st")), turn_later (L1.grow GB.sub) GB.fil fe ⟨rfl, rfl, rfl, rfl, rfl, rfl, trivial⟩⟩
  -- the rest
  have L2 := L1.grow GB.sub
  have bo2 := L2.bo
  refine execs_rest (B := B.at hBx) (n := 58) (s := ⟨h8, s.gens, s.drawn, t8, s.os⟩) bo2 ao58 T9 (second (B := B.at hBx) L2 ⟨LC1.kf, LC1.dcl, LC1.d1, LC1.d2, LC1.d3, LC1.d4, LC1.d5⟩ (GB.sub _ _ hlam1) (GB.sub _ _ hcL1) fe htc hnn (by omega) ⟨hτ.get _ _ rfl, hτ.get _ _ rfl, trivial⟩) (fun f s₉ z => ?_)
  obtain ⟨fl, σ', O₉, mv, hfl, rfl, hO9, T10⟩ := z
  cases f <;> try exact hfl.elim
  dsimp only
  cases rp_val hfl
  obtain ⟨h9', tk9, rfl, k9⟩ := mv
  have here : ∀ b o, hB1'.get? b = some o → h9'.get? b = some o := fun b o e => T10.here _ _ (GB.sub _ _ e)
  obtain ⟨cL', oL', f1, f2, f3⟩ := GB.fil
  exact q h9' tk9 ⟨_, here _ _ z1B⟩ ⟨_, here _ _ z2B⟩ ⟨_, T10.here _ _ f1⟩ fun b o e => here _ _ (old1 b o e)

def fragAt (h : Heap) : Frag := ([mainGlobals, 104, 125, 130, cStatics] ++ (match h.get? mainGlobals with
  | some ⟨_, _, .dict es _, _⟩ => es.toList.filterMap fun e => (match e.val with | .ref f => some f | _ => none)
  | _ => [])).filterMap fun a => (h.get? a).map fun o => (a, o)
theorem fragAt_in (h : Heap) : (fragAt h).In h := fun a o e => by
  have m := mem_of_lookupK e
  unfold fragAt at m
  obtain ⟨b, _, hb⟩ := List.mem_filterMap.mp m
  obtain ⟨x, hx, e2⟩ := Option.map_eq_some_iff.mp hb
  cases e2; exact hx
def staticsB (h : Heap) : Bool := match h.get? cStatics with
  | some ⟨_, _, .dict es _, _⟩ => es.all (fun e => match e.key with | .str _ _ => true | _ => false) && (nsFind es (Str.ofString "thirdparty.any")).isNone
  | _ => false
theorem statics_of {h : Heap} (e : staticsB h = true) : ∃ o es ep, h.get? cStatics = some o ∧ o.data = .dict es ep ∧ StrKeys es ∧ nsFind es (Str.ofString "thirdparty.any") = none := by
  unfold staticsB at e
  split at e
  · rename_i a b es ep c hg
    obtain ⟨e1, e2⟩ := Bool.and_eq_true_iff.mp e
    refine ⟨_, es, ep, hg, rfl, fun x hx => ?_, Option.isNone_iff_eq_none.mp e2⟩
    obtain ⟨i, hi, rfl⟩ := Array.mem_iff_getElem.mp hx
    have := Array.all_eq_true.mp e1 i hi
    split at this
    · rename_i n t hk; exact ⟨n, t, hk⟩
    · cases this
  · cases e
def chk10 (h : Heap) : Bool := (tabIn (fragAt h) (Str.ofString "cmp_to_key") == some (104, 100)) && (tabIn (fragAt h) (Str.ofString "_law_again") == some (125, 121)) && (tabIn (fragAt h) (Str.ofString "law") == some (130, 128)) && (match nsIn (fragAt h) mainGlobals (Str.ofString "__name__") with | some (some _) => true | _ => false) && staticsB h
structure Said10 (h : Heap) : Prop where
  K : ∃ K : Frag, K.In h ∧ tabIn K (Str.ofString "cmp_to_key") = some (104, 100) ∧ tabIn K (Str.ofString "_law_again") = some (125, 121) ∧ tabIn K (Str.ofString "law") = some (130, 128) ∧ ∃ v, nsIn K mainGlobals (Str.ofString "__name__") = some (some v)
  S : ∃ o es ep, h.get? cStatics = some o ∧ o.data = .dict es ep ∧ StrKeys es ∧ nsFind es (Str.ofString "thirdparty.any") = none
theorem said_of {h : Heap} (e : chk10 h = true) : Said10 h := by
  unfold chk10 at e
  obtain ⟨e, e5⟩ := Bool.and_eq_true_iff.mp e
  obtain ⟨e, e4⟩ := Bool.and_eq_true_iff.mp e
  obtain ⟨e, e3⟩ := Bool.and_eq_true_iff.mp e
  obtain ⟨e1, e2⟩ := Bool.and_eq_true_iff.mp e
  refine ⟨⟨fragAt h, fragAt_in h, beq_iff_eq.mp e1, beq_iff_eq.mp e2, beq_iff_eq.mp e3, ?_⟩, statics_of e5⟩
  split at e4
  · rename_i v hv; exact ⟨v, hv⟩
  · cases e4
def hook10 : Hook where
  α := Bool
  obs := fun s => chk10 s.heap
  val := fun _ => true
  says := fun _ h => Said10 h
  of := fun _ s e => said_of e
  keeps := fun _ h h' x k => by
    obtain ⟨⟨K, a, b⟩, o, es, ep, c, d⟩ := x
    exact ⟨⟨K, Frag.In.keeps a k, b⟩, o, es, ep, k _ _ c, d⟩

def pwv : Program := { PySem.Challenge.pw_dm0115_10 with main := { PySem.Challenge.pw_dm0115_10.main with body := PySem.Challenge.pw_dm0115_10.main.body.filter fun s => match s with | .FunctionDef .. => true | _ => false } }

theorem ints_rp {h : Heap} {X : Addr → Prop} : ∀ {vs : List Value} {ns : List Int}, IntsAre vs ns → RpAll h X vs (D.ofInts ns)
  | _, _, .nil => .nil
  | _, _, .cons n t r => .cons (.int n t) (ints_rp r)

theorem has_of {p : Program} {loose : List Str} {mean : ExcName → Option Value} {mg mb : Str → Option Value} {h : Heap} (prog : Program) (w : World) (T : Top p loose mean mg mb h) (x : String) (i : Nat) (f : Def)
    (hd : (recsOf p)[i]?.map (fun d => (d.name, d.params, d.body, d.scope)) = some (f.name, f.params, f.body, f.scope)) (hn : f.name = S x) : ∃ a, HasDef ⟨prog, w, h, mg, mb⟩ x a f := by
  obtain ⟨d, hd1, hd2⟩ := Option.map_eq_some_iff.mp hd
  simp only [Prod.mk.injEq] at hd2
  obtain ⟨h1, h2, h3, h4⟩ := hd2
  obtain ⟨a, o, pm, code, doc, e1, e2, e3, e4⟩ := T.fn d (List.mem_of_getElem? hd1)
  refine ⟨a, ⟨by rw [← hn, ← h1]; exact e1, ⟨o, pm, code, doc, e2, ?_, ?_⟩⟩⟩
  · rw [e3, h1, h2, h3, h4]
  · rw [← h1]; exact e4
theorem free_of {p : Program} {loose : List Str} {mean : ExcName → Option Value} {mg mb : Str → Option Value} {h : Heap} (prog : Program) (w : World) (T : Top p loose mean mg mb h) (hG : Heap)
    (hc : (bnames.all fun x => !(startupNames.contains (S x) || loose.contains (S x) || ((recsOf p).map (·.name)).contains (S x) || ((litsOf p).map (·.1)).contains (S x) || ((clssOf p loose).map (·.name)).contains (S x))) = true) : Free ⟨prog, w, hG, mg, mb⟩ := by
  intro x hx
  have := List.all_eq_true.mp hc x hx
  simp only [Bool.not_eq_true', Bool.or_eq_false_iff] at this
  obtain ⟨⟨⟨⟨a, b⟩, c⟩, d⟩, e⟩ := this
  have nc : ∀ {l : List Str}, l.contains (S x) = false → S x ∉ l := fun h hm => by rw [List.contains_iff_mem.mpr hm] at h; cases h
  exact T.free (S x) (nc a) (nc b) (nc c) (nc d) (nc e)
section
variable {h h' : Heap} {tabs : List (Addr × Addr)}
theorem ghost_rec (hT : TabsAt tabs h) {cd : Value} {q : Str} (x : h.CodeRec cd q) : (ghostOf h tabs).CodeRec cd q := by
  obtain ⟨c, o, vs, t, e1, e2, e3, e4⟩ := x
  refine ⟨c, o, vs, t, e1, ghost_get hT e2 (fun z => ?_), e3, e4⟩
  rw [z] at e3
  cases e3
  cases e4
theorem ghost_def (hT : TabsAt tabs h) {prog : Program} {w : World} {mg mb : Str → Option Value} {x : String} {a : Addr} {f : Def} (H : HasDef ⟨prog, w, h, mg, mb⟩ x a f) : HasDef ⟨prog, w, ghostOf h tabs, mg, mb⟩ x a f := by
  obtain ⟨o, pm, cd, doc, h1, h2, h3⟩ := H.fn.at_
  exact ⟨H.mg, ⟨o, pm, cd, doc, ghost_get hT h1 (fun z => by rw [z] at h2; cases h2), h2, ghost_rec hT h3⟩⟩
theorem ghost_bi (hT : TabsAt tabs h) {p : Program} {loose : List Str} {mean : ExcName → Option Value} {mg mb : Str → Option Value} (T : Top p loose mean mg mb h) {q : Addr × Addr} (hq : q ∈ tabs) : (ghostOf h tabs).BuiltinsAt mg q.2 := by
  obtain ⟨bm, ob, a1, a2, a3, a4, a5, a6⟩ := T.bmain
  refine ⟨bm, ob, a1, a2, fun z => ?_, fun z => ?_, ghost_get hT a3 (fun z => by rw [z] at a4; cases a4), a4, a5, a6⟩
  · obtain ⟨o, es, ep, e, hd, _⟩ := T.g
    rw [z, e] at a3; cases a3; rw [a6] at hd; cases hd
  · have := (hT q hq).2
    rw [z, this] at a3; cases a3; cases a4
theorem ghost_bas (hT : TabsAt tabs h) {p : Program} {loose : List Str} {mean : ExcName → Option Value} {mg mb : Str → Option Value} (T : Top p loose mean mg mb h) (prog : Program) (w : World) : Bas.Ok ⟨prog, w, ghostOf h tabs, mg, mb⟩ :=
  ⟨ghost_ns hT T.g, ghost_ns hT T.b, T.builtins, let ⟨mc, a, r⟩ := T.nolimit; ⟨mc, ghost_ns hT a, r⟩⟩
theorem ghost_old (hT : TabsAt tabs h) (k : ∀ b o, (ghostOf h tabs).get? b = some o → h'.get? b = some o) (gr : ∀ q ∈ tabs, ∃ ps, h'.get? q.2 = some (tabObj ps)) : OldK h h' := by
  refine ⟨fun b o e => ?_, fun b o e => ?_⟩
  · by_cases hb : b ∈ tabs.map (·.2)
    · obtain ⟨q, hq, rfl⟩ := List.mem_map.mp hb
      obtain ⟨ps, hP⟩ := gr q hq
      have e2 := (hT q hq).2
      rw [e] at e2
      cases e2
      exact .inr (.inl ⟨((hT q hq).1.tab (hT q hq).2).isCodeTable, rfl, #[], ps, rfl, by rw [Array.empty_append]; exact hP⟩)
    · exact .inl (k b o (ghost_ne e hb))
  · by_cases hb : b ∈ tabs.map (·.2)
    · obtain ⟨q, hq, rfl⟩ := List.mem_map.mp hb
      obtain ⟨ps, hP⟩ := gr q hq
      exact ⟨_, hP⟩
    · exact ⟨o, k b o (ghost_ne e hb)⟩
end

end Mine
open Mine
set_option maxHeartbeats 8000000 in
theorem PySem.Challenge.cw_dm0115_10_holds : PySem.Challenge.rw_dm0115_10.Holds := by
  w_on; o_law
  refine holds_open (q := pwv) (loose := []) (Xt := fun s => xlAt pwv [] s && recOk (RowW.records _) s) (XP := XL pwv []) (Yf := Hook.obs hook10) (Ya := Hook.val hook10) (YP := Hook.says hook10) (N := 1216) ?hl (Hook.of hook10) (Hook.keeps hook10) (fun s e => xl_of s (Bool.and_eq_true_iff.mp e).1) XL.keeps (by rfl) (by rfl) (by rfl) (fun s e => recFacts_of (Bool.and_eq_true_iff.mp e).2) (by rfl) (by first | assumption | decide +kernel) (by decide +kernel) ⟨rfl, rfl, rfl, rfl, rfl, by decide +kernel⟩ ?hw ?hc
  case hw => w_witness2
  case hl =>
    show ∀ w : World, _ = _
    intro w
    kernel_rfl
  intro w s₀ s₁ mg mb G Y fa o pm cd doc dV kV ho hd hcd hD hmg hg args vals aas hpre hlay hrd hwl hlo
  obtain ⟨⟨K, KX, t1, t3, t2, vN, hvN⟩, oS, esS, epS, hst, hsd, hsk, hsf⟩ := (show Said10 s₁.heap from Y)
  refine Ground.open G ?_
  intro T B D TE TW
  have tabT : ∀ {x : Str} {c P : Addr}, ((recsOf pwv).find? fun e => e.name == x).isSome = true → tabIn K x = some (c, P) → CodeHd s₁.heap c P ∧ s₁.heap.get? P = some (tabObj #[]) := fun hs ht => by
    obtain ⟨d, hd⟩ := Option.isSome_iff_exists.mp hs
    exact tab_of T KX hd ht
  have hT9 : TabsAt [(125, 121), (104, 100), (130, 128)] s₁.heap := List.forall_mem_cons.mpr ⟨tabT (by kernel_rfl) t3, List.forall_mem_cons.mpr ⟨tabT (by kernel_rfl) t1, List.forall_mem_cons.mpr ⟨tabT (by kernel_rfl) t2, fun _ h => nomatch h⟩⟩⟩
  have he9 : cd = .ref 130 := law_code KX T.g t2 hmg ho hd
  subst he9
  wrow_args hpre hlay hrd hwl hlo
  rename_i ns _ _ _ _ _ _ _ la vs _ hl _ _ _ hI _ hlen _
  have e1 := Dflts.none hD rfl
  have e2 := Dflts.noKw hD
  subst e1; subst e2
  clear B D TE TW
  obtain ⟨a1, H1⟩ := has_of PySem.Challenge.rw_dm0115_10.row.prog w T "_gt_from_lt" 0 (defAt pw 1) (by kernel_rfl) rfl
  obtain ⟨a2, H2⟩ := has_of PySem.Challenge.rw_dm0115_10.row.prog w T "_le_from_lt" 1 (defAt pw 2) (by kernel_rfl) rfl
  obtain ⟨a3, H3⟩ := has_of PySem.Challenge.rw_dm0115_10.row.prog w T "_ge_from_lt" 2 (defAt pw 3) (by kernel_rfl) rfl
  obtain ⟨a4, H4⟩ := has_of PySem.Challenge.rw_dm0115_10.row.prog w T "_ge_from_le" 3 (defAt pw 4) (by kernel_rfl) rfl
  obtain ⟨a5, H5⟩ := has_of PySem.Challenge.rw_dm0115_10.row.prog w T "_lt_from_le" 4 (defAt pw 5) (by kernel_rfl) rfl
  obtain ⟨a6, H6⟩ := has_of PySem.Challenge.rw_dm0115_10.row.prog w T "_gt_from_le" 5 (defAt pw 6) (by kernel_rfl) rfl
  obtain ⟨a7, H7⟩ := has_of PySem.Challenge.rw_dm0115_10.row.prog w T "_lt_from_gt" 6 (defAt pw 7) (by kernel_rfl) rfl
  obtain ⟨a8, H8⟩ := has_of PySem.Challenge.rw_dm0115_10.row.prog w T "_ge_from_gt" 7 (defAt pw 8) (by kernel_rfl) rfl
  obtain ⟨a9, H9⟩ := has_of PySem.Challenge.rw_dm0115_10.row.prog w T "_le_from_gt" 8 (defAt pw 9) (by kernel_rfl) rfl
  obtain ⟨a10, H10⟩ := has_of PySem.Challenge.rw_dm0115_10.row.prog w T "_le_from_ge" 9 (defAt pw 10) (by kernel_rfl) rfl
  obtain ⟨a11, H11⟩ := has_of PySem.Challenge.rw_dm0115_10.row.prog w T "_gt_from_ge" 10 (defAt pw 11) (by kernel_rfl) rfl
  obtain ⟨a12, H12⟩ := has_of PySem.Challenge.rw_dm0115_10.row.prog w T "_lt_from_ge" 11 (defAt pw 12) (by kernel_rfl) rfl
  obtain ⟨xk, Hk⟩ := has_of PySem.Challenge.rw_dm0115_10.row.prog w T "cmp_to_key" 12 (defAt pw 13) (by kernel_rfl) rfl
  obtain ⟨xn, Hn⟩ := has_of PySem.Challenge.rw_dm0115_10.row.prog w T "_law_answer" 13 (defAt pw 15) (by kernel_rfl) rfl
  obtain ⟨xt, Ht⟩ := has_of PySem.Challenge.rw_dm0115_10.row.prog w T "_law_twelve" 14 (defAt pw 16) (by kernel_rfl) rfl
  obtain ⟨xg, Hg⟩ := has_of PySem.Challenge.rw_dm0115_10.row.prog w T "_law_again" 15 (defAt pw 17) (by kernel_rfl) rfl
  have fr := free_of PySem.Challenge.rw_dm0115_10.row.prog w T (ghostOf s₁.heap [(125, 121), (104, 100), (130, 128)]) (by decide +kernel)
  have bo := ghost_bas hT9 T PySem.Challenge.rw_dm0115_10.row.prog w
  obtain ⟨ok, pmk, cdk, dock, hok, hdk, hck⟩ := Hk.fn.at_
  have q1 : cdk = .ref 104 := law_code (x := S "cmp_to_key") KX T.g t1 Hk.mg hok hdk
  subst q1
  obtain ⟨og, pmg, cdg, docg, hog, hdg, hcg⟩ := Hg.fn.at_
  have q2 : cdg = .ref 125 := law_code (x := S "_law_again") KX T.g t3 Hg.mg hog hdg
  subst q2
  have hd3 := hT9 (125, 121) (.head _)
  have hd1 := hT9 (104, 100) (.tail _ (.head _))
  have hd2 := hT9 (130, 128) (.tail _ (.tail _ (.head _)))
  have cg := ghost_code hT9
  have gvN := mg_of KX T.g hvN
  have nob : mg (S "object") = none := T.free (S "object") (by decide +kernel) (by decide +kernel) (by decide +kernel) (by decide +kernel) (by decide +kernel)
  have tz : ∀ q ∈ [((125 : Addr), (121 : Addr)), (104, 100), (130, 128)], ∀ {o : Obj}, s₁.heap.get? q.2 = some o → o = tabObj #[] := fun q hq o e => Option.some.inj (e.symm.trans (hT9 q hq).2)
  have nc : la ∉ [(100 : Addr), 121, 128] := by
    intro hm
    obtain ⟨ol, el, hcl, _⟩ := hl
    simp only [List.mem_cons, List.not_mem_nil, or_false] at hm
    rcases hm with rfl | rfl | rfl
    · have := tz _ (.tail _ (.head _)) el; rw [this] at hcl; cases hcl
    · have := tz _ (.head _) el; rw [this] at hcl; cases hcl
    · have := tz _ (.tail _ (.tail _ (.head _))) el; rw [this] at hcl; cases hcl
  refine law_spec fr (A := callerA) ⟨ghost_def hT9 H1, ghost_def hT9 H2, ghost_def hT9 H3, ghost_def hT9 H4, ghost_def hT9 H5, ghost_def hT9 H6, ghost_def hT9 H7, ghost_def hT9 H8, ghost_def hT9 H9, ghost_def hT9 H10, ghost_def hT9 H11, ghost_def hT9 H12⟩ (ghost_def hT9 Hk) (ghost_def hT9 Hn) (ghost_def hT9 Ht) (ghost_def hT9 Hg) (a := fa) (z1 := 100) (z2 := 128) (z3 := 121)
    ⟨o, pm, doc, ghost_get hT9 ho (fun z => by rw [z] at hd; cases hd), hd, ghost_rec hT9 hcd⟩
    ⟨og, pmg, docg, ghost_get hT9 hog (fun z => by rw [z] at hdg; cases hdg), hdg, ghost_rec hT9 hcg⟩
    ⟨ok, pmk, dock, ghost_get hT9 hok (fun z => by rw [z] at hdk; cases hdk), hdk, ghost_rec hT9 hck⟩
    cg.2.2.1 cg.2.1 cg.1 (by decide) (by decide) (ghost_bi hT9 T (.tail _ (.tail _ (.head _)))) (ghost_bi hT9 T (.tail _ (.head _))) (ghost_bi hT9 T (.head _))
    gvN nob (ghost_get hT9 hst (fun z => by rw [z] at hsd; cases hsd)) ((look_ns hsd hsk _).trans (congrArg Sem.pure hsf)) (l := ns) (by omega) s₁ _ _ [.ref la] bo ⟨rfl, by decide, by decide⟩ (fun _ _ e => of_hideAll _ e) hd1.2 hd2.2 hd3.2 (hideAll_none _ (by simp)) (hideAll_none _ (by simp)) (hideAll_none _ (by simp)) (.cons (.list hl nc (ints_rp hI)) .nil) fun h' t g1 g2 g3 k => ?_
  have k' : ∀ b o, (ghostOf s₁.heap [(125, 121), (104, 100), (130, 128)]).get? b = some o → h'.get? b = some o := fun b o e => by
    refine k b o (hideAll_get _ (of_hideAll _ e) fun m => ?_)
    have : (ghostOf s₁.heap [(125, 121), (104, 100), (130, 128)]).get? b = none := hideAll_none _ (by
      simp only [List.mem_cons, List.not_mem_nil, or_false] at m
      rcases m with rfl | rfl | rfl <;> simp)
    rw [this] at e; cases e
  exact ⟨.inl ⟨.bool true, .bool true, [], rfl, (fun cls => by rfl), ReadsW.bool true, (postW_of (by rfl) (w_eq_bool (w_res rfl) w_lit) (by rfl)), unshared_nil⟩, ghost_old hT9 k' (fun q hq => by
    simp only [List.mem_cons, List.not_mem_nil, or_false] at hq
    rcases hq with rfl | rfl | rfl
    · exact g3
    · exact g1
    · exact g2), rfl, .of_eq hg⟩

