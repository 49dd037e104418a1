import PyProof.Rows.All
import Wide.All
import OpenK.AllK
import Wide.FinOn
import PySem.Challenge.RW_ph0123_01
set_option Elab.async false
section partMA
open PySem PySem.Calls PyProof.Rows
set_option maxRecDepth 100000
set_option linter.all false
namespace Mine

inductive At where
  | none
  | bool (b : Bool)
  | int (i : Int)
  | str (s : Str)
  deriving DecidableEq

inductive V where
  | at (a : At)
  | list (l : List At)
  | tup (l : List At)
  | rng (a b c : Int)
  | pLL (x y : List At)
  | pLA (x : List At) (y : At)

inductive Ent where
  | v (x : V)
  | own (l : List At)

noncomputable abbrev St := List (Option Ent)

noncomputable def IsAt : At → Value → Prop
  | .none, v => v = .none
  | .bool b, v => v = .bool b
  | .int i, v => ∃ t, v = .int i t
  | .str s, v => ∃ t, v = .str s t

noncomputable def AtsAre : List At → List Value → Prop
  | [], [] => True
  | x :: xs, v :: vs => IsAt x v ∧ AtsAre xs vs
  | _, _ => False

theorem AtsAre.length : ∀ {l : List At} {vs : List Value}, AtsAre l vs → vs.length = l.length
  | [], [], _ => rfl
  | _ :: _, _ :: _, h => by rw [List.length_cons, List.length_cons, AtsAre.length h.2]
theorem AtsAre.get : ∀ {l : List At} {vs : List Value}, AtsAre l vs → ∀ {i : Nat} {a : At}, l[i]? = some a → ∃ v, vs[i]? = some v ∧ IsAt a v
  | x :: xs, v :: vs, h, 0, a, e => by cases e; exact ⟨v, rfl, h.1⟩
  | x :: xs, v :: vs, h, i + 1, a, e => AtsAre.get h.2 (i := i) e
theorem AtsAre.get' : ∀ {l : List At} {vs : List Value}, AtsAre l vs → ∀ {i : Nat} {v : Value}, vs[i]? = some v → ∃ a, l[i]? = some a ∧ IsAt a v
  | [], [], _, _, _, e => by simp at e
  | x :: xs, v :: vs, h, 0, a, e => by cases e; exact ⟨x, rfl, h.1⟩
  | x :: xs, v :: vs, h, i + 1, a, e => AtsAre.get' h.2 (i := i) e
theorem AtsAre.two {a b : At} {vs : List Value} (h : AtsAre [a, b] vs) : ∃ x y, vs = [x, y] ∧ IsAt a x ∧ IsAt b y := by
  cases vs with
  | nil => exact h.elim
  | cons x r => cases r with
    | nil => exact h.2.elim
    | cons y r => cases r with
      | nil => exact ⟨x, y, rfl, h.1, h.2.1⟩
      | cons z r => exact h.2.2.elim
theorem AtsAre.append : ∀ {l l' : List At} {vs vs' : List Value}, AtsAre l vs → AtsAre l' vs' → AtsAre (l ++ l') (vs ++ vs')
  | [], _, [], _, _, h' => h'
  | _ :: _, _, _ :: _, _, h, h' => ⟨h.1, AtsAre.append h.2 h'⟩
theorem AtsAre.of_get : ∀ {l : List At} {vs : List Value}, vs.length = l.length → (∀ (i : Nat) (a : At) (v : Value), l[i]? = some a → vs[i]? = some v → IsAt a v) → AtsAre l vs
  | [], [], _, _ => trivial
  | x :: xs, v :: vs, h, k => ⟨k 0 x v rfl rfl, AtsAre.of_get (by simpa using h) fun i a v e e' => k (i + 1) a v e e'⟩
  | [], _ :: _, h, _ => by simp at h
  | _ :: _, [], h, _ => by simp at h
theorem AtsAre.set {l : List At} {vs : List Value} (h : AtsAre l vs) {a : At} {v : Value} (ha : IsAt a v) : ∀ i, AtsAre (l.set i a) (vs.set i v) := by
  intro i
  refine AtsAre.of_get (by simp [h.length]) fun j b w e e' => ?_
  by_cases hj : i = j
  · subst hj
    have h1 : i < l.length := by
      by_cases q : i < l.length
      · exact q
      · rw [List.getElem?_eq_none (by simpa using Nat.le_of_not_lt q)] at e; cases e
    have h2 : i < vs.length := by rw [h.length]; exact h1
    rw [List.getElem?_set_self h1] at e
    rw [List.getElem?_set_self h2] at e'
    cases e; cases e'; exact ha
  · rw [List.getElem?_set_ne hj] at e e'
    obtain ⟨v', q, r⟩ := h.get e
    rw [e'] at q; cases q; exact r

noncomputable def IsL (h : Heap) (a : Addr) (l : List At) : Prop := ∃ items, h.PlainList a items ∧ AtsAre l items.toList
noncomputable def IsT (h : Heap) (a : Addr) (l : List At) : Prop := ∃ items n, h.get? a = some { cls := .type "tuple", data := .seq items n } ∧ AtsAre l items.toList

noncomputable def IsV (h : Heap) (X : Addr → Prop) : V → Value → Prop
  | .at a, v => IsAt a v
  | .list l, v => ∃ a, v = .ref a ∧ ¬ X a ∧ IsL h a l
  | .tup l, v => ∃ a, v = .ref a ∧ ¬ X a ∧ IsT h a l
  | .rng a b c, v => ∃ r t u w, v = .ref r ∧ ¬ X r ∧ IsRange h r a b c t u w
  | .pLL x y, v => ∃ r n a b, v = .ref r ∧ ¬ X r ∧ h.get? r = some { cls := .type "tuple", data := .seq #[.ref a, .ref b] n } ∧ (¬ X a ∧ IsL h a x) ∧ ¬ X b ∧ IsL h b y
  | .pLA x y, v => ∃ r n a w, v = .ref r ∧ ¬ X r ∧ h.get? r = some { cls := .type "tuple", data := .seq #[.ref a, w] n } ∧ (¬ X a ∧ IsL h a x) ∧ IsAt y w

noncomputable def HKeep (h h' : Heap) : Prop := ∀ b o, h.get? b = some o → h'.get? b = some o
noncomputable def HKeepBut (P : Addr → Prop) (h h' : Heap) : Prop := ∀ b o, ¬ P b → h.get? b = some o → h'.get? b = some o

theorem HKeep.refl (h : Heap) : HKeep h h := fun _ _ e => e
theorem HKeep.trans {h h' h'' : Heap} (a : HKeep h h') (b : HKeep h' h'') : HKeep h h'' := fun x o e => b x o (a x o e)
theorem HKeep.but {h h' : Heap} (a : HKeep h h') (P : Addr → Prop) : HKeepBut P h h' := fun x o _ e => a x o e
theorem HKeepBut.trans {P : Addr → Prop} {h h' h'' : Heap} (a : HKeepBut P h h') (b : HKeepBut P h' h'') : HKeepBut P h h'' := fun x o p e => b x o p (a x o p e)

theorem IsL.keepBut {h h' : Heap} {a : Addr} {l : List At} {P : Addr → Prop} (x : IsL h a l) (k : HKeepBut P h h') (hP : ¬ P a) : IsL h' a l :=
  let ⟨it, ⟨n, ho⟩, r⟩ := x; ⟨it, ⟨n, k _ _ hP ho⟩, r⟩
theorem IsT.keepBut {h h' : Heap} {a : Addr} {l : List At} {P : Addr → Prop} (x : IsT h a l) (k : HKeepBut P h h') (hP : ¬ P a) : IsT h' a l :=
  let ⟨it, n, ho, r⟩ := x; ⟨it, n, k _ _ hP ho, r⟩
theorem IsL.keep {h h' : Heap} {a : Addr} {l : List At} (x : IsL h a l) (k : HKeep h h') : IsL h' a l :=
  let ⟨it, ⟨n, ho⟩, r⟩ := x; ⟨it, ⟨n, k _ _ ho⟩, r⟩
theorem IsL.live {h : Heap} {a : Addr} {l : List At} (x : IsL h a l) : ∃ o, h.get? a = some o := let ⟨_, ⟨_, ho⟩, _⟩ := x; ⟨_, ho⟩

theorem IsV.keepBut {h h' : Heap} {X P : Addr → Prop} {v : V} {x : Value} (d : IsV h X v x) (k : HKeepBut P h h') (hP : ∀ a, P a → X a) : IsV h' X v x := by
  cases v with
  | «at» a => exact d
  | list l => obtain ⟨a, e, q, r⟩ := d; exact ⟨a, e, q, r.keepBut k fun p => q (hP _ p)⟩
  | tup l => obtain ⟨a, e, q, r⟩ := d; exact ⟨a, e, q, r.keepBut k fun p => q (hP _ p)⟩
  | rng a b c => obtain ⟨r, t, u, w, e, q, g⟩ := d; exact ⟨r, t, u, w, e, q, k _ _ (fun p => q (hP _ p)) g⟩
  | pLL x y =>
    obtain ⟨r, n, a, b, e, q, g, ⟨qa, ra⟩, qb, rb⟩ := d
    exact ⟨r, n, a, b, e, q, k _ _ (fun p => q (hP _ p)) g, ⟨qa, ra.keepBut k fun p => qa (hP _ p)⟩, qb, rb.keepBut k fun p => qb (hP _ p)⟩
  | pLA x y =>
    obtain ⟨r, n, a, b, e, q, g, ⟨qa, ra⟩, rb⟩ := d
    exact ⟨r, n, a, b, e, q, k _ _ (fun p => q (hP _ p)) g, ⟨qa, ra.keepBut k fun p => qa (hP _ p)⟩, rb⟩
theorem IsV.keep {h h' : Heap} {X : Addr → Prop} {v : V} {x : Value} (d : IsV h X v x) (k : HKeep h h') : IsV h' X v x :=
  d.keepBut (P := fun _ => False) (k.but _) fun _ p => p.elim
theorem IsV.mono {h : Heap} {X Y : Addr → Prop} {v : V} {x : Value} (d : IsV h X v x) (hY : ∀ a o, Y a → h.get? a = some o → X a) : IsV h Y v x := by
  cases v with
  | «at» a => exact d
  | list l => obtain ⟨a, e, q, r⟩ := d; obtain ⟨o, ho⟩ := r.live; exact ⟨a, e, fun y => q (hY _ _ y ho), r⟩
  | tup l => obtain ⟨a, e, q, it, n, ho, r⟩ := d; exact ⟨a, e, fun y => q (hY _ _ y ho), it, n, ho, r⟩
  | rng a b c => obtain ⟨r, t, u, w, e, q, g⟩ := d; exact ⟨r, t, u, w, e, fun y => q (hY _ _ y g), g⟩
  | pLL x y =>
    obtain ⟨r, n, a, b, e, q, g, ⟨qa, ra⟩, qb, rb⟩ := d
    obtain ⟨o, ho⟩ := ra.live; obtain ⟨o', ho'⟩ := rb.live
    exact ⟨r, n, a, b, e, fun y => q (hY _ _ y g), g, ⟨fun y => qa (hY _ _ y ho), ra⟩, fun y => qb (hY _ _ y ho'), rb⟩
  | pLA x y =>
    obtain ⟨r, n, a, b, e, q, g, ⟨qa, ra⟩, rb⟩ := d
    obtain ⟨o, ho⟩ := ra.live
    exact ⟨r, n, a, b, e, fun y => q (hY _ _ y g), g, ⟨fun y => qa (hY _ _ y ho), ra⟩, rb⟩

noncomputable def Holds (env : Env) (h : Heap) (x : Str) (v : Value) : Prop :=
  (env.kindOf x = some .local ∧ ∃ m, h.Ns env.locals m ∧ m x = some v) ∨ (env.kindOf x = some .cell ∧ ∃ c, env.cells.lookup x = some c ∧ h.IsCell c (some v))

theorem Ns.det {h : Heap} {a : Addr} {m m' : Str → Option Value} (x : h.Ns a m) (y : h.Ns a m') (n : Str) : m n = m' n := by
  obtain ⟨o, es, ep, ho, hd, _, hm⟩ := x
  obtain ⟨o', es', ep', ho', hd', _, hm'⟩ := y
  rw [ho] at ho'; cases ho'
  rw [hd] at hd'; cases hd'
  rw [← hm, ← hm']

theorem Holds.det {env : Env} {h : Heap} {x : Str} {v v' : Value} (a : Holds env h x v) (b : Holds env h x v') : v = v' := by
  rcases a with ⟨k, m, n, e⟩ | ⟨k, c, n, o, ho, e⟩ <;> rcases b with ⟨k', m', n', e'⟩ | ⟨k', c', n', o', ho', e'⟩
  · rw [Ns.det n n' x, e'] at e; cases e; rfl
  · rw [k] at k'; cases k'
  · rw [k] at k'; cases k'
  · rw [n] at n'; cases n'; rw [ho] at ho'; cases ho'; rw [e] at e'; cases e'; rfl

theorem Holds.keep {env : Env} {h h' : Heap} {x : Str} {v : Value} (a : Holds env h x v) (k : HKeep h h') : Holds env h' x v := by
  rcases a with ⟨q, m, n, e⟩ | ⟨q, c, n, o⟩
  · exact .inl ⟨q, m, n.keeps k, e⟩
  · exact .inr ⟨q, c, n, o.keeps k⟩

inductive Get : List Str → St → Str → Ent → Prop
  | head {x vs e σ} : Get (x :: vs) (some e :: σ) x e
  | tail {x y vs e u σ} : Get vs σ x e → Get (y :: vs) (u :: σ) x e

inductive Put : List Str → St → Str → Ent → St → Prop
  | head {x vs e u σ} : Put (x :: vs) (u :: σ) x e (some e :: σ)
  | tail {x y vs e u σ σ'} : Put vs σ x e σ' → Put (y :: vs) (u :: σ) x e (u :: σ')

theorem Get.mem {vs : List Str} {σ : St} {x : Str} {e : Ent} (g : Get vs σ x e) : x ∈ vs := by
  induction g with
  | head => exact .head _
  | tail _ ih => exact .tail _ ih
theorem Put.mem {vs : List Str} {σ σ' : St} {x : Str} {e : Ent} (g : Put vs σ x e σ') : x ∈ vs := by
  induction g with
  | head => exact .head _
  | tail _ ih => exact .tail _ ih
theorem Put.get {vs : List Str} (nd : vs.Nodup) : ∀ {σ σ' : St} {x : Str} {e : Ent}, Put vs σ x e σ' → ∀ {y : Str} {f : Ent}, Get vs σ' y f → (y = x ∧ f = e) ∨ (y ≠ x ∧ Get vs σ y f) := by
  induction vs with
  | nil => intro _ _ _ _ a; cases a
  | cons z r ih =>
    obtain ⟨h1, h2⟩ := List.nodup_cons.mp nd
    intro σ σ' x e a y f g
    cases a with
    | head => cases g with
      | head => exact .inl ⟨rfl, rfl⟩
      | tail g => exact .inr ⟨fun q => h1 (q ▸ g.mem), .tail g⟩
    | tail a => cases g with
      | head => exact .inr ⟨fun q => h1 (by rw [q]; exact a.mem), .head⟩
      | tail g => rcases ih h2 a g with q | ⟨q, q'⟩
                  · exact .inl q
                  · exact .inr ⟨q, .tail q'⟩
theorem Put.at {vs : List Str} {σ σ' : St} {x : Str} {e : Ent} (g : Put vs σ x e σ') : Get vs σ' x e := by
  induction g with
  | head => exact .head
  | tail _ ih => exact .tail ih

end Mine
end partMA

section partMB
open PySem PySem.Calls PyProof.Rows
set_option maxRecDepth 100000
set_option linter.all false
namespace Mine

structure Cfg where
  prog : Program
  w : World
  fns : List DefRec
  mg : Str → Option Value
  mb : Str → Option Value
  tokA : Addr
  tok : Str → Option Int

noncomputable def TokVal : Option Int → Option Value → Prop
  | some i, v => ∃ t, v = some (.int i t)
  | none, v => v = none

noncomputable def bnames : List (Str × Value) := [("len", .builtin "len"), ("range", .type "range"), ("min", .builtin "min"), ("max", .builtin "max"), ("abs", .builtin "abs"), ("sum", .builtin "sum"), ("sorted", .builtin "sorted"), ("list", .type "list"), ("enumerate", .type "enumerate")]

structure Base (C : Cfg) (h : Heap) : Prop where
  nm : ∀ x ∈ bnames, C.mg x.1 = none ∧ C.mb x.1 = some x.2
  nolimit : h.NoLimit
  g : h.Ns mainGlobals C.mg
  b : h.Ns builtinsNs C.mb
  fn : ∀ d ∈ C.fns, ∃ a o pm cd doc, C.mg d.name = some (.ref a) ∧ h.get? a = some o ∧ o.data = .func (docDef d.name d.params d.body d.scope pm cd doc) ∧ h.CodeRec cd d.name
  tokm : C.mg "EXACT_TOKEN_TYPES" = some (.ref C.tokA) ∧ (C.tokA == sysModules) = false
  tok : ∃ f, h.MapOf (strKind C.prog C.w) C.tokA f ∧ ∀ x, TokVal (C.tok x) (f x)

theorem Base.keep {C : Cfg} {h h' : Heap} (B : Base C h) (k : HKeep h h') : Base C h' :=
  ⟨B.nm, B.nolimit.keeps k, B.g.keeps k, B.b.keeps k, fun d hd => by obtain ⟨a, o, pm, cd, doc, e1, e2, e3, e4⟩ := B.fn d hd; exact ⟨a, o, pm, cd, doc, e1, k _ _ e2, e3, e4.keeps k⟩, B.tokm, by obtain ⟨f, ⟨o, es, ep, ho, r⟩, q⟩ := B.tok; exact ⟨f, ⟨o, es, ep, k _ _ ho, r⟩, q⟩⟩

noncomputable def EntIs (env : Env) (h : Heap) (X : Addr → Prop) (x : Str) : Ent → Prop
  | .v v => ∃ val, Holds env h x val ∧ IsV h X v val
  | .own l => ∃ a, Holds env h x (.ref a) ∧ IsL h a l

structure Fm (C : Cfg) (env : Env) (vs : List Str) (X : Addr → Prop) (σ : St) (h : Heap) : Prop where
  kind : env.scope.kind = .function
  glob : env.globals = mainGlobals
  blt : env.builtins = builtinsNs
  base : Base C h
  vals : ∀ x e, Get vs σ x e → EntIs env h X x e
  live : ∀ a, X a → ∃ o, h.get? a = some o

theorem EntIs.keep {env : Env} {h h' : Heap} {X : Addr → Prop} {x : Str} {e : Ent} (d : EntIs env h X x e) (k : HKeep h h') : EntIs env h' X x e := by
  cases e with
  | v v => obtain ⟨val, a, b⟩ := d; exact ⟨val, a.keep k, b.keep k⟩
  | own l => obtain ⟨a, p, q⟩ := d; exact ⟨a, p.keep k, q.keep k⟩

theorem Fm.keep {C : Cfg} {env : Env} {vs : List Str} {X : Addr → Prop} {σ : St} {h h' : Heap} (F : Fm C env vs X σ h) (k : HKeep h h') : Fm C env vs X σ h' :=
  ⟨F.kind, F.glob, F.blt, F.base.keep k, fun x e g => (F.vals x e g).keep k, fun a x => let ⟨o, ho⟩ := F.live a x; ⟨o, k _ _ ho⟩⟩

structure Rm (A : Around) (n : Nat) : Prop where
  h : A.handled = none
  d : A.depth + n < recursionLimit
  u : A.units + 8 * n < cLine
theorem Rm.le {A : Around} {n m : Nat} (r : Rm A n) (hm : m ≤ n) : Rm A m := ⟨r.h, by have := r.d; omega, by have := r.u; omega⟩
theorem Rm.deeper {A : Around} {n : Nat} (r : Rm A (n + 1)) (env : Env) : Rm (A.deeper env) n :=
  ⟨r.h, by have := r.d; show A.depth + 1 + n < _; omega, by have := r.u; show A.units + 3 + 8 * n < _; omega⟩
theorem Rm.in1 {A : Around} {n : Nat} (r : Rm A (n + 1)) : Rm A.in1 n :=
  ⟨r.h, by have := r.d; show A.depth + n < _; omega, by have := r.u; show A.units + 1 + 8 * n < _; omega⟩
theorem Rm.units {A : Around} {n : Nat} (r : Rm A n) : A.units < cLine := by have := r.u; omega
theorem Rm.depth {A : Around} {n : Nat} (r : Rm A n) : A.depth < recursionLimit := by have := r.d; omega

structure GensOk (a b : Array GenState) : Prop where
  keep : ∀ (i : Nat) (x : GenState), a[i]? = some x → b[i]? = some x
  bare : (∀ y ∈ a, y.bare = true) → ∀ y ∈ b, y.bare = true
theorem GensOk.refl (a : Array GenState) : GensOk a a := ⟨fun _ _ e => e, fun h => h⟩
theorem GensOk.trans {a b c : Array GenState} (x : GensOk a b) (y : GensOk b c) : GensOk a c := ⟨fun i z e => y.keep i z (x.keep i z e), fun h => y.bare (x.bare h)⟩

noncomputable def Ext (p : Bool) (s s' : Shared) : Prop := ∃ h' tk g', s' = { s with heap := h', toks := tk, gens := g' } ∧ HKeep s.heap h' ∧ GensOk s.gens g' ∧ (p = true → g' = s.gens)
theorem Ext.refl (p : Bool) (s : Shared) : Ext p s s := ⟨s.heap, s.toks, s.gens, rfl, .refl _, .refl _, fun _ => rfl⟩
theorem Ext.keep {p : Bool} {s s' : Shared} (x : Ext p s s') : HKeep s.heap s'.heap := by obtain ⟨h', tk, g', rfl, k, _⟩ := x; exact k
theorem Ext.trans {p : Bool} {s s' s'' : Shared} (x : Ext p s s') (y : Ext p s' s'') : Ext p s s'' := by
  obtain ⟨h', tk, g', rfl, k, g, e⟩ := x
  obtain ⟨h'', tk', g'', rfl, k', g2, e'⟩ := y
  exact ⟨h'', tk', g'', rfl, k.trans k', g.trans g2, fun q => (e' q).trans (e q)⟩
theorem Ext.heap {p : Bool} {s : Shared} {h' : Heap} (k : HKeep s.heap h') : Ext p s { s with heap := h' } := ⟨h', s.toks, s.gens, rfl, k, .refl _, fun _ => rfl⟩
theorem Ext.heapt {p : Bool} {s : Shared} {h' : Heap} {tk : Nat} (k : HKeep s.heap h') : Ext p s { s with heap := h', toks := tk } := ⟨h', tk, s.gens, rfl, k, .refl _, fun _ => rfl⟩
theorem Ext.tok {p : Bool} {s : Shared} {tk : Nat} : Ext p s { s with toks := tk } := ⟨s.heap, tk, s.gens, rfl, .refl _, .refl _, fun _ => rfl⟩
theorem Ext.of_pure {p : Bool} {s s' : Shared} (x : Ext true s s') : Ext p s s' := let ⟨h', tk, g', e, k, g, q⟩ := x; ⟨h', tk, g', e, k, g, fun _ => q rfl⟩
theorem Ext.keeps {s s' : Shared} (x : Ext true s s') : Keeps s s' := by
  obtain ⟨h', tk, g', rfl, k, _, q⟩ := x
  cases q rfl
  exact ⟨h', tk, rfl, k⟩
theorem Ext.of_keeps {p : Bool} {s s' : Shared} (x : Keeps s s') : Ext p s s' := by
  obtain ⟨h', tk, rfl, k⟩ := x
  exact .heapt k

noncomputable def Xof (c : Bool) (X : Addr → Prop) : Addr → Prop := fun a => c = true ∧ X a
theorem Xof.sub {c : Bool} {X : Addr → Prop} {a : Addr} (h : Xof c X a) : X a := h.2

structure EvS (C : Cfg) (p c : Bool) (N : Nat) (env : Env) (vs : List Str) (σ : St) (e : Expr) (v : V) : Prop where
  run : ∀ (A : Around) (s : Shared) (X : Addr → Prop) (Q : Value → Shared → Prop), Rm A N → Fm C env vs X σ s.heap →
    (∀ val s', IsV s'.heap (Xof c X) v val → Ext p s s' → Q val s') → wpAny (model C.prog C.w) A (eval e env) Q (fun _ _ => False) s

structure EvL (C : Cfg) (p : Bool) (N : Nat) (env : Env) (vs : List Str) (σ : St) (e : Expr) (l : List At) : Prop where
  run : ∀ (A : Around) (s : Shared) (X : Addr → Prop) (Q : Value → Shared → Prop), Rm A N → Fm C env vs X σ s.heap →
    (∀ a s', s.heap.get? a = none → IsL s'.heap a l → Ext p s s' → Q (.ref a) s') → wpAny (model C.prog C.w) A (eval e env) Q (fun _ _ => False) s

structure TsS (C : Cfg) (p : Bool) (N : Nat) (env : Env) (vs : List Str) (σ : St) (e : Expr) (b : Bool) : Prop where
  run : ∀ (A : Around) (s : Shared) (X : Addr → Prop) (Q : Bool → Shared → Prop), Rm A N → Fm C env vs X σ s.heap →
    (∀ s', Ext p s s' → Q b s') → wpAny (model C.prog C.w) A (isTrue e env (eval e env)) Q (fun _ _ => False) s

noncomputable def IsVs (h : Heap) (X : Addr → Prop) : List V → List Value → Prop
  | [], [] => True
  | x :: xs, v :: vs => IsV h X x v ∧ IsVs h X xs vs
  | _, _ => False
theorem IsVs.keep {h h' : Heap} {X : Addr → Prop} (k : HKeep h h') : ∀ {l : List V} {vs : List Value}, IsVs h X l vs → IsVs h' X l vs
  | [], [], _ => trivial
  | _ :: _, _ :: _, d => ⟨d.1.keep k, IsVs.keep k d.2⟩
theorem IsVs.one {h : Heap} {X : Addr → Prop} {a : V} {vs : List Value} (d : IsVs h X [a] vs) : ∃ x, vs = [x] ∧ IsV h X a x := by
  cases vs with
  | nil => exact d.elim
  | cons x r => cases r with
    | nil => exact ⟨x, rfl, d.1⟩
    | cons y r => exact d.2.elim
theorem IsVs.tail {h : Heap} {X : Addr → Prop} {a : V} {l : List V} {vs : List Value} (d : IsVs h X (a :: l) vs) : ∃ x r, vs = x :: r ∧ IsV h X a x ∧ IsVs h X l r := by
  cases vs with
  | nil => exact d.elim
  | cons x r => exact ⟨x, r, rfl, d.1, d.2⟩
theorem IsVs.two {h : Heap} {X : Addr → Prop} {a b : V} {vs : List Value} (d : IsVs h X [a, b] vs) : ∃ x y, vs = [x, y] ∧ IsV h X a x ∧ IsV h X b y := by
  obtain ⟨x, r, rfl, h1, h2⟩ := d.tail
  obtain ⟨y, rfl, h3⟩ := h2.one
  exact ⟨x, y, rfl, h1, h3⟩
theorem IsVs.three {h : Heap} {X : Addr → Prop} {a b c : V} {vs : List Value} (d : IsVs h X [a, b, c] vs) : ∃ x y z, vs = [x, y, z] ∧ IsV h X a x ∧ IsV h X b y ∧ IsV h X c z := by
  obtain ⟨x, r, rfl, h1, h2⟩ := d.tail
  obtain ⟨y, z, rfl, h3, h4⟩ := h2.two
  exact ⟨x, y, z, rfl, h1, h3, h4⟩
theorem IsVs.mono {h : Heap} {X Y : Addr → Prop} (hY : ∀ a o, Y a → h.get? a = some o → X a) : ∀ {l : List V} {vs : List Value}, IsVs h X l vs → IsVs h Y l vs
  | [], [], _ => trivial
  | _ :: _, _ :: _, d => ⟨d.1.mono hY, IsVs.mono hY d.2⟩

structure EvsS (C : Cfg) (p c : Bool) (N : Nat) (env : Env) (vs : List Str) (σ : St) (es : List Expr) (l : List V) : Prop where
  run : ∀ (A : Around) (s : Shared) (X : Addr → Prop) (pos : Pos) (Q : List Value → Shared → Prop), Rm A N → Fm C env vs X σ s.heap →
    (∀ vals s', IsVs s'.heap (Xof c X) l vals → Ext p s s' → Q vals s') → wpAny (model C.prog C.w) A (spliced (backTo pos (starEach es env))) Q (fun _ _ => False) s

noncomputable def FnS (C : Cfg) (N : Nat) (name : Str) (l : List V) (v : V) : Prop :=
  (∃ d ∈ C.fns, d.name = name) ∧ ∀ (A : Around) (s : Shared) (X : Addr → Prop) (a : Addr) (vals : List Value) (Q : Value → Shared → Prop), Rm A N → Base C s.heap → C.mg name = some (.ref a) → (∀ b, X b → ∃ o, s.heap.get? b = some o) →
    IsVs s.heap X l vals → (∀ val s', IsV s'.heap X v val → Ext false s s' → Q val s') → wpAny (model C.prog C.w) A (call (.ref a) vals) Q (fun _ _ => False) s

section
variable {C : Cfg} {p c : Bool} {N : Nat} {env : Env} {vs : List Str} {σ : St}

theorem EvS.atom {e : Expr} {a : At} {c' : Bool} (h : EvS C p c' N env vs σ e (.at a)) : EvS C p c N env vs σ e (.at a) := .mk fun A s X Q hr hf hq => h.run A s X Q hr hf fun val s' d x => hq val s' d x
theorem EvS.cast {e : Expr} {v v' : V} (h : EvS C p c N env vs σ e v) (q : v = v') : EvS C p c N env vs σ e v' := q ▸ h
theorem EvL.ev {e : Expr} {l : List At} (h : EvL C p N env vs σ e l) : EvS C p c N env vs σ e (.list l) := .mk fun A s X Q hr hf hq => h.run A s X Q hr hf fun a s' fr d x =>
  hq _ s' ⟨a, rfl, (fun y => by obtain ⟨o, ho⟩ := hf.live a y.2; rw [fr] at ho; cases ho), d⟩ x
theorem EvL.cast {e : Expr} {v v' : List At} (h : EvL C p N env vs σ e v) (q : v = v') : EvL C p N env vs σ e v' := q ▸ h
theorem TsS.cast {e : Expr} {b b' : Bool} (h : TsS C p N env vs σ e b) (q : b = b') : TsS C p N env vs σ e b' := q ▸ h

theorem EvS.int {i : Int} {k : Nat} {pos : Pos} : EvS C p c N env vs σ (.Constant (.int i) k pos) (.at (.int i)) := .mk fun _ _ _ _ _ _ hq => wpAny_Constant_int (hq _ _ ⟨_, rfl⟩ .tok)
theorem EvS.str {x : Str} {k : Nat} {pos : Pos} : EvS C p c N env vs σ (.Constant (.str x) k pos) (.at (.str x)) := .mk fun _ _ _ _ _ _ hq => wpAny_Constant_str (hq _ _ ⟨_, rfl⟩ .tok)
theorem EvS.bool {b : Bool} {k : Nat} {pos : Pos} : EvS C p c N env vs σ (.Constant (.bool b) k pos) (.at (.bool b)) := .mk fun _ _ _ _ _ _ hq => wpAny_Constant_bool (hq _ _ rfl (.refl ..))
theorem EvS.none {k : Nat} {pos : Pos} : EvS C p c N env vs σ (.Constant .none k pos) (.at .none) := .mk fun _ _ _ _ _ _ hq => wpAny_Constant_none (hq _ _ rfl (.refl ..))

theorem wp_name {M : Model} {A : Around} {E : Value → Shared → Prop} {s : Shared} {x : Str} {pos : Pos} {v : Value} {Q : Value → Shared → Prop} (hk : env.scope.kind = .function) (h : Holds env s.heap x v) (hQ : Q v s) (hd : (x == ("__debug__" : Str)) = false) :
    wpAny M A (eval (.Name x pos) env) Q E s := by
  rcases h with ⟨k, m, n, e⟩ | ⟨k, c, n, o⟩
  · exact wpAny_Name (wpAny_loadName_local hk k n e hQ) hd
  · exact wpAny_Name (wpAny_loadName_cell hk k n o hQ) hd
theorem wp_loadName {M : Model} {A : Around} {E : Value → Shared → Prop} {s : Shared} {x : Str} {v : Value} {Q : Value → Shared → Prop} (hk : env.scope.kind = .function) (h : Holds env s.heap x v) (hQ : Q v s) :
    wpAny M A (loadName env x) Q E s := by
  rcases h with ⟨k, m, n, e⟩ | ⟨k, c, n, o⟩
  · exact wpAny_loadName_local hk k n e hQ
  · exact wpAny_loadName_cell hk k n o hQ

theorem EvS.name {x : Str} {pos : Pos} {v : V} (g : Get vs σ x (.v v)) (hd : (x == ("__debug__" : Str)) = false := by decide) : EvS C p c N env vs σ (.Name x pos) v := .mk fun A s X Q _ hf hq => by
  obtain ⟨val, a, b⟩ := hf.vals _ _ g
  exact wp_name hf.kind a (hq _ _ (b.mono fun _ _ y _ => y.2) (.refl ..)) hd
theorem EvS.own {x : Str} {pos : Pos} {l : List At} (g : Get vs σ x (.own l)) (hd : (x == ("__debug__" : Str)) = false := by decide) : EvS C p false N env vs σ (.Name x pos) (.list l) := .mk fun A s X Q _ hf hq => by
  obtain ⟨a, h, b⟩ := hf.vals _ _ g
  exact wp_name hf.kind h (hq _ _ ⟨a, rfl, (fun y => by cases y.1), b⟩ (.refl ..)) hd

noncomputable def BinS (C : Cfg) (op : Operator) (a b v : At) : Prop :=
  ∀ (A : Around) (s : Shared) (x y : Value) (Q : Value → Shared → Prop), IsAt a x → IsAt b y → (∀ val s', IsAt v val → Ext true s s' → Q val s') → wpAny (model C.prog C.w) A (binaryOp op x y) Q (fun _ _ => False) s
noncomputable def CmpS (C : Cfg) (op : CmpOp) (a b : V) (r : Bool) : Prop :=
  ∀ (A : Around) (s : Shared) (x y : Value) (Q : Value → Shared → Prop), Rm A 8 → Base C s.heap → IsV s.heap (fun _ => False) a x → IsV s.heap (fun _ => False) b y → (∀ s', Ext true s s' → Q (.bool r) s') → wpAny (model C.prog C.w) A (compareOp op x y) Q (fun _ _ => False) s

theorem IsV.any {h : Heap} {X : Addr → Prop} {v : V} {x : Value} (d : IsV h X v x) : IsV h (fun _ => False) v x := d.mono fun _ _ y _ => y.elim

theorem EvS.bin {l r : Expr} {op : Operator} {pos : Pos} {a b v : At} (hl : EvS C p true N env vs σ l (.at a)) (hr : EvS C p true N env vs σ r (.at b)) (ho : BinS C op a b v) :
    EvS C p c N env vs σ (.BinOp l op r pos) (.at v) := .mk fun A s X Q hrm hf hq => by
  refine wpAny_BinOp (hl.run A s X _ hrm hf fun x s₁ dx e₁ => ?_)
  refine hr.run A s₁ X _ hrm (hf.keep e₁.keep) fun y s₂ dy e₂ => ?_
  exact ho A s₂ x y _ dx dy fun val s' d e => hq _ _ d ((e₁.trans e₂).trans e.of_pure)

theorem EvS.cmp {l r : Expr} {op : CmpOp} {pos : Pos} {a b : V} {v : Bool} {c₁ c₂ : Bool} (hl : EvS C p c₁ N env vs σ l a) (hr : EvS C p c₂ N env vs σ r b) (ho : CmpS C op a b v)
    (hN : 8 ≤ N := by first | decide | omega) (hm : behindInMarks op r = false := by rfl) : EvS C p c N env vs σ (.Compare l [op] [r] pos) (.at (.bool v)) := .mk fun A s X Q hrm hf hq => by
  refine wpAny_Compare1 (hl.run A s X _ hrm hf fun x s₁ dx e₁ => ?_) hm
  refine hr.run A s₁ X _ hrm (hf.keep e₁.keep) fun y s₂ dy e₂ => ?_
  exact ho A s₂ x y _ (hrm.le hN) (hf.base.keep (e₁.trans e₂).keep) (dx.any.keep e₂.keep) dy.any fun s' e => hq _ _ rfl ((e₁.trans e₂).trans e.of_pure)
theorem TsS.cmp {l r : Expr} {op : CmpOp} {pos : Pos} {a b : V} {v : Bool} {c₁ c₂ : Bool} (hl : EvS C p c₁ N env vs σ l a) (hr : EvS C p c₂ N env vs σ r b) (ho : CmpS C op a b v)
    (hN : 8 ≤ N := by first | decide | omega) (hm : behindInMarks op r = false := by rfl) : TsS C p N env vs σ (.Compare l [op] [r] pos) v := .mk fun A s X Q hrm hf hq => by
  refine wpAny_isTrue_Compare1 (hl.run A s X _ hrm hf fun x s₁ dx e₁ => ?_) hm
  refine hr.run A s₁ X _ hrm (hf.keep e₁.keep) fun y s₂ dy e₂ => ?_
  exact ho A s₂ x y _ (hrm.le hN) (hf.base.keep (e₁.trans e₂).keep) (dx.any.keep e₂.keep) dy.any fun s' e => wpAny_truthy_bool (hq _ ((e₁.trans e₂).trans e.of_pure))

theorem BinS.add {a b : Int} : BinS C .Add (.int a) (.int b) (.int (a + b)) := fun A s x y Q ⟨_, hx⟩ ⟨_, hy⟩ hq => by
  subst hx hy; exact wpAny_add_int (hq _ _ ⟨_, rfl⟩ .tok)
theorem BinS.sub {a b : Int} : BinS C .Sub (.int a) (.int b) (.int (a - b)) := fun A s x y Q ⟨_, hx⟩ ⟨_, hy⟩ hq => by
  subst hx hy; exact sub_int (hq _ _ ⟨_, rfl⟩ .tok)
theorem BinS.mod {a b : Int} (hb : b ≠ 0) : BinS C .Mod (.int a) (.int b) (.int (a.fmod b)) := fun A s x y Q ⟨_, hx⟩ ⟨_, hy⟩ hq => by
  subst hx hy; exact mod_int' hb (hq _ _ ⟨_, rfl⟩ .tok)
theorem BinS.div {a b : Int} (hb : b ≠ 0) (hs : Builtin.divisionGoesByPylong a b = false) : BinS C .FloorDiv (.int a) (.int b) (.int (a.fdiv b)) := fun A s x y Q ⟨_, hx⟩ ⟨_, hy⟩ hq => by
  subst hx hy; exact floordiv_int hb (hq _ _ ⟨_, rfl⟩ .tok) (.inl hs)
theorem BinS.pow {a b : Int} (h1 : 0 ≤ b) (h2 : b ≤ 1000000) (h3 : a.natAbs < 2 ^ 64) : BinS C .Pow (.int a) (.int b) (.int (a ^ b.toNat)) := fun A s x y Q ⟨_, hx⟩ ⟨_, hy⟩ hq => by
  subst hx hy; exact pow_int_small h1 h2 h3 (hq _ _ ⟨_, rfl⟩ .tok)
theorem BinS.cat {a b : Str} (hz : a.length + b.length ≤ sizeLine) : BinS C .Add (.str a) (.str b) (.str (a ++ b)) := fun A s x y Q ⟨_, hx⟩ ⟨_, hy⟩ hq => by
  subst hx hy; exact PyProof.Rows.add_str (fun _ _ => hq _ _ ⟨_, rfl⟩ .tok) hz

theorem CmpS.eqI {a b : Int} : CmpS C .Eq (.at (.int a)) (.at (.int b)) (a == b) := fun A s x y Q _ _ ⟨_, hx⟩ ⟨_, hy⟩ hq => by
  subst hx hy; exact eq_int (hq _ (.refl ..))
theorem CmpS.neI {a b : Int} : CmpS C .NotEq (.at (.int a)) (.at (.int b)) (a != b) := fun A s x y Q _ _ ⟨_, hx⟩ ⟨_, hy⟩ hq => by
  subst hx hy; exact ne_int (hq _ (.refl ..))
theorem CmpS.ltI {a b : Int} : CmpS C .Lt (.at (.int a)) (.at (.int b)) (decide (a < b)) := fun A s x y Q _ _ ⟨_, hx⟩ ⟨_, hy⟩ hq => by
  subst hx hy; exact wpAny_lt_int (hq _ (.refl ..))
theorem CmpS.gtI {a b : Int} : CmpS C .Gt (.at (.int a)) (.at (.int b)) (decide (b < a)) := fun A s x y Q _ _ ⟨_, hx⟩ ⟨_, hy⟩ hq => by
  subst hx hy; exact gt_int (hq _ (.refl ..))
theorem CmpS.eqS {a b : Str} : CmpS C .Eq (.at (.str a)) (.at (.str b)) (a == b) := fun A s x y Q _ _ ⟨_, hx⟩ ⟨_, hy⟩ hq => by
  subst hx hy; exact PyProof.Rows.eq_str (hq _ (.refl ..))
noncomputable def At.isNone : At → Bool
  | .none => true
  | _ => false
theorem CmpS.isN {a : At} : CmpS C .Is (.at a) (.at .none) a.isNone := fun A s x y Q _ _ hx hy hq => by
  cases (show y = .none from hy)
  refine is_none ?_
  have : (x == Value.none) = a.isNone := by
    cases a with
    | none => cases (show x = .none from hx); rfl
    | bool b => cases (show x = .bool b from hx); rfl
    | int i => obtain ⟨t, rfl⟩ := (show ∃ t, x = .int i t from hx); rfl
    | str i => obtain ⟨t, rfl⟩ := (show ∃ t, x = .str i t from hx); rfl
  rw [this]
  exact hq _ (.refl ..)
end
end Mine
end partMB

section partMC
open PySem PySem.Calls PyProof.Rows
set_option maxRecDepth 100000
set_option linter.all false
namespace Mine
section
variable {C : Cfg} {p c : Bool} {N : Nat} {env : Env} {vs : List Str} {σ : St}

theorem AtsAre.ints : ∀ {ns : List Int} {vals : List Value}, AtsAre (ns.map At.int) vals → IntsAre vals ns
  | [], [], _ => .nil
  | n :: ns, v :: vals, h => by
    obtain ⟨⟨t, rfl⟩, h2⟩ := h
    exact .cons n t (AtsAre.ints h2)
theorem AtsAre.of_ints {ns : List Int} {vals : List Value} (h : IntsAre vals ns) : AtsAre (ns.map At.int) vals := by
  induction h with
  | nil => exact trivial
  | cons _ t _ ih => exact ⟨⟨t, rfl⟩, ih⟩
theorem AtsAre.strs : ∀ {ns : List Str} {vals : List Value}, AtsAre (ns.map At.str) vals → StrsAre vals ns
  | [], [], _ => .nil
  | n :: ns, v :: vals, h => by
    obtain ⟨⟨t, rfl⟩, h2⟩ := h
    exact .cons n t (AtsAre.strs h2)

theorem IsL.isList {h : Heap} {a : Addr} {l : List At} (x : IsL h a l) : ∃ items, h.IsList a items ∧ AtsAre l items.toList := let ⟨it, ⟨n, ho⟩, r⟩ := x; ⟨it, ⟨_, ho, rfl, n, rfl⟩, r⟩

theorem EvS.neg {e : Expr} {pos : Pos} {a : Int} (h : EvS C p true N env vs σ e (.at (.int a))) : EvS C p c N env vs σ (.UnaryOp .USub e pos) (.at (.int (-a))) := .mk fun A s X Q hr hf hq => by
  refine wpAny_UnaryOp (h.run A s X _ hr hf fun x s₁ ⟨t, hx⟩ e₁ => ?_)
  subst hx
  exact PySem.P.neg_int (hq _ _ ⟨_, rfl⟩ (e₁.trans .tok))
theorem EvS.ite {t a b : Expr} {pos : Pos} {v : V} {r : Bool} (ht : TsS C p N env vs σ t r) (h : if r = true then EvS C p c N env vs σ a v else EvS C p c N env vs σ b v) : EvS C p c N env vs σ (.IfExp t a b pos) v := .mk fun A s X Q hr hf hq => by
  refine wpAny_IfExp (ht.run A s X _ hr hf fun s₁ e₁ => ?_)
  cases r with
  | true =>
    rw [if_pos rfl] at h ⊢
    exact h.run A s₁ X Q hr (hf.keep e₁.keep) fun val s' d x => hq val s' d (e₁.trans x)
  | false =>
    rw [if_neg Bool.false_ne_true] at h ⊢
    exact h.run A s₁ X Q hr (hf.keep e₁.keep) fun val s' d x => hq val s' d (e₁.trans x)

noncomputable def TruS (C : Cfg) (v : V) (b : Bool) : Prop :=
  ∀ (A : Around) (s : Shared) (x : Value) (Q : Bool → Shared → Prop), IsV s.heap (fun _ => False) v x → (∀ s', Ext true s s' → Q b s') → wpAny (model C.prog C.w) A (truthy x) Q (fun _ _ => False) s
theorem TruS.bool {b : Bool} : TruS C (.at (.bool b)) b := fun A s x Q hx hq => by cases (show x = .bool b from hx); exact wpAny_truthy_bool (hq _ (.refl ..))
theorem TruS.list {l : List At} (hz : l.length < 2 ^ 62) : TruS C (.list l) (!l.isEmpty) := fun A s x Q hx hq => by
  obtain ⟨a, rfl, _, hl⟩ := hx
  obtain ⟨items, hL, hA⟩ := hl.isList
  have e := hA.length
  rw [Array.length_toList] at e
  refine wpAny_truthy_list hL (by omega) ?_
  have : (!items.isEmpty) = !l.isEmpty := by
    cases l with
    | nil => have : items.size = 0 := e; simp [Array.isEmpty, this]
    | cons y r => have : items.size = r.length + 1 := e; simp [Array.isEmpty, this]
  rw [this]
  exact hq _ .tok
theorem TsS.val {e : Expr} {v : V} {b : Bool} {c' : Bool} (h : EvS C p c' N env vs σ e v) (ht : TruS C v b) (he : ∀ whole, isTrue e env whole = (do let v ← whole; standAt e.pos; holding [v] (truthy v)) := by intro _; rfl) : TsS C p N env vs σ e b := .mk fun A s X Q hr hf hq =>
  wpAny_isTrue_value (h.run A s X _ hr hf fun x s₁ d e₁ => ht A s₁ x _ d.any fun s' e₂ => hq s' (e₁.trans e₂.of_pure)) (he _)

structure TssS (C : Cfg) (p : Bool) (N : Nat) (env : Env) (vs : List Str) (σ : St) (op : BoolOp) (es : List Expr) (b : Bool) : Prop where
  run : ∀ (A : Around) (s : Shared) (X : Addr → Prop) (Q : Bool → Shared → Prop), Rm A N → Fm C env vs X σ s.heap →
    (∀ s', Ext p s s' → Q b s') → wpAny (model C.prog C.w) A (allTrue op es env) Q (fun _ _ => False) s
theorem TsS.boolOp {op : BoolOp} {es : List Expr} {pos : Pos} {b : Bool} (h : TssS C p N env vs σ op es b) : TsS C p N env vs σ (.BoolOp op es pos) b := .mk fun A s X Q hr hf hq => wpAny_isTrue_BoolOp (h.run A s X Q hr hf hq)
theorem TssS.andNil : TssS C p N env vs σ .And [] true := .mk fun A s X Q _ _ hq => wpAny_allTrue_And_nil (hq s (.refl ..))
theorem TssS.orNil : TssS C p N env vs σ .Or [] false := .mk fun A s X Q _ _ hq => wpAny_allTrue_Or_nil (hq s (.refl ..))
theorem TssS.andC {e : Expr} {es : List Expr} {b r : Bool} (h : TsS C p N env vs σ e b) (h2 : b = true → TssS C p N env vs σ .And es r) : TssS C p N env vs σ .And (e :: es) (b && r) := .mk fun A s X Q hr hf hq => by
  refine wpAny_allTrue_And_cons (h.run A s X _ hr hf fun s₁ e₁ => ?_)
  cases b with
  | true => rw [if_pos rfl]; exact (h2 rfl).run A s₁ X Q hr (hf.keep e₁.keep) fun s' e₂ => hq s' (e₁.trans e₂)
  | false => rw [if_neg Bool.false_ne_true]; exact hq s₁ e₁
theorem TssS.orC {e : Expr} {es : List Expr} {b r : Bool} (h : TsS C p N env vs σ e b) (h2 : b = false → TssS C p N env vs σ .Or es r) : TssS C p N env vs σ .Or (e :: es) (b || r) := .mk fun A s X Q hr hf hq => by
  refine wpAny_allTrue_Or_cons (h.run A s X _ hr hf fun s₁ e₁ => ?_)
  cases b with
  | true => rw [if_pos rfl]; exact hq s₁ e₁
  | false => rw [if_neg Bool.false_ne_true]; exact (h2 rfl).run A s₁ X Q hr (hf.keep e₁.keep) fun s' e₂ => hq s' (e₁.trans e₂)

theorem EvS.and2 {a b : Expr} {pos : Pos} {x y : Bool} (ha : EvS C p true N env vs σ a (.at (.bool x))) (hb : x = true → EvS C p true N env vs σ b (.at (.bool y))) : EvS C p c N env vs σ (.BoolOp .And [a, b] pos) (.at (.bool (x && y))) := .mk fun A s X Q hr hf hq => by
  refine wpAny_And2 (ha.run A s X _ hr hf fun v s₁ d e₁ => ?_)
  cases (show v = .bool x from d)
  refine wpAny_truthy_bool ?_
  cases x with
  | true => rw [if_pos rfl]; exact (hb rfl).run A s₁ X Q hr (hf.keep e₁.keep) fun w s' d x => hq w s' d (e₁.trans x)
  | false => rw [if_neg Bool.false_ne_true]; exact hq _ s₁ rfl e₁

theorem EvsS.nil : EvsS C p c N env vs σ [] [] := .mk fun A s X pos Q _ _ hq => args_nil (hq [] s trivial (.refl ..))
theorem EvsS.cons {e : Expr} {es : List Expr} {v : V} {l : List V} (h : EvS C p c N env vs σ e v) (h2 : EvsS C p c N env vs σ es l) (he : starEach (e :: es) env = (false, eval e env) :: starEach es env := by rfl) : EvsS C p c N env vs σ (e :: es) (v :: l) := .mk fun A s X pos Q hr hf hq => by
  refine args_cons (h.run A s X _ hr hf fun x s₁ d e₁ => ?_) he
  exact h2.run A s₁ X pos _ hr (hf.keep e₁.keep) fun xs s₂ d2 e₂ => hq _ s₂ ⟨d.keep e₂.keep, d2⟩ (e₁.trans e₂)

theorem wp_global {M : Model} {A : Around} {E : Value → Shared → Prop} {s : Shared} {x : Str} {pos : Pos} {v : Value} {Q : Value → Shared → Prop} {X : Addr → Prop} (hf : Fm C env vs X σ s.heap) (hv : C.mg x = some v) (hx : env.kindOf x = some .globalImplicit) (hd : (x == ("__debug__" : Str)) = false) (h : Q v s) :
    wpAny M A (eval (.Name x pos) env) Q E s := Name_function_global hf.kind hx (loadGlobal_global (mg := C.mg) (by rw [hf.glob]; exact hf.base.g) hv h) hd
theorem wp_builtin {M : Model} {A : Around} {E : Value → Shared → Prop} {s : Shared} {x : Str} {pos : Pos} {v : Value} {Q : Value → Shared → Prop} {X : Addr → Prop} (hf : Fm C env vs X σ s.heap) (hv : (x, v) ∈ bnames) (hx : env.kindOf x = some .globalImplicit) (hd : (x == ("__debug__" : Str)) = false) (h : Q v s) :
    wpAny M A (eval (.Name x pos) env) Q E s := by
  obtain ⟨h1, h2⟩ := hf.base.nm _ hv
  exact Name_function_global hf.kind hx (loadGlobal_builtin (mg := C.mg) (mb := C.mb) (by rw [hf.glob]; exact hf.base.g) h1 (by rw [hf.blt]; exact hf.base.b) h2 h) hd

theorem EvS.call {f : Str} {e : Expr} {es : List Expr} {p1 p2 : Pos} {l : List V} {v : V} {c' : Bool} (ha : EvsS C false c' N env vs σ (e :: es) l) (hF : FnS C N f l v)
    (hx : env.kindOf f = some .globalImplicit := by rfl) (hd : (f == ("__debug__" : Str)) = false := by decide) (he : starEach (e :: es) env = (false, eval e env) :: starEach es env := by rfl) : EvS C false c' N env vs σ (.Call (.Name f p1) (e :: es) [] p2) v := .mk fun A s X Q hr hf hq => by
  obtain ⟨⟨d, hd1, hd2⟩, hF⟩ := hF
  obtain ⟨a, o, pm, cd, doc, e1, e2, e3, e4⟩ := hf.base.fn d hd1
  rw [hd2] at e1
  show wpAny _ A (do callWith p2 (← eval (.Name f p1) env) [] (backTo p2 (starEach (e :: es) env)) []) Q _ s
  refine wpAny_bind (wp_global hf e1 hx hd ?_)
  refine callWith_def e3 (ha.run A s X p2 _ hr hf fun vals s₁ d e₁ => ⟨e₁.keep _ _ e2, ?_⟩) he
  exact hF A s₁ (Xof c' X) a vals Q hr (hf.base.keep e₁.keep) e1 (fun b y => let ⟨o, ho⟩ := hf.live b y.2; ⟨o, e₁.keep _ _ ho⟩) d fun val s' dv e₂ => hq val s' dv (e₁.trans e₂)

noncomputable def BiS (C : Cfg) (id : String) (l : List V) (v : At) : Prop :=
  ∀ (A : Around) (s : Shared) (vals : List Value) (Q : Value → Shared → Prop), Rm A 2 → IsVs s.heap (fun _ => False) l vals → (∀ val s', IsAt v val → Ext true s s' → Q val s') → wpAny (model C.prog C.w) A (call (.builtin id) vals) Q (fun _ _ => False) s
theorem EvS.bi {f : Str} {id : String} {e : Expr} {es : List Expr} {p1 p2 : Pos} {l : List V} {v : At} {c' : Bool} (ha : EvsS C p c' N env vs σ (e :: es) l) (hF : BiS C id l v) (hm : (f, Value.builtin id) ∈ bnames) (hN : 2 ≤ N)
    (hx : env.kindOf f = some .globalImplicit := by rfl) (hd : (f == ("__debug__" : Str)) = false := by decide) (he : starEach (e :: es) env = (false, eval e env) :: starEach es env := by rfl) (hpl : ∀ pos, (backTo pos (starEach es env)).any (·.1) = false := by intro _; rfl) :
    EvS C p c N env vs σ (.Call (.Name f p1) (e :: es) [] p2) (.at v) := .mk fun A s X Q hr hf hq => by
  show wpAny _ A (do callWith p2 (← eval (.Name f p1) env) [] (backTo p2 (starEach (e :: es) env)) []) Q _ s
  refine wpAny_bind (wp_builtin hf hm hx hd ?_)
  refine callWith_builtin1 (ha.run A s X p2 _ hr hf fun vals s₁ d e₁ => ?_) he (hpl _)
  exact hF A s₁ vals Q (hr.le hN) (d.mono fun _ _ y _ => y.elim) fun val s' dv e₂ => hq val s' dv (e₁.trans e₂.of_pure)

theorem bn_len : (("len" : Str), Value.builtin "len") ∈ bnames := .head _
theorem bn_min : (("min" : Str), Value.builtin "min") ∈ bnames := .tail _ (.tail _ (.head _))
theorem bn_max : (("max" : Str), Value.builtin "max") ∈ bnames := .tail _ (.tail _ (.tail _ (.head _)))
theorem bn_abs : (("abs" : Str), Value.builtin "abs") ∈ bnames := .tail _ (.tail _ (.tail _ (.tail _ (.head _))))
theorem bn_sum : (("sum" : Str), Value.builtin "sum") ∈ bnames := .tail _ (.tail _ (.tail _ (.tail _ (.tail _ (.head _)))))
theorem map62 {α β : Type} {f : α → β} {l : List α} (h : l.length ≤ 1000) : (l.map f).length < 2 ^ 62 := by
  rw [List.length_map]; exact Nat.lt_of_le_of_lt h (by decide)
theorem BiS.lenL {l : List At} (hz : l.length < 2 ^ 62) : BiS C "len" [.list l] (.int l.length) := fun A s vals Q _ hv hq => by
  obtain ⟨x, rfl, ⟨a, e, _, hl⟩⟩ := IsVs.one hv
  subst e
  obtain ⟨items, hL, hA⟩ := hl.isList
  have e := hA.length
  rw [Array.length_toList] at e
  refine len_list hL (by omega) ?_
  rw [e]
  exact hq _ _ ⟨_, rfl⟩ .tok
theorem BiS.lenS {x : Str} (hz : x.length < 2 ^ 62) : BiS C "len" [.at (.str x)] (.int x.length) := fun A s vals Q _ hv hq => by
  obtain ⟨y, rfl, ⟨t, e⟩⟩ := IsVs.one hv
  subst e
  exact PyProof.Rows.len_str (by omega) (hq _ _ ⟨_, rfl⟩ .tok)
theorem BiS.abs {a : Int} : BiS C "abs" [.at (.int a)] (.int (if a < 0 then -a else a)) := fun A s vals Q _ hv hq => by
  obtain ⟨y, rfl, ⟨t, e⟩⟩ := IsVs.one hv
  subst e
  exact call_abs_int fun u tk => hq _ _ ⟨_, rfl⟩ .tok
theorem BiS.max {a b : Int} : BiS C "max" [.at (.int a), .at (.int b)] (.int (if b > a then b else a)) := fun A s vals Q hr hv hq => by
  obtain ⟨y, z, rfl, ⟨t, e⟩, ⟨u, e'⟩⟩ := IsVs.two hv
  subst e e'
  refine max_two_ints hr.h fun h' tk k => ?_
  split
  · rename_i q; exact hq _ _ ⟨_, by rw [if_pos q]⟩ (.heapt k)
  · rename_i q; exact hq _ _ ⟨_, by rw [if_neg q]⟩ (.heapt k)
theorem BiS.min {a b : Int} : BiS C "min" [.at (.int a), .at (.int b)] (.int (if b < a then b else a)) := fun A s vals Q hr hv hq => by
  obtain ⟨y, z, rfl, ⟨t, e⟩, ⟨u, e'⟩⟩ := IsVs.two hv
  subst e e'
  refine min_two_ints hr.h fun h' tk k => ?_
  split
  · rename_i q; exact hq _ _ ⟨_, by rw [if_pos q]⟩ (.heapt k)
  · rename_i q; exact hq _ _ ⟨_, by rw [if_neg q]⟩ (.heapt k)
end
end Mine
end partMC

section partMD
open PySem PySem.Calls PyProof.Rows
set_option maxRecDepth 100000
set_option linter.all false
namespace Mine

theorem fresh_get (h : Heap) : h.get? h.objs.size = none := by
  cases e : h.get? h.objs.size with
  | none => rfl
  | some o => exact absurd (Heap.lt_size e) (Nat.lt_irrefl _)
theorem HKeep.push (h : Heap) (o : Obj) : HKeep h (h.push o) := fun _ _ e => Heap.get?_push_of_some _ e
theorem fresh_push (h : Heap) (o : Obj) : h.get? (h.push o).objs.size = none := by
  cases e : h.get? (h.push o).objs.size with
  | none => rfl
  | some o' => have h1 : (h.push o).objs.size < h.objs.size := Heap.lt_size e; rw [Heap.size_push] at h1; exact absurd h1 (by omega)
theorem isL_new {h : Heap} {l : List At} {vals : List Value} (hA : AtsAre l vals) : IsL (h.push { cls := .type "list", data := .seq vals.toArray }) h.objs.size l :=
  ⟨vals.toArray, ⟨0, Heap.get?_push_size _ rfl⟩, hA⟩

section
variable {C : Cfg} {p c : Bool} {N : Nat} {env : Env} {vs : List Str} {σ : St}

theorem CmpS.isNotB {a b : Bool} : CmpS C .IsNot (.at (.bool a)) (.at (.bool b)) (a != b) := fun A s x y Q _ _ hx hy hq => by
  cases (show x = .bool a from hx); cases (show y = .bool b from hy); exact isnot_bool (hq _ (.refl ..))
theorem CmpS.notInS {a : Nat} {x : Str} : CmpS C .NotIn (.at (.str ⟨#[a]⟩)) (.at (.str x)) (!decide (a ∈ x.cps.toList)) := fun A s u v Q _ _ ⟨t, hx⟩ ⟨t', hy⟩ hq => by
  subst hx hy
  refine PySem.P.notIn_str ?_
  rw [StrLaws.found_one]
  exact hq _ (.refl ..)
theorem CmpS.inT {a : Int} {ns : List Int} : CmpS C .In (.at (.int a)) (.tup (ns.map .int)) (ns.any (· == a)) := fun A s u v Q _ _ ⟨t, hx⟩ ⟨r, hy, _, it, n, ho, hA⟩ hq => by
  subst hx hy
  exact in_tuple_ints ⟨_, ho, rfl, n, rfl⟩ hA.ints (hq _ (.refl ..))
theorem any_ints_at (a : Int) : ∀ {ns : List Int} {vals : List Value}, IntsAre vals ns → vals.any (fun y => match y with | .int i _ => i == a | _ => false) = ns.any (· == a)
  | _, _, .nil => rfl
  | _, _, .cons n t h => by simp only [List.any_cons, any_ints_at a h]
theorem CmpS.notInL {a : Int} {ns : List Int} : CmpS C .NotIn (.at (.int a)) (.list (ns.map .int)) (!(ns.any (· == a))) := fun A s u v Q _ _ ⟨t, hx⟩ ⟨r, hy, _, it, ⟨n, ho⟩, hA⟩ hq => by
  subst hx hy
  have hI := hA.ints
  refine PySem.SeqRoads2.notIn_list (items := it) (n := n) (fun y => match y with | .int i _ => i == a | _ => false) (fun y hy => ?_) ho ?_
  · have hall : ∀ {ns : List Int} {vals : List Value}, IntsAre vals ns → ∀ y ∈ vals, ∃ i u, y = Value.int i u := fun h => by
      induction h with
      | nil => intro y hy; cases hy
      | cons n t h ih => intro y hy; rcases List.mem_cons.mp hy with rfl | q; exact ⟨n, t, rfl⟩; exact ih y q
    obtain ⟨i, u, rfl⟩ := hall hI y (Array.mem_toList_iff.mpr hy)
    exact MeetsSeq.EqGives.int i a u t
  · rw [← Array.any_toList, any_ints_at a hI]
    exact hq _ (.refl ..)
theorem CmpS.neLI {ns ms : List Int} : CmpS C .NotEq (.list (ns.map .int)) (.list (ms.map .int)) (!decide (ns = ms)) := fun A s u v Q hr _ ⟨r, hx, _, it, ⟨n, ho⟩, hA⟩ ⟨r', hy, _, it', ⟨n', ho'⟩, hA'⟩ hq => by
  subst hx hy
  exact PySem.W.ne_intsK (vs := it.toList) (us := it'.toList) ⟨_, ho, rfl, n, rfl⟩ hA.ints ⟨_, ho', rfl, n', rfl⟩ hA'.ints (by have := hr.u; omega) (hq _ (.refl ..))
theorem CmpS.eqLS {xs : List Str} : CmpS C .Eq (.list (xs.map .str)) (.list (xs.map .str)) true := fun A s u v Q hr _ ⟨r, hx, _, it, ⟨n, ho⟩, hA⟩ ⟨r', hy, _, it', ⟨n', ho'⟩, hA'⟩ hq => by
  subst hx hy
  have e1 := hA.length
  have e2 := hA'.length
  rw [Array.length_toList] at e1 e2
  refine PySem.P.eq_list (e := fun _ => true) ho ho' (e1.trans e2.symm) (fun j h1 h2 => ?_) hr.units ?_
  · obtain ⟨a, q, d⟩ := hA.get' (i := j) (v := it[j]) (by simp [h1])
    obtain ⟨a', q', d'⟩ := hA'.get' (i := j) (v := it'[j]) (by simp [h2])
    rw [q] at q'; cases q'
    rw [List.getElem?_map] at q
    cases hxj : xs[j]? with
    | none => rw [hxj] at q; cases q
    | some x =>
      rw [hxj] at q; cases q
      obtain ⟨t, ht⟩ := d
      obtain ⟨t', ht'⟩ := d'
      rw [ht, ht']
      have := SeqRoads2.EqGives.str x x t t'
      rwa [beq_self_eq_true] at this
  · rw [show (List.range it.size).all (fun _ => true) = true from by simp]
    exact hq _ (.refl ..)

theorem seqIndex_pos {i : Int} {n : Nat} (h0 : 0 ≤ i) (h : i.toNat < n) : seqIndex? i n = some i.toNat := by
  unfold seqIndex?
  have h1 : ¬ i < 0 := by omega
  simp only [h1, if_false]
  rw [if_pos (by rw [Bool.and_eq_true, decide_eq_true_eq, decide_eq_true_eq]; omega)]
noncomputable def ItemS (C : Cfg) (b : V) (i v : At) : Prop :=
  ∀ (A : Around) (s : Shared) (x y : Value) (Q : Value → Shared → Prop), IsV s.heap (fun _ => False) b x → IsAt i y → (∀ val s', IsAt v val → Ext true s s' → Q val s') →
    (∃ T id, s.TypeIs x T ∧ typeLookup (.type T) "__getitem__" = pure (some (.builtin id))) ∧ wpAny (model C.prog C.w) A (getItem x y) Q (fun _ _ => False) s
theorem EvS.item {b i : Expr} {pos : Pos} {w : V} {a v : At} {c' : Bool} (hb : EvS C p c' N env vs σ b w) (hi : EvS C p true N env vs σ i (.at a)) (hI : ItemS C w a v) (hs : ∀ o j, subscripted i false o j = operate [o, j] (getItem o j) := by intro _ _; rfl) : EvS C p c N env vs σ (.Subscript b i pos) (.at v) := .mk fun A s X Q hr hf hq => by
  refine Subscript_ (hb.run A s X _ hr hf fun x s₁ d e₁ => ?_)
  refine hi.run A s₁ X _ hr (hf.keep e₁.keep) fun y s₂ dy e₂ => ?_
  obtain ⟨⟨T, id, hT, hl⟩, hg⟩ := hI A s₂ x y Q (d.any.keep e₂.keep) dy fun val s' dv e₃ => hq val s' dv ((e₁.trans e₂).trans e₃.of_pure)
  exact tail_any hT hl hg (hs _ _)
theorem ItemS.list {l : List At} {i : Int} {v : At} (h0 : 0 ≤ i) (hv : l[i.toNat]? = some v) (hz : l.length < 2 ^ 62) : ItemS C (.list l) (.int i) v := fun A s x y Q ⟨a, hx, _, hl⟩ ⟨t, hy⟩ hq => by
  subst hx hy
  obtain ⟨items, hL, hA⟩ := hl.isList
  obtain ⟨w, q, d⟩ := hA.get hv
  have hlt : i.toNat < l.length := by
    by_cases z : i.toNat < l.length
    · exact z
    · rw [List.getElem?_eq_none (Nat.le_of_not_lt z)] at hv; cases hv
  exact ⟨⟨_, _, hL.typeIs, slot_list_getitem.lookup⟩, wpAny_getItem_list hL h0 (by omega) (by simpa using q) (hq _ _ d (.refl ..))⟩
theorem ItemS.last {l : List At} {v : At} (hv : l.getLast? = some v) (hz : l.length < 2 ^ 62) : ItemS C (.list l) (.int (-1)) v := fun A s x y Q ⟨a, hx, _, hl⟩ ⟨t, hy⟩ hq => by
  subst hx hy
  obtain ⟨items, hL, hA⟩ := hl.isList
  rw [List.getLast?_eq_getElem?] at hv
  obtain ⟨w, q, d⟩ := hA.get hv
  have e1 := hA.length
  rw [Array.length_toList] at e1
  have hlt : l.length - 1 < l.length := by
    by_cases z : l.length - 1 < l.length
    · exact z
    · rw [List.getElem?_eq_none (Nat.le_of_not_lt z)] at hv; cases hv
  refine ⟨⟨_, _, hL.typeIs, slot_list_getitem.lookup⟩, wpAny_getItem_list_neg hL (by omega) (by omega) (by omega) (x := w) ?_ (hq _ _ d (.refl ..))⟩
  have : ((-1 : Int) + items.size).toNat = l.length - 1 := by omega
  rw [this]
  simpa using q
theorem ItemS.tup {l : List At} {i : Int} {v : At} (h0 : 0 ≤ i) (hv : l[i.toNat]? = some v) (hz : l.length < 2 ^ 62) : ItemS C (.tup l) (.int i) v := fun A s x y Q ⟨a, hx, _, it, n, ho, hA⟩ ⟨t, hy⟩ hq => by
  subst hx hy
  obtain ⟨w, q, d⟩ := hA.get hv
  have e1 := hA.length
  rw [Array.length_toList] at e1
  have hlt : i.toNat < l.length := by
    by_cases z : i.toNat < l.length
    · exact z
    · rw [List.getElem?_eq_none (Nat.le_of_not_lt z)] at hv; cases hv
  have hT : IsTup s.heap a it := ⟨_, ho, rfl, n, rfl⟩
  refine ⟨⟨_, _, hT.typeIs, F.slot_tuple_getitem.lookup⟩, getItem_tuple hT (by omega) (by omega) (seqIndex_pos h0 (by omega)) (by simpa using q) (hq _ _ d (.refl ..))⟩
theorem ItemS.str {x : Str} {i : Int} {k : Nat} (h0 : 0 ≤ i) (hv : x.cps[i.toNat]? = some k) (hz : x.length < 2 ^ 62) : ItemS C (.at (.str x)) (.int i) (.str ⟨#[k]⟩) := fun A s u v Q ⟨t, hx⟩ ⟨t', hy⟩ hq => by
  subst hx hy
  have hlt : i.toNat < x.length := by
    by_cases z : i.toNat < x.cps.size
    · exact z
    · rw [Array.getElem?_eq_none (Nat.le_of_not_lt z)] at hv; cases hv
  refine ⟨⟨_, _, typeIs_str _ _ _, F.slot_str_getitem.lookup⟩, PySem.P.getItem_str (by simp; omega) (c := k) ?_ (hq _ _ ⟨_, rfl⟩ .tok)⟩
  rw [seqIndex_pos h0 hlt]
  simpa using hv

noncomputable def allAts : List V → Option (List At)
  | [] => some []
  | .at a :: r => (allAts r).map (a :: ·)
  | _ :: _ => none
theorem IsVs.ats {h : Heap} {X : Addr → Prop} : ∀ {l : List V} {as : List At} {vals : List Value}, allAts l = some as → IsVs h X l vals → AtsAre as vals
  | [], as, [], e, _ => by cases e; trivial
  | .at a :: r, as, v :: vals, e, d => by
    unfold allAts at e
    cases q : allAts r with
    | none => rw [q] at e; cases e
    | some bs => rw [q] at e; cases e; exact ⟨d.1, IsVs.ats q d.2⟩
  | .list _ :: _, _, _, e, _ => by cases e
  | .tup _ :: _, _, _, e, _ => by cases e
  | .rng _ _ _ :: _, _, _, e, _ => by cases e
  | .pLL _ _ :: _, _, _, e, _ => by cases e
  | .pLA _ _ :: _, _, _, e, _ => by cases e
theorem EvL.disp {es : List Expr} {pos : Pos} {l : List V} {as : List At} (h : EvsS C p true N env vs σ es l) (ha : allAts l = some as) (hz : as.length ≤ 1000 := by decide) : EvL C p N env vs σ (.List es pos) as := .mk fun A s X Q hr hf hq => by
  refine List_ (h.run A s X pos _ hr hf fun vals s₁ d e₁ => ?_)
  have hA := d.ats ha
  have e := hA.length
  refine wpAny_newObj_type (hq _ _ ?_ (isL_new hA) (e₁.trans (.heap (.push _ _)))) (by show vals.toArray.size ≤ sizeLine; rw [List.size_toArray]; have : sizeLine = 16777216 := rfl; omega)
  cases q : s.heap.get? s₁.heap.objs.size with
  | none => rfl
  | some o => have := e₁.keep _ _ q; rw [fresh_get] at this; cases this
theorem EvS.tup {es : List Expr} {k : Nat} {pos : Pos} {l : List V} {as : List At} (h : EvsS C p true N env vs σ es l) (ha : allAts l = some as) (hz : as.length ≤ 1000 := by decide) : EvS C p c N env vs σ (.Tuple es k pos) (.tup as) := .mk fun A s X Q hr hf hq => by
  refine Tuple_ (h.run A s X pos _ hr hf fun vals s₁ d e₁ => ?_)
  have hA := d.ats ha
  have e := hA.length
  refine wpAny_newObj_type (hq _ _ ⟨_, rfl, ?_, vals.toArray, 0, Heap.get?_push_size _ rfl, hA⟩ (e₁.trans (.heap (.push _ _)))) (by show vals.toArray.size ≤ sizeLine; rw [List.size_toArray]; have : sizeLine = 16777216 := rfl; omega)
  intro y
  obtain ⟨o, ho⟩ := hf.live _ y.2
  have := e₁.keep _ _ ho
  rw [fresh_get] at this; cases this
theorem EvS.pairLL {a b : Expr} {k : Nat} {pos : Pos} {x y : List At} (h : EvsS C p c N env vs σ [a, b] [.list x, .list y]) : EvS C p c N env vs σ (.Tuple [a, b] k pos) (.pLL x y) := .mk fun A s X Q hr hf hq => by
  refine Tuple_ (h.run A s X pos _ hr hf fun vals s₁ d e₁ => ?_)
  obtain ⟨u, v, rfl, ⟨ra, hu, na, la⟩, ⟨rb, hv, nb, lb⟩⟩ := IsVs.two d
  subst hu hv
  refine wpAny_newObj_type (hq _ _ ⟨_, 0, ra, rb, rfl, ?_, Heap.get?_push_size _ rfl, ⟨na, la.keep (.push _ _)⟩, nb, lb.keep (.push _ _)⟩ (e₁.trans (.heap (.push _ _)))) (by show 2 ≤ sizeLine; decide)
  intro y
  obtain ⟨o, ho⟩ := hf.live _ y.2
  have := e₁.keep _ _ ho
  rw [fresh_get] at this; cases this
theorem EvS.pairLA {a b : Expr} {k : Nat} {pos : Pos} {x : List At} {y : At} (h : EvsS C p c N env vs σ [a, b] [.list x, .at y]) : EvS C p c N env vs σ (.Tuple [a, b] k pos) (.pLA x y) := .mk fun A s X Q hr hf hq => by
  refine Tuple_ (h.run A s X pos _ hr hf fun vals s₁ d e₁ => ?_)
  obtain ⟨u, v, rfl, ⟨ra, hu, na, la⟩, hv⟩ := IsVs.two d
  subst hu
  refine wpAny_newObj_type (hq _ _ ⟨_, 0, ra, v, rfl, ?_, Heap.get?_push_size _ rfl, ⟨na, la.keep (.push _ _)⟩, hv⟩ (e₁.trans (.heap (.push _ _)))) (by show 2 ≤ sizeLine; decide)
  intro y
  obtain ⟨o, ho⟩ := hf.live _ y.2
  have := e₁.keep _ _ ho
  rw [fresh_get] at this; cases this
end
end Mine
end partMD

section partME
open PySem PySem.Calls PyProof.Rows
set_option maxRecDepth 100000
set_option linter.all false
namespace Mine

theorem fresh_of {s s₁ : Shared} {p : Bool} (e : Ext p s s₁) {a : Addr} (h : s₁.heap.get? a = none) : s.heap.get? a = none := by
  cases q : s.heap.get? a with
  | none => rfl
  | some o => have := e.keep _ _ q; rw [h] at this; cases this

noncomputable def pickA (l : List At) (lo hi st : Option Int) : List At :=
  ((sliceRange (sliceBounds lo hi st l.length).1 (sliceBounds lo hi st l.length).2.1 (sliceBounds lo hi st l.length).2.2).filterMap (l[·]?))
theorem filterMap_are {l : List At} {items : Array Value} (h : AtsAre l items.toList) : ∀ is : List Nat, AtsAre (is.filterMap (l[·]?)) (is.filterMap (items[·]?))
  | [] => trivial
  | i :: r => by
    have ih := filterMap_are h r
    cases q : l[i]? with
    | none =>
      have : items[i]? = none := by
        cases z : items[i]? with
        | none => rfl
        | some v => obtain ⟨a, e, _⟩ := h.get' (i := i) (v := v) (by simpa using z); rw [q] at e; cases e
      rw [List.filterMap_cons_none q, List.filterMap_cons_none this]; exact ih
    | some a =>
      obtain ⟨v, e, d⟩ := h.get q
      rw [List.filterMap_cons_some q, List.filterMap_cons_some (b := v) (by simpa using e)]
      exact ⟨d, ih⟩
theorem pick_are {l : List At} {items : Array Value} (h : AtsAre l items.toList) (lo hi st : Option Int) : AtsAre (pickA l lo hi st) (slicePick items lo hi st).toList := by
  have e := h.length
  rw [Array.length_toList] at e
  unfold pickA slicePick
  rw [e]
  exact filterMap_are h _

section
variable {C : Cfg} {p c : Bool} {N : Nat} {env : Env} {vs : List Str} {σ : St}

noncomputable def PartS (C : Cfg) (p : Bool) (N : Nat) (env : Env) (vs : List Str) (σ : St) (e : Option Expr) (i : Option Int) : Prop :=
  match e, i with
  | none, none => True
  | some e, some i => EvS C p true N env vs σ e (.at (.int i))
  | _, _ => False
theorem PartS.wp {e : Option Expr} {i : Option Int} (h : PartS C p N env vs σ e i) (A : Around) (s : Shared) (X : Addr → Prop) (Q : Value → Shared → Prop) (hr : Rm A N) (hf : Fm C env vs X σ s.heap)
    (hq : ∀ val s', IsPart val i → Ext p s s' → Q val s') : wpAny (model C.prog C.w) A (evalPart e env) Q (fun _ _ => False) s := by
  match e, i, h with
  | none, none, _ => rw [evalPart_none]; exact wpAny_pure (hq _ _ .none (.refl ..))
  | some e, some i, h => rw [evalPart_some]; exact h.run A s X Q hr hf fun val s' ⟨t, hv⟩ x => hq _ _ (hv ▸ .int i t) x

theorem EvL.slice {b : Expr} {lo hi : Option Expr} {p1 p2 : Pos} {l : List At} {i j : Option Int} {c' : Bool} (hb : EvS C p c' N env vs σ b (.list l)) (h1 : PartS C p N env vs σ lo i) (h2 : PartS C p N env vs σ hi j) (hz : l.length ≤ sizeLine) (ht : ∀ o r, letTemporaryGo b o r = pure () := by intro _ _; rfl) :
    EvL C p N env vs σ (.Subscript b (.Slice lo hi none p1) p2) (pickA l i j none) := .mk fun A s X Q hr hf hq => by
  refine wpAny_Subscript_list_slice (hb.run A s X _ hr hf fun x s₁ d e₁ => ?_) ht
  refine h1.wp A s₁ X _ hr (hf.keep e₁.keep) fun vl s₂ d1 e₂ => ?_
  refine h2.wp A s₂ X _ hr (hf.keep (e₁.trans e₂).keep) fun vu s₃ d2 e₃ => ?_
  obtain ⟨a, rfl, _, hl⟩ := d
  obtain ⟨items, hL, hA⟩ := (hl.keep (e₂.trans e₃).keep).isList
  have e := hA.length
  rw [Array.length_toList] at e
  refine ⟨a, items, i, j, rfl, hL, by omega, d1, d2, ?_⟩
  have hk := (HKeep.push s₃.heap { cls := .type "slice", data := .fields #[vl, vu, .none] }).trans (HKeep.push _ { cls := .type "list", data := .seq (slicePick items i j none) })
  refine hq _ _ (fresh_of ((e₁.trans e₂).trans e₃) ?_) ⟨_, ⟨0, ?_⟩, pick_are hA i j none⟩ (((e₁.trans e₂).trans e₃).trans (.heap hk))
  · have := fresh_push s₃.heap { cls := .type "slice", data := .fields #[vl, vu, .none] }
    rwa [Heap.size_push] at this
  · rw [← Heap.size_push s₃.heap { cls := .type "slice", data := .fields #[vl, vu, .none] }]
    exact Heap.get?_push_size _ rfl

theorem EvL.sliceSt {b st : Expr} {lo hi : Option Expr} {p1 p2 : Pos} {l : List At} {i j : Option Int} {k : Int} {c' : Bool} (hb : EvS C p c' N env vs σ b (.list l)) (h1 : PartS C p N env vs σ lo i) (h2 : PartS C p N env vs σ hi j) (h3 : EvS C p true N env vs σ st (.at (.int k))) (hk : k ≠ 0) (hz : l.length ≤ sizeLine) (ht : ∀ o r, letTemporaryGo b o r = pure () := by intro _ _; rfl) :
    EvL C p N env vs σ (.Subscript b (.Slice lo hi (some st) p1) p2) (pickA l i j (some k)) := .mk fun A s X Q hr hf hq => by
  refine wpAny_Subscript_Slice_step (T := "list") list_getitem_lookup (hb.run A s X _ hr hf fun x s₁ d e₁ => ?_) ht
  refine wpAny_Slice (h1.wp A s₁ X _ hr (hf.keep e₁.keep) fun vl s₂ d1 e₂ => ?_)
  refine h2.wp A s₂ X _ hr (hf.keep (e₁.trans e₂).keep) fun vu s₃ d2 e₃ => ?_
  rw [evalPart_some]
  refine h3.run A s₃ X _ hr (hf.keep ((e₁.trans e₂).trans e₃).keep) fun vt s₄ d3 e₄ => ?_
  obtain ⟨a, rfl, _, hl⟩ := d
  obtain ⟨t, rfl⟩ := d3
  obtain ⟨items, hL, hA⟩ := (hl.keep ((e₂.trans e₃).trans e₄).keep).isList
  have e := hA.length
  rw [Array.length_toList] at e
  have e₀ := ((e₁.trans e₂).trans e₃).trans e₄
  refine ⟨(hL.push _).typeIs, wpAny_getItem_list_slice (hL.push _) (Heap.IsSliceOf.new ..) d1 d2 (.int k t) (by simpa using hk) ?_ (by omega)⟩
  have hk := (HKeep.push s₄.heap { cls := .type "slice", data := .fields #[vl, vu, .int k t] }).trans (HKeep.push _ { cls := .type "list", data := .seq (slicePick items i j (some k)) })
  refine hq _ _ (fresh_of e₀ ?_) ⟨_, ⟨0, Heap.get?_push_size _ rfl⟩, pick_are hA i j (some k)⟩ (e₀.trans (.heap hk))
  exact fresh_push _ _

theorem EvS.sliceS2 {b lo hi : Expr} {p1 p2 : Pos} {x : Str} {i j : Int} {c' : Bool} (hb : EvS C p c' N env vs σ b (.at (.str x))) (h1 : EvS C p true N env vs σ lo (.at (.int i))) (h2 : EvS C p true N env vs σ hi (.at (.int j))) (hz : x.length ≤ sizeLine) (ht : ∀ o r, letTemporaryGo b o r = pure () := by intro _ _; rfl) :
    EvS C p c N env vs σ (.Subscript b (.Slice (some lo) (some hi) Option.none p1) p2) (.at (.str (Txt.slice x (some i) (some j)))) := .mk fun A s X Q hr hf hq => by
  refine wpAny_Subscript_Slice (T := "str") F.slot_str_getitem.lookup (hb.run A s X _ hr hf fun u s₁ ⟨t, hu⟩ e₁ => ?_) ht
  subst hu
  refine wpAny_Slice ?_
  rw [evalPart_some]
  refine h1.run A s₁ X _ hr (hf.keep e₁.keep) fun vl s₂ ⟨t1, d1⟩ e₂ => ?_
  rw [evalPart_some]
  refine h2.run A s₂ X _ hr (hf.keep (e₁.trans e₂).keep) fun vu s₃ ⟨t2, d2⟩ e₃ => ?_
  subst d1 d2
  rw [evalPart_none]
  refine wpAny_pure ?_
  obtain ⟨T, id, h1, h2, h3⟩ := SBH.sliceItem_ss (prog := C.prog) (w := C.w) (A := A) (E := fun _ _ => False) (P := HKeep s₃.heap) (s := s₃) (x := x) (t := t) (i := i) (j := j) (ui := t1) (uj := t2) (Q := Q) (fun h ob k => k.trans (.push _ _)) (.refl _)
    (fun h' t' k q => hq _ _ ⟨t', rfl⟩ (((e₁.trans e₂).trans e₃).trans (.heapt q))) hz
  exact ⟨typeIs_str _ _ _, h3⟩
theorem EvS.sliceS1 {b lo : Expr} {p1 p2 : Pos} {x : Str} {i : Int} {c' : Bool} (hb : EvS C p c' N env vs σ b (.at (.str x))) (h1 : EvS C p true N env vs σ lo (.at (.int i))) (hz : x.length ≤ sizeLine) (ht : ∀ o r, letTemporaryGo b o r = pure () := by intro _ _; rfl) :
    EvS C p c N env vs σ (.Subscript b (.Slice (some lo) Option.none Option.none p1) p2) (.at (.str (Txt.slice x (some i) Option.none))) := .mk fun A s X Q hr hf hq => by
  refine wpAny_Subscript_Slice (T := "str") F.slot_str_getitem.lookup (hb.run A s X _ hr hf fun u s₁ ⟨t, hu⟩ e₁ => ?_) ht
  subst hu
  refine wpAny_Slice ?_
  rw [evalPart_some]
  refine h1.run A s₁ X _ hr (hf.keep e₁.keep) fun vl s₂ ⟨t1, d1⟩ e₂ => ?_
  subst d1
  rw [evalPart_none]
  refine wpAny_pure (wpAny_pure ?_)
  obtain ⟨T, id, h1, h2, h3⟩ := SBH.sliceItem_sn (prog := C.prog) (w := C.w) (A := A) (E := fun _ _ => False) (P := HKeep s₂.heap) (s := s₂) (x := x) (t := t) (i := i) (ui := t1) (Q := Q) (fun h ob k => k.trans (.push _ _)) (.refl _)
    (fun h' t' k q => hq _ _ ⟨t', rfl⟩ ((e₁.trans e₂).trans (.heapt q))) hz
  exact ⟨typeIs_str _ _ _, h3⟩

theorem wp_callType {M : Model} {A : Around} {E : Value → Shared → Prop} {s : Shared} {T : String} {e : Expr} {es : List Expr} {p2 : Pos} {Q : Value → Shared → Prop} (he : starEach (e :: es) env = (false, eval e env) :: starEach es env) (hpl : ∀ pos, (backTo pos (starEach es env)).any (·.1) = false)
    (h : wpAny M A (spliced (backTo p2 (starEach (e :: es) env))) (fun l s' => wpAny M A (call (.type T) l) Q E s') E s) : wpAny M A (callWith p2 (.type T) [] (backTo p2 (starEach (e :: es) env)) []) Q E s := by
  rw [he] at h ⊢
  refine PySem.callWith_type (by show (false || (backTo p2 (starEach es env)).any (·.1)) = false; rw [hpl]; rfl) (evalArgs_plain h)

theorem EvS.range1 {e : Expr} {p1 p2 : Pos} {n : Int} (h : EvsS C p true N env vs σ [e] [.at (.int n)]) (hx : env.kindOf "range" = some .globalImplicit := by rfl) (he : starEach [e] env = (false, eval e env) :: starEach [] env := by rfl) : EvS C p c N env vs σ (.Call (.Name "range" p1) [e] [] p2) (.rng 0 n 1) := .mk fun A s X Q hr hf hq => by
  show wpAny _ A (do callWith p2 (← eval (.Name "range" p1) env) [] (backTo p2 (starEach [e] env)) []) Q _ s
  refine wpAny_bind (wp_builtin hf (v := .type "range") (by simp [bnames]) hx (by decide) ?_)
  refine wp_callType he (fun _ => rfl) (h.run A s X p2 _ hr hf fun vals s₁ d e₁ => ?_)
  obtain ⟨x, rfl, ⟨t, hu⟩⟩ := IsVs.one d
  subst hu
  refine call_range_1 (hq _ _ ⟨_, _, _, _, rfl, ?_, IsRange.new ..⟩ (e₁.trans (.heapt (.push _ _))))
  intro y
  obtain ⟨o, ho⟩ := hf.live _ y.2
  have := e₁.keep _ _ ho
  rw [fresh_get] at this; cases this
theorem EvS.range2 {e f : Expr} {p1 p2 : Pos} {a b : Int} (h : EvsS C p true N env vs σ [e, f] [.at (.int a), .at (.int b)]) (hx : env.kindOf "range" = some .globalImplicit := by rfl) (he : starEach [e, f] env = (false, eval e env) :: starEach [f] env := by rfl) (hpl : ∀ pos, (backTo pos (starEach [f] env)).any (·.1) = false := by intro _; rfl) : EvS C p c N env vs σ (.Call (.Name "range" p1) [e, f] [] p2) (.rng a b 1) := .mk fun A s X Q hr hf hq => by
  show wpAny _ A (do callWith p2 (← eval (.Name "range" p1) env) [] (backTo p2 (starEach [e, f] env)) []) Q _ s
  refine wpAny_bind (wp_builtin hf (v := .type "range") (by simp [bnames]) hx (by decide) ?_)
  refine wp_callType he hpl (h.run A s X p2 _ hr hf fun vals s₁ d e₁ => ?_)
  obtain ⟨x, y, rfl, ⟨t, hu⟩, ⟨t', hu'⟩⟩ := IsVs.two d
  subst hu hu'
  refine call_range_2 (hq _ _ ⟨_, _, _, _, rfl, ?_, IsRange.new ..⟩ (e₁.trans (.heapt (.push _ _))))
  intro y
  obtain ⟨o, ho⟩ := hf.live _ y.2
  have := e₁.keep _ _ ho
  rw [fresh_get] at this; cases this
theorem EvS.range3 {e f g : Expr} {p1 p2 : Pos} {a b k : Int} (h : EvsS C p true N env vs σ [e, f, g] [.at (.int a), .at (.int b), .at (.int k)]) (hk : k ≠ 0) (hk2 : k.natAbs < 1073741824) (hx : env.kindOf "range" = some .globalImplicit := by rfl) (he : starEach [e, f, g] env = (false, eval e env) :: starEach [f, g] env := by rfl) (hpl : ∀ pos, (backTo pos (starEach [f, g] env)).any (·.1) = false := by intro _; rfl) : EvS C p c N env vs σ (.Call (.Name "range" p1) [e, f, g] [] p2) (.rng a b k) := .mk fun A s X Q hr hf hq => by
  show wpAny _ A (do callWith p2 (← eval (.Name "range" p1) env) [] (backTo p2 (starEach [e, f, g] env)) []) Q _ s
  refine wpAny_bind (wp_builtin hf (v := .type "range") (by simp [bnames]) hx (by decide) ?_)
  refine wp_callType he hpl (h.run A s X p2 _ hr hf fun vals s₁ d e₁ => ?_)
  obtain ⟨x, y, z, rfl, ⟨t, hu⟩, ⟨t', hu'⟩, ⟨t'', hu''⟩⟩ := IsVs.three d
  subst hu hu' hu''
  refine call_range_3 hk (hq _ _ ⟨_, _, _, _, rfl, ?_, IsRange.new ..⟩ (e₁.trans (.heapt (.push _ _)))) (.inl (PyProof.noPylong_small hk2))
  intro y
  obtain ⟨o, ho⟩ := hf.live _ y.2
  have := e₁.keep _ _ ho
  rw [fresh_get] at this; cases this

theorem EvL.listOf {e : Expr} {p1 p2 : Pos} {l : List At} {c' : Bool} (h : EvsS C p c' N env vs σ [e] [.list l]) (hz : l.length ≤ 1000) (hx : env.kindOf "list" = some .globalImplicit := by rfl) (he : starEach [e] env = (false, eval e env) :: starEach [] env := by rfl) : EvL C p N env vs σ (.Call (.Name "list" p1) [e] [] p2) l := .mk fun A s X Q hr hf hq => by
  show wpAny _ A (do callWith p2 (← eval (.Name "list" p1) env) [] (backTo p2 (starEach [e] env)) []) Q _ s
  refine wpAny_bind (wp_builtin hf (v := .type "list") (by simp [bnames]) hx (by decide) ?_)
  refine wp_callType he (fun _ => rfl) (h.run A s X p2 _ hr hf fun vals s₁ d e₁ => ?_)
  obtain ⟨x, rfl, ⟨a, hu, _, it, ⟨n, ho⟩, hA⟩⟩ := IsVs.one d
  subst hu
  have e := hA.length
  rw [Array.length_toList] at e
  refine call_list_seq a (T := "list") (.inl rfl) ho rfl rfl (fun h' c' k g => ?_) (by have : sizeLine = 16777216 := rfl; omega)
  exact hq _ _ (fresh_of e₁ (fresh_get _)) ⟨it, ⟨c', g⟩, hA⟩ (e₁.trans (.heap k))

theorem sortedAll_keep (h : Heap) (vs : List Value) (out : Array Value) : HKeep h (sortedAll h vs out) := by
  intro b o e
  exact sortedAll_old e

noncomputable def sort2 (a b : Int) : List Int := if a ≤ b then [a, b] else [b, a]
theorem sort2_of {a b : Int} {ns : List Int} (hp : ns.Perm [a, b]) (hs : ns.Pairwise (· ≤ ·)) : ns = sort2 a b := by
  have h2 : (sort2 a b).Perm [a, b] := by
    unfold sort2
    split
    · exact .refl _
    · exact .swap _ _ _
  have h3 : (sort2 a b).Pairwise (· ≤ ·) := by
    unfold sort2
    split <;> simp <;> omega
  exact (hp.trans h2.symm).eq_of_pairwise (fun x y _ _ h h' => Int.le_antisymm h h') hs h3
theorem EvL.sorted2 {e : Expr} {p1 p2 : Pos} {a b : Int} {c' : Bool} (h : EvsS C p c' N env vs σ [e] [.list [.int a, .int b]]) (hx : env.kindOf "sorted" = some .globalImplicit := by rfl) (he : starEach [e] env = (false, eval e env) :: starEach [] env := by rfl) : EvL C p N env vs σ (.Call (.Name "sorted" p1) [e] [] p2) ((sort2 a b).map .int) := .mk fun A s X Q hr hf hq => by
  show wpAny _ A (do callWith p2 (← eval (.Name "sorted" p1) env) [] (backTo p2 (starEach [e] env)) []) Q _ s
  refine wpAny_bind (wp_builtin hf (v := .builtin "sorted") (by simp [bnames]) hx (by decide) ?_)
  refine callWith_builtin1 (h.run A s X p2 _ hr hf fun vals s₁ d e₁ => ?_) he rfl
  obtain ⟨x, rfl, ⟨r, hu, _, it, ⟨n, ho⟩, hA⟩⟩ := IsVs.one d
  subst hu
  have hI : IntsAre it.toList [a, b] := AtsAre.ints (ns := [a, b]) hA
  have e := hA.length
  refine sorted_ints (vs := it.toList) (l := r) ⟨_, ho, rfl, n, rfl⟩ hI (by rw [e]; exact (by decide : (2:Nat) < 64)) fun out ns' q1 q2 q3 => ?_
  obtain ⟨k, hk⟩ := sortedAll_at s₁.heap it.toList out
  rw [sort2_of q2 q3] at q1
  refine hq _ _ (fresh_of e₁ ?_) ⟨out, ⟨k, hk⟩, AtsAre.of_ints q1⟩ (e₁.trans (.heap (sortedAll_keep _ _ _)))
  have := fresh_push s₁.heap (seqObj "list" #[] 0)
  rwa [Heap.size_push] at this

theorem preSum_map : ∀ (ns : List Int) (n : Nat), n ≤ ns.length → preSum (fun i => ns.getD i 0) n = (ns.take n).sum
  | ns, 0, _ => by simp [preSum]
  | ns, n + 1, h => by
    have ih := preSum_map ns n (by omega)
    have : (ns.take (n + 1)) = ns.take n ++ [ns.getD n 0] := by
      rw [List.take_add_one]
      have : ns[n]? = some (ns.getD n 0) := by simp [List.getD, List.getElem?_eq_getElem (show n < ns.length by omega)]
      rw [this]; rfl
    rw [this, List.sum_append]
    show preSum _ n + _ = _
    rw [ih]; simp
theorem BiS.sum {ns : List Int} : BiS C "sum" [.list (ns.map .int)] (.int ns.sum) := fun A s vals Q hr hv hq => by
  obtain ⟨x, rfl, ⟨r, hu, _, it, ⟨n, ho⟩, hA⟩⟩ := IsVs.one hv
  subst hu
  have hl : s.heap.IsList r it := ⟨_, ho, rfl, n, rfl⟩
  have e := hA.length
  rw [Array.length_toList, List.length_map] at e
  have hne : r ≠ s.heap.objs.size := Nat.ne_of_lt (Heap.lt_size ho)
  refine call_sum_walkAnyS (wpAny_pyIter_list hl ?_)
  refine ⟨s.heap.objs.size, _, _, _, _, _, _, fun i => ns.getD i 0, rfl, (Walks.list (prog := C.prog) (w := C.w) (A := A.in1) hr.h s.heap.objs.size r hne it).toS, ⟨⟨_, Heap.get?_push_size _ rfl, rfl, rfl⟩, hl.push _⟩, ?_, ?_, ?_⟩
  · intro b hb
    rw [Heap.size_push]
    rcases List.mem_cons.mp hb with rfl | hb
    · exact Nat.lt_succ_self _
    · rcases List.mem_cons.mp hb with rfl | hb
      · exact Nat.lt_succ_of_lt (Heap.lt_size ho)
      · cases hb
  · intro i v hi
    obtain ⟨a, q, d⟩ := hA.get' (i := i) (v := v) (by simpa using hi)
    rw [List.getElem?_map] at q
    cases z : ns[i]? with
    | none => rw [z] at q; cases q
    | some k =>
      rw [z] at q; cases q
      obtain ⟨t, rfl⟩ := d
      exact ⟨t, by simp [List.getD, z]⟩
  · intro s' t' hm
    rw [e, preSum_map _ _ (Nat.le_refl _), List.take_length]
    refine hq _ _ ⟨_, rfl⟩ ?_
    refine .of_keeps ⟨s'.heap, s'.toks, ?_, fun b o hb => hm.heap b o ?_ (Heap.get?_push_of_some _ hb)⟩
    · obtain ⟨h1, g1, d1, t1, o1⟩ := s'
      obtain ⟨h2, g2, d2, t2, o2⟩ := s
      have e1 : g1 = g2 := hm.gens
      have e2 : d1 = d2 := hm.drawn
      have e3 : o1 = o2 := hm.os
      subst e1 e2 e3; rfl
    · intro hm'
      rcases List.mem_cons.mp hm' with rfl | q
      · rw [fresh_get] at hb; cases hb
      · cases q
end
end Mine
end partME

section partMF
open PySem PySem.Calls PyProof.Rows
set_option maxRecDepth 100000
set_option linter.all false
namespace Mine

section
variable {prog : Program} {w : World} {A : Around} {E : Value → Shared → Prop} {s : Shared}

theorem wp_setItem_plain {l : Addr} {items : Array Value} {k : Int} {t : Tok} {v : Value} {Q : Unit → Shared → Prop} (hl : s.heap.PlainList l items)
    (h0 : 0 ≤ k) (hfit : k < 2 ^ 63) (hn : k < items.size)
    (hQ : ∀ h', h'.PlainList l (items.setIfInBounds k.toNat v) → Heap.SameBut l s.heap h' → Q () { s with heap := h' }) :
    wpAny (model prog w) A (setItem (.ref l) (.int k t) v) Q E s := by
  obtain ⟨ne, ho⟩ := hl
  have hL : s.heap.IsList l items := ⟨_, ho, rfl, ne, rfl⟩
  unfold setItem
  try with_reducible refine wpAny_holding ?_
  first | refine wpAny_bind (wpAny_pure ?_) | skip
  refine wpAny_bind (wpAny_sequenceKey hL.typeIs (by decide) ?_)
  refine wpAny_bind (wpAny_callSpecial?_slot (name := Str.ofString "__setitem__") hL.typeIs slot_list_setitem
    (wpAny_call_entry slot_list_setitem hL.typeIs entry_list_setitem ?_ (args_list_setitem _ _ _)))
  show wpAny _ _ (Builtin.List.listSubscript? (.int k t) >>= _) _ _ s
  refine wpAny_bind (wpAny_listSubscript_int (fitsIndex_of h0 hfit) ?_)
  clear hfit
  obtain ⟨j, rfl⟩ := Int.eq_ofNat_of_zero_le h0
  have hj : j < items.size := by omega
  have hx' : items[j]? = some items[j] := Array.getElem?_eq_getElem hj
  show wpAny _ _ ((seqItemAt l j >>= fun r => pure (r.map (j, ·))) >>= _) _ _ s
  refine wpAny_bind (wpAny_bind (wpAny_seqItemAt ho rfl (wpAny_pure ?_)))
  rw [hx']
  show wpAny _ _ (setSeqItemAt l j v >>= _) _ _ s
  have hfin : (s.heap.update l (Obj.mapSeq (·.setIfInBounds j v))).PlainList l (items.setIfInBounds j v) :=
    ⟨_, Heap.get?_update_self _ ho rfl⟩
  refine wpAny_bind (wpAny_setSeqItemAt ho rfl ?_)
  first
    | exact wpAny_bind (wpAny_pure (wpAny_pure ⟨.none, rfl, wpAny_pure (hQ _ hfin (Heap.SameBut.update ..))⟩))
    | exact wpAny_pure ⟨.none, rfl, wpAny_pure (hQ _ hfin (Heap.SameBut.update ..))⟩

theorem wp_setItem_neg {l : Addr} {items : Array Value} {k : Int} {t : Tok} {v : Value} {Q : Unit → Shared → Prop} (hl : s.heap.PlainList l items)
    (h0 : k < 0) (h1 : -(items.size : Int) ≤ k) (hfit : -(2 ^ 63) ≤ k)
    (hQ : ∀ h', h'.PlainList l (items.setIfInBounds (k + items.size).toNat v) → Heap.SameBut l s.heap h' → Q () { s with heap := h' }) :
    wpAny (model prog w) A (setItem (.ref l) (.int k t) v) Q E s := by
  obtain ⟨ne, ho⟩ := hl
  have hL : s.heap.IsList l items := ⟨_, ho, rfl, ne, rfl⟩
  unfold setItem
  try with_reducible refine wpAny_holding ?_
  first | refine wpAny_bind (wpAny_pure ?_) | skip
  refine wpAny_bind (wpAny_sequenceKey hL.typeIs (by decide) ?_)
  refine wpAny_bind (wpAny_callSpecial?_slot (name := Str.ofString "__setitem__") hL.typeIs slot_list_setitem
    (wpAny_call_entry slot_list_setitem hL.typeIs entry_list_setitem ?_ (args_list_setitem _ _ _)))
  show wpAny _ _ (Builtin.List.listSubscript? (.int k t) >>= _) _ _ s
  refine wpAny_bind (wpAny_listSubscript_int (fitsIndex_neg h0 hfit) ?_)
  clear hfit
  have hidx := seqIndex_neg h0 h1
  have hx : items[(k + items.size).toNat]? = some items[(k + items.size).toNat] := Array.getElem?_eq_getElem (by omega)
  obtain ⟨j, rfl⟩ : ∃ j : Nat, k = Int.negSucc j := by
    cases k with
    | ofNat n => exact absurd h0 (Int.not_lt.mpr (Int.ofNat_nonneg n))
    | negSucc n => exact ⟨n, rfl⟩
  show wpAny _ _ ((Builtin.List.listItems (.ref l) >>= fun xs => pure ((seqIndex? (Int.negSucc j) xs.size).bind fun i => xs[i]?.map (i, ·))) >>= _) _ _ s
  refine wpAny_bind (wpAny_bind ?_)
  show wpAny _ _ (seqItems? (.ref l) >>= _) _ _ s
  refine wpAny_bind (wpAny_seqItems ho rfl (wpAny_pure (wpAny_pure ?_)))
  rw [hidx]
  simp only [Option.bind_some, hx, Option.map_some]
  show wpAny _ _ (setSeqItemAt l (Int.negSucc j + items.size).toNat v >>= _) _ _ s
  have hfin : (s.heap.update l (Obj.mapSeq (·.setIfInBounds (Int.negSucc j + items.size).toNat v))).PlainList l (items.setIfInBounds (Int.negSucc j + items.size).toNat v) :=
    ⟨_, Heap.get?_update_self _ ho rfl⟩
  refine wpAny_bind (wpAny_setSeqItemAt ho rfl ?_)
  first
    | exact wpAny_bind (wpAny_pure (wpAny_pure ⟨.none, rfl, wpAny_pure (hQ _ hfin (Heap.SameBut.update ..))⟩))
    | exact wpAny_pure ⟨.none, rfl, wpAny_pure (hQ _ hfin (Heap.SameBut.update ..))⟩

theorem wp_pop {l : Addr} {items : Array Value} {y : Value} {Q : Value → Shared → Prop} (hl : s.heap.PlainList l items) (hy : items[items.size - 1]? = some y) (hz : items.size ≤ sizeLine)
    (hQ : ∀ h', h'.PlainList l items.pop → Heap.SameBut l s.heap h' → Q y { s with heap := h' }) :
    wpAny (model prog w) A (call (.builtin "list.pop") [.ref l]) Q E s := by
  obtain ⟨n, ho⟩ := hl
  have hpos : items.size - 1 < items.size := by
    rcases Nat.eq_zero_or_pos items.size with h0 | h0
    · simp [h0] at hy
    · omega
  refine call_meets PySem.F.slot_list_pop ⟨_, ho, rfl⟩ PySem.F.entry_list_pop (PySem.F.args_list_pop_1 _) (PySem.MeetsSeq.list_pop_last l items n y hy hz) ⟨ho, hQ _ ?_ (Heap.SameBut.update ..)⟩
  have e : items.eraseIdxIfInBounds (items.size - 1) = items.pop := by
    apply Array.ext'
    rw [Array.toList_eraseIdxIfInBounds, Array.toList_pop, ← Array.length_toList, List.eraseIdx_length_sub_one]
  rw [← e]
  exact ⟨_, Heap.get?_update_self _ ho rfl⟩
end

section
variable {C : Cfg} {p c : Bool} {N : Nat} {env : Env} {vs : List Str} {σ : St}

theorem EvS.join {x : Str} {e : Expr} {k : Nat} {p0 p1 p2 : Pos} {ss : List Str} {c' : Bool} {pl : Sem Bool} (h : EvsS C p c' N env vs σ [e] [.list (ss.map .str)]) (hz : (ss.map (·.length)).sum + ss.length * x.length ≤ 16777216)
    (he : eval (.Call (.Attribute (.Constant (.str x) k p0) "join" p1) [e] [] p2) env = (do
      let ov ← eval (.Constant (.str x) k p0) env
      standAt p1.atName
      let (f, first) ← holding [ov] (getMethod ov "join" pl)
      callWith p2 f first (backTo p2 (starEach [e] env)) []) := by rfl) (he2 : starEach [e] env = (false, eval e env) :: starEach [] env := by rfl) :
    EvS C p c N env vs σ (.Call (.Attribute (.Constant (.str x) k p0) "join" p1) [e] [] p2) (.at (.str (Txt.join x ss))) := .mk fun A s X Q hr hf hq => by
  refine MethodCall_ (pl := pl) (wpAny_Constant_str ?_) he
  refine getMethod_builtin (typeIs_str _ _ _) F.plainAttrs_str F.slot_str_join F.type_str_join (fun a e => nomatch e) ?_
  refine callWith_method1 (h.run A _ X p2 _ hr (hf.keep (.refl _)) fun vals s₁ d e₁ => ?_) he2 rfl
  obtain ⟨y, rfl, ⟨r, hu, _, it, ⟨n, ho⟩, hA⟩⟩ := IsVs.one d
  subst hu
  exact join_list ⟨_, ho, rfl, n, rfl⟩ hA.strs hz fun t' k => hq _ _ ⟨_, rfl⟩ ((Ext.tok.trans e₁).trans .tok)

theorem replicate_are {a : At} {v : Value} (h : IsAt a v) : ∀ n, AtsAre (List.replicate n a) (List.replicate n v)
  | 0 => trivial
  | n + 1 => ⟨h, replicate_are h n⟩
theorem foldl_replicate {v : Value} : ∀ (n : Nat) (acc : Array Value), List.foldl (fun x1 x2 => x1 ++ x2) acc (List.replicate n #[v]) = acc ++ (List.replicate n v).toArray
  | 0, acc => by simp
  | n + 1, acc => by
    rw [List.replicate_succ, List.foldl_cons, foldl_replicate n, List.replicate_succ]
    apply Array.ext'
    simp
theorem EvL.rep {e r : Expr} {p1 p2 : Pos} {a : At} {n : Int} (h1 : EvS C p true N env vs σ e (.at a)) (h2 : EvS C p true N env vs σ r (.at (.int n))) (hn : 0 ≤ n) (hn2 : n ≤ 1000) (he : starEach [e] env = (false, eval e env) :: starEach [] env := by rfl) :
    EvL C p N env vs σ (.BinOp (.List [e] p1) .Mult r p2) (List.replicate n.toNat a) := .mk fun A s X Q hr hf hq => by
  refine wpAny_BinOp (List_ (args_cons (h1.run A s X _ hr hf fun x s₁ d e₁ => args_nil ?_) he))
  refine wpAny_newObj_type ?_ (by show 1 ≤ sizeLine; decide)
  have e₂ := e₁.trans (.heap (HKeep.push s₁.heap { cls := .type "list", data := .seq [x].toArray }))
  refine h2.run A _ X _ hr (hf.keep e₂.keep) fun y s₂ ⟨t, hy⟩ e₃ => ?_
  subst hy
  have ho : s₂.heap.get? s₁.heap.objs.size = some { cls := .type "list", data := .seq #[x] } := e₃.keep _ _ (Heap.get?_push_size _ rfl)
  refine wpAny_binaryOp_repeat_ref (T := "list") (U := "int") (by decide) ⟨_, ho, rfl⟩ (fun s' => typeIs_int s' n t) noFill_list_mul F.fills_int_mul F.slot_int_rmul repeat_list F.slot_int_index.lookup ?_
  refine call_meets F.slot_int_rmul (typeIs_int s₂ n t) F.entry_int_rmul (F.args_int_rmul_2 _ _) (int___rmul___int_list n t s₁.heap.objs.size #[x] 0)
      ⟨ho, rfl, ⟨_, ho, rfl⟩, call_meets F.slot_list_mul ⟨_, ho, rfl⟩ F.entry_list_mul (F.args_list_mul_2 _ _)
        (AutoListH.list___mul___list_int_3 s₁.heap.objs.size #[x] 0 n t (by simp [Builtin.List.listFitsIndex]; omega) (by rw [show (#[x] : Array Value).size = 1 from rfl]; omega) (by rw [show (#[x] : Array Value).size = 1 from rfl]; simp [Builtin.List.listTooLong, sizeLine]; omega)) ⟨ho, ?_⟩⟩
  have e₄ := e₂.trans e₃
  refine hq _ _ (fresh_of e₄ (fresh_get _)) ⟨_, ⟨0, Heap.get?_push_size _ rfl⟩, ?_⟩ (e₄.trans (.heap (.push _ _)))
  have hne : (#[x] : Array Value).isEmpty = false := rfl
  rw [hne, if_neg Bool.false_ne_true, foldl_replicate]
  simpa using replicate_are d n.toNat
end
end Mine
end partMF

section partMG
open PySem PySem.Calls PyProof.Rows
set_option maxRecDepth 100000
set_option linter.all false
namespace Mine
section
variable {C : Cfg} {p c : Bool} {N : Nat} {env : Env} {vs : List Str} {σ : St}

theorem tok_in {A : Around} {s : Shared} {x : Str} {t : Tok} {Q : Value → Shared → Prop} (B : Base C s.heap) (hq : ∀ s', Ext true s s' → Q (.bool (C.tok x).isSome) s') : wpAny (model C.prog C.w) A (compareOp .In (.str x t) (.ref C.tokA)) Q (fun _ _ => False) s := by
  obtain ⟨f, hm, hv⟩ := B.tok
  refine wpAny_in_of (strKind_is C.prog C.w x t) B.tokm.2 hm ?_
  have : (f x).isSome = (C.tok x).isSome := by
    have := hv x
    cases h : C.tok x with
    | none => rw [h] at this; rw [show f x = none from this]; rfl
    | some i => rw [h] at this; obtain ⟨t, e⟩ := this; rw [e]; rfl
  rw [this]
  exact hq _ .tok

theorem TsS.tokIn {e : Expr} {p1 p2 : Pos} {x : Str} (he : EvS C p true N env vs σ e (.at (.str x))) (hx : env.kindOf "EXACT_TOKEN_TYPES" = some .globalImplicit := by rfl) :
    TsS C p N env vs σ (.Compare e [.In] [.Name "EXACT_TOKEN_TYPES" p1] p2) (C.tok x).isSome := .mk fun A s X Q hr hf hq => by
  refine wpAny_isTrue_Compare1 (he.run A s X _ hr hf fun u s₁ ⟨t, hu⟩ e₁ => ?_) rfl
  subst hu
  have hf₁ := hf.keep e₁.keep
  refine wp_global hf₁ hf₁.base.tokm.1 hx (by decide) ?_
  exact tok_in hf₁.base fun s' e₂ => wpAny_truthy_bool (hq _ (e₁.trans e₂.of_pure))
theorem EvS.tokAt {e : Expr} {p1 p2 : Pos} {x : Str} {i : Int} (he : EvS C p true N env vs σ e (.at (.str x))) (hi : C.tok x = some i) (hx : env.kindOf "EXACT_TOKEN_TYPES" = some .globalImplicit := by rfl) (hs : ∀ o j, subscripted e false o j = operate [o, j] (getItem o j) := by intro _ _; rfl) :
    EvS C p c N env vs σ (.Subscript (.Name "EXACT_TOKEN_TYPES" p1) e p2) (.at (.int i)) := .mk fun A s X Q hr hf hq => by
  refine Subscript_ (wp_global hf hf.base.tokm.1 hx (by decide) ?_)
  refine he.run A s X _ hr hf fun u s₁ ⟨t, hu⟩ e₁ => ?_
  subst hu
  obtain ⟨f, hm, hv⟩ := (hf.base.keep e₁.keep).tok
  have := hv x
  rw [hi] at this
  obtain ⟨t', e⟩ := this
  exact tail_any hm.typeIs slot_dict_getitem.lookup (wpAny_getItem_of (strKind_is C.prog C.w x t) hm e (hq _ _ ⟨_, rfl⟩ (e₁.trans .tok))) (hs _ _)

noncomputable def at3 (k1 v1 k2 v2 k3 v3 i : Int) : Option Int := if i = k1 then some v1 else if i = k2 then some v2 else if i = k3 then some v3 else none
theorem at3_val {k1 v1 k2 v2 k3 v3 i v : Int} {t1 t2 t3 : Tok} (hv : at3 k1 v1 k2 v2 k3 v3 i = some v) (n1 : k1 ≠ k2) (n2 : k1 ≠ k3) (n3 : k2 ≠ k3) : ∃ t, valueAt (merged [] [(k1, Value.int v1 t1), (k2, Value.int v2 t2), (k3, Value.int v3 t3)]) i = some (.int v t) := by
  have e : merged [] [(k1, Value.int v1 t1), (k2, Value.int v2 t2), (k3, Value.int v3 t3)] = [(k1, Value.int v1 t1), (k2, Value.int v2 t2), (k3, Value.int v3 t3)] := by
    simp [merged, stored, n1, n2, n3]
  rw [e]
  unfold at3 at hv
  unfold valueAt
  by_cases q : i = k1
  · subst q; rw [if_pos rfl] at hv; cases hv; exact ⟨t1, by simp [List.find?_cons]⟩
  · rw [if_neg q] at hv
    have q' : ¬ k1 = i := fun h => q h.symm
    by_cases z : i = k2
    · subst z; rw [if_pos rfl] at hv; cases hv; exact ⟨t2, by simp [List.find?_cons, q']⟩
    · rw [if_neg z] at hv
      have z' : ¬ k2 = i := fun h => z h.symm
      by_cases y : i = k3
      · subst y; rw [if_pos rfl] at hv; cases hv; exact ⟨t3, by simp [List.find?_cons, q', z']⟩
      · rw [if_neg y] at hv; cases hv
theorem EvS.dict3 {k1 v1 k2 v2 k3 v3 : Int} {a1 a2 a3 b1 b2 b3 : Nat} {q1 q2 q3 r1 r2 r3 p1 p2 : Pos} {e : Expr} {i v : Int} (he : EvS C p true N env vs σ e (.at (.int i))) (hv : at3 k1 v1 k2 v2 k3 v3 i = some v) (hne : k1 ≠ k2 ∧ k1 ≠ k3 ∧ k2 ≠ k3) (hs : ∀ o j, subscripted e false o j = operate [o, j] (getItem o j) := by intro _ _; rfl) :
    EvS C p c N env vs σ (.Subscript (.Dict [some (.Constant (.int k1) a1 q1), some (.Constant (.int k2) a2 q2), some (.Constant (.int k3) a3 q3)] [.Constant (.int v1) b1 r1, .Constant (.int v2) b2 r2, .Constant (.int v3) b3 r3] p1) e p2) (.at (.int v)) := .mk fun A s X Q hr hf hq => by
  refine Subscript_ ?_
  refine wpAny_Dict_pairs (knd := intKind C.prog C.w) (pairs := [(eval (.Constant (.int k1) a1 q1) env, do let x ← eval (.Constant (.int v1) b1 r1) env; standAt p1; pure x), (eval (.Constant (.int k2) a2 q2) env, do let x ← eval (.Constant (.int v2) b2 r2) env; standAt p1; pure x), (eval (.Constant (.int k3) a3 q3) env, do let x ← eval (.Constant (.int v3) b3 r3) env; standAt p1; pure x)]) rfl (by simp) (by show 3 ≤ 15; decide) ?_
  refine evalPairs_cons (wpAny_Constant_int (wpAny_bind (wpAny_Constant_int (wpAny_bind (wpAny_standAt (wpAny_pure ?_))))))
  refine evalPairs_cons (wpAny_Constant_int (wpAny_bind (wpAny_Constant_int (wpAny_bind (wpAny_standAt (wpAny_pure ?_))))))
  refine evalPairs_cons (wpAny_Constant_int (wpAny_bind (wpAny_Constant_int (wpAny_bind (wpAny_standAt (wpAny_pure ?_))))))
  refine evalPairs_nil ⟨[(k1, _), (k2, _), (k3, _)], ⟨intKind_is _ _ _ _, rfl, intKind_is _ _ _ _, rfl, intKind_is _ _ _ _, rfl, trivial⟩, ?_, fun h' hm hsb => ?_⟩
  · exact Heap.DictOf.new ..
  · have hk : HKeep s.heap h' := fun b o e => hsb.extBut b o (Nat.ne_of_lt (Heap.lt_size e)) (Heap.get?_push_of_some _ e)
    have e₀ : Ext p s _ := Ext.heapt (tk := s.toks + 1 + 1 + 1 + 1 + 1 + 1 + 3) hk
    refine he.run A _ X _ hr (hf.keep hk) fun u s₂ ⟨t, hu⟩ e₁ => ?_
    subst hu
    have hD : s₂.heap.DictOf (intKind C.prog C.w) s.heap.objs.size (merged [] [(k1, Value.int v1 (s.toks + 1)), (k2, Value.int v2 (s.toks + 1 + 1 + 1)), (k3, Value.int v3 (s.toks + 1 + 1 + 1 + 1 + 1))]) :=
      by obtain ⟨o, es, ep, ho, r⟩ := hm; exact ⟨o, es, ep, e₁.keep _ _ ho, r⟩
    obtain ⟨n1, n2, n3⟩ := hne
    have hval : ∃ t, valueAt (merged [] [(k1, Value.int v1 (s.toks + 1)), (k2, Value.int v2 (s.toks + 1 + 1 + 1)), (k3, Value.int v3 (s.toks + 1 + 1 + 1 + 1 + 1))]) i = some (.int v t) := by
      exact at3_val hv n1 n2 n3
    obtain ⟨t', hval⟩ := hval
    exact tail_any hD.typeIs slot_dict_getitem.lookup (wpAny_getItem_of (intKind_is C.prog C.w i t) hD.mapOf hval (hq _ _ ⟨_, rfl⟩ ((e₀.trans e₁).trans .tok))) (hs _ _)
end
end Mine
end partMG

section partMH
open PySem PySem.Calls PyProof.Rows
set_option maxRecDepth 100000
set_option linter.all false
namespace Mine

noncomputable def rangeItems (a b k : Int) : List At := (List.range (Builtin.Range.rangeSize a b k).toNat).map fun (i : Nat) => At.int (a + (i : Int) * k)
noncomputable def itemsOf : V → Option (List At)
  | .list l => some l
  | .tup l => some l
  | .rng a b k => some (rangeItems a b k)
  | _ => none
noncomputable def smallV : V → Prop
  | .rng a b k => Builtin.Range.small a b k = true ∧ 0 ≤ Builtin.Range.rangeSize a b k
  | _ => True

theorem iter_wp {prog : Program} {w : World} {A : Around} {E : Value → Shared → Prop} {s : Shared} {X : Addr → Prop} {v : V} {l : List At} {x : Value} {Q : Value → Shared → Prop} (hv : itemsOf v = some l) (hr : A.handled = none) (d : IsV s.heap X v x) (hsm : smallV v)
    (hq : ∀ I fp P St h', Walks prog w A I fp [I] l.length P St → (∀ i val, P i val → i < l.length → ∃ a, l[i]? = some a ∧ IsAt a val) → (∀ i h, St i h → ∃ o, h.get? I = some o) → St 0 h' → HKeep s.heap h' → s.heap.get? I = none → (∀ b ∈ fp, b = I ∨ (¬ X b ∧ ∃ o, s.heap.get? b = some o)) → Q (.ref I) { s with heap := h' }) :
    wpAny (model prog w) A (pyIter x) Q E s := by
  cases v with
  | list l' =>
    cases hv
    obtain ⟨a, rfl, nx, hl⟩ := d
    obtain ⟨items, hL, hA⟩ := hl.isList
    obtain ⟨o, ho⟩ := hl.live
    have e := hA.length
    rw [Array.length_toList] at e
    have hne : a ≠ s.heap.objs.size := Nat.ne_of_lt (Heap.lt_size ho)
    refine wpAny_pyIter_list hL ?_
    have W := Walks.list (prog := prog) (w := w) (A := A) hr s.heap.objs.size a hne items
    rw [e] at W
    refine hq s.heap.objs.size _ _ _ _ W (fun i val hp _ => ?_) (fun i h st => let ⟨o, ho, _⟩ := st.1; ⟨o, ho⟩) ⟨⟨_, Heap.get?_push_size _ rfl, rfl, rfl⟩, hL.push _⟩ (.push _ _) (fresh_get _) fun b hb => ?_
    · exact hA.get' (by simpa using hp)
    · rcases List.mem_cons.mp hb with rfl | hb
      · exact .inl rfl
      · rcases List.mem_cons.mp hb with rfl | hb
        · exact .inr ⟨nx, o, ho⟩
        · cases hb
  | tup l' =>
    cases hv
    obtain ⟨a, rfl, nx, items, n, ho, hA⟩ := d
    have e := hA.length
    rw [Array.length_toList] at e
    have hT : s.heap.IsTuple a items := ⟨_, ho, rfl, n, rfl⟩
    have hne : a ≠ s.heap.objs.size := Nat.ne_of_lt (Heap.lt_size ho)
    refine wpAny_pyIter_tuple hT ?_
    have W := Walks.tuple (prog := prog) (w := w) (A := A) hr s.heap.objs.size a hne items
    rw [e] at W
    refine hq s.heap.objs.size _ _ _ _ W (fun i val hp _ => ?_) (fun i h st => let ⟨o, ho, _⟩ := st.1; ⟨o, ho⟩) ⟨⟨_, Heap.get?_push_size _ rfl, rfl, rfl⟩, hT.push _⟩ (.push _ _) (fresh_get _) fun b hb => ?_
    · exact hA.get' (by simpa using hp)
    · rcases List.mem_cons.mp hb with rfl | hb
      · exact .inl rfl
      · rcases List.mem_cons.mp hb with rfl | hb
        · exact .inr ⟨nx, _, ho⟩
        · cases hb
  | rng a b k =>
    cases hv
    obtain ⟨r, t, u, z, rfl, nx, ho⟩ := d
    refine wpAny_pyIter_range ho hsm.1 ?_
    have W := Walks.range (prog := prog) (w := w) (A := A) hr s.heap.objs.size a k (rangeItems a b k).length
    have hlen : (rangeItems a b k).length = (Builtin.Range.rangeSize a b k).toNat := by simp [rangeItems]
    refine hq s.heap.objs.size _ _ _ _ W (fun i val hp hi => ?_) (fun i h st => ⟨_, st⟩) ?_ (.push _ _) (fresh_get _) fun b hb => ?_
    · obtain ⟨t, rfl⟩ := hp
      refine ⟨.int (a + i * k), ?_, t, rfl⟩
      rw [hlen] at hi
      simp [rangeItems, hi]
    · show IsRangeIter _ _ _ _ _
      have h1 : a + ((0 : Nat) : Int) * k = a := by simp
      have h2 : ((rangeItems a b k).length : Int) - ((0 : Nat) : Int) = Builtin.Range.rangeSize a b k := by rw [hlen]; have := hsm.2; omega
      rw [h1, h2]
      exact Heap.get?_push_size _ rfl
    · rcases List.mem_cons.mp hb with rfl | hb
      · exact .inl rfl
      · cases hb
  | «at» a => cases hv
  | pLL a b => cases hv
  | pLA a b => cases hv

noncomputable def atOf : Value → At
  | .bool b => .bool b
  | .int i _ => .int i
  | .str s _ => .str s
  | _ => .none
theorem atOf_eq {a : At} {v : Value} (h : IsAt a v) : atOf v = a := by
  cases a with
  | none => cases (show v = .none from h); rfl
  | bool b => cases (show v = .bool b from h); rfl
  | int i => obtain ⟨t, rfl⟩ := (show ∃ t, v = .int i t from h); rfl
  | str i => obtain ⟨t, rfl⟩ := (show ∃ t, v = .str i t from h); rfl

inductive CapOk (env : Env) (scope : Scope) (cl : List (Str × Addr)) : List Str → Prop
  | nil : CapOk env scope cl []
  | cons {x r} (h1 : (relabel scope env).names.lookup x = some .cell) (h2 : env.kindOf x = some .cell) (h3 : cl.lookup x = env.cells.lookup x) : CapOk env scope cl r → CapOk env scope cl (x :: r)
theorem CapOk.mem {env : Env} {scope : Scope} {cl : List (Str × Addr)} {l : List Str} (h : CapOk env scope cl l) : ∀ x ∈ l, (relabel scope env).names.lookup x = some .cell ∧ env.kindOf x = some .cell ∧ cl.lookup x = env.cells.lookup x := by
  induction h with
  | nil => intro x hx; cases hx
  | cons h1 h2 h3 _ ih =>
    intro x hx
    rcases List.mem_cons.mp hx with rfl | hx
    · exact ⟨h1, h2, h3⟩
    · exact ih x hx
inductive Sub (vs : List Str) (σ : St) : List Str → St → Prop
  | nil : Sub vs σ [] []
  | cons {x e r σ'} : Get vs σ x e → Sub vs σ r σ' → Sub vs σ (x :: r) (some e :: σ')
theorem Sub.get {vs : List Str} {σ : St} {cs : List Str} {cσ : St} (h : Sub vs σ cs cσ) : ∀ {x : Str} {e : Ent}, Get cs cσ x e → Get vs σ x e ∧ x ∈ cs := by
  induction h with
  | nil => intro x e g; cases g
  | cons g _ ih =>
    intro x e g'
    cases g' with
    | head => exact ⟨g, .head _⟩
    | tail g' => exact ⟨(ih g').1, .tail _ (ih g').2⟩

section
variable {C : Cfg} {p c : Bool} {N : Nat} {env : Env} {vs : List Str} {σ : St}

theorem comp_fm {X : Addr → Prop} {scope : Scope} {cl : List (Str × Addr)} {x0 : Str} {caps : List Str} {cσ : St} {Cad : Addr} {h h' : Heap} {m : Str → Option Value} {a : At} {v : Value} (hf : Fm C env vs X σ h) (k : HKeep h h') (hkind : scope.kind = .function)
    (hcap : CapOk env scope cl caps) (hsub : Sub vs σ caps cσ) (hx : scope.names.lookup x0 = some .local) (hm : h'.Ns Cad m) (hv : m x0 = some v) (ha : IsAt a v) :
    Fm C (compEnvC scope cl Cad env) (x0 :: caps) (fun _ => False) (some (.v (.at a)) :: cσ) h' where
  kind := hkind
  glob := hf.glob
  blt := hf.blt
  base := hf.base.keep k
  live := fun a x => x.elim
  vals := fun y e g => by
    cases g with
    | head => exact ⟨v, .inl ⟨lookup_relabel_local hx, m, hm, hv⟩, ha⟩
    | tail g =>
      obtain ⟨g', hy⟩ := hsub.get g
      obtain ⟨c1, c2, c3⟩ := hcap.mem _ hy
      have hh : ∀ {u : Value}, Holds env h y u → Holds (compEnvC scope cl Cad env) h' y u := by
        intro u hu
        rcases hu with ⟨k1, _⟩ | ⟨k1, cc, k2, k3⟩
        · rw [c2] at k1; cases k1
        · exact .inr ⟨c1, cc, c3.trans k2, k3.keeps k⟩
      have := hf.vals _ _ g'
      cases e with
      | v w => obtain ⟨u, d1, d2⟩ := this; exact ⟨u, hh d1, (d2.keep k).any⟩
      | own l => obtain ⟨u, d1, d2⟩ := this; exact ⟨u, hh d1, d2.keep k⟩

structure CompS (C : Cfg) (N : Nat) (env : Env) (scope : Scope) (cl : List (Str × Addr)) (x0 : Str) (caps : List Str) (cσ : St) (ifs : List Expr) (elt : Expr) (l : List At) (pb : At → Bool) (f : At → At) : Prop where
  test : ∀ a ∈ l, ∀ Cad, match ifs with
    | [] => pb a = true
    | [t] => TsS C true N (compEnvC scope cl Cad env) (x0 :: caps) (some (.v (.at a)) :: cσ) t (pb a)
    | _ => False
  elt : ∀ a ∈ l, pb a = true → ∀ Cad, ∃ c', EvS C true c' N (compEnvC scope cl Cad env) (x0 :: caps) (some (.v (.at a)) :: cσ) elt (.at (f a))

theorem comp_quiet {X : Addr → Prop} {scope : Scope} {cl : List (Str × Addr)} {x0 : Str} {caps : List Str} {cσ : St} {ifs : List Expr} {elt : Expr} {l : List At} {pb : At → Bool} {f : At → At} {A : Around} {s s₂ : Shared} {I : Addr} {P : Nat → Value → Prop}
    (hr : Rm A N) (hf : Fm C env vs X σ s.heap) (hk : HKeep s.heap s₂.heap) (hI : s.heap.get? I = none) (hkind : scope.kind = .function) (hcap : CapOk env scope cl caps) (hsub : Sub vs σ caps cσ) (hx : scope.names.lookup x0 = some .local)
    (hP : ∀ i val, P i val → ∃ a ∈ l, IsAt a val) (H : CompS C N env scope cl x0 caps cσ ifs elt l pb f) :
    QuietOnC C.prog C.w A env scope cl x0 ifs elt [I] P (fun v => pb (atOf v)) (fun v y => IsAt (f (atOf v)) y) s₂ where
  tests := fun Cad i v s₃ m₃ E' _ hp hn hv k _ => by
    obtain ⟨a, ha, hat⟩ := hP i v hp
    have k' : HKeep s.heap s₃.heap := fun b o e => k b o (fun q => by rcases List.mem_cons.mp q with rfl | q; rw [hI] at e; cases e; cases q) (hk b o e)
    have hF := comp_fm hf k' hkind hcap hsub hx hn hv hat
    have ht := H.test a ha Cad
    rw [atOf_eq hat]
    match ifs, ht with
    | [], ht => rw [List.forIn_nil]; exact wpAny_pure ⟨ht.symm, Ext.keeps (.refl ..)⟩
    | [t], ht =>
      rw [List.forIn_cons]
      simp only [if_true]
      refine wpAny_bind (wpAny_bind (wpAny_mono (ht.run A s₃ _ _ hr hF fun s' e => ?_) (fun _ _ x => x) fun _ _ x => x.elim))
      refine wpAny_pure ?_
      show wpAny _ A (forIn [] (pb a) _) _ _ s'
      rw [List.forIn_nil]
      exact wpAny_pure ⟨rfl, e.keeps⟩
  elt := fun Cad i v s₃ m₃ E' _ hp hpb hn hv k _ => by
    obtain ⟨a, ha, hat⟩ := hP i v hp
    have k' : HKeep s.heap s₃.heap := fun b o e => k b o (fun q => by rcases List.mem_cons.mp q with rfl | q; rw [hI] at e; cases e; cases q) (hk b o e)
    have hF := comp_fm hf k' hkind hcap hsub hx hn hv hat
    rw [atOf_eq hat] at hpb ⊢
    obtain ⟨c', he⟩ := H.elt a ha hpb Cad
    exact wpAny_mono (he.run A s₃ _ (fun y s₄ => IsAt (f a) y ∧ Keeps s₃ s₄) hr hF fun y s' d e => ⟨d, e.keeps⟩) (fun _ _ x => x) fun _ _ x => x.elim

theorem paired_are {pb : At → Bool} {f : At → At} : ∀ {l : List At} {vals : List Value} {ys : List Value}, AtsAre l vals → Paired (fun v y => IsAt (f (atOf v)) y) (vals.filter fun v => pb (atOf v)) ys → AtsAre ((l.filter pb).map f) ys
  | [], [], ys, _, hp => by cases hp; trivial
  | a :: l, v :: vals, ys, h, hp => by
    have e := atOf_eq h.1
    rw [List.filter_cons, e] at hp
    rw [List.filter_cons]
    cases q : pb a with
    | true =>
      rw [q, if_pos rfl] at hp
      rw [if_pos rfl]
      cases hp with
      | cons h1 h2 =>
        rw [e] at h1
        exact ⟨h1, paired_are h.2 h2⟩
    | false =>
      rw [q, if_neg Bool.false_ne_true] at hp
      rw [if_neg Bool.false_ne_true]
      exact paired_are h.2 hp

theorem EvL.comp {elt iter : Expr} {x0 : Str} {px : Pos} {ifs : List Expr} {scope : Scope} {cl : List (Str × Addr)} {pos : Pos} {caps : List Str} {cσ : St} {v : V} {l : List At} {pb : At → Bool} {f : At → At} {c' : Bool}
    (hclos : closureFor scope env = pure cl) (hcell : ∀ y ∈ scope.names, y.2 ≠ .cell) (hkind : scope.kind = .function) (hnames : ∀ y ∈ scope.names, y.2 = .local → scope.names.lookup y.1 = some .local) (hx : scope.names.lookup x0 = some .local)
    (hi : EvS C p c' N env vs σ iter v) (hl : itemsOf v = some l) (hsm : smallV v) (hz : l.length ≤ 1000) (hcap : CapOk env scope cl caps) (hsub : Sub vs σ caps cσ) (H : CompS C N env scope cl x0 caps cσ ifs elt l pb f) (hs : ∀ x, foldedSetIterable iter env x = pure x := by intro _; rfl) :
    EvL C p N env vs σ (.ListComp elt [⟨.Name x0 px, iter, ifs, 0⟩] scope pos) ((l.filter pb).map f) := .mk fun A s X Q hr hf hq => by
  refine wpAny_ListComp_free (cl := cl) (fun v => pb (atOf v)) (fun v y => IsAt (f (atOf v)) y) hclos hcell hkind hnames hx (hi.run A s X _ hr hf fun x s₁ d e₁ => ?_) hs
  refine iter_wp (hr := hr.h) hl d hsm fun I fp P St h' W hP hlv st k fr hfp => ?_
  have e₂ := e₁.trans (.heap k)
  refine ⟨I, fp, [I], l.length, (fun i v => i < l.length ∧ P i v), St, rfl, W.bound, by have : sizeLine = 16777216 := rfl; omega, st, fun b hb => ?_, ?_, ?_⟩
  · rcases hfp b hb with rfl | ⟨_, o, ho⟩
    · obtain ⟨o, ho⟩ := hlv _ _ st
      exact Heap.lt_size ho
    · exact Heap.lt_size (k _ _ ho)
  · exact comp_quiet hr hf e₂.keep (fresh_of e₁ fr) hkind hcap hsub hx (fun i val hp => let ⟨a, q, r⟩ := hP i val hp.2 hp.1; ⟨a, List.mem_of_getElem? q, r⟩) H
  · intro D h'' tk ys vals hD _ hpl hlen hp hpair hkp
    have hA : AtsAre l vals := AtsAre.of_get hlen fun i a v q q' => by
      obtain ⟨h1, h2⟩ := hp i v q'
      obtain ⟨a', z, z'⟩ := hP i v h2 h1
      rw [q] at z; cases z; exact z'
    have k2 : HKeep s₁.heap h'' := fun b o e => hkp b o (fun q => by rcases List.mem_cons.mp q with rfl | q; rw [fr] at e; cases e; cases q) (k b o e)
    refine hq _ _ (fresh_of e₂ hD) ⟨ys, hpl, paired_are hA hpair⟩ (e₁.trans (.heapt k2))
end
end Mine
end partMH

section partMI
open PySem PySem.Calls PyProof.Rows
set_option maxRecDepth 100000
set_option linter.all false
namespace Mine

structure FmW (C : Cfg) (env : Env) (vs : List Str) (P : List Addr) (Xc : Addr → Prop) (σ : St) (h : Heap) : Prop where
  kind : env.scope.kind = .function
  glob : env.globals = mainGlobals
  blt : env.builtins = builtinsNs
  nd : vs.Nodup
  kinds : ∀ x ∈ vs, env.kindOf x = some .local ∨ (env.kindOf x = some .cell ∧ ∃ c, env.cells.lookup x = some c)
  ns : ∃ m, h.Ns env.locals m
  locP : env.locals ∈ P
  cells : ∀ x c, env.cells.lookup x = some c → c ∈ P ∧ c ≠ env.locals ∧ ∃ v, h.IsCell c v
  apart : ∀ x y c, env.cells.lookup x = some c → env.cells.lookup y = some c → x = y
  vals : ∀ x v, Get vs σ x (.v v) → ∃ val, Holds env h x val ∧ IsV h (fun a => Xc a ∨ a ∈ P) v val
  own : ∀ x l, Get vs σ x (.own l) → ∃ a, Holds env h x (.ref a) ∧ IsL h a l ∧ a ∈ P ∧ a ≠ env.locals ∧ ∀ y c, env.cells.lookup y = some c → a ≠ c
  owns : ∀ x y l l' a, Get vs σ x (.own l) → Get vs σ y (.own l') → Holds env h x (.ref a) → Holds env h y (.ref a) → x = y
  dis : ∀ a ∈ P, ¬ Xc a
  liveX : ∀ a, Xc a → ∃ o, h.get? a = some o
  liveP : ∀ a ∈ P, ∃ o, h.get? a = some o
  old : ∃ h₀, Base C h₀ ∧ HKeep h₀ h ∧ ∀ a ∈ P, h₀.get? a = none

structure Free (env : Env) (vs : List Str) (P : List Addr) (σ : St) (h : Heap) (a : Addr) : Prop where
  mem : a ∈ P
  loc : a ≠ env.locals
  cell : ∀ y c, env.cells.lookup y = some c → a ≠ c
  un : ∀ y l, Get vs σ y (.own l) → ¬ Holds env h y (.ref a)

noncomputable def XP (Xc : Addr → Prop) (P : List Addr) : Addr → Prop := fun a => Xc a ∨ a ∈ P

section
variable {C : Cfg} {N : Nat} {env : Env} {vs : List Str} {σ σ' : St} {P : List Addr} {Xc : Addr → Prop} {h h' : Heap}

theorem FmW.base (F : FmW C env vs P Xc σ h) : Base C h := let ⟨_, b, k, _⟩ := F.old; b.keep k
theorem FmW.fm (F : FmW C env vs P Xc σ h) : Fm C env vs (XP Xc P) σ h where
  kind := F.kind
  glob := F.glob
  blt := F.blt
  base := F.base
  vals := fun x e g => by
    cases e with
    | v v => exact F.vals x v g
    | own l => obtain ⟨a, q, r, _⟩ := F.own x l g; exact ⟨a, q, r⟩
  live := fun a x => x.elim (F.liveX a) (F.liveP a)
theorem FmW.keep (F : FmW C env vs P Xc σ h) (k : HKeep h h') : FmW C env vs P Xc σ h' where
  kind := F.kind
  glob := F.glob
  blt := F.blt
  nd := F.nd
  kinds := F.kinds
  ns := let ⟨m, x⟩ := F.ns; ⟨m, x.keeps k⟩
  locP := F.locP
  cells := fun x c e => let ⟨a, b, v, d⟩ := F.cells x c e; ⟨a, b, v, d.keeps k⟩
  apart := F.apart
  vals := fun x v g => let ⟨u, a, b⟩ := F.vals x v g; ⟨u, a.keep k, b.keep k⟩
  own := fun x l g => let ⟨u, a, b, r⟩ := F.own x l g; ⟨u, a.keep k, b.keep k, r⟩
  owns := fun x y l l' a g g' q q' => by
    obtain ⟨u, a1, _⟩ := F.own x l g
    obtain ⟨u', a2, _⟩ := F.own y l' g'
    cases (a1.keep k).det q
    cases (a2.keep k).det q'
    exact F.owns x y l l' a g g' a1 a2
  dis := F.dis
  liveX := fun a x => let ⟨o, ho⟩ := F.liveX a x; ⟨o, k _ _ ho⟩
  liveP := fun a x => let ⟨o, ho⟩ := F.liveP a x; ⟨o, k _ _ ho⟩
  old := let ⟨h₀, b, q, r⟩ := F.old; ⟨h₀, b, q.trans k, r⟩

structure Chg (env : Env) (P : List Addr) (x : Str) (val : Value) (h h' : Heap) : Prop where
  place : ∃ b ∈ P, (b = env.locals ∨ ∃ y, env.cells.lookup y = some b) ∧ ∀ a o, a ≠ b → h.get? a = some o → h'.get? a = some o
  new : Holds env h' x val
  rest : ∀ y u, y ≠ x → Holds env h y u → Holds env h' y u
  ns : ∃ m, h'.Ns env.locals m
  cell : ∀ y c v, env.cells.lookup y = some c → h.IsCell c v → ∃ v', h'.IsCell c v'

theorem FmW.chg_live (F : FmW C env vs P Xc σ h) {x : Str} {val : Value} (c : Chg env P x val h h') {a : Addr} (ha : ∃ o, h.get? a = some o) : ∃ o, h'.get? a = some o := by
  obtain ⟨b, hb, hk, k⟩ := c.place
  by_cases e : a = b
  · subst e
    rcases hk with rfl | ⟨y, hy⟩
    · obtain ⟨m, o, _, _, ho, _⟩ := c.ns; exact ⟨o, ho⟩
    · obtain ⟨_, _, v, hv⟩ := F.cells _ _ hy
      obtain ⟨v', o, ho, _⟩ := c.cell _ _ _ hy hv
      exact ⟨o, ho⟩
  · obtain ⟨o, ho⟩ := ha; exact ⟨o, k _ _ e ho⟩

theorem FmW.put_v' (F : FmW C env vs P Xc σ h) {x : Str} {v : V} {val : Value} (c : Chg env P x val h h') (hp : Put vs σ x (.v v) σ') (hv : IsV h' (XP Xc P) v val) : FmW C env vs P Xc σ' h' := by
  obtain ⟨b, hb, hk, k⟩ := c.place
  have kb : HKeepBut (fun a => a = b) h h' := fun a o q e => k a o q e
  have hX : ∀ a, a = b → XP Xc P a := fun a e => .inr (e ▸ hb)
  exact {
    kind := F.kind, glob := F.glob, blt := F.blt, nd := F.nd, kinds := F.kinds, ns := c.ns, locP := F.locP, apart := F.apart, dis := F.dis
    cells := fun y cc e => let ⟨a, b', v', d⟩ := F.cells y cc e; ⟨a, b', c.cell y cc v' e d⟩
    vals := fun y w g => by
      rcases hp.get F.nd g with ⟨rfl, e⟩ | ⟨hne, g'⟩
      · cases e; exact ⟨val, c.new, hv⟩
      · obtain ⟨u, q1, q2⟩ := F.vals y w g'
        exact ⟨u, c.rest y u hne q1, IsV.keepBut q2 kb hX⟩
    own := fun y l g => by
      rcases hp.get F.nd g with ⟨rfl, e⟩ | ⟨hne, g'⟩
      · cases e
      · obtain ⟨u, q1, q2, q3, q4, q5⟩ := F.own y l g'
        refine ⟨u, c.rest y _ hne q1, q2.keepBut kb ?_, q3, q4, q5⟩
        rcases hk with rfl | ⟨z, hz⟩
        · exact q4
        · exact q5 z _ hz
    owns := fun y z l l' a g g' q q' => by
      rcases hp.get F.nd g with ⟨rfl, e⟩ | ⟨hne, g1⟩
      · cases e
      · rcases hp.get F.nd g' with ⟨rfl, e⟩ | ⟨hne', g2⟩
        · cases e
        · obtain ⟨u, a1, _⟩ := F.own y l g1
          obtain ⟨u', a2, _⟩ := F.own z l' g2
          cases (c.rest y _ hne a1).det q
          cases (c.rest z _ hne' a2).det q'
          exact F.owns y z l l' a g1 g2 a1 a2
    liveX := fun a x => F.chg_live c (F.liveX a x)
    liveP := fun a x => F.chg_live c (F.liveP a x)
    old := let ⟨h₀, b₀, q, r⟩ := F.old; ⟨h₀, b₀, fun a o e => k a o (fun z => by rw [z, r b hb] at e; cases e) (q a o e), r⟩ }

theorem FmW.put_v (F : FmW C env vs P Xc σ h) {x : Str} {v : V} {val : Value} (c : Chg env P x val h h') (hp : Put vs σ x (.v v) σ') (hv : IsV h (XP Xc P) v val) : FmW C env vs P Xc σ' h' := by
  obtain ⟨b, hb, _, k⟩ := id c.place
  exact F.put_v' c hp (hv.keepBut (P := fun a => a = b) (fun a o q e => k a o q e) fun a e => .inr (e ▸ hb))
theorem FmW.addP {hb : Heap} (F' : FmW C env vs P Xc σ hb) (k : HKeep hb h) {a : Addr} (fr : hb.get? a = none) (hl : ∃ o, h.get? a = some o) : FmW C env vs (a :: P) Xc σ h ∧ Free env vs (a :: P) σ h a := by
  have F := F'.keep k
  have hn : ¬ XP Xc P a := fun q => by obtain ⟨o, ho⟩ := F'.fm.live a q; rw [fr] at ho; cases ho
  refine ⟨{ F with
    locP := .tail _ F.locP
    cells := fun y cc e => let ⟨z1, z2⟩ := F.cells y cc e; ⟨.tail _ z1, z2⟩
    vals := fun y w g => by
      obtain ⟨u, q1, q2⟩ := F'.vals y w g
      have q3 : IsV hb (XP Xc (a :: P)) w u := q2.mono fun z o hz hoz => by
        rcases hz with q | q
        · exact .inl q
        · rcases List.mem_cons.mp q with rfl | q
          · rw [fr] at hoz; cases hoz
          · exact .inr q
      exact ⟨u, q1.keep k, q3.keep k⟩
    own := fun y l g => let ⟨u, q1, q2, q3, q4⟩ := F.own y l g; ⟨u, q1, q2, .tail _ q3, q4⟩
    dis := fun z hz => by
      rcases List.mem_cons.mp hz with rfl | hz
      · exact fun q => hn (.inl q)
      · exact F.dis z hz
    liveP := fun z hz => by
      rcases List.mem_cons.mp hz with rfl | hz
      · exact hl
      · exact F.liveP z hz
    old := by
      obtain ⟨h₁, b1, q1, r1⟩ := F'.old
      exact ⟨h₁, b1, q1.trans k, fun z hz => by
        rcases List.mem_cons.mp hz with rfl | hz
        · cases q : h₁.get? z with
          | none => rfl
          | some o => have := q1 _ _ q; rw [fr] at this; cases this
        · exact r1 z hz⟩ }, .head _, fun e => hn (.inr (e ▸ F.locP)), fun y c q e => hn (.inr (e ▸ (F.cells y c q).1)), fun y l g hh => ?_⟩
  obtain ⟨u, q1, q2, q3, _⟩ := F.own y l g
  cases q1.det hh
  exact hn (.inr q3)

theorem FmW.put_own2 (F : FmW C env vs P Xc σ h) {x : Str} {l : List At} {a : Addr} (c : Chg env P x (.ref a) h h') (hp : Put vs σ x (.own l) σ') (hl : IsL h a l) (hfr : Free env vs P σ h a) : FmW C env vs P Xc σ' h' := by
  obtain ⟨b, hb, hk, k⟩ := c.place
  have kb : HKeepBut (fun a => a = b) h h' := fun a o q e => k a o q e
  have hab : a ≠ b := by
    rcases hk with rfl | ⟨y, hy⟩
    · exact hfr.loc
    · exact hfr.cell y _ hy
  exact {
    kind := F.kind, glob := F.glob, blt := F.blt, nd := F.nd, kinds := F.kinds, ns := c.ns, locP := F.locP, apart := F.apart, dis := F.dis
    cells := fun y cc e => let ⟨a, b', v', d⟩ := F.cells y cc e; ⟨a, b', c.cell y cc v' e d⟩
    vals := fun y w g => by
      rcases hp.get F.nd g with ⟨rfl, e⟩ | ⟨hne, g'⟩
      · cases e
      · obtain ⟨u, q1, q2⟩ := F.vals y w g'
        exact ⟨u, c.rest y u hne q1, IsV.keepBut q2 kb (fun z e => .inr (e ▸ hb))⟩
    own := fun y l' g => by
      rcases hp.get F.nd g with ⟨rfl, e⟩ | ⟨hne, g'⟩
      · cases e; exact ⟨a, c.new, hl.keepBut kb hab, hfr.mem, hfr.loc, hfr.cell⟩
      · obtain ⟨u, q1, q2, q3, q4, q5⟩ := F.own y l' g'
        refine ⟨u, c.rest y _ hne q1, q2.keepBut kb ?_, q3, q4, q5⟩
        rcases hk with rfl | ⟨z, hz⟩
        · exact q4
        · exact q5 z _ hz
    owns := fun y z l1 l2 r g g' q q' => by
      rcases hp.get F.nd g with ⟨rfl, e⟩ | ⟨hne, g1⟩
      · rcases hp.get F.nd g' with ⟨rfl, e'⟩ | ⟨hne', g2⟩
        · rfl
        · obtain ⟨u', a2, _, a4, _⟩ := F.own z l2 g2
          cases c.new.det q
          cases (c.rest z _ hne' a2).det q'
          exact absurd a2 (hfr.un z l2 g2)
      · rcases hp.get F.nd g' with ⟨rfl, e⟩ | ⟨hne', g2⟩
        · obtain ⟨u', a2, _, a4, _⟩ := F.own y l1 g1
          cases c.new.det q'
          cases (c.rest y _ hne a2).det q
          exact absurd a2 (hfr.un y l1 g1)
        · obtain ⟨u, a1, _⟩ := F.own y l1 g1
          obtain ⟨u', a2, _⟩ := F.own z l2 g2
          cases (c.rest y _ hne a1).det q
          cases (c.rest z _ hne' a2).det q'
          exact F.owns y z l1 l2 r g1 g2 a1 a2
    liveX := fun z x => F.chg_live c (F.liveX z x)
    liveP := fun z hz => F.chg_live c (F.liveP z hz)
    old := let ⟨h₁, b1, q1, r1⟩ := F.old; ⟨h₁, b1, fun z o e => k z o (fun w => by rw [w, r1 b hb] at e; cases e) (q1 z o e), r1⟩ }

theorem FmW.put_own {hb' : Heap} (F' : FmW C env vs P Xc σ hb') (k0 : HKeep hb' h) {x : Str} {l : List At} {a : Addr} (c : Chg env P x (.ref a) h h') (hp : Put vs σ x (.own l) σ') (hl : IsL h a l) (fr : hb'.get? a = none) : FmW C env vs (a :: P) Xc σ' h' := by
  obtain ⟨F₁, hf⟩ := F'.addP k0 fr hl.live
  refine F₁.put_own2 ?_ hp hl hf
  obtain ⟨⟨b, hb, r⟩, c2, c3, c4, c5⟩ := c
  exact ⟨⟨b, .tail _ hb, r⟩, c2, c3, c4, c5⟩
theorem FmW.chg_own (F : FmW C env vs P Xc σ h) {x : Str} {l l' : List At} {a : Addr} (g : Get vs σ x (.own l)) (ha : Holds env h x (.ref a)) (hs : Heap.SameBut a h h') (hl : IsL h' a l') (hp : Put vs σ x (.own l') σ') : FmW C env vs P Xc σ' h' := by
  obtain ⟨a0, q1, q2, q3, q4, q5⟩ := F.own x l g
  cases q1.det ha
  have kb : HKeepBut (fun b => b = a) h h' := fun b o q e => hs.extBut b o q e
  have hX : ∀ b, b = a → XP Xc P b := fun b e => .inr (e ▸ q3)
  have hH : ∀ y u, Holds env h y u → Holds env h' y u := fun y u hu => by
    rcases hu with ⟨k1, m, hm, e⟩ | ⟨k1, cc, hc, hv⟩
    · exact .inl ⟨k1, m, hm.sameBut hs (Ne.symm q4), e⟩
    · exact .inr ⟨k1, cc, hc, hv.sameBut hs (Ne.symm (q5 y cc hc))⟩
  obtain ⟨ol, hol⟩ := hl.live
  have hlive : ∀ b, (∃ o, h.get? b = some o) → ∃ o, h'.get? b = some o := fun b ⟨o, ho⟩ => by
    by_cases e : b = a
    · subst e; exact ⟨ol, hol⟩
    · exact ⟨o, hs.extBut b o e ho⟩
  exact {
    kind := F.kind, glob := F.glob, blt := F.blt, nd := F.nd, kinds := F.kinds, locP := F.locP, apart := F.apart, dis := F.dis
    ns := let ⟨m, hm⟩ := F.ns; ⟨m, hm.sameBut hs (Ne.symm q4)⟩
    cells := fun y cc e => let ⟨z1, z2, v', d⟩ := F.cells y cc e; ⟨z1, z2, v', d.sameBut hs (Ne.symm (q5 y cc e))⟩
    vals := fun y w g' => by
      rcases hp.get F.nd g' with ⟨rfl, e⟩ | ⟨hne, g1⟩
      · cases e
      · obtain ⟨u, z1, z2⟩ := F.vals y w g1
        exact ⟨u, hH y u z1, IsV.keepBut z2 kb hX⟩
    own := fun y l1 g' => by
      rcases hp.get F.nd g' with ⟨rfl, e⟩ | ⟨hne, g1⟩
      · cases e; exact ⟨a, hH _ _ ha, hl, q3, q4, q5⟩
      · obtain ⟨u, z1, z2, z3⟩ := F.own y l1 g1
        refine ⟨u, hH _ _ z1, z2.keepBut kb (fun e => ?_), z3⟩
        subst e
        exact hne (F.owns y x l1 l u g1 g z1 ha)
    owns := fun y z l1 l2 r g1 g2 z1 z2 => by
      have key : ∀ y l1 r, Get vs σ' y (.own l1) → Holds env h' y (.ref r) → ∃ l2, Get vs σ y (.own l2) ∧ Holds env h y (.ref r) := fun y l1 r g1 z1 => by
        rcases hp.get F.nd g1 with ⟨rfl, e⟩ | ⟨hne, g1⟩
        · cases (hH _ _ ha).det z1; exact ⟨l, g, ha⟩
        · obtain ⟨u, w1, _⟩ := F.own y l1 g1
          cases (hH _ _ w1).det z1
          exact ⟨l1, g1, w1⟩
      obtain ⟨l3, g3, w3⟩ := key y l1 r g1 z1
      obtain ⟨l4, g4, w4⟩ := key z l2 r g2 z2
      exact F.owns y z l3 l4 r g3 g4 w3 w4
    liveX := fun b x => hlive b (F.liveX b x)
    liveP := fun b x => hlive b (F.liveP b x)
    old := let ⟨h₀, b₀, q, r⟩ := F.old; ⟨h₀, b₀, fun b o e => hs.extBut b o (fun z => by rw [z, r a q3] at e; cases e) (q b o e), r⟩ }

theorem FmW.shift (F : FmW C env vs P Xc σ h) {S X' : Addr → Prop} (hS : ∀ b, S b → Xc b ∨ h.get? b = none) (k : ∀ b o, ¬ S b → h.get? b = some o → h'.get? b = some o) (hX : ∀ a, X' a → Xc a ∨ h.get? a = none) (hl : ∀ a, X' a → ∃ o, h'.get? a = some o)
    (hb : ∃ h₀, Base C h₀ ∧ HKeep h₀ h' ∧ ∀ a ∈ P, h₀.get? a = none) : FmW C env vs P X' σ h' := by
  have kb : HKeepBut S h h' := fun b o q e => k b o q e
  have hSP : ∀ b ∈ P, ¬ S b := fun b q z => by
    rcases hS b z with y | y
    · exact F.dis b q y
    · obtain ⟨o, ho⟩ := F.liveP b q; rw [y] at ho; cases ho
  have hXP : ∀ b ∈ P, ¬ X' b := fun b q z => by
    rcases hX b z with y | y
    · exact F.dis b q y
    · obtain ⟨o, ho⟩ := F.liveP b q; rw [y] at ho; cases ho
  have hH : ∀ y u, Holds env h y u → Holds env h' y u := fun y u hu => by
    rcases hu with ⟨k1, m, ⟨o, es, ep, ho, r⟩, e⟩ | ⟨k1, cc, hc, o, ho, r⟩
    · exact .inl ⟨k1, m, ⟨o, es, ep, k _ _ (hSP _ F.locP) ho, r⟩, e⟩
    · exact .inr ⟨k1, cc, hc, o, k _ _ (hSP _ (F.cells y cc hc).1) ho, r⟩
  exact {
    kind := F.kind, glob := F.glob, blt := F.blt, nd := F.nd, kinds := F.kinds, locP := F.locP, apart := F.apart
    dis := hXP
    ns := let ⟨m, o, es, ep, ho, r⟩ := F.ns; ⟨m, o, es, ep, k _ _ (hSP _ F.locP) ho, r⟩
    cells := fun y cc e => let ⟨z1, z2, v', o, ho, r⟩ := F.cells y cc e; ⟨z1, z2, v', o, k _ _ (hSP _ z1) ho, r⟩
    vals := fun y w g' => by
      obtain ⟨u, z1, z2⟩ := F.vals y w g'
      refine ⟨u, hH y u z1, ?_⟩
      have z3 : IsV h (fun a => (X' a ∨ a ∈ P) ∨ S a) w u := z2.mono fun a o q ho => by
        rcases q with (q | q) | q
        · rcases hX a q with y | y
          · exact .inl y
          · rw [y] at ho; cases ho
        · exact .inr q
        · rcases hS a q with y | y
          · exact .inl y
          · rw [y] at ho; cases ho
      exact (z3.keepBut kb fun b e => .inr e).mono fun a o q _ => .inl q
    own := fun y l1 g' => let ⟨u, z1, z2, z3⟩ := F.own y l1 g'; ⟨u, hH _ _ z1, z2.keepBut kb (hSP _ z3.1), z3⟩
    owns := fun y z l1 l2 r g1 g2 z1 z2 => by
      obtain ⟨u, w1, _⟩ := F.own y l1 g1
      obtain ⟨u', w2, _⟩ := F.own z l2 g2
      cases (hH _ _ w1).det z1
      cases (hH _ _ w2).det z2
      exact F.owns y z l1 l2 r g1 g2 w1 w2
    liveX := hl
    liveP := fun b x => let ⟨o, ho⟩ := F.liveP b x; ⟨o, k b o (hSP b x) ho⟩
    old := hb }
theorem FmW.chg_x (F : FmW C env vs P Xc σ h) {I : Addr} (hI : Xc I) (k : ∀ b o, b ≠ I → h.get? b = some o → h'.get? b = some o) (hi : ∃ o, h'.get? I = some o) (hb : ∃ h₀, Base C h₀ ∧ HKeep h₀ h' ∧ ∀ a ∈ P, h₀.get? a = none) : FmW C env vs P Xc σ h' :=
  F.shift (S := fun b => b = I) (fun b e => .inl (e ▸ hI)) (fun b o q e => k b o q e) (fun _ x => .inl x) (fun b x => by
    by_cases e : b = I
    · exact e ▸ hi
    · obtain ⟨o, ho⟩ := F.liveX b x; exact ⟨o, k b o e ho⟩) hb
theorem FmW.more (F : FmW C env vs P Xc σ h) {I : Addr} (hI : h.get? I = none) (k : HKeep h h') (hi : ∃ o, h'.get? I = some o) : FmW C env vs P (fun a => Xc a ∨ a = I) σ h' :=
  F.shift (S := fun _ => False) (X' := fun a => Xc a ∨ a = I) (fun _ q => q.elim) (fun b o _ e => k b o e) (fun b q => by
    rcases q with x | e
    · exact .inl x
    · rw [e]; exact .inr hI) (fun b q => by
    rcases q with x | e
    · obtain ⟨o, ho⟩ := F.liveX b x; exact ⟨o, k b o ho⟩
    · rw [e]; exact hi) (by obtain ⟨h₀, b₀, q, r⟩ := F.old; exact ⟨h₀, b₀, q.trans k, r⟩)
theorem FmW.less (F : FmW C env vs P Xc σ h) {Y : Addr → Prop} (hY : ∀ a, Y a → Xc a) : FmW C env vs P Y σ h :=
  F.shift (S := fun _ => False) (fun _ q => q.elim) (fun b o _ e => e) (fun b q => .inl (hY b q)) (fun b q => F.liveX b (hY b q)) F.old
theorem wp_store {M : Model} {A : Around} {E : Value → Shared → Prop} {s : Shared} {x : Str} {val : Value} {Q : Unit → Shared → Prop} (F : FmW C env vs P Xc σ s.heap) (hx : x ∈ vs)
    (hq : ∀ h' tk, Chg env P x val s.heap h' → Q () { s with heap := h', toks := tk }) : wpAny M A (storeName env x val) Q E s := by
  rcases F.kinds x hx with hk | ⟨hk, c, hc⟩
  · obtain ⟨m, hm⟩ := F.ns
    refine wpAny_storeName_local hk hm (fun h' hm' hs => hq h' _ ?_) (by rw [F.kind]; rfl)
    refine ⟨⟨env.locals, F.locP, .inl rfl, fun a o q e => hs.extBut a o q e⟩, .inl ⟨hk, _, hm', by simp⟩, fun y u hne hu => ?_, ⟨_, hm'⟩, fun y cc v e hv => ⟨v, hv.sameBut hs (F.cells y cc e).2.1⟩⟩
    rcases hu with ⟨k1, m2, hm2, e⟩ | ⟨k1, cc, e, hv⟩
    · exact .inl ⟨k1, _, hm', by rw [if_neg hne, Ns.det hm hm2]; exact e⟩
    · exact .inr ⟨k1, cc, e, hv.sameBut hs (F.cells y cc e).2.1⟩
  · obtain ⟨c1, c2, v, hv⟩ := F.cells x c hc
    refine wpAny_storeName_cell F.kind hk hc hv fun h' hv' hs => hq h' s.toks ?_
    refine ⟨⟨c, c1, .inr ⟨x, hc⟩, fun a o q e => hs.extBut a o q e⟩, .inr ⟨hk, c, hc, hv'⟩, fun y u hne hu => ?_, ?_, fun y cc v e hv2 => ?_⟩
    · rcases hu with ⟨k1, m2, hm2, e⟩ | ⟨k1, cc, e, hv2⟩
      · exact .inl ⟨k1, _, hm2.sameBut hs (Ne.symm c2), e⟩
      · exact .inr ⟨k1, cc, e, hv2.sameBut hs fun q => hne (F.apart y x c (q ▸ e) hc)⟩
    · obtain ⟨m, hm⟩ := F.ns; exact ⟨m, hm.sameBut hs (Ne.symm c2)⟩
    · by_cases q : cc = c
      · subst q; exact ⟨_, hv'⟩
      · exact ⟨v, hv2.sameBut hs q⟩
end
end Mine
end partMI

section partMJ
open PySem PySem.Calls PyProof.Rows
set_option maxRecDepth 100000
set_option linter.all false
namespace Mine

inductive Fl where
  | next
  | brk
  | cont
  | ret (v : V)

noncomputable def FlIs (h : Heap) (X : Addr → Prop) : Fl → Flow → Prop
  | .next, f => f = .next
  | .brk, f => f = .brk
  | .cont, f => f = .cont
  | .ret v, f => ∃ val, f = .ret val ∧ IsV h X v val

noncomputable def ExtP (P : List Addr) (s s' : Shared) : Prop := ∃ h' tk g', s' = { s with heap := h', toks := tk, gens := g' } ∧ (∀ b o, b ∉ P → s.heap.get? b = some o → h'.get? b = some o) ∧ GensOk s.gens g'
theorem ExtP.refl (P : List Addr) (s : Shared) : ExtP P s s := ⟨s.heap, s.toks, s.gens, rfl, fun _ _ _ e => e, .refl _⟩
theorem ExtP.of_ext {P : List Addr} {p : Bool} {s s' : Shared} (x : Ext p s s') : ExtP P s s' := let ⟨h', tk, g', e, k, g, _⟩ := x; ⟨h', tk, g', e, fun b o _ q => k b o q, g⟩
theorem ExtP.keep {P : List Addr} {s s' : Shared} (x : ExtP P s s') : ∀ b o, b ∉ P → s.heap.get? b = some o → s'.heap.get? b = some o := by obtain ⟨h', tk, g', rfl, k, _⟩ := x; exact k
theorem ExtP.trans {P P' : List Addr} {s s' s'' : Shared} (x : ExtP P s s') (y : ExtP P' s' s'') (hP : ∀ a ∈ P', a ∈ P ∨ s.heap.get? a = none) : ExtP P s s'' := by
  obtain ⟨h', tk, g', rfl, k, g⟩ := x
  obtain ⟨h'', tk', g'', rfl, k', g2⟩ := y
  refine ⟨h'', tk', g'', rfl, fun b o hb e => k' b o (fun q => ?_) (k b o hb e), g.trans g2⟩
  rcases hP b q with q | q
  · exact hb q
  · rw [q] at e; cases e
theorem ExtP.heapt {P : List Addr} {s : Shared} {h' : Heap} {tk : Nat} (k : ∀ b o, b ∉ P → s.heap.get? b = some o → h'.get? b = some o) : ExtP P s { s with heap := h', toks := tk } := ⟨h', tk, s.gens, rfl, k, .refl _⟩
structure After (C : Cfg) (env : Env) (vs : List Str) (P : List Addr) (Xc : Addr → Prop) (fl : Fl) (σ' : St) (s : Shared) (f : Flow) (s' : Shared) : Prop where
  ex : ∃ P', (∀ a ∈ P, a ∈ P') ∧ (∀ a ∈ P', a ∈ P ∨ s.heap.get? a = none) ∧ FmW C env vs P' Xc σ' s'.heap
  fl : FlIs s'.heap Xc fl f
  ext : ExtP P s s'

structure ExS (C : Cfg) (N : Nat) (env : Env) (vs : List Str) (σ : St) (st : Stmt) (Post : Fl → St → Prop) : Prop where
  run : ∀ (A : Around) (s : Shared) (P : List Addr) (Xc : Addr → Prop) (Q : Flow → Shared → Prop), Rm A N → FmW C env vs P Xc σ s.heap →
    (∀ f s' fl σ', Post fl σ' → After C env vs P Xc fl σ' s f s' → Q f s') → wpAny (model C.prog C.w) A (exec st env) Q (fun _ _ => False) s
structure ExsS (C : Cfg) (N : Nat) (env : Env) (vs : List Str) (σ : St) (st : List Stmt) (Post : Fl → St → Prop) : Prop where
  run : ∀ (A : Around) (s : Shared) (P : List Addr) (Xc : Addr → Prop) (Q : Flow → Shared → Prop), Rm A N → FmW C env vs P Xc σ s.heap →
    (∀ f s' fl σ', Post fl σ' → After C env vs P Xc fl σ' s f s' → Q f s') → wpAny (model C.prog C.w) A (execs st env) Q (fun _ _ => False) s

noncomputable def thaw1 : Option Ent → Option Ent
  | some (.own l) => some (.v (.list l))
  | e => e
noncomputable def thaw (σ : St) : St := σ.map thaw1
theorem get_thaw : ∀ (vs : List Str) (σ : St) {x : Str} {e : Ent}, Get vs (thaw σ) x e → (∃ v, e = .v v) ∧ (Get vs σ x e ∨ ∃ l, e = .v (.list l) ∧ Get vs σ x (.own l)) := by
  intro vs
  induction vs with
  | nil => intro σ x e g; cases g
  | cons y vs ih =>
    intro σ x e g
    cases σ with
    | nil => cases g
    | cons u σ =>
      change Get (y :: vs) (thaw1 u :: thaw σ) x e at g
      generalize hw : thaw1 u = w at g
      cases g with
      | head =>
        cases u with
        | none => cases hw
        | some e' => cases e' with
          | v v => cases hw; exact ⟨⟨_, rfl⟩, .inl .head⟩
          | own l => cases hw; exact ⟨⟨_, rfl⟩, .inr ⟨l, rfl, .head⟩⟩
      | tail g =>
        obtain ⟨h1, h2⟩ := ih σ g
        refine ⟨h1, ?_⟩
        rcases h2 with h2 | ⟨l, e, h2⟩
        · exact .inl (.tail h2)
        · exact .inr ⟨l, e, .tail h2⟩

section
variable {C : Cfg} {N : Nat} {env : Env} {vs : List Str} {σ σ' : St} {P : List Addr} {Xc : Addr → Prop} {h h' : Heap} {Post : Fl → St → Prop}

theorem FmW.thawed (F : FmW C env vs P Xc σ h) : Fm C env vs Xc (thaw σ) h where
  kind := F.kind
  glob := F.glob
  blt := F.blt
  base := F.base
  live := F.liveX
  vals := fun x e g => by
    obtain ⟨_, h2⟩ := get_thaw _ _ g
    rcases h2 with g' | ⟨l, rfl, g'⟩
    · cases e with
      | v v => obtain ⟨u, a, b⟩ := F.vals x v g'; exact ⟨u, a, IsV.mono b fun _ _ q _ => .inl q⟩
      | own l => obtain ⟨⟨v, q⟩, _⟩ := get_thaw _ _ g; cases q
    · obtain ⟨a, q1, q2, q3, _⟩ := F.own x l g'
      exact ⟨_, q1, a, rfl, F.dis a q3, q2⟩

theorem ExsS.nil (hp : Post .next σ) : ExsS C N env vs σ [] Post := .mk fun A s P Xc Q _ hf hq =>
  wpAny_execs_nil (hq .next s .next σ hp ⟨⟨P, fun _ h => h, fun _ h => .inl h, hf⟩, rfl, .refl ..⟩)

theorem ExsS.cons {st : Stmt} {rest : List Stmt} (h : ExS C N env vs σ st (fun fl σ' => match fl with | .next => ExsS C N env vs σ' rest Post | fl => Post fl σ')) : ExsS C N env vs σ (st :: rest) Post := .mk fun A s P Xc Q hr hf hq => by
  refine wpAny_execs_cons (h.run A s P Xc _ hr hf fun f s₁ fl σ₁ hp ha => ?_)
  cases fl with
  | next =>
    cases (show f = .next from ha.fl)
    obtain ⟨P', h1, h2, F'⟩ := ha.ex
    refine hp.run A s₁ P' Xc Q hr F' fun f' s₂ fl₂ σ₂ hp₂ ha₂ => hq f' s₂ fl₂ σ₂ hp₂ ?_
    obtain ⟨⟨P'', g1, g2, F''⟩, hfl, hx⟩ := ha₂
    refine ⟨⟨P'', fun z hz => g1 z (h1 z hz), fun z hz => ?_, F''⟩, hfl, ha.ext.trans hx h2⟩
    rcases g2 z hz with q | q
    · exact h2 z q
    · by_cases hzP : z ∈ P
      · exact .inl hzP
      · right
        cases e : s.heap.get? z with
        | none => rfl
        | some o => have := ha.ext.keep z o hzP e; rw [q] at this; cases this
  | brk => cases (show f = .brk from ha.fl); exact hq _ _ _ _ hp ha
  | cont => cases (show f = .cont from ha.fl); exact hq _ _ _ _ hp ha
  | ret v => obtain ⟨val, e, _⟩ := ha.fl; subst e; exact hq _ _ _ _ hp ha

theorem After.of_put {s s' : Shared} (hf : FmW C env vs P Xc σ' s'.heap) (hx : ExtP P s s') : After C env vs P Xc .next σ' s .next s' := ⟨⟨P, fun _ h => h, fun _ h => .inl h, hf⟩, rfl, hx⟩

theorem Chg.ext {x : Str} {val : Value} {s : Shared} {h' : Heap} {tk : Nat} (c : Chg env P x val s.heap h') : ExtP P s { s with heap := h', toks := tk } := by
  obtain ⟨b, hb, _, k⟩ := c.place
  exact .heapt fun a o ha e => k a o (fun q => ha (q ▸ hb)) e

theorem ExS.assign {x : Str} {px pos : Pos} {e : Expr} {v : V} (he : EvS C false true N env vs σ e v) (hp : Put vs σ x (.v v) σ') (hP : Post .next σ') (hs : swapsWith e (some (.Name x px)) pos.line env = pure false := by rfl) : ExS C N env vs σ (.Assign [.Name x px] e pos) Post := .mk fun A s P Xc Q hr hf hq => by
  refine wpAny_Assign_Name (he.run A s _ _ hr hf.fm fun val s₁ d e₁ => ?_) hs
  have hf₁ := hf.keep e₁.keep
  refine wp_store hf₁ hp.mem fun h' tk c => ?_
  refine hq _ _ _ _ hP (.of_put (hf₁.put_v c hp (d.mono fun _ _ y _ => ⟨rfl, y⟩)) ((ExtP.of_ext e₁).trans c.ext fun _ h => .inl h))

theorem ExS.assignO {x : Str} {px pos : Pos} {e : Expr} {l : List At} (he : EvL C false N env vs σ e l) (hp : Put vs σ x (.own l) σ') (hP : Post .next σ') (hs : swapsWith e (some (.Name x px)) pos.line env = pure false := by rfl) : ExS C N env vs σ (.Assign [.Name x px] e pos) Post := .mk fun A s P Xc Q hr hf hq => by
  refine wpAny_Assign_Name (he.run A s _ _ hr hf.fm fun a s₁ fr d e₁ => ?_) hs
  have hf₁ := hf.keep e₁.keep
  refine wp_store hf₁ hp.mem fun h' tk c => ?_
  refine hq _ _ _ _ hP ⟨⟨a :: P, fun _ h => .tail _ h, fun z hz => ?_, hf.put_own e₁.keep c hp d fr⟩, rfl, (ExtP.of_ext e₁).trans c.ext fun _ h => .inl h⟩
  rcases List.mem_cons.mp hz with rfl | hz
  · exact .inr fr
  · exact .inl hz

theorem ExS.ret {e : Expr} {pos : Pos} {v : V} (he : EvS C false true N env vs (thaw σ) e v) (hP : Post (.ret v) σ) : ExS C N env vs σ (.Return (some e) pos) Post := .mk fun A s P Xc Q hr hf hq =>
  wpAny_Return_some (he.run A s Xc _ hr hf.thawed fun val s₁ d e₁ => hq _ _ _ _ hP ⟨⟨P, fun _ h => h, fun _ h => .inl h, hf.keep e₁.keep⟩, ⟨val, rfl, d.mono fun _ _ y _ => ⟨rfl, y⟩⟩, .of_ext e₁⟩)

theorem ExS.brk {pos : Pos} (hP : Post .brk σ) : ExS C N env vs σ (.Break pos) Post := .mk fun A s P Xc Q hr hf hq => wpAny_Break (hq _ _ _ _ hP ⟨⟨P, fun _ h => h, fun _ h => .inl h, hf⟩, rfl, .refl ..⟩)

theorem ExS.ite {t : Expr} {b : Bool} {body orelse : List Stmt} {pos : Pos} (ht : TsS C false N env vs σ t b) (h1 : b = true → ExsS C N env vs σ body Post) (h2 : b = false → ExsS C N env vs σ orelse Post) : ExS C N env vs σ (.If t body orelse pos) Post := .mk fun A s P Xc Q hr hf hq => by
  refine wpAny_If (ht.run A s _ _ hr hf.fm fun s₁ e₁ => ?_)
  have fin : ∀ {st : List Stmt}, ExsS C N env vs σ st Post → wpAny (model C.prog C.w) A (execs st env) Q (fun _ _ => False) s₁ := fun hx =>
    hx.run A s₁ P Xc Q hr (hf.keep e₁.keep) fun f s₂ fl σ₂ hp ha => hq f s₂ fl σ₂ hp ⟨let ⟨P', g1, g2, F'⟩ := ha.ex; ⟨P', g1, fun z hz => (g2 z hz).imp id fun q => fresh_of e₁ q, F'⟩, ha.fl, (ExtP.of_ext e₁).trans ha.ext fun _ h => .inl h⟩
  cases b with
  | true => rw [if_pos rfl]; exact fin (h1 rfl)
  | false => rw [if_neg Bool.false_ne_true]; exact fin (h2 rfl)

theorem ExS.aug {x : Str} {px pos : Pos} {e : Expr} {op : Operator} {a b r : Int} (hg : Get vs σ x (.v (.at (.int a)))) (he : EvS C false true N env vs σ e (.at (.int b))) (ho : (op = .Add ∧ r = a + b) ∨ (op = .Sub ∧ r = a - b)) (hp : Put vs σ x (.v (.at (.int r))) σ') (hP : Post .next σ') : ExS C N env vs σ (.AugAssign (.Name x px) op e pos) Post := .mk fun A s P Xc Q hr hf hq => by
  obtain ⟨u, hu, t, hv⟩ := hf.vals _ _ hg
  subst hv
  refine wpAny_AugAssign_Name (wp_loadName hf.kind hu (he.run A s _ _ hr hf.fm fun val s₁ ⟨t', hv⟩ e₁ => ?_))
  subst hv
  have hf₁ := hf.keep e₁.keep
  have fin : ∀ tk tk', wpAny (model C.prog C.w) A (storeName env x (.int r tk)) (fun _ => Q .next) (fun _ _ => False) { s₁ with toks := tk' } := fun tk tk' => by
    refine wp_store (s := { s₁ with toks := tk' }) hf₁ hp.mem fun h' tk'' c => ?_
    refine hq _ _ _ _ hP (.of_put (hf₁.put_v c hp ⟨_, rfl⟩) ((ExtP.of_ext e₁).trans (ExtP.trans (P' := P) (ExtP.of_ext (.tok (p := true) (tk := tk'))) c.ext fun _ h => .inl h) fun _ h => .inl h))
  rcases ho with ⟨rfl, rfl⟩ | ⟨rfl, rfl⟩
  · exact iadd_int (fin _ _)
  · exact isub_int (fin _ _)
end
end Mine
end partMJ

section partMK
open PySem PySem.Calls PyProof.Rows
set_option maxRecDepth 100000
set_option linter.all false
namespace Mine

noncomputable def EntOk (env : Env) (vs : List Str) (P : List Addr) (Xc : Addr → Prop) (σ : St) (h : Heap) : Ent → Value → Prop
  | .v v, val => IsV h (XP Xc P) v val
  | .own l, val => ∃ a, val = .ref a ∧ IsL h a l ∧ Free env vs P σ h a

noncomputable def addrOf : Ent → Value → List Addr
  | .own _, .ref a => [a]
  | _, _ => []
noncomputable def addrsOf : List Ent → List Value → List Addr
  | e :: es, v :: vals => addrOf e v ++ addrsOf es vals
  | _, _ => []
noncomputable def EntsOk (env : Env) (vs : List Str) (P : List Addr) (Xc : Addr → Prop) (σ : St) (h : Heap) : List Ent → List Value → Prop
  | [], [] => True
  | e :: es, v :: vals => EntOk env vs P Xc σ h e v ∧ EntsOk env vs P Xc σ h es vals
  | _, _ => False

inductive PutAll (vs : List Str) : St → List Str → List Ent → St → Prop
  | nil {σ} : PutAll vs σ [] [] σ
  | cons {σ x e σ₁ xs es σ'} : Put vs σ x e σ₁ → PutAll vs σ₁ xs es σ' → PutAll vs σ (x :: xs) (e :: es) σ'

section
variable {C : Cfg} {N : Nat} {env : Env} {vs : List Str} {σ σ' : St} {P : List Addr} {Xc : Addr → Prop} {h h' : Heap} {Post : Fl → St → Prop}

theorem EntOk.chg (F : FmW C env vs P Xc σ h) {x : Str} {val : Value} {e0 : Ent} (c : Chg env P x val h h') (hp : Put vs σ x e0 σ') {e : Ent} {v : Value} (d : EntOk env vs P Xc σ h e v) (hdis : ∀ a ∈ addrOf e v, a ∉ addrOf e0 val) : EntOk env vs P Xc σ' h' e v := by
  obtain ⟨b, hb, hk, k⟩ := c.place
  have kb : HKeepBut (fun a => a = b) h h' := fun a o q e => k a o q e
  cases e with
  | v w => exact IsV.keepBut d kb (fun z e => .inr (e ▸ hb))
  | own l =>
    obtain ⟨a, rfl, hl, hfr⟩ := d
    have hab : a ≠ b := by
      rcases hk with rfl | ⟨y, hy⟩
      · exact hfr.loc
      · exact hfr.cell y _ hy
    refine ⟨a, rfl, hl.keepBut kb hab, hfr.mem, hfr.loc, hfr.cell, fun y l' g hh => ?_⟩
    rcases hp.get F.nd g with ⟨rfl, e⟩ | ⟨hne, g'⟩
    · subst e
      cases c.new.det hh
      exact hdis a (.head _) (.head _)
    · obtain ⟨u, q1, _⟩ := F.own y l' g'
      cases (c.rest y _ hne q1).det hh
      exact hfr.un y l' g' q1

theorem EntsOk.chg (F : FmW C env vs P Xc σ h) {x : Str} {val : Value} {e0 : Ent} (c : Chg env P x val h h') (hp : Put vs σ x e0 σ') : ∀ {es : List Ent} {vals : List Value}, EntsOk env vs P Xc σ h es vals → (∀ a ∈ addrsOf es vals, a ∉ addrOf e0 val) → EntsOk env vs P Xc σ' h' es vals
  | [], [], _, _ => trivial
  | e :: es, v :: vals, d, hd => ⟨d.1.chg F c hp fun a ha => hd a (List.mem_append_left _ ha), EntsOk.chg F c hp d.2 fun a ha => hd a (List.mem_append_right _ ha)⟩

theorem FmW.put_ent (F : FmW C env vs P Xc σ h) {x : Str} {val : Value} {e : Ent} (c : Chg env P x val h h') (hp : Put vs σ x e σ') (d : EntOk env vs P Xc σ h e val) : FmW C env vs P Xc σ' h' := by
  cases e with
  | v w => exact F.put_v c hp d
  | own l => obtain ⟨a, rfl, hl, hfr⟩ := d; exact F.put_own2 c hp hl hfr

noncomputable def Stores (env : Env) (t : Value → Sem Unit) (x : Str) : Prop := ∀ (M : Model) (A : Around) (E : Value → Shared → Prop) (s : Shared) (val : Value) (Q : Unit → Shared → Prop), wpAny M A (storeName env x val) Q E s → wpAny M A (t val) Q E s
theorem stores_bind (x : Str) : Stores env (fun v => bindName env x v) x := fun _ _ _ _ _ _ h => wpAny_bindName h
theorem stores_assign (x : Str) (p : Pos) : Stores env (assign (.Name x p) env) x := fun _ _ _ _ _ _ h => PyProof.Rows.assign_Name h
inductive StoresAll (env : Env) : List (Value → Sem Unit) → List Str → Prop
  | nil : StoresAll env [] []
  | cons {t x ts xs} : Stores env t x → StoresAll env ts xs → StoresAll env (t :: ts) (x :: xs)

theorem wp_storeAll {M : Model} {A : Around} {Q : Unit → Shared → Prop} {E : Value → Shared → Prop} {ts : List (Value → Sem Unit)} {xs : List Str} {es : List Ent} {vals : List Value} {s : Shared} (hst : StoresAll env ts xs) (hp : PutAll vs σ xs es σ') (F : FmW C env vs P Xc σ s.heap) (d : EntsOk env vs P Xc σ s.heap es vals) (nd : (addrsOf es vals).Nodup)
    (hq : ∀ s', FmW C env vs P Xc σ' s'.heap → ExtP P s s' → Q () s') : wpAny M A (assignInOrder ts vals) Q E s := by
  induction hst generalizing es vals σ s with
  | nil =>
    cases hp
    cases vals with
    | nil => exact assignInOrder_nil (hq s F (.refl ..))
    | cons v vals => exact d.elim
  | cons ht _ ih =>
    cases hp with
    | cons hp hps =>
      cases vals with
      | nil => exact d.elim
      | cons v vals =>
        refine assignInOrder_cons (ht _ _ _ _ _ _ (wp_store F hp.mem fun h' tk c => ?_))
        have nd' := List.nodup_append.mp nd
        refine ih (s := { s with heap := h', toks := tk }) hps (F.put_ent c hp d.1) (EntsOk.chg F c hp d.2 fun a ha q => nd'.2.2 a q a ha rfl) nd'.2.1 fun s' F' x => hq s' F' (c.ext.trans x fun _ h => .inl h)

noncomputable def EvE (C : Cfg) (N : Nat) (env : Env) (vs : List Str) (σ : St) (e : Expr) : Ent → Prop
  | .v v => EvS C false true N env vs σ e v
  | .own l => EvL C false N env vs σ e l
inductive EvEs (C : Cfg) (N : Nat) (env : Env) (vs : List Str) (σ : St) : List Expr → List Ent → Prop
  | nil : EvEs C N env vs σ [] []
  | cons {e es ent ents} : EvE C N env vs σ e ent → starEach (e :: es) env = (false, eval e env) :: starEach es env → EvEs C N env vs σ es ents → EvEs C N env vs σ (e :: es) (ent :: ents)

theorem Free.keep (F : FmW C env vs P Xc σ h) {a : Addr} (x : Free env vs P σ h a) (k : HKeep h h') {P' : List Addr} (hm : a ∈ P') : Free env vs P' σ h' a :=
  ⟨hm, x.loc, x.cell, fun y l g hh => by
    obtain ⟨u, q1, _⟩ := F.own y l g
    cases (q1.keep k).det hh
    exact x.un y l g q1⟩

theorem EvEs.wp : ∀ {es : List Expr} {ents : List Ent}, EvEs C N env vs σ es ents → ∀ {A : Around} {P : List Addr} {s : Shared} {pos : Pos} {Q : List Value → Shared → Prop}, Rm A N → FmW C env vs P Xc σ s.heap →
    (∀ P' vals s', (addrsOf ents vals).Nodup → (∀ a ∈ addrsOf ents vals, s.heap.get? a = none) → (∀ z, z ∈ P' ↔ z ∈ addrsOf ents vals ∨ z ∈ P) → FmW C env vs P' Xc σ s'.heap → EntsOk env vs P' Xc σ s'.heap ents vals → Ext false s s' → Q vals s') → wpAny (model C.prog C.w) A (spliced (backTo pos (starEach es env))) Q (fun _ _ => False) s := fun {es ents} hh => by
  induction hh with
  | nil => intro A P s pos Q hr F hq; exact args_nil (hq P [] s .nil (fun _ h => nomatch h) (fun z => ⟨.inr, fun q => q.elim (fun q => nomatch q) id⟩) F trivial (.refl ..))
  | @cons e es ent ents he hst hes ih =>
    intro A P s pos Q hr F hq
    cases ent with
    | v v =>
      refine args_cons (he.run A s _ _ hr F.fm fun val s₁ d e₁ => ?_) hst
      refine ih hr (F.keep e₁.keep) fun P' vals s' nd fr hP F' d' e₂ => ?_
      refine hq P' (val :: vals) s' nd (fun a ha => fresh_of e₁ (fr a ha)) hP F' ⟨?_, d'⟩ (e₁.trans e₂)
      refine IsV.keep (IsV.mono d fun z o hz hoz => ⟨rfl, ?_⟩) e₂.keep
      rcases hz with q | q
      · exact .inl q
      · rcases (hP z).mp q with q | q
        · rw [fr z q] at hoz; cases hoz
        · exact .inr q
    | own l =>
      refine args_cons (he.run A s _ _ hr F.fm fun a s₁ fr0 d e₁ => ?_) hst
      obtain ⟨F₁, hfree⟩ := F.addP e₁.keep fr0 d.live
      refine ih hr F₁ fun P' vals s' nd fr hP F' d' e₂ => ?_
      have haR : a ∉ addrsOf ents vals := fun q => by obtain ⟨o, ho⟩ := d.live; rw [fr a q] at ho; cases ho
      have haP : a ∈ P' := (hP a).mpr (.inr (.head _))
      refine hq P' (.ref a :: vals) s' (List.nodup_cons.mpr ⟨haR, nd⟩) (fun z hz => ?_) (fun z => ?_) F' ⟨⟨a, rfl, d.keep e₂.keep, hfree.keep F₁ e₂.keep haP⟩, d'⟩ (e₁.trans e₂)
      · rcases List.mem_cons.mp hz with rfl | hz
        · exact fr0
        · exact fresh_of e₁ (fr z hz)
      · rw [hP z]
        show _ ↔ z ∈ a :: addrsOf ents vals ∨ z ∈ P
        rw [List.mem_cons, List.mem_cons]
        constructor
        · rintro (q | q | q)
          · exact .inl (.inr q)
          · exact .inl (.inl q)
          · exact .inr q
        · rintro ((q | q) | q)
          · exact .inr (.inl q)
          · exact .inl q
          · exact .inr (.inr q)

theorem After.of_new {P' : List Addr} {R : List Addr} {s s₁ s' : Shared} (hP : ∀ z, z ∈ P' ↔ z ∈ R ∨ z ∈ P) (fr : ∀ a ∈ R, s.heap.get? a = none) (e₁ : Ext false s s₁) (F : FmW C env vs P' Xc σ' s'.heap) (hx : ExtP P' s₁ s') : After C env vs P Xc .next σ' s .next s' :=
  ⟨⟨P', fun z hz => (hP z).mpr (.inr hz), fun z hz => ((hP z).mp hz).elim (fun q => .inr (fr z q)) .inl, F⟩, rfl, (ExtP.of_ext (P := P) e₁).trans hx fun z hz => ((hP z).mp hz).elim (fun q => .inr (fr z q)) .inl⟩

theorem EntsOk.length : ∀ {es : List Ent} {vals : List Value}, EntsOk env vs P Xc σ h es vals → vals.length = es.length
  | [], [], _ => rfl
  | _ :: _, _ :: _, d => by rw [List.length_cons, List.length_cons, EntsOk.length d.2]
theorem EntsOk.keep (F : FmW C env vs P Xc σ h) (k : HKeep h h') : ∀ {es : List Ent} {vals : List Value}, EntsOk env vs P Xc σ h es vals → EntsOk env vs P Xc σ h' es vals
  | [], [], _ => trivial
  | .v v :: _, _ :: _, d => ⟨IsV.keep d.1 k, EntsOk.keep F k d.2⟩
  | .own l :: _, _ :: _, d => ⟨let ⟨a, e, q, fr⟩ := d.1; ⟨a, e, q.keep k, fr.keep F k fr.mem⟩, EntsOk.keep F k d.2⟩

theorem ExS.tuple {elts es : List Expr} {k1 k2 : Nat} {tp vp pos : Pos} {xs : List Str} {ents : List Ent} (he : EvEs C N env vs σ es ents) (hl : xs.length = ents.length) (hz : ents.length ≤ 1000) (hst : StoresAll env ((assignEach elts env).map (·.2)) xs) (hstar : (assignEach elts env).findIdx? (·.1) = none) (hlen : (assignEach elts env).length = xs.length) (hp : PutAll vs σ xs ents σ') (hP : Post .next σ')
    (hs : swapsWithSole [.Tuple elts k1 tp] (.Tuple es k2 vp) pos.line env = pure false := by rfl) (hw : swappedStores [.Tuple elts k1 tp] (.Tuple es k2 vp) env = pure none := by rfl) : ExS C N env vs σ (.Assign [.Tuple elts k1 tp] (.Tuple es k2 vp) pos) Post := .mk fun A s P Xc Q hr hf hq => by
  refine Assign_Tuple (Tuple_ (he.wp hr hf fun P' vals s₁ nd fr hPm F₁ d e₁ => ?_)) hs hw
  have hvl := d.length
  refine wpAny_newObj_type ?_ (by show vals.toArray.size ≤ sizeLine; rw [List.size_toArray]; have : sizeLine = 16777216 := rfl; omega)
  have k0 := HKeep.push s₁.heap { cls := .type "tuple", data := .seq vals.toArray }
  refine assign_Tuple_tuple hr.h ⟨_, Heap.get?_push_size _ rfl, rfl, 0, rfl⟩ (by rw [hlen, hl, ← hvl, List.size_toArray]) hstar fun h' hx => ?_
  have k1 : HKeep s₁.heap h' := fun b o e => hx b o (Nat.ne_of_lt (Heap.lt_size (k0 b o e))) (k0 b o e)
  refine wp_storeAll (s := { s₁ with heap := h' }) hst hp (F₁.keep k1) (EntsOk.keep F₁ k1 d) nd fun s' F' x => ?_
  exact hq _ _ _ _ hP (.of_new hPm fr (e₁.trans (.heap k1)) F' x)

theorem EntsOk.append : ∀ {es es' : List Ent} {vals vals' : List Value}, EntsOk env vs P Xc σ h es vals → EntsOk env vs P Xc σ h es' vals' → EntsOk env vs P Xc σ h (es ++ es') (vals ++ vals')
  | [], _, [], _, _, d => d
  | _ :: _, _, _ :: _, _, d, d' => ⟨d.1, EntsOk.append d.2 d'⟩
theorem EntsOk.reverse : ∀ {es : List Ent} {vals : List Value}, EntsOk env vs P Xc σ h es vals → EntsOk env vs P Xc σ h es.reverse vals.reverse
  | [], [], _ => trivial
  | _ :: _, _ :: _, d => by rw [List.reverse_cons, List.reverse_cons]; exact EntsOk.append (EntsOk.reverse d.2) ⟨d.1, trivial⟩
theorem addrsOf_append : ∀ {es es' : List Ent} {vals vals' : List Value}, vals.length = es.length → addrsOf (es ++ es') (vals ++ vals') = addrsOf es vals ++ addrsOf es' vals'
  | [], _, [], _, _ => rfl
  | _ :: _, _, _ :: _, _, h => by
    rw [List.cons_append, List.cons_append]
    simp only [addrsOf]
    rw [addrsOf_append (by simpa using h), List.append_assoc]
theorem addrsOf_perm : ∀ {es : List Ent} {vals : List Value}, vals.length = es.length → (addrsOf es.reverse vals.reverse).Perm (addrsOf es vals)
  | [], [], _ => .nil
  | e :: es, v :: vals, h => by
    rw [List.reverse_cons, List.reverse_cons, addrsOf_append (by simpa using h)]
    have h1 : addrsOf [e] [v] = addrOf e v := by show addrOf e v ++ [] = _; simp
    rw [h1]
    exact List.perm_append_comm.trans (List.Perm.append_left _ (addrsOf_perm (by simpa using h)))

theorem ExS.tupleSw {elts es : List Expr} {k1 k2 : Nat} {tp vp pos : Pos} {xs : List Str} {ents : List Ent} (he : EvEs C N env vs σ es ents) (hl : xs.length = ents.length) (hz : ents.length ≤ 1000) (hp : PutAll vs σ xs.reverse ents.reverse σ') (hP : Post .next σ')
    (hs : swapsWithSole [.Tuple elts k1 tp] (.Tuple es k2 vp) pos.line env = pure false := by rfl) (hw : swappedStores [.Tuple elts k1 tp] (.Tuple es k2 vp) env = pure (some xs) := by rfl) : ExS C N env vs σ (.Assign [.Tuple elts k1 tp] (.Tuple es k2 vp) pos) Post := .mk fun A s P Xc Q hr hf hq => by
  refine Assign_Tuple_swapped (names := xs) (Tuple_ (he.wp hr hf fun P' vals s₁ nd fr hPm F₁ d e₁ => ?_)) hs hw
  have hvl := d.length
  refine wpAny_newObj_type ?_ (by show vals.toArray.size ≤ sizeLine; rw [List.size_toArray]; have : sizeLine = 16777216 := rfl; omega)
  have k0 := HKeep.push s₁.heap { cls := .type "tuple", data := .seq vals.toArray }
  have hn : xs.length = vals.toArray.size := by rw [hl, ← hvl, List.size_toArray]
  rw [hn]
  refine unpackItems_tuple hr.h ⟨_, Heap.get?_push_size _ rfl, rfl, 0, rfl⟩ fun h' hx => ?_
  have k1 : HKeep s₁.heap h' := fun b o e => hx b o (Nat.ne_of_lt (Heap.lt_size (k0 b o e))) (k0 b o e)
  have hst : ∀ l : List Str, StoresAll env (l.map fun n => bindName env n) l := fun l => by
    induction l with
    | nil => exact .nil
    | cons y r ih => exact .cons (stores_bind y) ih
  refine wp_storeAll (s := { s₁ with heap := h' }) (es := ents.reverse) (hst _) hp (F₁.keep k1) (EntsOk.reverse (EntsOk.keep F₁ k1 d)) ((addrsOf_perm hvl).nodup_iff.mpr nd) fun s' F' x => ?_
  exact hq _ _ _ _ hP (.of_new hPm fr (e₁.trans (.heap k1)) F' x)

theorem ExS.pairLL {t1 t2 : Str} {q1 q2 : Pos} {e : Expr} {k1 : Nat} {tp pos : Pos} {x y : List At} (he : EvS C false true N env vs σ e (.pLL x y)) (hp : PutAll vs σ [t1, t2] [.v (.list x), .v (.list y)] σ') (hP : Post .next σ')
    (hs : swapsWithSole [.Tuple [.Name t1 q1, .Name t2 q2] k1 tp] e pos.line env = pure false := by rfl) (hw : swappedStores [.Tuple [.Name t1 q1, .Name t2 q2] k1 tp] e env = pure none := by rfl) : ExS C N env vs σ (.Assign [.Tuple [.Name t1 q1, .Name t2 q2] k1 tp] e pos) Post := .mk fun A s P Xc Q hr hf hq => by
  refine Assign_Tuple (he.run A s _ _ hr hf.fm fun val s₁ d e₁ => ?_) hs hw
  obtain ⟨r, n, a, b, rfl, hx, hr', ⟨na, la⟩, nb, lb⟩ := d
  have F₁ := hf.keep e₁.keep
  refine assign_Tuple_tuple hr.h ⟨_, hr', rfl, n, rfl⟩ rfl rfl fun h' hx => ?_
  have k1 : HKeep s₁.heap h' := fun b o e => hx b o (Nat.ne_of_lt (Heap.lt_size e)) e
  refine wp_storeAll (s := { s₁ with heap := h' }) (.cons (stores_assign t1 q1) (.cons (stores_assign t2 q2) .nil)) hp (F₁.keep k1) ⟨⟨a, rfl, fun q => na ⟨rfl, q⟩, la.keep k1⟩, ⟨b, rfl, fun q => nb ⟨rfl, q⟩, lb.keep k1⟩, trivial⟩ .nil fun s' F' x => ?_
  exact hq _ _ _ _ hP (.of_put F' ((ExtP.of_ext (e₁.trans (.heap k1))).trans x fun _ h => .inl h))
theorem ExS.pairLA {t1 t2 : Str} {q1 q2 : Pos} {e : Expr} {k1 : Nat} {tp pos : Pos} {x : List At} {y : At} (he : EvS C false true N env vs σ e (.pLA x y)) (hp : PutAll vs σ [t1, t2] [.v (.list x), .v (.at y)] σ') (hP : Post .next σ')
    (hs : swapsWithSole [.Tuple [.Name t1 q1, .Name t2 q2] k1 tp] e pos.line env = pure false := by rfl) (hw : swappedStores [.Tuple [.Name t1 q1, .Name t2 q2] k1 tp] e env = pure none := by rfl) : ExS C N env vs σ (.Assign [.Tuple [.Name t1 q1, .Name t2 q2] k1 tp] e pos) Post := .mk fun A s P Xc Q hr hf hq => by
  refine Assign_Tuple (he.run A s _ _ hr hf.fm fun val s₁ d e₁ => ?_) hs hw
  obtain ⟨r, n, a, b, rfl, hx, hr', ⟨na, la⟩, hb⟩ := d
  have F₁ := hf.keep e₁.keep
  refine assign_Tuple_tuple hr.h ⟨_, hr', rfl, n, rfl⟩ rfl rfl fun h' hx => ?_
  have k1 : HKeep s₁.heap h' := fun b o e => hx b o (Nat.ne_of_lt (Heap.lt_size e)) e
  refine wp_storeAll (s := { s₁ with heap := h' }) (.cons (stores_assign t1 q1) (.cons (stores_assign t2 q2) .nil)) hp (F₁.keep k1) ⟨⟨a, rfl, fun q => na ⟨rfl, q⟩, la.keep k1⟩, hb, trivial⟩ .nil fun s' F' x => ?_
  exact hq _ _ _ _ hP (.of_put F' ((ExtP.of_ext (e₁.trans (.heap k1))).trans x fun _ h => .inl h))
end
end Mine
end partMK

section partML
open PySem PySem.Calls PyProof.Rows
set_option maxRecDepth 100000
set_option linter.all false
namespace Mine
section
variable {C : Cfg} {N : Nat} {env : Env} {vs : List Str} {σ σ' σ'' : St} {P : List Addr} {Xc : Addr → Prop} {h h' : Heap} {Post : Fl → St → Prop}

theorem own_ext {s : Shared} {a : Addr} {h' : Heap} {tk : Nat} (ha : a ∈ P) (hs : Heap.SameBut a s.heap h') : ExtP P s { s with heap := h', toks := tk } := .heapt fun b o hb e => hs.extBut b o (fun q => hb (q ▸ ha)) e

theorem ExS.append {x : Str} {e : Expr} {p0 p1 p2 p3 : Pos} {l : List At} {a : At} {pl : Sem Bool} (hg : Get vs σ x (.own l)) (he : EvsS C false true N env vs σ [e] [.at a]) (hp : Put vs σ x (.own (l ++ [a])) σ') (hz : l.length ≤ 1000) (hP : Post .next σ')
    (hev : eval (.Call (.Attribute (.Name x p0) "append" p1) [e] [] p2) env = (do
      let ov ← eval (.Name x p0) env
      standAt p1.atName
      let (f, first) ← holding [ov] (getMethod ov "append" pl)
      callWith p2 f first (backTo p2 (starEach [e] env)) []) := by rfl) (he2 : starEach [e] env = (false, eval e env) :: starEach [] env := by rfl) (hd : (x == ("__debug__" : Str)) = false := by decide) (hi : interactive env = false := by rfl) (hs : swapsWith (.Call (.Attribute (.Name x p0) "append" p1) [e] [] p2) none p3.line env = pure false := by rfl) :
    ExS C N env vs σ (.Expr (.Call (.Attribute (.Name x p0) "append" p1) [e] [] p2) p3) Post := .mk fun A s P Xc Q hr hf hq => by
  obtain ⟨r, q1, q2, q3, q4⟩ := hf.own x l hg
  refine wpAny_Expr (MethodCall_ (pl := pl) (wp_name hf.kind q1 ?_ hd) hev) hi hs
  obtain ⟨it, ⟨n, ho⟩, hA⟩ := id q2
  refine getMethod_list_append ho rfl rfl ?_
  refine callWith_method1 (he.run A s _ p2 _ hr hf.fm fun vals s₁ d e₁ => ?_) he2 rfl
  obtain ⟨v, rfl, hv⟩ := IsVs.one d
  have e := hA.length
  rw [Array.length_toList] at e
  refine wpAny_list_append_plain (items := it) ⟨n, e₁.keep _ _ ho⟩ (fun h' hl hs => ?_) (by have : sizeLine = 16777216 := rfl; omega)
  have F₁ := hf.keep e₁.keep
  refine hq _ _ _ _ hP (.of_put (F₁.chg_own hg (q1.keep e₁.keep) hs ⟨_, hl, by rw [Array.toList_push]; exact hA.append ⟨hv, trivial⟩⟩ hp) ((ExtP.of_ext e₁).trans (own_ext q3 hs) fun _ h => .inl h))

theorem ExS.pop {x y : Str} {p0 p1 p2 p3 p4 : Pos} {l : List At} {a : At} {pl : Sem Bool} (hg : Get vs σ x (.own (l ++ [a]))) (hp : Put vs σ x (.own l) σ') (hp2 : Put vs σ' y (.v (.at a)) σ'') (hz : l.length ≤ 1000) (hP : Post .next σ'')
    (hev : eval (.Call (.Attribute (.Name x p0) "pop" p1) [] [] p2) env = (do
      let ov ← eval (.Name x p0) env
      standAt p1.atName
      let (f, first) ← holding [ov] (getMethod ov "pop" pl)
      callWith p2 f first (backTo p2 (starEach [] env)) []) := by rfl) (hd : (x == ("__debug__" : Str)) = false := by decide) (hs : swapsWith (.Call (.Attribute (.Name x p0) "pop" p1) [] [] p2) (some (.Name y p3)) p4.line env = pure false := by rfl) :
    ExS C N env vs σ (.Assign [.Name y p3] (.Call (.Attribute (.Name x p0) "pop" p1) [] [] p2) p4) Post := .mk fun A s P Xc Q hr hf hq => by
  obtain ⟨r, q1, q2, q3, q4⟩ := hf.own x _ hg
  refine wpAny_Assign_Name (MethodCall_ (pl := pl) (wp_name hf.kind q1 ?_ hd) hev) hs
  obtain ⟨it, ⟨n, ho⟩, hA⟩ := id q2
  refine getMethod_builtin ⟨_, ho, rfl⟩ PySem.F.plainAttrs_list PySem.F.slot_list_pop PySem.F.type_list_pop (fun b e => by cases e; exact ⟨_, ho, rfl⟩) ?_
  refine callWith_method0 ?_
  have e := hA.length
  rw [Array.length_toList, List.length_append, List.length_singleton] at e
  obtain ⟨v, hv, hat⟩ := hA.get (i := l.length) (a := a) (by simp)
  refine wp_pop (items := it) ⟨n, ho⟩ (y := v) (by rw [show it.size - 1 = l.length by omega]; simpa using hv) (by have : sizeLine = 16777216 := rfl; omega) fun h' hl hsb => ?_
  have hA' : AtsAre l it.pop.toList := by
    rw [Array.toList_pop]
    refine AtsAre.of_get (by rw [List.length_dropLast, Array.length_toList]; omega) fun i b w hb hw => ?_
    have hi : i < l.length := by
      by_cases z : i < l.length
      · exact z
      · rw [List.getElem?_eq_none (Nat.le_of_not_lt z)] at hb; cases hb
    obtain ⟨w', h1, h2⟩ := hA.get (i := i) (a := b) (by rw [List.getElem?_append_left hi]; exact hb)
    rw [List.dropLast_eq_take, List.getElem?_take] at hw
    split at hw
    · rw [h1] at hw; cases hw; exact h2
    · cases hw
  have F₁ := hf.chg_own hg q1 hsb ⟨_, hl, hA'⟩ hp
  refine wp_store (s := { s with heap := h' }) F₁ hp2.mem fun h'' tk c => ?_
  exact hq _ _ _ _ hP (.of_put (F₁.put_v c hp2 hat) ((own_ext (tk := s.toks) q3 hsb).trans c.ext fun _ h => .inl h))


theorem wp_setOwn {A : Around} {s : Shared} {x : Str} {l : List At} {r : Addr} {i : Int} {t : Tok} {a : At} {v : Value} {Q : Unit → Shared → Prop} (hf : FmW C env vs P Xc σ s.heap) (hg : Get vs σ x (.own l)) (hr : Holds env s.heap x (.ref r)) (ha : IsAt a v) (h0 : 0 ≤ i) (hi : i < l.length) (hz : l.length ≤ 1000) (hp : Put vs σ x (.own (l.set i.toNat a)) σ')
    (hq : ∀ s', FmW C env vs P Xc σ' s'.heap → ExtP P s s' → Holds env s'.heap x (.ref r) → Q () s') : wpAny (model C.prog C.w) A (setItem (.ref r) (.int i t) v) Q (fun _ _ => False) s := by
  obtain ⟨r', q1, q2, q3, q4⟩ := hf.own x l hg
  cases q1.det hr
  obtain ⟨it, ⟨n, ho⟩, hA⟩ := id q2
  have e := hA.length
  rw [Array.length_toList] at e
  refine wp_setItem_plain (items := it) ⟨n, ho⟩ h0 (by omega) (by omega) fun h' hl hs => ?_
  have F' := hf.chg_own hg hr hs ⟨_, hl, by rw [Array.toList_setIfInBounds]; exact hA.set ha _⟩ hp
  refine hq _ F' (own_ext (tk := s.toks) q3 hs) ?_
  obtain ⟨u, w1, _⟩ := F'.own x _ hp.at
  have : Holds env h' x (.ref r) := by
    rcases hr with ⟨k1, m, hm, e⟩ | ⟨k1, cc, hc, hv⟩
    · exact .inl ⟨k1, m, hm.sameBut hs (Ne.symm q4.1), e⟩
    · exact .inr ⟨k1, cc, hc, hv.sameBut hs (Ne.symm (q4.2 x cc hc))⟩
  exact this

theorem ExS.setLast {x : Str} {i e : Expr} {p0 p1 pos : Pos} {l : List At} {a : At} (hg : Get vs σ x (.own l)) (he : EvS C false true N env vs σ e (.at a)) (hi : EvS C false true N env vs σ i (.at (.int (-1)))) (hne : l ≠ []) (hz : l.length ≤ 1000) (hp : Put vs σ x (.own (l.set (l.length - 1) a)) σ') (hP : Post .next σ') (hd : (x == ("__debug__" : Str)) = false := by decide) (hs : swapsWith e (some (.Subscript (.Name x p0) i p1)) pos.line env = pure false := by rfl) :
    ExS C N env vs σ (.Assign [.Subscript (.Name x p0) i p1] e pos) Post := .mk fun A s P Xc Q hr hf hq => by
  refine wpAny_Assign_Subscript (he.run A s _ _ hr hf.fm fun v s₁ dv e₁ => ?_) hs
  have F₁ := hf.keep e₁.keep
  obtain ⟨r, q1, q2, q3, q4⟩ := F₁.own x l hg
  refine wp_name F₁.kind q1 ?_ hd
  refine hi.run A s₁ _ _ hr F₁.fm fun iv s₂ ⟨t, hiv⟩ e₂ => ?_
  subst hiv
  have F₂ := F₁.keep e₂.keep
  obtain ⟨it, ⟨n, ho⟩, hA⟩ := q2.keep e₂.keep
  have e := hA.length
  rw [Array.length_toList] at e
  have hlen : 0 < l.length := List.length_pos_iff.mpr hne
  refine wp_setItem_neg (items := it) ⟨n, ho⟩ (by omega) (by omega) (by omega) fun h' hl hsb => ?_
  have hi' : ((-1 : Int) + it.size).toNat = l.length - 1 := by omega
  rw [hi'] at hl
  have F' := F₂.chg_own hg (q1.keep e₂.keep) hsb ⟨_, hl, by rw [Array.toList_setIfInBounds]; exact hA.set dv _⟩ hp
  exact hq _ _ _ _ hP (.of_put F' ((ExtP.of_ext (e₁.trans e₂)).trans (own_ext (tk := s₂.toks) q3 hsb) fun _ h => .inl h))

theorem wp_subOwn {A : Around} {s : Shared} {x : Str} {i : Expr} {p0 p1 : Pos} {l : List At} {m : Int} {a : At} {v : Value} {Q : Unit → Shared → Prop} (hr : Rm A N) (hf : FmW C env vs P Xc σ s.heap) (hg : Get vs σ x (.own l)) (ha : IsAt a v) (hi : EvS C false true N env vs σ i (.at (.int m))) (hm : 0 ≤ m ∧ m < l.length) (hz : l.length ≤ 1000) (hp : Put vs σ x (.own (l.set m.toNat a)) σ') (hd : (x == ("__debug__" : Str)) = false)
    (hq : ∀ s', FmW C env vs P Xc σ' s'.heap → ExtP P s s' → Q () s') : wpAny (model C.prog C.w) A (PySem.assign (.Subscript (.Name x p0) i p1) env v) Q (fun _ _ => False) s := by
  rw [arm_assign_Subscript]
  obtain ⟨r, q1, q2, q3, q4⟩ := hf.own x l hg
  refine wpAny_bind (wpAny_holding (wp_name hf.kind q1 ?_ hd))
  refine wpAny_bind (wpAny_holding (hi.run A _ _ _ hr hf.fm fun iv s₄ ⟨t, hiv⟩ e₄ => ?_))
  subst hiv
  have F₄ := hf.keep e₄.keep
  refine wpAny_bind (wpAny_standAt (wpAny_bind (wpAny_holding ?_)))
  refine wp_setOwn F₄ hg (q1.keep e₄.keep) ha hm.1 hm.2 hz hp fun s₅ F₅ x₅ _ => ?_
  exact wpAny_release (hq _ F₅ ((ExtP.of_ext e₄).trans x₅ fun _ h => .inl h))

theorem ExS.set2 {x : Str} {i j e f : Expr} {k1 k2 : Nat} {p0 p1 p2 p3 tp vp pos : Pos} {l : List At} {a b : At} {m n : Int} (hg : Get vs σ x (.own l)) (he : EvS C false true N env vs σ e (.at a)) (hf' : EvS C false true N env vs σ f (.at b)) (hi : EvS C false true N env vs σ i (.at (.int m))) (hp : Put vs σ x (.own (l.set m.toNat a)) σ') (hj : EvS C false true N env vs σ' j (.at (.int n))) (hp2 : Put vs σ' x (.own ((l.set m.toNat a).set n.toNat b)) σ'')
    (hm : 0 ≤ m ∧ m < l.length) (hn : 0 ≤ n ∧ n < l.length) (hz : l.length ≤ 1000) (hP : Post .next σ'') (hd : (x == ("__debug__" : Str)) = false := by decide)
    (hst : starEach [e, f] env = (false, eval e env) :: starEach [f] env := by rfl) (hst2 : starEach [f] env = (false, eval f env) :: starEach [] env := by rfl)
    (hs : swapsWithSole [.Tuple [.Subscript (.Name x p0) i p1, .Subscript (.Name x p2) j p3] k1 tp] (.Tuple [e, f] k2 vp) pos.line env = pure false := by rfl) (hw : swappedStores [.Tuple [.Subscript (.Name x p0) i p1, .Subscript (.Name x p2) j p3] k1 tp] (.Tuple [e, f] k2 vp) env = pure none := by rfl) :
    ExS C N env vs σ (.Assign [.Tuple [.Subscript (.Name x p0) i p1, .Subscript (.Name x p2) j p3] k1 tp] (.Tuple [e, f] k2 vp) pos) Post := .mk fun A s P Xc Q hr hf hq => by
  refine Assign_Tuple (Tuple_ ?_) hs hw
  refine args_cons (he.run A s _ _ hr hf.fm fun va s₁ da e₁ => ?_) hst
  refine args_cons (hf'.run A s₁ _ _ hr (hf.keep e₁.keep).fm fun vb s₂ db e₂ => args_nil ?_) hst2
  refine wpAny_newObj_type ?_ (by show 2 ≤ sizeLine; decide)
  have k0 := HKeep.push s₂.heap { cls := .type "tuple", data := .seq [va, vb].toArray }
  refine assign_Tuple_tuple hr.h ⟨_, Heap.get?_push_size _ rfl, rfl, 0, rfl⟩ rfl rfl fun h' hx => ?_
  have k1 : HKeep s₂.heap h' := fun b o e => hx b o (Nat.ne_of_lt (Heap.lt_size (k0 b o e))) (k0 b o e)
  have e₃ : Ext false s _ := (e₁.trans e₂).trans (.heap k1)
  have F₃ := hf.keep e₃.keep
  refine assignInOrder_cons ?_
  show wpAny _ A (PySem.assign ((Expr.Name x p0).Subscript i p1) env va) _ _ _
  refine wp_subOwn (s := { s₂ with heap := h' }) hr F₃ hg da hi hm hz hp hd fun s₅ F₅ x₅ => ?_
  refine assignInOrder_cons ?_
  show wpAny _ A (PySem.assign ((Expr.Name x p2).Subscript j p3) env vb) _ _ _
  refine wp_subOwn hr F₅ hp.at db hj (by simpa using hn) (by simpa using hz) hp2 hd fun s₆ F₆ x₆ => ?_
  refine assignInOrder_nil ?_
  exact hq _ _ _ _ hP (.of_put F₆ (((ExtP.of_ext e₃).trans x₅ fun _ h => .inl h).trans x₆ fun _ h => .inl h))
end
end Mine
end partML

section partMM
open PySem PySem.Calls PyProof.Rows
set_option maxRecDepth 100000
set_option linter.all false
namespace Mine
section
variable {C : Cfg} {N : Nat} {env : Env} {vs : List Str} {σ σ' σ'' : St} {P P' : List Addr} {Xc : Addr → Prop} {h h' : Heap} {Post : Fl → St → Prop}

theorem cameBack_False {M : Model} {A : Around} {e : Value} {s : Shared} {E : Value → Shared → Prop} (h : False) : cameBackBy M A env E e s := h.elim

@[reducible] noncomputable def loopPost (next : St → Prop) (Post : Fl → St → Prop) : Fl → St → Prop := fun fl σ' => match fl with
  | .next => next σ'
  | .cont => next σ'
  | .brk => Post .next σ'
  | .ret v => Post (.ret v) σ'

theorem ExS.while {t : Expr} {body : List Stmt} {pos : Pos} (I : Nat → St → Prop) (n : Nat) (h0 : I n σ)
    (turn : ∀ n σ, I n σ → ∃ b, TsS C false N env vs σ t b ∧ (b = true → ExsS C N env vs σ body (loopPost (fun σ' => ∃ m, m < n ∧ I m σ') Post)) ∧ (b = false → Post .next σ)) :
    ExS C N env vs σ (.While t body [] pos) Post := .mk fun A s P Xc Q hr hf hq => by
  refine wpAny_While (codeAny_whileLoop (fun n s' => ∃ σ', I n σ' ∧ After C env vs P Xc .next σ' s .next s') (fun n s₁ hI => ?_) n ⟨σ, h0, .of_put hf (.refl _ _)⟩)
  obtain ⟨σ₁, hI, ha⟩ := hI
  obtain ⟨b, ht, h1, h2⟩ := turn n σ₁ hI
  obtain ⟨P', g1, g2, F₁⟩ := ha.ex
  refine wpAny_mono (Q := fun b' s₂ => b' = b ∧ Ext false s₁ s₂) (E := fun _ _ => False) (ht.run A s₁ _ _ hr F₁.fm fun s₂ e => ⟨rfl, e⟩) ?_ (fun _ _ x => x.elim)
  rintro b' s₂ ⟨rfl, e₂⟩
  have F₂ := F₁.keep e₂.keep
  have ha₂ : After C env vs P Xc .next σ₁ s .next s₂ := ⟨⟨P', g1, g2, F₂⟩, rfl, ha.ext.trans (.of_ext e₂ (P := P)) fun _ h => .inl h⟩
  cases b' with
  | false => rw [if_neg Bool.false_ne_true]; exact wpAny_execs_nil (hq _ _ _ _ (h2 rfl) ha₂)
  | true =>
    rw [if_pos rfl]
    refine wpAny_mono ((h1 rfl).run A s₂ P' Xc (fun f s₃ => ∃ fl σ₃, loopPost (fun σ' => ∃ m, m < n ∧ I m σ') Post fl σ₃ ∧ After C env vs P' Xc fl σ₃ s₂ f s₃) hr F₂ fun f s₃ fl σ₃ hp hb => ⟨fl, σ₃, hp, hb⟩) ?_ (fun _ _ x => x.elim)
    rintro f s₃ ⟨fl, σ₃, hp, hb⟩
    have hc : ∀ {fl' f'}, FlIs s₃.heap Xc fl' f' → After C env vs P Xc fl' σ₃ s f' s₃ := fun hfl => by
      obtain ⟨⟨P'', k1, k2, F₃⟩, _, hx⟩ := hb
      refine ⟨⟨P'', fun z hz => k1 z (g1 z hz), fun z hz => ?_, F₃⟩, hfl, ha₂.ext.trans hx g2⟩
      rcases k2 z hz with q | q
      · exact g2 z q
      · by_cases hzP : z ∈ P
        · exact .inl hzP
        · right
          cases e : s.heap.get? z with
          | none => rfl
          | some o => have := ha₂.ext.keep z o hzP e; rw [q] at this; cases this
    cases fl with
    | next => cases (show f = .next from hb.fl); obtain ⟨m, hm, hI'⟩ := hp; exact ⟨m, hm, σ₃, hI', hc rfl⟩
    | cont => cases (show f = .cont from hb.fl); obtain ⟨m, hm, hI'⟩ := hp; exact ⟨m, hm, σ₃, hI', hc rfl⟩
    | brk => cases (show f = .brk from hb.fl); exact hq _ _ _ _ hp (hc rfl)
    | ret v => obtain ⟨val, e, hv⟩ := hb.fl; subst e; exact hq _ _ _ _ hp (hc ⟨val, rfl, hv⟩)

theorem FmW.drop_x {I : Addr} (F : FmW C env vs P (fun a => Xc a ∨ a = I) σ h) (hI : ¬ Xc I) (k : ∀ b o, b ≠ I → h.get? b = some o → h'.get? b = some o) (hb : ∃ h₀, Base C h₀ ∧ HKeep h₀ h' ∧ ∀ a ∈ P, h₀.get? a = none) : FmW C env vs P Xc σ h' :=
  F.shift (S := fun b => b = I) (fun b e => .inl (.inr e)) (fun b o q e => k b o q e) (fun b x => .inl (.inl x)) (fun b x => by
    obtain ⟨o, ho⟩ := F.liveX b (.inl x)
    exact ⟨o, k b o (fun e => hI (e ▸ x)) ho⟩) hb

theorem FmW.oldK {s s' : Shared} (F : FmW C env vs P Xc σ s.heap) (hx : ∀ b o, b ∉ P → s.heap.get? b = some o → s'.heap.get? b = some o) (g2 : ∀ a ∈ P', a ∈ P ∨ s.heap.get? a = none) : ∃ h₀, Base C h₀ ∧ HKeep h₀ s'.heap ∧ ∀ a ∈ P', h₀.get? a = none := by
  obtain ⟨h₀, b₀, k₀, n₀⟩ := F.old
  refine ⟨h₀, b₀, fun b o e => hx b o (fun q => by rw [n₀ b q] at e; cases e) (k₀ b o e), fun a ha => ?_⟩
  rcases g2 a ha with q | q
  · exact n₀ a q
  · cases e : h₀.get? a with
    | none => rfl
    | some o => rw [k₀ a o e] at q; cases q

theorem back_fresh {s s' : Shared} (hx : ∀ b o, b ∉ P → s.heap.get? b = some o → s'.heap.get? b = some o) {z : Addr} (q : s'.heap.get? z = none) : z ∈ P ∨ s.heap.get? z = none := by
  by_cases hzP : z ∈ P
  · exact .inl hzP
  · right
    cases e : s.heap.get? z with
    | none => rfl
    | some o => have := hx z o hzP e; rw [q] at this; cases this

theorem ExS.for {x : Str} {px pos : Pos} {iter : Expr} {body : List Stmt} {v : V} {l : List At} (he : EvS C false true N env vs σ iter v) (hl : itemsOf v = some l) (hsm : smallV v) (I : List At → St → Prop) (h0 : I l σ)
    (turn : ∀ a r σ, a ∈ l → I (a :: r) σ → ∃ σ', Put vs σ x (.v (.at a)) σ' ∧ ExsS C N env vs σ' body (loopPost (I r) Post)) (fin : ∀ σ, I [] σ → Post .next σ) (hs : ∀ x, foldedSetIterable iter env x = pure x := by intro _; rfl) :
    ExS C N env vs σ (.For (.Name x px) iter body [] pos) Post := .mk fun A s P Xc Q hr hf hq => by
  refine wpAny_For (he.run A s _ _ hr hf.fm fun xv s₁ d e₁ => ?_) hs
  have d' : IsV s₁.heap (XP Xc P) v xv := d.mono fun _ _ y _ => ⟨rfl, y⟩
  refine iter_wp (hr := hr.h) hl d' hsm fun It fp Pv St h₂ W hP hlv st k fr hfp => ?_
  have hX : ¬ Xc It := fun q => by obtain ⟨o, ho⟩ := (hf.keep e₁.keep).liveX _ q; rw [fr] at ho; cases ho
  have hIn : s.heap.get? It = none := fresh_of e₁ fr
  let J : Nat → Shared → Prop := fun n s' => ∃ i σ' P', i + n = l.length ∧ I (l.drop i) σ' ∧ St i s'.heap ∧ (∀ a ∈ P, a ∈ P') ∧ (∀ a ∈ P', a ∈ P ∨ s.heap.get? a = none) ∧ (∀ b ∈ fp, b ∉ P' ∧ ∃ o, s'.heap.get? b = some o) ∧ FmW C env vs P' (fun a => Xc a ∨ a = It) σ' s'.heap ∧ ExtP P s s'
  have F₂ : FmW C env vs P (fun a => Xc a ∨ a = It) σ h₂ := (hf.keep e₁.keep).more fr k (hlv _ _ st)
  have hPfp : ∀ b ∈ fp, b ∉ P ∧ ∃ o, h₂.get? b = some o := fun b hb => by
    rcases hfp b hb with rfl | ⟨nx, o, ho⟩
    · exact ⟨fun q => (by obtain ⟨o, ho⟩ := hf.liveP _ q; rw [hIn] at ho; cases ho), hlv _ _ st⟩
    · exact ⟨fun q => nx (.inr q), o, k _ _ ho⟩
  refine codeAny_forLoop J (fun n s₃ hJ => ?_) l.length ⟨0, σ, P, by simp, by simpa using h0, st, fun _ h => h, fun _ h => .inl h, hPfp, F₂, .of_ext (e₁.trans (.heap k))⟩
  obtain ⟨i, σ₃, P₃, hin, hI, hst, g1, g2, gfp, F₃, x₃⟩ := hJ
  by_cases hi : i < l.length
  · refine W.item i s₃ _ _ hi hst fun val h₄ tk hPv hst' k₄ => ?_
    obtain ⟨a, hla, hat⟩ := hP i val hPv hi
    have hdrop : l.drop i = a :: l.drop (i + 1) := by
      rw [List.drop_eq_getElem_cons hi]
      congr 1
      rw [List.getElem?_eq_getElem hi] at hla
      exact Option.some.inj hla
    rw [hdrop] at hI
    obtain ⟨σ₄, hp, hb⟩ := turn a _ σ₃ (List.mem_of_getElem? hla) hI
    have k4 : ∀ b o, b ≠ It → s₃.heap.get? b = some o → h₄.get? b = some o := fun b o q e => k₄ b o (fun z => by rcases List.mem_cons.mp z with z | z; exact q z; cases z) e
    have x₄ : ∀ b o, b ∉ P → s.heap.get? b = some o → h₄.get? b = some o := fun b o hb e => k4 b o (fun z => by rw [z, hIn] at e; cases e) (x₃.keep b o hb e)
    have F₄ : FmW C env vs P₃ (fun a => Xc a ∨ a = It) σ₃ h₄ := F₃.chg_x (.inr rfl) k4 (hlv _ _ hst') (hf.oldK (s' := { s₃ with heap := h₄, toks := tk }) x₄ g2)
    refine wpAny_assign_Name (wp_store (s := { s₃ with heap := h₄, toks := tk }) F₄ hp.mem fun h₅ tk₅ c => ?_)
    have F₅ := F₄.put_v c hp (show IsV h₄ _ (.at a) val from hat)
    obtain ⟨bp, hbp, _, ck⟩ := c.place
    refine wpAny_mono (hb.run A { s₃ with heap := h₅, toks := tk₅ } P₃ _ (fun f s₆ => ∃ fl σ₆, loopPost (I (l.drop (i + 1))) Post fl σ₆ ∧ After C env vs P₃ (fun a => Xc a ∨ a = It) fl σ₆ { s₃ with heap := h₅, toks := tk₅ } f s₆) hr F₅ fun f s₃ fl σ₃ hp hb => ⟨fl, σ₃, hp, hb⟩) ?_ (fun _ _ x => x.elim)
    rintro f s₆ ⟨fl, σ₆, hpost, hb⟩
    obtain ⟨⟨P₆, k1, k2, F₆⟩, hfl, hx⟩ := hb
    have x₅ : ∀ b o, b ∉ P → s.heap.get? b = some o → h₅.get? b = some o := fun b o hb e => ck b o (fun z => by
      rcases g2 _ hbp with q | q
      · exact hb (z ▸ q)
      · rw [z, q] at e; cases e) (x₄ b o hb e)
    have x5 : ExtP P s { s₃ with heap := h₅, toks := tk₅ } := by
      obtain ⟨h', tk', g', e, _, gg⟩ := x₃
      subst e
      exact ⟨h₅, tk₅, g', rfl, x₅, gg⟩
    have x6 : ExtP P s s₆ := x5.trans hx g2
    have g6 : ∀ a ∈ P₆, a ∈ P ∨ s.heap.get? a = none := fun z hz => by
      rcases k2 z hz with q | q
      · exact g2 z q
      · exact back_fresh x₅ q
    have fpk : ∀ b ∈ fp, ∀ o, h₄.get? b = some o → s₆.heap.get? b = some o := fun b hb o e => hx.keep b o (gfp b hb).1 (ck b o (fun z => (gfp b hb).1 (z ▸ hbp)) e)
    have lv4 : ∀ b ∈ fp, ∃ o, h₄.get? b = some o := fun b hb => by
      by_cases e : b = It
      · exact e ▸ hlv _ _ hst'
      · obtain ⟨o, ho⟩ := (gfp b hb).2; exact ⟨o, k4 b o e ho⟩
    have g6fp : ∀ b ∈ fp, b ∉ P₆ ∧ ∃ o, s₆.heap.get? b = some o := fun b hb => by
      obtain ⟨o, ho⟩ := lv4 b hb
      refine ⟨fun q => ?_, o, fpk b hb o ho⟩
      rcases k2 b q with z | z
      · exact (gfp b hb).1 z
      · rw [show h₅.get? b = some o from ck b o (fun z => (gfp b hb).1 (z ▸ hbp)) ho] at z; cases z
    have hc : ∀ {fl' f'}, FlIs s₆.heap Xc fl' f' → After C env vs P Xc fl' σ₆ s f' s₆ := fun hfl' =>
      ⟨⟨P₆, fun z hz => k1 z (g1 z hz), g6, F₆.less fun _ z => .inl z⟩, hfl', x6⟩
    cases fl with
    | next => cases (show f = .next from hfl); exact ⟨n - 1, by omega, i + 1, σ₆, P₆, by omega, hpost, W.frame _ _ _ hst' fpk, fun z hz => k1 z (g1 z hz), g6, g6fp, F₆, x6⟩
    | cont => cases (show f = .cont from hfl); exact ⟨n - 1, by omega, i + 1, σ₆, P₆, by omega, hpost, W.frame _ _ _ hst' fpk, fun z hz => k1 z (g1 z hz), g6, g6fp, F₆, x6⟩
    | brk => cases (show f = .brk from hfl); exact hq _ _ _ _ hpost (hc rfl)
    | ret v => obtain ⟨val, e, hv⟩ := hfl; subst e; exact hq _ _ _ _ hpost (hc ⟨val, rfl, hv.mono fun _ _ z _ => .inl z⟩)
  · have : i = l.length := by omega
    subst this
    refine W.done s₃ _ _ hst fun h₄ tk k₄ => ?_
    have k4 : ∀ b o, b ≠ It → s₃.heap.get? b = some o → h₄.get? b = some o := fun b o q e => k₄ b o (fun z => by rcases List.mem_cons.mp z with z | z; exact q z; cases z) e
    have x₄ : ∀ b o, b ∉ P → s.heap.get? b = some o → h₄.get? b = some o := fun b o hb e => k4 b o (fun z => by rw [z, hIn] at e; cases e) (x₃.keep b o hb e)
    have F₄ := F₃.drop_x hX k4 (hf.oldK (s' := { s₃ with heap := h₄, toks := tk }) x₄ g2)
    rw [List.drop_length] at hI
    refine wpAny_execs_nil (hq _ _ _ _ (fin _ hI) ⟨⟨P₃, g1, g2, F₄⟩, rfl, ?_⟩)
    obtain ⟨h', tk', g', e, _, gg⟩ := x₃
    subst e
    exact ⟨h₄, tk, g', rfl, x₄, gg⟩
end
end Mine
end partMM

section partMN
open PySem PySem.Calls PyProof.Rows
set_option maxRecDepth 100000
set_option linter.all false
namespace Mine

theorem cellsFrom_some : ∀ (names : List (Str × NameKind)) (n : Nat) (acc : List (Str × Addr)) (x : Str), ((x, NameKind.cell) ∈ names ∨ ∃ c, acc.lookup x = some c) → ∃ c, (cellsFrom n names acc).lookup x = some c
  | [], n, acc, x, h => by
    rcases h with h | h
    · cases h
    · exact h
  | (y, k) :: r, n, acc, x, h => by
    unfold cellsFrom
    split
    · refine cellsFrom_some r _ _ x ?_
      by_cases e : x = y
      · right; exact ⟨n, by subst e; simp [List.lookup]⟩
      · rcases h with h | ⟨c, h⟩
        · rcases List.mem_cons.mp h with h | h
          · cases h; exact (e rfl).elim
          · exact .inl h
        · right
          refine ⟨c, ?_⟩
          rw [List.lookup_cons]
          have : (x == y) = false := by simpa using e
          rw [this]; exact h
    · rename_i hk
      refine cellsFrom_some r _ _ x ?_
      rcases h with h | h
      · rcases List.mem_cons.mp h with h | h
        · cases h; exact (hk rfl).elim
        · exact .inl h
      · exact .inr h

theorem lookup_mem {α : Type} : ∀ {l : List (Str × α)} {x : Str} {v : α}, l.lookup x = some v → (x, v) ∈ l
  | (y, w) :: r, x, v, h => by
    rw [List.lookup_cons] at h
    split at h
    · rename_i e
      cases h; rw [show x = y by simpa using e]; exact .head _
    · exact .tail _ (lookup_mem h)

noncomputable def callSt (l : List V) (rest : List Str) : St := l.map (fun v => some (.v v)) ++ rest.map fun _ => none

theorem get_none {rest : List Str} : ∀ {x : Str} {e : Ent}, ¬ Get rest (rest.map fun _ => (none : Option Ent)) x e := by
  induction rest with
  | nil => intro x e g; cases g
  | cons y r ih =>
    intro x e g
    cases g with
    | tail g => exact ih g
theorem len1 {l : List Value} (h : l.length = 1) : ∃ a, l = [a] := by
  cases l with
  | nil => cases h
  | cons a r => cases r with
    | nil => exact ⟨a, rfl⟩
    | cons b r => cases h
theorem len2 {l : List Value} (h : l.length = 2) : ∃ a b, l = [a, b] := by
  cases l with
  | nil => cases h
  | cons a r => obtain ⟨b, rfl⟩ := len1 (Nat.succ.inj h); exact ⟨a, b, rfl⟩
theorem len3 {l : List Value} (h : l.length = 3) : ∃ a b c, l = [a, b, c] := by
  cases l with
  | nil => cases h
  | cons a r => obtain ⟨b, c, rfl⟩ := len2 (Nat.succ.inj h); exact ⟨a, b, c, rfl⟩
theorem len4 {l : List Value} (h : l.length = 4) : ∃ a b c d, l = [a, b, c, d] := by
  cases l with
  | nil => cases h
  | cons a r => obtain ⟨b, c, d, rfl⟩ := len3 (Nat.succ.inj h); exact ⟨a, b, c, d, rfl⟩

theorem get_call {rest : List Str} {h : Heap} {X : Addr → Prop} {x : Str} {e : Ent} (ps : List Str) : ∀ (l : List V) (vals : List Value), ps.length = l.length → IsVs h X l vals → Get (ps ++ rest) (callSt l rest) x e → ∃ v val, e = .v v ∧ (x, val) ∈ ps.zip vals ∧ IsV h X v val := by
  induction ps with
  | nil =>
    intro l vals hl hv g
    cases l with
    | nil => exact (get_none g).elim
    | cons a l => cases hl
  | cons p ps ih =>
    intro l vals hl hv g
    cases l with
    | nil => cases hl
    | cons v l =>
      cases vals with
      | nil => exact hv.elim
      | cons w vals =>
        have g' : Get (p :: (ps ++ rest)) (some (.v v) :: callSt l rest) x e := g
        cases g' with
        | head => exact ⟨v, w, rfl, .head _, hv.1⟩
        | tail g =>
          obtain ⟨v', val, e1, e2, e3⟩ := ih l vals (Nat.succ.inj hl) hv.2 g
          exact ⟨v', val, e1, .tail _ e2, e3⟩

noncomputable def cellAddrs (cs : List (Str × Addr)) : List Addr := (cs.filter fun x => cs.lookup x.1 == some x.2).map (·.2)
theorem mem_cellAddrs {cs : List (Str × Addr)} {c : Addr} : c ∈ cellAddrs cs ↔ ∃ n, cs.lookup n = some c := by
  unfold cellAddrs
  constructor
  · intro h
    obtain ⟨⟨n, c'⟩, hm, rfl⟩ := List.mem_map.mp h
    exact ⟨n, by simpa using (List.mem_filter.mp hm).2⟩
  · rintro ⟨n, h⟩
    exact List.mem_map.mpr ⟨(n, c), List.mem_filter.mpr ⟨lookup_mem h, by simpa using h⟩, rfl⟩

theorem bindL_at {kindOf : Str → Option NameKind} : ∀ {bs : List (Str × Value)} {m : Str → Option Value} {x : Str} {v : Value}, (bs.map (·.1)).Nodup → kindOf x = some .local → ((x, v) ∈ bs ∨ (x ∉ bs.map (·.1) ∧ m x = some v)) → bindL kindOf bs m x = some v
  | [], m, x, v, _, _, h => by
    rcases h with h | h
    · cases h
    · exact h.2
  | (n, w) :: r, m, x, v, nd, hk, h => by
    unfold bindL
    refine bindL_at (List.nodup_cons.mp nd).2 hk ?_
    rcases h with h | ⟨h1, h2⟩
    · rcases List.mem_cons.mp h with h | h
      · cases h
        exact .inr ⟨(List.nodup_cons.mp nd).1, by rw [if_pos hk]; simp⟩
      · exact .inl h
    · have hne : x ≠ n := fun e => h1 (by rw [e]; exact .head _)
      refine .inr ⟨fun q => h1 (.tail _ q), ?_⟩
      split
      · simp [hne, h2]
      · exact h2
theorem bindC_at {kindOf : Str → Option NameKind} : ∀ {bs : List (Str × Value)} {m : Str → Option Value} {x : Str} {v : Value}, (bs.map (·.1)).Nodup → kindOf x ≠ some .local → ((x, v) ∈ bs ∨ (x ∉ bs.map (·.1) ∧ m x = some v)) → bindC kindOf bs m x = some v
  | [], m, x, v, _, _, h => by
    rcases h with h | h
    · cases h
    · exact h.2
  | (n, w) :: r, m, x, v, nd, hk, h => by
    unfold bindC
    refine bindC_at (List.nodup_cons.mp nd).2 hk ?_
    rcases h with h | ⟨h1, h2⟩
    · rcases List.mem_cons.mp h with h | h
      · cases h
        exact .inr ⟨(List.nodup_cons.mp nd).1, by rw [if_neg hk]; simp⟩
      · exact .inl h
    · have hne : x ≠ n := fun e => h1 (by rw [e]; exact .head _)
      refine .inr ⟨fun q => h1 (.tail _ q), ?_⟩
      split
      · exact h2
      · simp [hne, h2]

section
variable {C : Cfg} {N : Nat}

theorem zip_fst : ∀ {ps : List Str} {vals : List Value}, ps.length = vals.length → (ps.zip vals).map (·.1) = ps
  | [], [], _ => rfl
  | p :: ps, v :: vals, h => by simp [zip_fst (ps := ps) (vals := vals) (by simpa using h)]
theorem IsVs.length {h : Heap} {X : Addr → Prop} : ∀ {l : List V} {vals : List Value}, IsVs h X l vals → l.length = vals.length
  | [], [], _ => rfl
  | _ :: _, _ :: _, d => by simp [IsVs.length d.2]
theorem fmw_start {name : Str} {scope : Scope} {L a : Addr} {cd : Value} {X : Addr → Prop} {h h₁ : Heap} {ps rest : List Str} {l : List V} {vals : List Value} (B : Base C h) (hL : h.objs.size ≤ L) (hX : ∀ b, X b → ∃ o, h.get? b = some o) (hv : IsVs h X l vals)
    (F : Fr h L h₁ (bindL (envOfC name scope L a cd).kindOf (ps.zip vals) fun _ => none)) (Z : Cl L (cellsFrom (L + 1) scope.names []) h₁ (bindC (envOfC name scope L a cd).kindOf (ps.zip vals) fun _ => none))
    (hlen : ps.length = l.length) (nd : (ps ++ rest).Nodup) (hk : scope.kind = .function) (hkinds : ∀ x ∈ ps ++ rest, scope.names.lookup x = some .local ∨ scope.names.lookup x = some .cell) :
    FmW C (envOfC name scope L a cd) (ps ++ rest) (L :: cellAddrs (cellsFrom (L + 1) scope.names [])) X (callSt l rest) h₁ := by
  have hcell : ∀ x, scope.names.lookup x = some .cell → ∃ c, (cellsFrom (L + 1) scope.names []).lookup x = some c := fun x hx => cellsFrom_some _ _ _ x (.inl (lookup_mem hx))
  have hPab : ∀ b ∈ L :: cellAddrs (cellsFrom (L + 1) scope.names []), h.objs.size ≤ b := fun b hb => by
    rcases List.mem_cons.mp hb with rfl | hb
    · exact hL
    · obtain ⟨n, hm⟩ := mem_cellAddrs.mp hb
      exact Nat.le_of_lt (Nat.lt_of_le_of_lt hL (Z.above n b (lookup_mem hm)))
  have hPn : ∀ b ∈ L :: cellAddrs (cellsFrom (L + 1) scope.names []), h.get? b = none := fun b hb => by
    cases e : h.get? b with
    | none => rfl
    | some o => exact absurd (Heap.lt_size e) (Nat.not_lt.mpr (hPab b hb))
  have ndz : ((ps.zip vals).map (·.1)).Nodup := by rw [zip_fst (hlen.trans hv.length)]; exact (List.nodup_append.mp nd).1
  exact {
    kind := hk, glob := rfl, blt := rfl, nd := nd
    kinds := fun x hx => (hkinds x hx).imp id fun q => ⟨q, hcell x q⟩
    ns := ⟨_, F.ns⟩
    locP := .head _
    cells := fun x c hc => ⟨.tail _ (mem_cellAddrs.mpr ⟨_, hc⟩), Nat.ne_of_gt (Z.above x c (lookup_mem hc)), _, Z.cell x c hc⟩
    apart := fun x y c hx hy => name_of_addr Z.apart (lookup_mem hx) (lookup_mem hy)
    vals := fun x v g => by
      obtain ⟨v', val, e1, e2, e3⟩ := get_call _ _ _ hlen hv g
      cases e1
      refine ⟨val, ?_, (e3.mono fun b o q ho => ?_).keep F.keep⟩
      · rcases hkinds x g.mem with q | q
        · exact .inl ⟨q, _, F.ns, bindL_at ndz q (.inl e2)⟩
        · obtain ⟨c, hc⟩ := hcell x q
          refine .inr ⟨q, c, hc, ?_⟩
          have := Z.cell x c hc
          rwa [bindC_at ndz (show (envOfC name scope L a cd).kindOf x ≠ _ from fun z => by rw [show (envOfC name scope L a cd).kindOf x = scope.names.lookup x from rfl, q] at z; cases z) (.inl e2)] at this
      · rcases q with q | q
        · exact q
        · rw [hPn b q] at ho; cases ho
    own := fun x l' g => by obtain ⟨_, _, e, _⟩ := get_call _ _ _ hlen hv g; cases e
    owns := fun x y l' l'' r g => by obtain ⟨_, _, e, _⟩ := get_call _ _ _ hlen hv g; cases e
    dis := fun b hb q => by obtain ⟨o, ho⟩ := hX b q; rw [hPn b hb] at ho; cases ho
    liveX := fun b q => let ⟨o, ho⟩ := hX b q; ⟨o, F.keep _ _ ho⟩
    liveP := fun b hb => by
      rcases List.mem_cons.mp hb with rfl | hb
      · obtain ⟨o, _, _, ho, _⟩ := F.ns; exact ⟨o, ho⟩
      · obtain ⟨n, hm⟩ := mem_cellAddrs.mp hb
        obtain ⟨o, ho, _⟩ := Z.cell n b hm
        exact ⟨o, ho⟩
    old := ⟨h, B, F.keep, hPn⟩ }

theorem FnS.room {name : Str} {l : List V} {v : V} {N' : Nat} (h : FnS C N name l v) (hN : N ≤ N') : FnS C N' name l v := ⟨h.1, fun A s X a vals Q hr => h.2 A s X a vals Q (hr.le hN)⟩

theorem FnS.of_body {d : DefRec} {ps rest : List Str} {l : List V} {v : V} (hd : d ∈ C.fns) (hlen : ps.length = l.length)
    (hb : ∀ L a cd, ExsS C N (envOfC d.name d.scope L a cd) (ps ++ rest) (callSt l rest) d.body (fun fl _ => fl = .ret v))
    (hbind : ∀ pm cd doc (vals : List Value), vals.length = ps.length → bindArgs (docDef d.name d.params d.body d.scope pm cd doc) ⟨vals, []⟩ = pure (ps.zip vals))
    (nd : (ps ++ rest).Nodup) (hkinds : ∀ x ∈ ps ++ rest, d.scope.names.lookup x = some .local ∨ d.scope.names.lookup x = some .cell)
    (hco : d.scope.isCoroutine = false := by rfl) (hgen : d.scope.isGenerator = false := by rfl) (hk : d.scope.kind = .function := by rfl) : FnS C (N + 1) d.name l v :=
  ⟨⟨d, hd, rfl⟩, fun A s X a vals Q hr B hm hX hv hq => by
    obtain ⟨a', o, pm, cd, doc, e1, e2, e3, e4⟩ := B.fn d hd
    rw [hm] at e1; cases e1
    refine wpAny_call (call_cells_ret (hr.depth) e2 e3 B.nolimit e4 (hbind pm cd doc vals (hlen.trans hv.length).symm) (fun x hx => ?_) (fun h₁ tk F Z => ?_) hco hgen hk)
    · have hx' : x.1 ∈ ps := by have := List.of_mem_zip (show (x.1, x.2) ∈ ps.zip vals from hx); exact this.1
      rcases hkinds x.1 (List.mem_append_left _ hx') with q | q
      · exact .inl q
      · obtain ⟨c, hc⟩ := cellsFrom_some _ (s.heap.objs.size + 1) [] x.1 (.inl (lookup_mem q))
        exact .inr ⟨q, by rw [hc]; rfl⟩
    · have Fm := fmw_start (a := a) (cd := cd) B (Nat.le_refl _) hX hv F Z hlen nd hk hkinds
      refine (hb _ a cd).run _ { s with heap := h₁, toks := tk } _ X _ (hr.deeper _) Fm fun f s' fl σ' hp ha => ?_
      subst hp
      obtain ⟨val, rfl, hval⟩ := ha.fl
      refine hq val s' hval ?_
      obtain ⟨h', tk', g', e, kk, gg⟩ := ha.ext
      subst e
      refine ⟨h', tk', g', rfl, fun b o e => kk b o (fun q => ?_) (F.keep b o e), gg, fun q => by cases q⟩
      obtain ⟨h₀, b₀, k₀, n₀⟩ := Fm.old
      have hlt := Heap.lt_size e
      rcases List.mem_cons.mp q with rfl | q
      · exact absurd hlt (Nat.lt_irrefl _)
      · obtain ⟨n, hm'⟩ := mem_cellAddrs.mp q
        exact absurd hlt (Nat.not_lt.mpr (Nat.le_of_lt (Z.above n b (lookup_mem hm'))))⟩
end
end Mine
end partMN

section partPA
open PySem PySem.Calls PyProof.Rows
set_option maxRecDepth 100000
set_option linter.all false
namespace Mine
noncomputable def recOf : Stmt → Option DefRec
  | .FunctionDef name a b _ _ _ sc _ _ pos => some ⟨name, a, b, sc, pos⟩
  | _ => none
noncomputable def recAt (k : Nat) : Option DefRec := PySem.Challenge.pw_ph0123_01.main.body[k]?.bind recOf
noncomputable def gEsc : {d : DefRec // recAt 1 = some d} := ⟨_, rfl⟩
noncomputable def gStrip : {d : DefRec // recAt 2 = some d} := ⟨_, rfl⟩
noncomputable def gCheck : {d : DefRec // recAt 3 = some d} := ⟨_, rfl⟩
noncomputable def gTerm : {d : DefRec // recAt 56 = some d} := ⟨_, rfl⟩
noncomputable def gEof : {d : DefRec // recAt 57 = some d} := ⟨_, rfl⟩
noncomputable def gStart : {d : DefRec // recAt 59 = some d} := ⟨_, rfl⟩
noncomputable def gCut : {d : DefRec // recAt 60 = some d} := ⟨_, rfl⟩
noncomputable def gDue : {d : DefRec // recAt 61 = some d} := ⟨_, rfl⟩
noncomputable def gStretch : {d : DefRec // recAt 62 = some d} := ⟨_, rfl⟩
noncomputable def gMate : {d : DefRec // recAt 63 = some d} := ⟨_, rfl⟩
noncomputable def gHooked : {d : DefRec // recAt 64 = some d} := ⟨_, rfl⟩
noncomputable def gShort : {d : DefRec // recAt 65 = some d} := ⟨_, rfl⟩
noncomputable def gTwin : {d : DefRec // recAt 66 = some d} := ⟨_, rfl⟩
noncomputable def gLaw : {d : DefRec // recAt 67 = some d} := ⟨_, rfl⟩

structure World1 (C : Cfg) : Prop where
  fns : ∀ k d, recAt k = some d → d ∈ C.fns
  off : ∃ t, C.mg "NT_OFFSET" = some (.int 256 t)
  endm : ∃ t, C.mg "ENDMARKER" = some (.int 0 t)

section
variable {C : Cfg} {p c : Bool} {N : Nat} {env : Env} {vs : List Str} {σ : St}
theorem EvS.gint {x : Str} {pos : Pos} {i : Int} (hm : ∃ t, C.mg x = some (.int i t)) (hx : env.kindOf x = some .globalImplicit := by rfl) (hd : (x == ("__debug__" : Str)) = false := by decide) : EvS C p c N env vs σ (.Name x pos) (.at (.int i)) := .mk fun A s X Q hr hf hq => by
  obtain ⟨t, e⟩ := hm
  exact wp_global hf e hx hd (hq _ _ ⟨_, rfl⟩ (.refl ..))
end


variable {C : Cfg}
theorem term_ok (W : World1 C) (x : Int) : FnS C 20 "ISTERMINAL" [.at (.int x)] (.at (.bool (decide (x < 256)))) := by
  refine FnS.of_body (N := 19) (d := gTerm.1) (ps := ["x"]) (rest := []) (W.fns _ _ gTerm.2) rfl (fun L a cd => ?_) (by ((intro pm cd doc vals h; obtain ⟨a1, ee⟩ := len1 h; subst ee; rfl))) (by decide) (by decide)
  show ExsS C 19 _ ["x"] [some (.v (.at (.int x)))] _ _
  refine ExsS.cons (ExS.ret (v := .at (.bool (decide (x < 256)))) ?_ rfl)
  exact EvS.cmp (c₁ := false) (c₂ := false) (EvS.name .head) (EvS.gint W.off) CmpS.ltI
theorem eof_ok (W : World1 C) (x : Int) : FnS C 20 "ISEOF" [.at (.int x)] (.at (.bool (x == 0))) := by
  refine FnS.of_body (N := 19) (d := gEof.1) (ps := ["x"]) (rest := []) (W.fns _ _ gEof.2) rfl (fun L a cd => ?_) (by ((intro pm cd doc vals h; obtain ⟨a1, ee⟩ := len1 h; subst ee; rfl))) (by decide) (by decide)
  show ExsS C 19 _ ["x"] [some (.v (.at (.int x)))] _ _
  refine ExsS.cons (ExS.ret (v := .at (.bool (x == 0))) ?_ rfl)
  exact EvS.cmp (c₁ := false) (c₂ := false) (EvS.name .head) (EvS.gint W.endm) CmpS.eqI
end Mine
end partPA

section partMO
open PySem PySem.Calls PyProof.Rows
set_option maxRecDepth 100000
set_option linter.all false
namespace Mine

section
variable {prog : Program} {w : World} {A : Around} {R : GenEnd} {Y : Protocol} {n : Nat} {s₀ : Shared} {c : Code} {fs : List Frame} {s : Shared} {env : Env}
  {K : Flow → Sem Fin} {H : Value → Sem Fin} {gd : Bool → Bool} {lv : List Value → List Value}

theorem seg_st {st : Stmt} (h : wpAny (model prog w) (A.over c fs) (exec st env) (fun f s' => Seg (model prog w) A R Y n s₀ c (K f) fs s') (fun _ _ => False) s) :
    Seg (model prog w) A R Y n s₀ c ((exec st env).wrap K H gd lv) fs s := seg_wrap (wpAny_mono h (fun _ _ x => x) fun _ _ x => x.elim)

theorem seg_If {t : Expr} {body orelse : List Stmt} {pos : Pos}
    (h : wpAny (model prog w) (A.over c fs) (isTrue t env (eval t env)) (fun b s' => Seg (model prog w) A R Y n s₀ c ((if b = true then execs body env else execs orelse env).wrap K H gd lv) fs s') (fun _ _ => False) s) :
    Seg (model prog w) A R Y n s₀ c ((exec (.If t body orelse pos) env).wrap K H gd lv) fs s := by
  rw [exec_If]
  refine seg_bind_wrap (wpAny_standAt ?_)
  refine seg_bind_wrap (wpAny_mono h (fun b s' x => ?_) fun _ _ x => x.elim)
  exact x

theorem seg_For {target iter : Expr} {body orelse : List Stmt} {pos : Pos}
    (h : wpAny (model prog w) (A.over c fs) (eval iter env) (fun x s₁ => wpAny (model prog w) (A.over c fs) (pyIter x) (fun it s₂ =>
      ∀ p, Seg (model prog w) A R Y n s₀ (.forLoop target it body orelse env) ((model prog w).den (.forLoop target it body orelse env))
      (.ret (fun r => ((match r with | .ok f => (.pure f : Sem Flow) | .error e => .raise e).onRaise fun (x : Value) => do
        if (← field x 1) == Value.none then unsupported "frame.own-activation:exception-without-traceback"
        setFlight x env.frame).wrap K H gd lv) none (gd false) (lv []) c p [] :: fs) s₂) (fun _ _ => False) s₁) (fun _ _ => False) s)
    (hs : ∀ x, foldedSetIterable iter env x = pure x := by intro _; rfl) :
    Seg (model prog w) A R Y n s₀ c ((exec (.For target iter body orelse pos) env).wrap K H gd lv) fs s := by
  rw [exec_For]
  refine seg_bind_wrap (wpAny_standAt ?_)
  refine seg_bind_wrap (wpAny_mono h (fun x s₁ h₁ => ?_) fun _ _ x => x.elim)
  refine seg_bind_wrap (wpAny_of_eq (hs x) ?_)
  refine seg_bind_wrap (wpAny_standAt ?_)
  refine seg_bind_wrap (wpAny_holding (wpAny_mono h₁ (fun it s₂ h₂ => ?_) fun _ _ x => x.elim))
  exact seg_call h₂

@[reducible] noncomputable def forK (target : Expr) (it : Value) (body orelse : List Stmt) (env : Env) : Flow → Sem Fin := fun f => match f with
  | .next | .cont => .pure (.again (.forLoop target it body orelse env))
  | .brk => .pure (.done .next)
  | .ret v => .pure (.done (.ret v))

theorem seg_forLoop {target : Expr} {it : Value} {body orelse : List Stmt} {H' : Value → Sem Fin} (hH : H' = fun e => (do noteFrame e env; theTreesLotGoes e : Sem Unit).bind (fun _ => .raise e))
    (h : wpAny (model prog w) (A.over (.forLoop target it body orelse env) fs) (pyNext it) (fun r s₁ => match r with
      | none => Seg (model prog w) A R Y n s₀ (.block orelse env) ((model prog w).den (.block orelse env)) fs s₁
      | some v => wpAny (model prog w) (A.over (.forLoop target it body orelse env) fs) (letOwnedTupleGo target it v) (fun _ s₂ =>
          wpAny (model prog w) (A.over (.forLoop target it body orelse env) fs) (assign target env v) (fun _ s₃ =>
            Seg (model prog w) A R Y n s₀ (.forLoop target it body orelse env) ((execs body env).wrap (forK target it body orelse env) H' id id) fs s₃) (fun _ _ => False) s₂) (fun _ _ => False) s₁) (fun _ _ => False) s) :
    Seg (model prog w) A R Y n s₀ (.forLoop target it body orelse env) ((model prog w).den (.forLoop target it body orelse env)) fs s := by
  subst hH
  show Seg _ A R Y n s₀ _ ((forTurn target it body orelse env).onRaise (fun x => do noteFrame x env; theTreesLotGoes x)) fs s
  unfold forTurn
  rw [Sem.onRaise_eq_wrap]
  refine seg_bind_wrap (wpAny_standAt ?_)
  refine seg_bind_wrap (wpAny_onRaise (wpAny_mono h (fun r s₁ h₁ => ?_) fun _ _ x => x.elim))
  cases r with
  | none => exact seg_again rfl h₁
  | some v =>
    refine seg_bind_wrap (wpAny_mono h₁ (fun _ s₂ h₂ => ?_) fun _ _ x => x.elim)
    refine seg_bind_wrap (wpAny_mono h₂ (fun _ s₃ h₃ => ?_) fun _ _ x => x.elim)
    rw [Sem.bind_eq_wrap', Sem.wrap_wrap]
    rw [Sem.wrap_congr (execs body env) _ _ (K' := forK target it body orelse env) (H' := fun e => (do noteFrame e env; theTreesLotGoes e : Sem Unit).bind (fun _ => .raise e)) (fun f => by cases f <;> rfl) (fun e => by rfl)]
    exact h₃

theorem seg_block_nil (h : ∀ c', Seg (model prog w) A R Y n s₀ c' (leafOf (.ok .next)) fs s) : Seg (model prog w) A R Y n s₀ (.block [] env) ((model prog w).den (.block [] env)) fs s := h _
end
end Mine
end partMO

section partMP
open PySem PySem.Calls PyProof.Rows
set_option maxRecDepth 100000
set_option linter.all false
namespace Mine

noncomputable def bsl : Str := "\\"
noncomputable def escGo : Nat → Bool → List Nat → List (Int × Str)
  | _, _, [] => []
  | i, true, c :: r => ((i : Int), bsl ++ ⟨#[c]⟩) :: escGo (i + 1) false r
  | i, false, c :: r => if ((⟨#[c]⟩ : Str) == bsl) = true then escGo (i + 1) true r else ((i : Int), ⟨#[c]⟩) :: escGo (i + 1) false r
noncomputable def escFl : Bool → List Nat → Bool
  | esc, [] => esc
  | true, _ :: r => escFl false r
  | false, c :: r => if ((⟨#[c]⟩ : Str) == bsl) = true then escFl true r else escFl false r

noncomputable def gFor : {x : Expr × Expr × List Stmt // (match gEsc.1.body[2]? with | some (Stmt.For t i b [] _) => some (t, i, b) | _ => none) = some x} := ⟨_, rfl⟩
noncomputable abbrev gEnv (L a : Addr) (cd : Value) : Env := envOfC gEsc.1.name gEsc.1.scope L a cd

structure Mv (L e it : Addr) (s₀ s₁ : Shared) : Prop where
  ex : ∃ h' tk, s₁ = { s₀ with heap := h', toks := tk }
  keep : ∀ b o, b ≠ L → b ≠ e → b ≠ it → s₀.heap.get? b = some o → s₁.heap.get? b = some o
theorem Mv.trans {L e it : Addr} {s s' s'' : Shared} (x : Mv L e it s s') (y : Mv L e it s' s'') : Mv L e it s s'' := by
  obtain ⟨⟨h', tk, rfl⟩, k⟩ := x
  obtain ⟨⟨h'', tk', rfl⟩, k'⟩ := y
  exact ⟨⟨h'', tk', rfl⟩, fun b o q r t z => k' b o q r t (k b o q r t z)⟩
theorem Mv.refl (L e it : Addr) (s : Shared) : Mv L e it s s := ⟨⟨s.heap, s.toks, rfl⟩, fun _ _ _ _ _ z => z⟩
theorem Mv.of {L e it : Addr} {s : Shared} {h' : Heap} {tk : Nat} (k : ∀ b o, b ≠ L → b ≠ e → b ≠ it → s.heap.get? b = some o → h'.get? b = some o) : Mv L e it s { s with heap := h', toks := tk } := ⟨⟨_, _, rfl⟩, k⟩
theorem Mv.keeps {L e it : Addr} {s s' : Shared} (x : Keeps s s') : Mv L e it s s' := by
  obtain ⟨h', tk, rfl, k⟩ := x
  exact .of fun b o _ _ _ z => k b o z

section
variable {C : Cfg} {L e it a : Addr} {cd : Value} {x : Str}

structure BaseO (C : Cfg) (L e it : Addr) (h : Heap) : Prop where
  ex : ∃ h₀, Base C h₀ ∧ HKeep h₀ h ∧ h₀.get? L = none ∧ h₀.get? e = none ∧ h₀.get? it = none
theorem BaseO.base {h : Heap} (B : BaseO C L e it h) : Base C h := let ⟨h₀, b, k, _⟩ := B.ex; b.keep k
theorem BaseO.mv {s s' : Shared} (B : BaseO C L e it s.heap) (x : Mv L e it s s') : BaseO C L e it s'.heap := by
  obtain ⟨h₀, b, k, n1, n2, n3⟩ := B.ex
  exact ⟨h₀, b, fun z o q => x.keep z o (fun y => by rw [y, n1] at q; cases q) (fun y => by rw [y, n2] at q; cases q) (fun y => by rw [y, n3] at q; cases q) (k z o q), n1, n2, n3⟩

noncomputable def escY (C : Cfg) (L e it : Addr) (items : List (Int × Str)) : Protocol := fun n s₀ v s₁ kap =>
  (∃ p c r, items.drop (items.length - (n + 1)) = (p, c) :: r ∧ IsV s₁.heap (fun _ => False) (.tup [.int p, .str c]) v) ∧ Mv L e it s₀ s₁ ∧ (∀ b, b = L ∨ b = e ∨ b = it → ∃ o, s₁.heap.get? b = some o) ∧
    ∀ s'' : Shared, BaseO C L e it s''.heap → (∀ b, b = L ∨ b = e ∨ b = it → ∀ o, s₁.heap.get? b = some o → s''.heap.get? b = some o) → kap (.send .none) s''
noncomputable def escR (L e it : Addr) : GenEnd := fun n s₀ r s₁ => r = .ok (.ret .none) ∧ (n = 0 ∧ Mv L e it s₀ s₁)

theorem fm_ns {env : Env} {h : Heap} {vs : List Str} {σ : St} {m : Str → Option Value} (hk : env.scope.kind = .function) (hg : env.globals = mainGlobals) (hb : env.builtins = builtinsNs) (B : Base C h) (ns : h.Ns env.locals m)
    (hv : ∀ x e, Get vs σ x e → ∃ a val, e = .v (.at a) ∧ m x = some val ∧ IsAt a val ∧ env.kindOf x = some .local) : Fm C env vs (fun _ => False) σ h :=
  ⟨hk, hg, hb, B, fun x e g => by obtain ⟨a, val, rfl, r, t, u⟩ := hv x e g; exact ⟨val, .inl ⟨u, m, ns, r⟩, t⟩, fun _ x => x.elim⟩

structure GF (C : Cfg) (L e it : Addr) (x : Str) (m : Str → Option Value) (h : Heap) : Prop where
  ns : h.Ns L m
  addr : ∃ t, m "addr" = some (.str x t)
  old : BaseO C L e it h

theorem drop_rem {items pre rem : List (Int × Str)} (h : items = pre ++ rem) : items.drop (items.length - rem.length) = rem := by
  subst h; simp

theorem esc_fm1 {m : Str → Option Value} {h : Heap} {b : Bool} (F : GF C L e it x m h) (he : m "escape" = some (.bool b)) : Fm C (gEnv L a cd) ["escape"] (fun _ => False) [some (.v (.at (.bool b)))] h :=
  fm_ns rfl rfl rfl F.old.base F.ns fun y e g => by
    cases g with
    | head => exact ⟨_, _, rfl, he, rfl, rfl⟩
    | tail g => cases g
theorem esc_fm2 {m : Str → Option Value} {h : Heap} {p : Int} {t u : Tok} {c : Str} (F : GF C L e it x m h) (hp : m "pos" = some (.int p t)) (hc : m "ch" = some (.str c u)) : Fm C (gEnv L a cd) ["pos", "ch"] (fun _ => False) [some (.v (.at (.int p))), some (.v (.at (.str c)))] h :=
  fm_ns rfl rfl rfl F.old.base F.ns fun y e g => by
    cases g with
    | head => exact ⟨_, _, rfl, hp, ⟨_, rfl⟩, rfl⟩
    | tail g =>
      cases g with
      | head => exact ⟨_, _, rfl, hc, ⟨_, rfl⟩, rfl⟩
      | tail g => cases g
theorem GF.keeps {m : Str → Option Value} {s s' : Shared} (F : GF C L e it x m s.heap) (k : Keeps s s') : GF C L e it x m s'.heap := by
  have mv := Mv.keeps (L := L) (e := e) (it := it) k
  obtain ⟨h', tk, rfl, k⟩ := k
  exact ⟨F.ns.keeps k, F.addr, F.old.mv mv⟩
theorem GF.put {m : Str → Option Value} {s : Shared} {h' : Heap} {y : Str} {v : Value} (F : GF C L e it x m s.heap) (hn : h'.Ns L (fun z => if z = y then some v else m z)) (hs : Heap.SameBut L s.heap h') (hy : y ≠ "addr") : GF C L e it x (fun z => if z = y then some v else m z) h' := by
  refine ⟨hn, ?_, F.old.mv (s' := { s with heap := h', toks := s.toks }) (.of fun b o q _ _ z => hs.extBut b o q z)⟩
  obtain ⟨t, ht⟩ := F.addr
  exact ⟨t, by simp [Ne.symm hy, ht]⟩

theorem esc_loop {A : Around} {St : Nat → Heap → Prop} {Mid : Nat → Addr → Heap → Prop} {Pt : Nat → Array Value → Prop} (items : List (Int × Str)) (hr : Rm A 40)
    (W₀ : ∀ A' : Around, A'.handled = none → WalksT C.prog C.w A' e [e, it] [e, it] x.cps.size Pt St Mid) (hPt : ∀ i vals, Pt i vals → ∃ t c u, x.cps[i]? = some c ∧ vals = #[.int i t, .str ⟨#[c]⟩ u])
    (hlv : ∀ i h, St i h → ∀ b, b = e ∨ b = it → ∃ o, h.get? b = some o) (hLe : L ≠ e) (hLi : L ≠ it) {k : Result → Sem Fin} {c₁ : Code} {p₁ : Pos}
    (hroom : Rm (A.over (.forLoop gFor.1.1 (.ref e) gFor.1.2.2 [] (gEnv L a cd)) [.ret k none false [] c₁ p₁ []]) 20)
    (fin : ∀ s₀ s m, GF C L e it x m s.heap → m "escape" = some (.bool false) → Mv L e it s₀ s →
      Seg (model C.prog C.w) A (escR L e it) (escY C L e it items) 0 s₀ c₁ (k (.ok .next)) [] s) :
    ∀ (j i : Nat) (esc : Bool) (s₀ s : Shared) (m : Str → Option Value), i + j = x.cps.size → St i s.heap → GF C L e it x m s.heap → m "escape" = some (.bool esc) → Mv L e it s₀ s → escFl esc (x.cps.toList.drop i) = false →
      (∃ pre, items = pre ++ escGo i esc (x.cps.toList.drop i)) →
      Seg (model C.prog C.w) A (escR L e it) (escY C L e it items) (escGo i esc (x.cps.toList.drop i)).length s₀ (.forLoop gFor.1.1 (.ref e) gFor.1.2.2 [] (gEnv L a cd))
        ((model C.prog C.w).den (.forLoop gFor.1.1 (.ref e) gFor.1.2.2 [] (gEnv L a cd))) [.ret k none false [] c₁ p₁ []] s := by
  intro j
  induction j with
  | zero =>
    intro i esc s₀ s m hi hst hF hesc hmv hfl hpre
    have hi' : i = x.cps.size := by omega
    subst hi'
    rw [show x.cps.toList.drop x.cps.size = [] by simp] at hpre hfl ⊢
    cases (show esc = false from hfl)
    refine seg_forLoop rfl ((W₀ _ hroom.h).done s _ _ hst fun h' tk hk' => ?_)
    refine seg_block_nil fun c' => seg_leaf _ ?_
    have mv : Mv L e it s { s with heap := h', toks := tk } := .of fun b o q r t z => hk' b o (by simp [r, t]) z
    exact fin s₀ _ m ⟨hF.ns.at' fun o e => hk' _ o (by simp [hLe, hLi]) e, hF.addr, hF.old.mv mv⟩ hesc (hmv.trans mv)
  | succ j ih =>
    intro i esc s₀ s m hi hst hF hesc hmv hfl hpre
    have hlt : i < x.cps.size := by omega
    refine seg_forLoop rfl ((W₀ _ hroom.h).item i s _ _ hlt hst fun T vals h₁ tk₁ hP hTs hT hMid hk₁ => ?_)
    obtain ⟨t, c, u, hc, rfl⟩ := hPt _ _ hP
    have hdrop : x.cps.toList.drop i = c :: x.cps.toList.drop (i + 1) := by
      rw [List.drop_eq_getElem_cons (by simpa using hlt)]
      congr 1
      rw [Array.getElem?_eq_getElem hlt] at hc
      simpa using Option.some.inj hc
    rw [hdrop] at hfl hpre ⊢
    have hap := (W₀ _ hroom.h).apart _ _ _ hMid
    refine (W₀ _ hroom.h).go _ _ _ i T { s with heap := h₁, toks := tk₁ } _ _ hMid fun h₂ hst₂ hk₂ => ?_
    have hT₂ : IsTup h₂ T #[.int i t, .str ⟨#[c]⟩ u] := by obtain ⟨o, ho, r⟩ := hT; exact ⟨o, hk₂ _ _ hap ho, r⟩
    refine assign_Tuple_tuple (s := { s with heap := h₂, toks := tk₁ }) hroom.h hT₂ rfl rfl fun h₃ hx₃ => ?_
    have k3 : HKeep h₂ h₃ := fun b o e => hx₃ b o (Nat.ne_of_lt (Heap.lt_size e)) e
    have mv3 : Mv L e it s { s with heap := h₃, toks := tk₁ } := .of fun b o q r t z => k3 b o (hk₂ b o (by simp [r, t]) (hk₁ b o (by simp [r, t]) z))
    have F₃ : GF C L e it x m h₃ := ⟨((hF.ns.at' fun o e => hk₁ _ o (by simp [hLe, hLi]) e).at' fun o e => hk₂ _ o (by simp [hLe, hLi]) e).keeps k3, hF.addr, hF.old.mv mv3⟩
    have S₃ : St (i + 1) h₃ := (W₀ _ hroom.h).frame _ _ _ hst₂ fun b _ o e => k3 b o e
    refine assignInOrder_cons ?_
    show wpAny _ _ (PySem.assign (.Name "pos" _) (gEnv L a cd) (.int i t)) _ _ _
    refine wpAny_assign_Name (wpAny_storeName_local (env := gEnv L a cd) rfl F₃.ns fun h₄ ns₄ hs₄ => ?_)
    have F₄ := GF.put (s := { s with heap := h₃, toks := tk₁ }) F₃ ns₄ hs₄ (by decide)
    refine assignInOrder_cons ?_
    show wpAny _ _ (PySem.assign (.Name "ch" _) (gEnv L a cd) (.str ⟨#[c]⟩ u)) _ _ _
    refine wpAny_assign_Name (wpAny_storeName_local (env := gEnv L a cd) rfl F₄.ns fun h₅ ns₅ hs₅ => ?_)
    have F₅ := GF.put (s := { s with heap := h₄, toks := tk₁ }) F₄ ns₅ hs₅ (by decide)
    refine assignInOrder_nil ?_
    obtain ⟨m₅, hm₅⟩ : ∃ m' : Str → Option Value, m' = (fun (z : Str) => if z = ("ch" : Str) then some (Value.str ⟨#[c]⟩ u) else if z = ("pos" : Str) then some (Value.int i t) else m z) := ⟨_, rfl⟩
    have F₅ : GF C L e it x m₅ h₅ := hm₅ ▸ F₅
    have v1 : m₅ "pos" = some (.int i t) := by rw [hm₅]; rfl
    have v2 : m₅ "ch" = some (.str ⟨#[c]⟩ u) := by rw [hm₅]; rfl
    have v3 : m₅ "escape" = some (.bool esc) := by rw [hm₅]; exact hesc
    clear hm₅
    have S₅ : St (i + 1) h₅ := (W₀ _ hroom.h).frame _ _ _ S₃ fun b hb o z => by
      have hbL : b ≠ L := fun q => by subst q; rcases List.mem_cons.mp hb with q | q; exact hLe q; exact hLi (List.mem_singleton.mp q)
      exact hs₅.extBut b o hbL (hs₄.extBut b o hbL z)
    generalize tk₁ + 1 + 1 = tk₅
    have mv5 : Mv L e it s₀ { s with heap := h₅, toks := tk₅ } := hmv.trans (.of fun b o q r t z => hs₅.extBut b o q (hs₄.extBut b o q (mv3.keep b o q r t z)))
    have agn : ∀ (b : Bool) (s₀' s' : Shared) (m' : Str → Option Value), GF C L e it x m' s'.heap → m' "escape" = some (.bool b) → St (i + 1) s'.heap → Mv L e it s₀' s' → escFl b (x.cps.toList.drop (i + 1)) = false → (∃ pre, items = pre ++ escGo (i + 1) b (x.cps.toList.drop (i + 1))) →
        Seg (model C.prog C.w) A (escR L e it) (escY C L e it items) (escGo (i + 1) b (x.cps.toList.drop (i + 1))).length s₀' (.forLoop gFor.1.1 (.ref e) gFor.1.2.2 [] (gEnv L a cd))
          (.pure (.again (.forLoop gFor.1.1 (.ref e) gFor.1.2.2 [] (gEnv L a cd)))) [.ret k none false [] c₁ p₁ []] s' :=
      fun b s₀' s' m' F' hb S' mv' fl' pre' => seg_again rfl (ih (i + 1) b s₀' s' m' (by omega) S' F' hb mv' fl' pre')
    have hsto : ∀ (b : Bool) (q1 q2 q3 : Pos) (s₀' s' : Shared) (m' : Str → Option Value), GF C L e it x m' s'.heap → St (i + 1) s'.heap → Mv L e it s₀' s' → escFl b (x.cps.toList.drop (i + 1)) = false → (∃ pre, items = pre ++ escGo (i + 1) b (x.cps.toList.drop (i + 1))) →
        wpAny (model C.prog C.w) (A.over (.forLoop gFor.1.1 (.ref e) gFor.1.2.2 [] (gEnv L a cd)) [.ret k none false [] c₁ p₁ []]) (exec (.Assign [.Name "escape" q1] (.Constant (.bool b) 0 q2) q3) (gEnv L a cd))
          (fun f s'' => f = .next ∧ Seg (model C.prog C.w) A (escR L e it) (escY C L e it items) (escGo (i + 1) b (x.cps.toList.drop (i + 1))).length s₀' (.forLoop gFor.1.1 (.ref e) gFor.1.2.2 [] (gEnv L a cd))
            (.pure (.again (.forLoop gFor.1.1 (.ref e) gFor.1.2.2 [] (gEnv L a cd)))) [.ret k none false [] c₁ p₁ []] s'') (fun _ _ => False) s' := fun b q1 q2 q3 s₀' s' m' F' S' mv' fl' pre' => by
      refine wpAny_Assign_Name (wpAny_Constant_bool (wpAny_storeName_local (env := gEnv L a cd) rfl F'.ns fun h₇ ns₇ hs₇ => ⟨rfl, ?_⟩)) rfl
      refine agn b s₀' { s' with heap := h₇, toks := s'.toks + 1 } _ (GF.put F' ns₇ hs₇ (by decide)) rfl ?_ (mv'.trans (.of fun b o q _ _ z => hs₇.extBut b o q z)) fl' pre'
      exact (W₀ _ hroom.h).frame _ _ _ S' fun b hb o z => by
        have hbL : b ≠ L := fun q => by subst q; rcases List.mem_cons.mp hb with q | q; exact hLe q; exact hLi (List.mem_singleton.mp q)
        exact hs₇.extBut b o hbL z
    have kp : ∀ {s s' : Shared}, Keeps s s' → HKeep s.heap s'.heap := fun {s s'} ⟨_, _, q, r⟩ => by subst q; exact r
    have Sk : ∀ {s s' : Shared}, Keeps s s' → St (i + 1) s.heap → St (i + 1) s'.heap := fun {s s'} q st => (W₀ _ hroom.h).frame _ _ _ st fun b _ o z => kp q b o z
    refine seg_execs_cons (seg_If ?_)
    have t1 : ∀ q, TsS C true 20 (gEnv L a cd) ["escape"] [some (.v (.at (.bool esc)))] (.Name "escape" q) esc := fun q => TsS.val (c' := false) (EvS.name .head) TruS.bool
    refine (t1 _).run _ { s with heap := h₅, toks := tk₅ } _ _ hroom (esc_fm1 F₅ v3) fun s₆ e₆ => ?_
    have F₆ := F₅.keeps (s := { s with heap := h₅, toks := tk₅ }) e₆.keeps
    have S₆ := Sk (s := { s with heap := h₅, toks := tk₅ }) e₆.keeps S₅
    have mv6 := mv5.trans (.keeps e₆.keeps)
    cases esc with
    | true =>
      rw [if_pos rfl]
      show Seg _ A _ _ ((escGo (i + 1) false (x.cps.toList.drop (i + 1))).length + 1) s₀ _ _ _ s₆
      refine seg_execs_cons (seg_Expr_Yield rfl rfl rfl ?_)
      have ev : ∀ q1 q2 q3 q4 q5, EvS C true false 20 (gEnv L a cd) ["pos", "ch"] [some (.v (.at (.int i))), some (.v (.at (.str ⟨#[c]⟩)))] (.Tuple [.Name "pos" q1, .BinOp (.Constant (.str "\\") 0 q2) .Add (.Name "ch" q3) q4] 0 q5) (.tup [.int i, .str (bsl ++ ⟨#[c]⟩)]) := fun q1 q2 q3 q4 q5 =>
        EvS.tup (EvsS.cons (EvS.name .head) (EvsS.cons (EvS.bin EvS.str (EvS.name (.tail .head)) (BinS.cat (show 1 + 1 ≤ sizeLine by decide))) EvsS.nil)) rfl (show 2 ≤ 1000 by decide)
      refine wpAny_mono ((ev _ _ _ _ _).run _ s₆ _ (fun v s₇ => IsV s₇.heap (fun _ => False) (.tup [.int i, .str (bsl ++ ⟨#[c]⟩)]) v ∧ Keeps s₆ s₇) hroom (esc_fm2 F₆ v1 v2) fun v s₇ d e₇ => ⟨d.any, e₇.keeps⟩) (fun v s₇ ⟨d, e₇⟩ kap hkap => ?_) fun _ _ x => x.elim
      have F₇ := F₆.keeps e₇
      have S₇ := Sk e₇ S₆
      have mv7 := mv6.trans (.keeps e₇)
      refine ⟨⟨_, _, _, drop_rem hpre.choose_spec, d⟩, mv7, fun b hb => ?_, fun s₈ B₈ k₈ => hkap .none s₈ ?_⟩
      · rcases hb with rfl | hb
        · obtain ⟨o, _, _, ho, _⟩ := F₇.ns; exact ⟨o, ho⟩
        · exact hlv _ _ S₇ b hb
      · have F₈ : GF C L e it x m₅ s₈.heap := ⟨F₇.ns.at' fun o z => k₈ _ (.inl rfl) o z, F₇.addr, B₈⟩
        have S₈ : St (i + 1) s₈.heap := (W₀ _ hroom.h).frame _ _ _ S₇ fun b hb o z => k₈ b (.inr (by simpa using hb)) o z
        obtain ⟨pre, hpre⟩ := hpre
        refine seg_execs_cons (seg_st (wpAny_mono (hsto false _ _ _ s₈ s₈ m₅ F₈ S₈ (.refl ..) hfl ⟨pre ++ [((i : Int), bsl ++ ⟨#[c]⟩)], by rw [hpre]; simp [escGo]⟩) (fun f s₉ ⟨hf, h₉⟩ => ?_) fun _ _ x => x))
        subst hf
        exact seg_execs_nil h₉
    | false =>
      rw [if_neg Bool.false_ne_true]
      refine seg_execs_cons (seg_If ?_)
      have t2 : ∀ q1 q2 q3, TsS C true 20 (gEnv L a cd) ["pos", "ch"] [some (.v (.at (.int i))), some (.v (.at (.str ⟨#[c]⟩)))] (.Compare (.Name "ch" q1) [.Eq] [.Constant (.str "\\") 0 q2] q3) ((⟨#[c]⟩ : Str) == bsl) := fun q1 q2 q3 =>
        TsS.cmp (c₁ := false) (c₂ := false) (EvS.name (.tail .head)) EvS.str CmpS.eqS
      refine (t2 _ _ _).run _ s₆ _ _ hroom (esc_fm2 F₆ v1 v2) fun s₇ e₇ => ?_
      have F₇ := F₆.keeps e₇.keeps
      have S₇ := Sk e₇.keeps S₆
      have mv7 := mv6.trans (.keeps e₇.keeps)
      obtain ⟨pre, hpre⟩ := hpre
      cases hcb : ((⟨#[c]⟩ : Str) == bsl) with
      | true =>
        simp only [escGo, escFl, hcb, if_true] at hfl hpre ⊢
        refine seg_execs_cons (seg_st (wpAny_mono (hsto true _ _ _ s₀ s₇ m₅ F₇ S₇ mv7 hfl ⟨pre, hpre⟩) (fun f s₉ ⟨hf, h₉⟩ => ?_) fun _ _ x => x))
        subst hf
        exact seg_execs_nil h₉
      | false =>
        simp only [escGo, escFl, hcb, Bool.false_eq_true, if_false] at hfl hpre ⊢
        show Seg _ A _ _ ((escGo (i + 1) false (x.cps.toList.drop (i + 1))).length + 1) s₀ _ _ _ s₇
        refine seg_execs_cons (seg_Expr_Yield rfl rfl rfl ?_)
        have ev : ∀ q1 q3 q5, EvS C true false 20 (gEnv L a cd) ["pos", "ch"] [some (.v (.at (.int i))), some (.v (.at (.str ⟨#[c]⟩)))] (.Tuple [.Name "pos" q1, .Name "ch" q3] 0 q5) (.tup [.int i, .str ⟨#[c]⟩]) := fun q1 q3 q5 =>
          EvS.tup (EvsS.cons (EvS.name .head) (EvsS.cons (EvS.name (.tail .head)) EvsS.nil)) rfl (show 2 ≤ 1000 by decide)
        refine wpAny_mono ((ev _ _ _).run _ s₇ _ (fun v s₇' => IsV s₇'.heap (fun _ => False) (.tup [.int i, .str ⟨#[c]⟩]) v ∧ Keeps s₇ s₇') hroom (esc_fm2 F₇ v1 v2) fun v s₇' d e₇ => ⟨d.any, e₇.keeps⟩) (fun v s₈ ⟨d, e₈⟩ kap hkap => ?_) fun _ _ x => x.elim
        have F₈ := F₇.keeps e₈
        have S₈ := Sk e₈ S₇
        refine ⟨⟨_, _, _, drop_rem hpre, d⟩, mv7.trans (.keeps e₈), fun b hb => ?_, fun s₉ B₉ k₉ => hkap .none s₉ ?_⟩
        · rcases hb with rfl | hb
          · obtain ⟨o, _, _, ho, _⟩ := F₈.ns; exact ⟨o, ho⟩
          · exact hlv _ _ S₈ b hb
        · have F₉ : GF C L e it x m₅ s₉.heap := ⟨F₈.ns.at' fun o z => k₉ _ (.inl rfl) o z, F₈.addr, B₉⟩
          have S₉ : St (i + 1) s₉.heap := (W₀ _ hroom.h).frame _ _ _ S₈ fun b hb o z => k₉ b (.inr (by simpa using hb)) o z
          exact agn false s₉ s₉ m₅ F₉ v3 S₉ (.refl ..) hfl ⟨pre ++ [((i : Int), ⟨#[c]⟩)], by rw [hpre]; simp⟩
end
end Mine
end partMP

section partMQ
open PySem PySem.Calls PyProof.Rows
set_option maxRecDepth 100000
set_option linter.all false
namespace Mine
section
variable {C : Cfg} {L e it a : Addr} {cd : Value} {x : Str}

theorem esc_walks (C : Cfg) (e it : Addr) (hei : e ≠ it) (x : Str) (t : Tok) : ∃ (Mid : Nat → Addr → Heap → Prop) (St : Nat → Heap → Prop) (Pt : Nat → Array Value → Prop),
    (∀ A' : Around, A'.handled = none → WalksT C.prog C.w A' e [e, it] [e, it] x.cps.size Pt St Mid) ∧ (∀ i vals, Pt i vals → ∃ t c u, x.cps[i]? = some c ∧ vals = #[.int i t, .str ⟨#[c]⟩ u]) ∧
    (∀ i h, St i h → ∀ b, b = e ∨ b = it → ∃ o, h.get? b = some o) ∧ (∀ h, IsEnum h e it 0 .none → h.IsStrIter it (strIterType x) x t 0 → St 0 h) := by
  have go : ∀ (T : String) (D : ∀ A' : Around, A'.handled = none → Draws C.prog C.w A' it [it] x.cps.size (fun i v => ∃ c u, x.cps[i]? = some c ∧ v = .str ⟨#[c]⟩ u) (fun i h => h.IsStrIter it T x t i)), strIterType x = T →
      ∃ (Mid : Nat → Addr → Heap → Prop) (St : Nat → Heap → Prop) (Pt : Nat → Array Value → Prop),
    (∀ A' : Around, A'.handled = none → WalksT C.prog C.w A' e [e, it] [e, it] x.cps.size Pt St Mid) ∧ (∀ i vals, Pt i vals → ∃ t c u, x.cps[i]? = some c ∧ vals = #[.int i t, .str ⟨#[c]⟩ u]) ∧
    (∀ i h, St i h → ∀ b, b = e ∨ b = it → ∃ o, h.get? b = some o) ∧ (∀ h, IsEnum h e it 0 .none → h.IsStrIter it (strIterType x) x t 0 → St 0 h) := fun T D hT => by
    refine ⟨_, _, _, fun A' hA => WalksT.enumerateD (D A'.in1 hA) e hei (by simpa using hei) (by simp), fun i vals ⟨t, y, ⟨c, u, hc, hy⟩, hv⟩ => ⟨t, c, u, hc, by rw [hv, hy]⟩, fun i h ⟨⟨old, he⟩, o, ho, _⟩ b hb => ?_, fun h he hi => ⟨⟨_, he⟩, by rw [hT] at hi; exact hi⟩⟩
    rcases hb with rfl | rfl
    · exact ⟨_, he⟩
    · exact ⟨o, ho⟩
  cases ha : x.cps.all (· < 128)
  · exact go "str_iterator" (fun A' hA => Draws.strWide hA it x t) (by simp [strIterType, ha])
  · exact go "str_ascii_iterator" (fun A' hA => Draws.strAscii hA it x t) (by simp [strIterType, ha])

theorem esc_seg {A : Around} {s : Shared} {m : Str → Option Value} (hr : Rm A 40) (hn : s.heap.Ns L m) (ha : ∃ t, m "addr" = some (.str x t)) (hB : BaseO C L (s.heap.objs.size + 1) s.heap.objs.size s.heap) (hfl : escFl false x.cps.toList = false) :
    Seg (model C.prog C.w) A (escR L (s.heap.objs.size + 1) s.heap.objs.size) (escY C L (s.heap.objs.size + 1) s.heap.objs.size (escGo 0 false x.cps.toList)) (escGo 0 false x.cps.toList).length s (.func gEsc.1.body (gEnv L a cd))
      ((model C.prog C.w).den (.func gEsc.1.body (gEnv L a cd))) [] s := by
  have hLs : L < s.heap.objs.size := by obtain ⟨o, _, _, ho, _⟩ := hn; exact Heap.lt_size ho
  generalize hz : s.heap.objs.size = z at *
  have hrf : Rm (A.over (.func gEsc.1.body (gEnv L a cd)) []) 20 := ⟨hr.h, by have := hr.d; show A.depth + 1 + 20 < _; omega, by have := hr.u; show A.units + 3 + 8 * 20 < _; omega⟩
  refine seg_func ?_
  have F : GF C L (z + 1) z x m s.heap := ⟨hn, ha, hB⟩
  refine seg_execs_cons (seg_st (wpAny_Assign_Name (wpAny_Constant_int (wpAny_storeName_local (env := gEnv L a cd) rfl F.ns fun h₁ ns₁ hs₁ => ?_)) rfl))
  have F₁ := GF.put (s := { s with heap := s.heap, toks := s.toks }) F ns₁ hs₁ (by decide)
  refine seg_execs_cons (seg_st (wpAny_Assign_Name (wpAny_Constant_bool (wpAny_storeName_local (env := gEnv L a cd) rfl F₁.ns fun h₂ ns₂ hs₂ => ?_)) rfl))
  have F₂ := GF.put (s := { s with heap := h₁, toks := s.toks }) F₁ ns₂ hs₂ (by decide)
  have hz₂ : h₂.objs.size = z := by rw [← hz]; exact hs₂.1.trans hs₁.1
  obtain ⟨m₂, hm₂⟩ : ∃ m' : Str → Option Value, m' = (fun (z : Str) => if z = ("escape" : Str) then some (Value.bool false) else if z = ("pos" : Str) then some (Value.int 0 s.toks) else m z) := ⟨_, rfl⟩
  have F₂ : GF C L (z + 1) z x m₂ h₂ := hm₂ ▸ F₂
  have v3 : m₂ "escape" = some (.bool false) := by rw [hm₂]; rfl
  obtain ⟨tx, v4⟩ : ∃ t, m₂ "addr" = some (.str x t) := F₂.addr
  clear hm₂
  refine seg_execs_cons (seg_For ?_)
  generalize htk : s.toks + 1 + 1 + 1 = tk₂
  have mv2 : Mv L (z + 1) z s { s with heap := h₂, toks := tk₂ } := .of fun b o q _ _ y => hs₂.extBut b o q (hs₁.extBut b o q y)
  have Fe : Fm C (gEnv L a cd) ["addr"] (fun _ => False) [some (.v (.at (.str x)))] h₂ := fm_ns rfl rfl rfl F₂.old.base F₂.ns fun y e g => by
    cases g with
    | head => exact ⟨_, _, rfl, v4, ⟨_, rfl⟩, rfl⟩
    | tail g => cases g
  obtain ⟨Mid, St, Pt, W₀, hPt, hlv, hst0⟩ := esc_walks C (z + 1) z (Nat.succ_ne_self z) x tx
  refine wpAny_bind (wp_builtin (X := fun _ => False) (s := { s with heap := h₂, toks := tk₂ }) (x := "enumerate") Fe (v := .type "enumerate") (by simp [bnames]) rfl (by decide) ?_)
  refine wp_callType rfl (fun _ => rfl) (args_cons (wp_name rfl (.inl ⟨rfl, m₂, F₂.ns, v4⟩) (args_nil ?_) (by decide)) rfl)
  refine call_enumerate_str fun h₃ he₃ hi₃ hz₃ hk₃ => ?_
  replace hz₃ : h₃.objs.size = h₂.objs.size + 2 := hz₃
  replace he₃ : IsEnum h₃ (h₂.objs.size + 1) h₂.objs.size 0 .none := he₃
  replace hi₃ : h₃.IsStrIter h₂.objs.size (strIterType x) x tx 0 := hi₃
  replace hk₃ : HKeep h₂ h₃ := hk₃
  show wpAny _ _ (pyIter (.ref (h₂.objs.size + 1))) _ _ { s with heap := h₃, toks := tk₂ }
  rw [hz₂] at he₃ hi₃ ⊢
  refine (W₀ _ hrf.h).self 0 _ _ _ (hst0 _ he₃ hi₃) fun p => ?_
  have mv3 := mv2.trans (.of (s := { s with heap := h₂, toks := tk₂ }) (h' := h₃) (tk := tk₂) fun b o _ _ _ y => hk₃ b o y)
  have F₃ : GF C L (z + 1) z x m₂ h₃ := ⟨F₂.ns.keeps hk₃, F₂.addr, F₂.old.mv (s := { s with heap := h₂, toks := tk₂ }) (.of (h' := h₃) (tk := tk₂) fun b o _ _ _ y => hk₃ b o y)⟩
  refine esc_loop (C := C) (L := L) (e := z + 1) (it := z) (a := a) (cd := cd) (A := A) (escGo 0 false x.cps.toList) hr W₀ hPt hlv (Nat.ne_of_lt (Nat.lt_succ_of_lt hLs)) (Nat.ne_of_lt hLs) ⟨hr.h, by have := hr.d; show A.depth + 1 + 20 < _; omega, by have := hr.u; show A.units + 3 + 8 * 20 < _; omega⟩ ?_ x.cps.size 0 false s { s with heap := h₃, toks := tk₂ } m₂ (Nat.zero_add _) (hst0 _ he₃ hi₃) F₃ v3 mv3 hfl ⟨[], rfl⟩
  · intro s₀ s₄ m₄ F₄ w3 mv4
    refine seg_execs_cons (seg_If ?_)
    have t1 : ∀ q, TsS C true 20 (gEnv L a cd) ["escape"] [some (.v (.at (.bool false)))] (.Name "escape" q) false := fun q => TsS.val (c' := false) (EvS.name .head) TruS.bool
    refine (t1 _).run _ s₄ _ _ hrf (esc_fm1 F₄ w3) fun s₅ e₅ => ?_
    rw [if_neg Bool.false_ne_true]
    refine seg_execs_nil (seg_execs_nil ?_)
    exact seg_end (.ok (.ret .none)) ⟨rfl, rfl, mv4.trans (.keeps e₅.keeps)⟩
end
end Mine
end partMQ

section partMR
open PySem PySem.Calls PyProof.Rows
set_option maxRecDepth 100000
set_option linter.all false
namespace Mine
section
variable {C : Cfg} {N : Nat} {env : Env} {vs : List Str} {σ σ' σ'' : St} {P P' : List Addr} {Xc : Addr → Prop} {h h' : Heap} {Post : Fl → St → Prop}

end

section
variable {prog : Program} {w : World} {A : Around} {E : Value → Shared → Prop} {s : Shared}
theorem letGo_gen {elts : List Expr} {x1 : Nat} {pos : Pos} {G g T : Nat} {Q : Unit → Shared → Prop} (hg : s.heap.IsGen G g) (hQ : Q () s) : wpAny (model prog w) A (letOwnedTupleGo (.Tuple elts x1 pos) (.ref G) (.ref T)) Q E s := by
  obtain ⟨o, nm, qn, ho, hc, hd, hsl⟩ := hg
  show wpAny _ _ (load G >>= _) _ _ s
  refine wpAny_bind (wpAny_load ho ?_)
  rw [hc, hd]
  exact wpAny_pure hQ

theorem pyNext_genQ {a : Addr} {g n : Nat} {gs : GenState} {P : Nat → Shared → Shared → Prop} {Y : Protocol} {Q : Option Value → Shared → Prop} (hh : A.handled = none)
    (hl : s.heap.NoLimit) (hroom : A.depth < recursionLimit)
    (hg : s.heap.IsGen a g) (hgs : s.gens[g]? = some gs)
    (hgo : gs.Goes (model prog w) A.in1 (fun n s₀ r s₁ => r = .ok (.ret .none) ∧ P n s₀ s₁) Y n (.send .none) (s.setGen g .running))
    (hY : ∀ v s₁ gs', gs'.bare = true → Y (n - 1) (s.setGen g .running) v s₁ (fun r' s'' => match n with
        | 0 => False
        | m + 1 => gs'.Goes (model prog w) A.in1 (fun n s₀ r s₁ => r = .ok (.ret .none) ∧ P n s₀ s₁) Y m r' s'') → Q (some v) (s₁.setGen g gs'))
    (hP : ∀ s₁, P n (s.setGen g .running) s₁ → ∀ h', HKeep s₁.heap h' → Q none { s₁.setGen g .finished with heap := h' }) :
    wpAny (model prog w) A (pyNext (.ref a)) Q E s := by
  unfold pyNext
  refine wpAny_bind (wpAny_attempt (wpAny_callSpecial?_slot (name := Str.ofString "__next__") hg.typeIs slot_gen_next
    (wpAny_call_entry slot_gen_next hg.typeIs entry_gen_next ?_ (args_gen_next _))))
  show wpAny _ A.in1 (Builtin.Generator.genWake (.ref a) (.send .none)) _ _ s
  unfold Builtin.Generator.genWake
  refine wpAny_bind (wpAny_holding (wpAny_genNumber hg (wpAny_bind (wpAny_genState hgs ?_))))
  cases gs with
  | running => exact hgo.elim
  | finished => exact hgo.elim
  | _ =>
    refine wpAny_bind (wpAny_roomToWake hl hroom ?_)
    show wpAny _ A.in1 (.resume g (.send .none) [] _) _ _ s
    refine wpAny_resumeQ hgs hgo (fun x s₁ hx => ?_) (fun v s₁ gs' hb hv => wpAny_pure ⟨v, rfl, wpAny_pure (hY v s₁ gs' hb hv)⟩)
    obtain ⟨rfl, hp⟩ := hx
    show wpAny _ A.in1 (newExc (.type "StopIteration") [] >>= _) _ _ _
    refine wpAny_bind ?_
    simp only [newExc, newTuple]
    refine wpAny_bind (wpAny_newObj_type ?_ (by size_fits))
    refine wpAny_bind (m := firstArgMember _ _) (wpAny_of_eq (a := Value.none) (by first | rfl | (simp only [firstArgMember]; rfl)) ?_)
    refine wpAny_newObj_type ?_ (by size_fits)
    simp only [raiseNew]
    refine wpAny_bind (wpAny_bind (wpAny_handled ?_))
    first | rw [show A.in1.handled = none from hh] | rw [hh]
    refine wpAny_throw ?_
    refine wpAny_bind (wpAny_isInstance (T := "StopIteration") (b := true) ⟨_, Heap.get?_push_size _ rfl, rfl⟩ isSubtype_stop ?_)
    exact wpAny_pure (hP s₁ hp _ fun b o hb => Heap.get?_push_of_some _ (Heap.get?_push_of_some _ hb))
end

theorem call_esc {C : Cfg} {A : Around} {s : Shared} {a : Addr} {x : Str} {t : Tok} {Q : Value → Shared → Prop} (hd : gEsc.1 ∈ C.fns) (B : Base C s.heap) (hm : C.mg gEsc.1.name = some (.ref a)) (hr : A.depth < recursionLimit)
    (hq : ∀ cd h' tk m, HKeep s.heap h' → h'.Ns s.heap.objs.size m → (∃ t, m "addr" = some (.str x t)) → h'.IsGen (h'.objs.size - 1) s.gens.size → s.heap.objs.size < h'.objs.size - 1 →
      Q (.ref (h'.objs.size - 1)) { s with heap := h', toks := tk, gens := s.gens.push (.fresh (.func gEsc.1.body (gEnv s.heap.objs.size a cd))) }) :
    wpAny (model C.prog C.w) A (call (.ref a) [.str x t]) Q (fun _ _ => False) s := by
  obtain ⟨a', o, pm, cd, doc, e1, e2, e3, e4⟩ := B.fn _ hd
  rw [hm] at e1; cases e1
  have hbd : bindArgs (docDef gEsc.1.name gEsc.1.params gEsc.1.body gEsc.1.scope pm cd doc) ⟨[.str x t], []⟩ = pure [(("addr" : Str), Value.str x t)] := rfl
  refine wpAny_call (codeAny_call_generator hr e2 e3 rfl rfl rfl e4 (wpAny_of_eq hbd ?_))
  refine wpAny_newFunctionEnv_cells rfl (fun y hy => by rcases List.mem_cons.mp hy with rfl | hy; exact .inl rfl; cases hy) fun env henv s' X => ?_
  subst henv
  obtain ⟨h₁, tk, rfl, _⟩ := X.toInCall.same
  refine ⟨B.nolimit.keeps X.toInCall.keep, ?_⟩
  have hsz : ∀ o : Obj, (h₁.push o).objs.size - 1 = h₁.objs.size := fun o => by rw [Heap.size_push]; rfl
  have hlt : s.heap.objs.size < h₁.objs.size := by obtain ⟨o, _, _, ho, _⟩ := X.toInCall.ns; exact Heap.lt_size ho
  have := hq cd (h₁.push { cls := .type "generator", data := .fields #[.int s.gens.size 0, .str gEsc.1.name tk, .str gEsc.1.name (tk + 1)] }) (tk + 1 + 1) _ (fun b o e => Heap.get?_push_of_some _ (X.toInCall.keep b o e)) (X.toInCall.ns.push _) ⟨t, rfl⟩
    (by rw [hsz]; exact ⟨_, _, _, Heap.get?_push_size _ rfl, rfl, rfl, rfl⟩) (by rw [hsz]; exact hlt)
  rw [hsz] at this
  exact this
end Mine
end partMR

section partMS
open PySem PySem.Calls PyProof.Rows
set_option maxRecDepth 100000
set_option linter.all false
namespace Mine
section
variable {C : Cfg} {N : Nat} {env : Env} {vs : List Str} {σ σ' σ'' : St} {P P' : List Addr} {Xc : Addr → Prop} {h h' : Heap} {Post : Fl → St → Prop}

theorem GensOk.set {a b : Array GenState} {g : Nat} {x : GenState} (k : GensOk a b) (hg : a.size ≤ g) (hx : x.bare = true) : GensOk a (b.setIfInBounds g x) := by
  refine ⟨fun i y e => ?_, fun hb y hy => ?_⟩
  · have hi : i < a.size := by
      rcases Nat.lt_or_ge i a.size with q | q
      · exact q
      · rw [Array.getElem?_eq_none q] at e; cases e
    rw [Array.getElem?_setIfInBounds_ne (by omega)]
    exact k.keep i y e
  · rcases Array.mem_or_eq_of_mem_setIfInBounds hy with q | q
    · exact k.bare hb y q
    · rw [q]; exact hx

theorem ExS.forEsc {y1 y2 : Str} {q1 q2 tp pos p1 p2 : Pos} {kt : Nat} {ae : Expr} {body : List Stmt} {x : Str} (hW : gEsc.1 ∈ C.fns) (he : EvsS C false true N env vs σ [ae] [.at (.str x)]) (hfl : escFl false x.cps.toList = false) (hN : 42 ≤ N)
    (I : List (Int × Str) → St → Prop) (h0 : I (escGo 0 false x.cps.toList) σ)
    (turn : ∀ p c r σ, I ((p, c) :: r) σ → ∃ σ₁ σ₂, Put vs σ y1 (.v (.at (.int p))) σ₁ ∧ Put vs σ₁ y2 (.v (.at (.str c))) σ₂ ∧ ExsS C N env vs σ₂ body (loopPost (I r) Post)) (fin : ∀ σ, I [] σ → Post .next σ)
    (hx : env.kindOf gEsc.1.name = some .globalImplicit := by rfl) (hst : starEach [ae] env = (false, eval ae env) :: starEach [] env := by rfl)
    (ha1 : (assignEach [.Name y1 q1, .Name y2 q2] env).length = 2 := by rfl) (ha2 : (assignEach [.Name y1 q1, .Name y2 q2] env).findIdx? (·.1) = none := by rfl) :
    ExS C N env vs σ (.For (.Tuple [.Name y1 q1, .Name y2 q2] kt tp) (.Call (.Name gEsc.1.name p1) [ae] [] p2) body [] pos) Post := .mk fun A s P Xc Q hr hf hq => by
  refine wpAny_For ?_
  obtain ⟨a, o, pm, cd', doc, e1, e2, e3, e4⟩ := hf.fm.base.fn _ hW
  show wpAny _ A (do callWith p2 (← eval (.Name gEsc.1.name p1) env) [] (backTo p2 (starEach [ae] env)) []) _ _ s
  refine wpAny_bind (wp_global hf.fm e1 hx (by decide) ?_)
  refine callWith_def e3 (he.run A s _ p2 _ hr hf.fm fun vals s₁ d e₁ => ⟨e₁.keep _ _ e2, ?_⟩) hst
  obtain ⟨v, rfl, ⟨t, hv⟩⟩ := IsVs.one d
  subst hv
  have hf₁ := hf.keep e₁.keep
  refine call_esc hW hf₁.base e1 hr.depth fun cd h₂ tk₂ m k₂ hn₂ ha₂ hG₂ hlt₂ => ?_
  obtain ⟨L, hL⟩ : ∃ L, L = s₁.heap.objs.size := ⟨_, rfl⟩
  obtain ⟨G, hG⟩ : ∃ G, G = h₂.objs.size - 1 := ⟨_, rfl⟩
  obtain ⟨g, hg⟩ : ∃ g, g = s₁.gens.size := ⟨_, rfl⟩
  obtain ⟨z, hz⟩ : ∃ z, z = h₂.objs.size := ⟨_, rfl⟩
  rw [← hL] at hn₂ hlt₂ ⊢
  rw [← hG] at hG₂ hlt₂ ⊢
  rw [← hg] at hG₂
  refine wpAny_pyIter_gen (s := { s₁ with heap := h₂, toks := tk₂, gens := s₁.gens.push (.fresh (.func gEsc.1.body (gEnv L a cd))) }) hG₂ ?_
  have hgs : s.gens.size ≤ g := by
    obtain ⟨_, _, g', q, _, gk, _⟩ := e₁
    subst q
    rw [hg]
    rcases Nat.lt_or_ge g'.size s.gens.size with y | y
    · have := gk.keep g'.size _ (Array.getElem?_eq_getElem y)
      rw [Array.getElem?_eq_none (Nat.le_refl _)] at this; cases this
    · exact y
  have nL : s.heap.get? L = none := fresh_of e₁ (hL ▸ fresh_get _)
  have kk : HKeep s.heap h₂ := e₁.keep.trans k₂
  have nz : s.heap.get? z = none := by
    cases q : s.heap.get? z with
    | none => rfl
    | some o => have := kk _ _ q; rw [hz, fresh_get] at this; cases this
  have nz1 : s.heap.get? (z + 1) = none := by
    cases q : s.heap.get? (z + 1) with
    | none => rfl
    | some o => have this : (z + 1 : Nat) < h₂.objs.size := Heap.lt_size (kk _ _ q); exact absurd this (by rw [hz]; exact Nat.not_lt.mpr (Nat.le_succ _))
  have nG : s₁.heap.get? G = none := by
    cases q : s₁.heap.get? G with
    | none => rfl
    | some o => have this : (G : Nat) < s₁.heap.objs.size := Heap.lt_size q; have h2 : (L : Nat) < G := hlt₂; have h3 : (L : Nat) = s₁.heap.objs.size := hL; exact absurd (Nat.lt_trans h2 this) (by rw [h3]; exact Nat.lt_irrefl _)
  have hBO : ∀ s' : Shared, (∀ b o, b ∉ P → s.heap.get? b = some o → s'.heap.get? b = some o) → BaseO C L (z + 1) z s'.heap := fun s' hs => by
    obtain ⟨h₀, b₀, k₀, n₀⟩ := hf.old
    have hn : ∀ b, s.heap.get? b = none → h₀.get? b = none := fun b hb => by
      cases q : h₀.get? b with
      | none => rfl
      | some o => rw [k₀ _ _ q] at hb; cases hb
    exact ⟨h₀, b₀, fun b o q => hs b o (fun y => by rw [n₀ b y] at q; cases q) (k₀ b o q), hn _ nL, hn _ nz1, hn _ nz⟩
  have F₂ : FmW C env vs P (fun b => Xc b ∨ b = G ∨ b = L) σ h₂ := hf₁.shift (S := fun _ => False) (fun _ q => q.elim) (fun b o _ q => k₂ b o q) (fun b q => by
      rcases q with q | rfl | rfl
      · exact .inl q
      · exact .inr nG
      · exact .inr (hL ▸ fresh_get _)) (fun b q => by
      rcases q with q | rfl | rfl
      · obtain ⟨o, ho⟩ := hf₁.liveX b q; exact ⟨o, k₂ _ _ ho⟩
      · obtain ⟨o, _, _, ho, _⟩ := hG₂; exact ⟨o, ho⟩
      · obtain ⟨o, _, _, ho, _⟩ := hn₂; exact ⟨o, ho⟩) (hf.oldK (s' := { s with heap := h₂ }) (fun b o _ q => kk b o q) fun _ q => .inl q)
  let items := escGo 0 false x.cps.toList
  let M := model C.prog C.w
  let J : Nat → Shared → Prop := fun n s' => ∃ σ' P' X' rem gs, n = List.length rem ∧ (∃ pre, items = pre ++ rem) ∧ I rem σ' ∧ (∀ a ∈ P, a ∈ P') ∧ (∀ a ∈ P', a ∈ P ∨ s.heap.get? a = none) ∧ FmW C env vs P' X' σ' s'.heap ∧ (∀ b, Xc b → X' b) ∧ X' G ∧
    (∀ b, b = L ∨ b = z + 1 ∨ b = z → X' b ∨ s'.heap.get? b = none) ∧ ExtP P s s' ∧ s'.heap.IsGen G g ∧ s'.gens[g]? = some gs ∧ gs.Goes M A.in1 (escR L (z + 1) z) (escY C L (z + 1) z items) rem.length (.send .none) (s'.setGen g .running)
  have hJ0 : J items.length { s₁ with heap := h₂, toks := tk₂, gens := s₁.gens.push (.fresh (.func gEsc.1.body (gEnv L a cd))) } := by
    refine ⟨σ, P, _, items, _, rfl, ⟨[], rfl⟩, h0, fun _ q => q, fun _ q => .inl q, F₂, fun b q => .inl q, .inr (.inl rfl), fun b q => ?_, ?_, hG₂, by rw [hg]; exact Array.getElem?_push_size, ?_⟩
    · rcases q with rfl | rfl | rfl
      · exact .inl (.inr (.inr rfl))
      · right
        show h₂.get? _ = none
        cases q : h₂.get? (z + 1) with
        | none => rfl
        | some o => have this : (z + 1 : Nat) < h₂.objs.size := Heap.lt_size q; exact absurd this (by rw [hz]; exact Nat.not_lt.mpr (Nat.le_succ _))
      · right
        show h₂.get? _ = none
        rw [hz]; exact fresh_get _
    · obtain ⟨h', tk', g', q, hk', gk, _⟩ := e₁
      subst q
      refine ⟨h₂, tk₂, _, rfl, fun b o _ y => kk b o y, gk.trans ⟨fun i y q => ?_, fun hb y hy => ?_⟩⟩
      · have hi : i < g'.size := by
          rcases Nat.lt_or_ge i g'.size with w | w
          · exact w
          · rw [Array.getElem?_eq_none w] at q; cases q
        rw [Array.getElem?_push_lt hi, ← q, Array.getElem?_eq_getElem hi]
      · rcases Array.mem_push.mp hy with w | w
        · exact hb y w
        · rw [w]; rfl
    · have := esc_seg (C := C) (a := a) (cd := cd) (L := L) (x := x) (A := A.in1) (s := Shared.setGen { s₁ with heap := h₂, toks := tk₂, gens := s₁.gens.push (.fresh (.func gEsc.1.body (gEnv L a cd))) } g .running) ((hr.le (show 41 ≤ N by omega)).in1) hn₂ ha₂ (by
        show BaseO C L (h₂.objs.size + 1) h₂.objs.size h₂
        rw [← hz]; exact hBO { s with heap := h₂ } fun b o _ q => kk b o q) hfl
      have hz' : (Shared.setGen { s₁ with heap := h₂, toks := tk₂, gens := s₁.gens.push (.fresh (.func gEsc.1.body (gEnv L a cd))) } g .running).heap.objs.size = z := hz.symm
      rw [hz'] at this
      exact ⟨rfl, this⟩
  refine codeAny_forLoop_any J (fun n s₃ hJ => ?_) items.length hJ0
  obtain ⟨σ₃, P₃, X₃, rem, gs, rfl, hpre, hI, g1, g2, F₃, hXX, hXG, hdead, x₃, hG₃, hgs₃, hgo⟩ := hJ
  refine pyNext_genQ (P := fun n s₀ s₁ => n = 0 ∧ Mv L (z + 1) z s₀ s₁) hr.h F₃.base.nolimit hr.depth hG₃ hgs₃ hgo (fun v s₄ gs' hb hY => ?_) (fun s₄ hP h₅ k₅ => ?_)
  · obtain ⟨⟨p, c, r, hdr, hv⟩, hmv, hlive, hk⟩ := hY
    have kp : ∀ b o, b ∉ P → s.heap.get? b = some o → s₄.heap.get? b = some o := fun b o hb q => hmv.keep b o (fun y => by rw [y, nL] at q; cases q) (fun y => by rw [y, nz1] at q; cases q) (fun y => by rw [y, nz] at q; cases q) (x₃.keep b o hb q)
    cases rem with
    | nil => exact (hk s₄ (hBO s₄ kp) fun _ _ _ q => q).elim
    | cons pc r0 =>
      obtain ⟨pre, hpre⟩ := hpre
      have hdr' : (p, c) :: r = pc :: r0 := by rw [← hdr]; exact drop_rem hpre
      cases hdr'
      obtain ⟨σ₁', σ₂', hp1, hp2, hbody⟩ := turn p c r σ₃ hI
      obtain ⟨T, rfl, _, its, nT, hT, hTA⟩ := hv
      obtain ⟨⟨h₄, tk₄, hs₄⟩, hmk⟩ := hmv
      have hs₄h : s₄.heap = h₄ := by rw [hs₄]
      have hg3 : g < s₃.gens.size := by
        rcases Nat.lt_or_ge g s₃.gens.size with q | q
        · exact q
        · rw [Array.getElem?_eq_none q] at hgs₃; cases hgs₃
      have F₄ : FmW C env vs P₃ (fun b => X₃ b ∨ b = L ∨ b = z + 1 ∨ b = z) σ₃ s₄.heap := F₃.shift (S := fun b => b = L ∨ b = z + 1 ∨ b = z) hdead (fun b o q e => hmk b o (fun y => q (.inl y)) (fun y => q (.inr (.inl y))) (fun y => q (.inr (.inr y))) e)
        (fun b q => by rcases q with q | q; exact .inl q; exact hdead b q) (fun b q => by
          by_cases y : b = L ∨ b = z + 1 ∨ b = z
          · exact hlive b y
          · rcases q with q | q
            · obtain ⟨o, ho⟩ := F₃.liveX b q
              exact ⟨o, hmk b o (fun w => y (.inl w)) (fun w => y (.inr (.inl w))) (fun w => y (.inr (.inr w))) ho⟩
            · exact (y q).elim) (hf.oldK kp g2)
      have hG₄ : (s₄.setGen g gs').heap.IsGen G g := by
        have hGne : ∀ b, (b = L ∨ b = z + 1 ∨ b = z) → G ≠ b := fun b hb q => by
          subst q
          have h6 : (G : Nat) < z := by rw [hz]; obtain ⟨o, _, _, ho, _⟩ := hG₂; exact Heap.lt_size ho
          rcases hb with q | q | q
          · exact Nat.lt_irrefl _ (Nat.lt_of_lt_of_eq hlt₂ q)
          · exact Nat.ne_of_lt (Nat.lt_succ_of_lt h6) q
          · exact Nat.ne_of_lt h6 q
        obtain ⟨o, nm, qn, ho, r⟩ := hG₃
        exact ⟨o, nm, qn, hmk G o (hGne L (.inl rfl)) (hGne _ (.inr (.inl rfl))) (hGne _ (.inr (.inr rfl))) ho, r⟩
      refine letGo_gen hG₄ ?_
      have hsz : its.size = 2 := by have := hTA.length; simpa using this
      refine assign_Tuple_tuple hr.h ⟨_, hT, rfl, nT, rfl⟩ (by rw [ha1, hsz]) ha2 fun h₅ hx₅ => ?_
      have k5 : HKeep s₄.heap h₅ := fun b o q => hx₅ b o (Nat.ne_of_lt (Heap.lt_size q)) q
      obtain ⟨v1, v2, hits, a1, a2⟩ := hTA.two
      rw [hits]
      have F₅ := F₄.keep k5
      let s₅ : Shared := { s₄.setGen g gs' with heap := h₅ }
      refine assignInOrder_cons ?_
      show wpAny _ A (PySem.assign (.Name y1 q1) env v1) _ _ s₅
      refine wpAny_assign_Name (wp_store (s := s₅) F₅ hp1.mem fun h₆ tk₆ c₆ => ?_)
      have F₆ := F₅.put_v c₆ hp1 (show IsV h₅ _ (.at (.int p)) v1 from a1)
      refine assignInOrder_cons ?_
      show wpAny _ A (PySem.assign (.Name y2 q2) env v2) _ _ { s₅ with heap := h₆, toks := tk₆ }
      refine wpAny_assign_Name (wp_store (s := { s₅ with heap := h₆, toks := tk₆ }) F₆ hp2.mem fun h₇ tk₇ c₇ => ?_)
      have F₇ := F₆.put_v c₇ hp2 (show IsV h₆ _ (.at (.str c)) v2 from a2)
      refine assignInOrder_nil ?_
      obtain ⟨bp, hbp, _, ck⟩ := c₆.place
      obtain ⟨bp', hbp', _, ck'⟩ := c₇.place
      have k7 : ∀ b o, b ∉ P₃ → s₄.heap.get? b = some o → h₇.get? b = some o := fun b o hb q => ck' b o (fun y => hb (y ▸ hbp')) (ck b o (fun y => hb (y ▸ hbp)) (k5 b o q))
      have kp7 : ∀ b o, b ∉ P → s.heap.get? b = some o → h₇.get? b = some o := fun b o hb q => k7 b o (fun y => by
        rcases g2 b y with w | w
        · exact hb w
        · rw [w] at q; cases q) (kp b o hb q)
      have x7 : ExtP P s { s₅ with heap := h₇, toks := tk₇ } := by
        obtain ⟨h', tk', g', e, _, gg⟩ := x₃
        refine ⟨h₇, tk₇, (g'.setIfInBounds g .running).setIfInBounds g gs', ?_, kp7, (gg.set hgs rfl).set hgs hb⟩
        show ({ s₄ with heap := h₇, toks := tk₇, gens := s₄.gens.setIfInBounds g gs' } : Shared) = _
        rw [hs₄, e]
        rfl
      have hgs7 : ({ s₅ with heap := h₇, toks := tk₇ } : Shared).gens[g]? = some gs' := by
        show (s₄.gens.setIfInBounds g gs')[g]? = some gs'
        have : g < s₄.gens.size := by rw [hs₄]; show g < (s₃.gens.setIfInBounds g .running).size; simpa using hg3
        simp [this]
      refine wpAny_mono (hbody.run A { s₅ with heap := h₇, toks := tk₇ } P₃ _ (fun f s₈ => ∃ fl σ₈, loopPost (I r) Post fl σ₈ ∧ After C env vs P₃ (fun b => X₃ b ∨ b = L ∨ b = z + 1 ∨ b = z) fl σ₈ { s₅ with heap := h₇, toks := tk₇ } f s₈) hr F₇ fun f s₃ fl σ₃ hp hb => ⟨fl, σ₃, hp, hb⟩) ?_ (fun _ _ x => x.elim)
      rintro f s₈ ⟨fl, σ₈, hpost, hafter⟩
      obtain ⟨⟨P₈, m1, m2, F₈⟩, hflow, hx8⟩ := hafter
      have x8 : ExtP P s s₈ := x7.trans hx8 g2
      have g8 : ∀ a ∈ P₈, a ∈ P ∨ s.heap.get? a = none := fun y hy => by
        rcases m2 y hy with q | q
        · exact g2 y q
        · exact back_fresh kp7 q
      have hc : ∀ {fl' f'}, FlIs s₈.heap Xc fl' f' → After C env vs P Xc fl' σ₈ s f' s₈ := fun hfl' => ⟨⟨P₈, fun y hy => m1 y (g1 y hy), g8, F₈.less fun b q => .inl (hXX b q)⟩, hfl', x8⟩
      have hX4 : ∀ b, (X₃ b ∨ b = L ∨ b = z + 1 ∨ b = z) → b ∉ P₃ := fun b q y => F₄.dis b y q
      have next : ∃ m', m' < (((p, c) :: r) : List (Int × Str)).length ∧ J m' s₈ ∨ ¬ I r σ₈ := by
        by_cases hIr : I r σ₈
        · refine ⟨r.length, .inl ⟨by simp, σ₈, P₈, _, r, gs', rfl, ⟨pre ++ [(p, c)], by rw [hpre]; simp⟩, hIr, fun y hy => m1 y (g1 y hy), g8, F₈, fun b q => .inl (hXX b q), .inl hXG, fun b q => .inl (.inr q), x8, ?_, ?_, ?_⟩⟩
          · obtain ⟨o, nm, qn, ho, rr⟩ := hG₄
            exact ⟨o, nm, qn, hx8.keep G o (hX4 G (.inl hXG)) (k7 G o (hX4 G (.inl hXG)) ho), rr⟩
          · obtain ⟨_, _, g', e, _, gg⟩ := hx8
            subst e
            exact gg.keep g gs' hgs7
          · refine hk (s₈.setGen g .running) (hBO _ x8.keep) fun b hb o q => ?_
            exact hx8.keep b o (hX4 b (.inr hb)) (k7 b o (hX4 b (.inr hb)) q)
        · exact ⟨0, .inr hIr⟩
      obtain ⟨m', hm'⟩ := next
      cases fl with
      | next =>
        cases (show f = .next from hflow)
        rcases hm' with ⟨w1, w2⟩ | w
        · exact ⟨m', w1, w2⟩
        · exact (w hpost).elim
      | cont =>
        cases (show f = .cont from hflow)
        rcases hm' with ⟨w1, w2⟩ | w
        · exact ⟨m', w1, w2⟩
        · exact (w hpost).elim
      | brk => cases (show f = .brk from hflow); exact hq _ _ _ _ hpost (hc rfl)
      | ret v => obtain ⟨val, e, hv⟩ := hflow; subst e; exact hq _ _ _ _ hpost (hc ⟨val, rfl, hv.mono fun b _ q _ => .inl (hXX b q)⟩)
  · obtain ⟨hr0, hmv⟩ := hP
    have hrem : rem = [] := List.eq_nil_of_length_eq_zero hr0
    subst hrem
    have kp : ∀ b o, b ∉ P → s.heap.get? b = some o → h₅.get? b = some o := fun b o hb q => k₅ b o (hmv.keep b o (fun y => by rw [y, nL] at q; cases q) (fun y => by rw [y, nz1] at q; cases q) (fun y => by rw [y, nz] at q; cases q) (x₃.keep b o hb q))
    have F₅ : FmW C env vs P₃ Xc σ₃ h₅ := F₃.shift (S := fun b => b = L ∨ b = z + 1 ∨ b = z) hdead (fun b o q e => k₅ b o (hmv.keep b o (fun y => q (.inl y)) (fun y => q (.inr (.inl y))) (fun y => q (.inr (.inr y))) e))
      (fun b q => .inl (hXX b q)) (fun b q => let ⟨o, ho⟩ := hf.liveX b q; ⟨o, kp b o (fun y => hf.dis b y q) ho⟩) (hf.oldK (s' := { s with heap := h₅ }) kp g2)
    refine wpAny_execs_nil (hq _ _ _ _ (fin _ hI) ⟨⟨P₃, g1, g2, F₅⟩, rfl, ?_⟩)
    obtain ⟨h', tk', g', e, _, gg⟩ := x₃
    obtain ⟨⟨h₄, tk₄, hs₄⟩, _⟩ := hmv
    refine ⟨h₅, tk₄, (g'.setIfInBounds g .running).setIfInBounds g .finished, ?_, kp, (gg.set hgs rfl).set hgs rfl⟩
    rw [hs₄, e]
    rfl
end
end Mine
end partMS

section partPB
open PySem PySem.Calls PyProof.Rows
set_option maxRecDepth 100000
set_option linter.all false
set_option maxHeartbeats 4000000
namespace Mine


noncomputable def quo : Str := "\""
noncomputable def oAt : Option Int → At
  | some i => .int i
  | none => .none
noncomputable def stripStep (x : Str) (st : Int × Option Int × List Str) (it : Int × Str) : Int × Option Int × List Str :=
  if (it.2 == quo) = true then (match st.2.1 with
    | none => (st.1, some it.1, st.2.2)
    | some q => (it.1 + 1, none, if (st.1 != q) = true then st.2.2 ++ [Txt.slice x (some st.1) (some q)] else st.2.2)) else st
noncomputable def stripEnd (x : Str) (st : Int × Option Int × List Str) : Str := Txt.join "" (if st.1 < x.length then st.2.2 ++ [Txt.slice x (some st.1) none] else st.2.2)
noncomputable def stripF (x : Str) : Str := if 34 ∈ x.cps.toList then stripEnd x ((escGo 0 false x.cps.toList).foldl (stripStep x) (0, none, [])) else x

theorem escGo_length : ∀ (l : List Nat) (i : Nat) (b : Bool), (escGo i b l).length ≤ l.length
  | [], _, _ => Nat.le_refl _
  | c :: r, i, true => by simpa [escGo] using escGo_length r (i + 1) false
  | c :: r, i, false => by
    simp only [escGo]
    split
    · exact Nat.le_succ_of_le (escGo_length r (i + 1) true)
    · simpa using escGo_length r (i + 1) false

variable {C : Cfg}
noncomputable def stripVs : List Str := ["addr", "start", "open_pos", "result", "pos", "ch"]
noncomputable def stripI (x : Str) (fin : Int × Option Int × List Str) (rem : List (Int × Str)) (σ : St) : Prop :=
  ∃ st o res u1 u2, σ = [some (.v (.at (.str x))), some (.v (.at (.int st))), some (.v (.at (oAt o))), some (.own (res.map .str)), u1, u2] ∧ rem.foldl (stripStep x) (st, o, res) = fin ∧ res.length + rem.length ≤ x.length ∧ ∀ s ∈ res, s.length ≤ x.length

theorem strip_ok (W : World1 C) (x : Str) (hz : x.length ≤ 900) (hfl : escFl false x.cps.toList = false) : FnS C 61 "_strip_quoted_realnames" [.at (.str x)] (.at (.str (stripF x))) := by
  refine FnS.of_body (N := 60) (d := gStrip.1) (ps := ["addr"]) (rest := ["start", "open_pos", "result", "pos", "ch"]) (W.fns _ _ gStrip.2) rfl (fun L a cd => ?_) (by ((intro pm cd doc vals h; obtain ⟨a1, ee⟩ := len1 h; subst ee; rfl))) (by decide) (by decide)
  show ExsS C 60 _ ["addr", "start", "open_pos", "result", "pos", "ch"] [some (.v (.at (.str x))), none, none, none, none, none] _ _
  refine ExsS.cons (ExS.ite (TsS.cmp (c₁ := false) (c₂ := false) (EvS.str (x := ⟨#[34]⟩)) (EvS.name .head) CmpS.notInS) (fun hb => ?_) (fun hb => ?_))
  · refine ExsS.cons (ExS.ret (v := .at (.str (stripF x))) ?_ rfl)
    have : stripF x = x := by unfold stripF; rw [if_neg (by simpa using hb)]
    rw [this]
    exact EvS.name .head
  have hin : 34 ∈ x.cps.toList := by simpa using hb
  refine ExsS.nil ?_
  refine ExsS.cons (ExS.assign (v := .at (.int 0)) EvS.int (.tail .head) ?_)
  refine ExsS.cons (ExS.assign (v := .at .none) EvS.none (.tail (.tail .head)) ?_)
  refine ExsS.cons (ExS.assignO (l := []) (EvL.disp EvsS.nil rfl) (.tail (.tail (.tail .head))) ?_)
  refine ExsS.cons (ExS.forEsc (N := 60) (x := x) (W.fns _ _ gEsc.2) (EvsS.cons (EvS.name .head) EvsS.nil) hfl (by (first | decide | exact Int.natCast_nonneg _ | assumption | omega)) (stripI x ((escGo 0 false x.cps.toList).foldl (stripStep x) (0, none, []))) ⟨0, none, [], none, none, rfl, rfl, ?_, by simp⟩ ?_ ?_)
  · have := escGo_length x.cps.toList 0 false
    simpa [Str.length] using this
  · rintro p c r σ ⟨st, o, res, u1, u2, rfl, hfold, hlen, hall⟩
    refine ⟨_, _, (.tail (.tail (.tail (.tail .head)))), (.tail (.tail (.tail (.tail (.tail .head))))), ?_⟩
    rw [List.foldl_cons] at hfold
    have hlen' : res.length + (r.length + 1) ≤ x.length := by simpa using hlen
    refine ExsS.cons (ExS.ite (TsS.cmp (c₁ := false) (c₂ := false) (EvS.name (.tail (.tail (.tail (.tail (.tail .head)))))) (EvS.str (x := quo)) CmpS.eqS) (fun hb => ?_) (fun hb => ?_))
    · cases o with
      | none =>
        refine ExsS.cons (ExS.ite (TsS.cmp (c₁ := false) (c₂ := false) (EvS.name (.tail (.tail .head))) EvS.none CmpS.isN) (fun _ => ?_) (fun h => by cases h))
        refine ExsS.cons (ExS.assign (v := .at (.int p)) (EvS.name (.tail (.tail (.tail (.tail .head))))) (.tail (.tail .head)) ?_)
        refine ExsS.nil (ExsS.nil (ExsS.nil ?_))
        refine ⟨st, some p, res, _, _, rfl, ?_, by omega, hall⟩
        rw [← hfold, stripStep, if_pos hb]
      | some q =>
        refine ExsS.cons (ExS.ite (TsS.cmp (c₁ := false) (c₂ := false) (EvS.name (.tail (.tail .head))) EvS.none CmpS.isN) (fun h => by cases h) (fun _ => ?_))
        refine ExsS.cons (ExS.ite (TsS.cmp (c₁ := false) (c₂ := false) (EvS.name (.tail .head)) (EvS.name (.tail (.tail .head))) CmpS.neI) (fun hne => ?_) (fun hne => ?_))
        · refine ExsS.cons (ExS.append (l := res.map .str) (.tail (.tail (.tail .head))) (EvsS.cons (EvS.sliceS2 (c' := false) (EvS.name .head) (EvS.name (.tail .head)) (EvS.name (.tail (.tail .head))) (by have : sizeLine = 16777216 := rfl; omega)) EvsS.nil) (.tail (.tail (.tail .head))) (by simp; omega) ?_)
          refine ExsS.nil ?_
          refine ExsS.cons (ExS.assign (v := .at (.int (p + 1))) (EvS.bin (EvS.name (.tail (.tail (.tail (.tail .head))))) EvS.int BinS.add) (.tail .head) ?_)
          refine ExsS.cons (ExS.assign (v := .at .none) EvS.none (.tail (.tail .head)) ?_)
          refine ExsS.nil (ExsS.nil (ExsS.nil ?_))
          refine ⟨p + 1, none, res ++ [Txt.slice x (some st) (some q)], _, _, by rw [List.map_append]; rfl, ?_, by simp; omega, fun s hs => ?_⟩
          · rw [← hfold, stripStep, if_pos hb]; simp only []; rw [if_pos hne]
          · rcases List.mem_append.mp hs with h | h
            · exact hall s h
            · rw [List.mem_singleton.mp h]; exact Txt.slice_le ..
        · refine ExsS.nil ?_
          refine ExsS.cons (ExS.assign (v := .at (.int (p + 1))) (EvS.bin (EvS.name (.tail (.tail (.tail (.tail .head))))) EvS.int BinS.add) (.tail .head) ?_)
          refine ExsS.cons (ExS.assign (v := .at .none) EvS.none (.tail (.tail .head)) ?_)
          refine ExsS.nil (ExsS.nil (ExsS.nil ?_))
          refine ⟨p + 1, none, res, _, _, rfl, ?_, by omega, hall⟩
          rw [← hfold, stripStep, if_pos hb]; simp only []; rw [if_neg (by simp [hne])]
    · refine ExsS.nil (ExsS.nil ?_)
      refine ⟨st, o, res, _, _, rfl, ?_, by omega, hall⟩
      rw [← hfold, stripStep, if_neg (by simp [hb])]
  · rintro σ ⟨st, o, res, u1, u2, rfl, hfold, hlen, hall⟩
    have hlen' : res.length ≤ x.length := by simpa using hlen
    have hS : stripF x = stripEnd x (st, o, res) := by rw [stripF, if_pos hin, ← hfold]; rfl
    have hsum : ∀ l : List Str, (∀ s ∈ l, s.length ≤ x.length) → (l.map (·.length)).sum ≤ l.length * x.length := fun l => by
      induction l with
      | nil => intro _; simp
      | cons s l ih => intro h; have h1 := h s (.head _); have h2 := ih fun t ht => h t (.tail _ ht); simp only [List.map_cons, List.sum_cons, List.length_cons, Nat.succ_mul]; omega
    have hmul : ∀ n, n ≤ 901 → n * x.length ≤ 901 * 900 := fun n hn => Nat.mul_le_mul hn hz
    rw [hS]
    refine ExsS.cons (ExS.ite (TsS.cmp (c₁ := false) (c₂ := false) (EvS.name (.tail .head)) (EvS.bi (c' := false) (EvsS.cons (EvS.name .head) EvsS.nil) (BiS.lenS (by (first | decide | exact Int.natCast_nonneg _ | assumption | omega))) (by (first | exact bn_len | exact bn_min | exact bn_max | exact bn_abs | exact bn_sum)) (by (first | decide | exact Int.natCast_nonneg _ | assumption | omega))) CmpS.ltI) (fun hlt => ?_) (fun hlt => ?_))
    · refine ExsS.cons (ExS.append (l := res.map .str) (.tail (.tail (.tail .head))) (EvsS.cons (EvS.sliceS1 (c' := false) (EvS.name .head) (EvS.name (.tail .head)) (by have : sizeLine = 16777216 := rfl; omega)) EvsS.nil) (.tail (.tail (.tail .head))) (by simp; omega) ?_)
      refine ExsS.nil ?_
      refine ExsS.cons (ExS.ret (v := .at (.str (stripEnd x (st, o, res)))) ?_ rfl)
      rw [stripEnd, if_pos (by simpa using hlt)]
      refine EvS.join (c' := false) (ss := res ++ [Txt.slice x (some st) none]) (EvsS.cons ?_ EvsS.nil) ?_
      · exact (EvS.name (v := .list ((res ++ [Txt.slice x (some st) none]).map .str)) (by rw [List.map_append]; exact (.tail (.tail (.tail .head)))))
      · have h1 := hsum (res ++ [Txt.slice x (some st) none]) (fun s hs => by
          rcases List.mem_append.mp hs with h | h
          · exact hall s h
          · rw [List.mem_singleton.mp h]; exact Txt.slice_le ..)
        have h2 := hmul (res ++ [Txt.slice x (some st) none]).length (by simp; omega)
        rw [show ("" : Str).length = 0 from rfl, Nat.mul_zero]
        omega
    · refine ExsS.nil ?_
      refine ExsS.cons (ExS.ret (v := .at (.str (stripEnd x (st, o, res)))) ?_ rfl)
      rw [stripEnd, if_neg (by simpa using hlt)]
      refine EvS.join (c' := false) (ss := res) (EvsS.cons ?_ EvsS.nil) ?_
      · exact EvS.name (v := .list (res.map .str)) (.tail (.tail (.tail .head)))
      · have h1 := hsum res hall
        have h2 := hmul res.length (by (first | decide | exact Int.natCast_nonneg _ | assumption | omega))
        rw [show ("" : Str).length = 0 from rfl, Nat.mul_zero]
        omega
end Mine
end partPB

section partPC
open PySem PySem.Calls PyProof.Rows
set_option maxRecDepth 100000
set_option linter.all false
set_option maxHeartbeats 4000000
namespace Mine

noncomputable def opn : Str := "("
noncomputable def cls : Str := ")"
noncomputable def checkGo : Int → List (Int × Str) → Bool
  | n, [] => n == 0
  | n, (_, c) :: r => if (c == opn) = true then checkGo (n + 1) r else if (c == cls) = true then (if n - 1 < 0 then false else checkGo (n - 1) r) else checkGo n r
noncomputable def checkF (x : Str) : Bool := checkGo 0 (escGo 0 false (stripF x).cps.toList)

structure Fine (x : Str) : Prop where
  len : x.length ≤ 900
  fl : escFl false x.cps.toList = false
  fl2 : escFl false (stripF x).cps.toList = false

variable {C : Cfg}
noncomputable def checkI (y : Str) (b : Bool) (rem : List (Int × Str)) (σ : St) : Prop :=
  ∃ n u1 u2, σ = [some (.v (.at (.str y))), some (.v (.at (.int n))), u1, u2] ∧ checkGo n rem = b

theorem check_ok (W : World1 C) (x : Str) (hx : Fine x) : FnS C 64 "_check_parenthesis" [.at (.str x)] (.at (.bool (checkF x))) := by
  refine FnS.of_body (N := 63) (d := gCheck.1) (ps := ["addr"]) (rest := ["opens", "pos", "ch"]) (W.fns _ _ gCheck.2) rfl (fun L a cd => ?_) (by ((intro pm cd doc vals h; obtain ⟨a1, ee⟩ := len1 h; subst ee; rfl))) (by decide) (by decide)
  show ExsS C 63 _ ["addr", "opens", "pos", "ch"] [some (.v (.at (.str x))), none, none, none] _ _
  refine ExsS.cons (ExS.assign (v := .at (.str (stripF x))) (EvS.call (EvsS.cons (EvS.name .head) EvsS.nil) ((strip_ok W x hx.len hx.fl).room (by decide))) .head ?_)
  refine ExsS.cons (ExS.assign (v := .at (.int 0)) EvS.int (.tail .head) ?_)
  refine ExsS.cons (ExS.forEsc (N := 63) (x := stripF x) (W.fns _ _ gEsc.2) (EvsS.cons (EvS.name .head) EvsS.nil) hx.fl2 (by (first | decide | exact Int.natCast_nonneg _ | assumption | omega)) (checkI (stripF x) (checkF x)) ⟨0, none, none, rfl, rfl⟩ ?_ ?_)
  · rintro p c r σ ⟨n, u1, u2, rfl, hn⟩
    refine ⟨_, _, .tail (.tail .head), .tail (.tail (.tail .head)), ?_⟩
    refine ExsS.cons (ExS.ite (TsS.cmp (c₁ := false) (c₂ := false) (EvS.name (.tail (.tail (.tail .head)))) (EvS.str (x := opn)) CmpS.eqS) (fun hb => ?_) (fun hb => ?_))
    · refine ExsS.cons (ExS.aug (a := n) (b := 1) (r := n + 1) (.tail .head) EvS.int (.inl ⟨rfl, rfl⟩) (.tail .head) ?_)
      refine ExsS.nil (ExsS.nil ⟨n + 1, _, _, rfl, ?_⟩)
      rw [← hn, checkGo, if_pos hb]
    · refine ExsS.cons (ExS.ite (TsS.cmp (c₁ := false) (c₂ := false) (EvS.name (.tail (.tail (.tail .head)))) (EvS.str (x := cls)) CmpS.eqS) (fun hb2 => ?_) (fun hb2 => ?_))
      · refine ExsS.cons (ExS.aug (a := n) (b := 1) (r := n - 1) (.tail .head) EvS.int (.inr ⟨rfl, rfl⟩) (.tail .head) ?_)
        refine ExsS.cons (ExS.ite (TsS.cmp (c₁ := false) (c₂ := false) (EvS.name (.tail .head)) EvS.int CmpS.ltI) (fun hb3 => ?_) (fun hb3 => ?_))
        · refine ExsS.cons (ExS.ret (v := .at (.bool false)) EvS.bool ?_)
          show Fl.ret _ = Fl.ret _
          rw [← hn, checkGo, if_neg (by simp [hb]), if_pos hb2, if_pos (by simpa using hb3)]
        · refine ExsS.nil (ExsS.nil (ExsS.nil (ExsS.nil ⟨n - 1, _, _, rfl, ?_⟩)))
          rw [← hn, checkGo, if_neg (by simp [hb]), if_pos hb2, if_neg (by simpa using hb3)]
      · refine ExsS.nil (ExsS.nil (ExsS.nil ⟨n, _, _, rfl, ?_⟩))
        rw [← hn, checkGo, if_neg (by simp [hb]), if_neg (by simp [hb2])]
  · rintro σ ⟨n, u1, u2, rfl, hn⟩
    refine ExsS.cons (ExS.ret (v := .at (.bool (checkF x))) ?_ rfl)
    rw [← hn]
    exact EvS.cmp (c₁ := false) (c₂ := false) (EvS.name (.tail .head)) EvS.int CmpS.eqI
end Mine
end partPC

section partPD
open PySem PySem.Calls PyProof.Rows
set_option maxRecDepth 100000
set_option linter.all false
set_option maxHeartbeats 4000000
namespace Mine

noncomputable def dueOf (l : Int) : Int := if l = 16 then 35 else if l = 17 then 47 else 33
noncomputable def dueStep (acc : List Int) (l : Int) : List Int := if acc.getLast? = some l ∧ ([16, 17, 20] : List Int).any (· == l) = true then acc.set (acc.length - 1) (dueOf l) else acc ++ [l]
noncomputable def dueF (ls : List Int) : List Int := ls.foldl dueStep []

variable {C : Cfg}
noncomputable def dueI (ls fin : List Int) (rem : List At) (σ : St) : Prop :=
  ∃ (r acc : List Int) (u : Option Ent), rem = r.map .int ∧ σ = [some (.v (.list (ls.map .int))), some (.own (acc.map .int)), u] ∧ r.foldl dueStep acc = fin ∧ acc.length + r.length ≤ ls.length

theorem due_ok (W : World1 C) (ls : List Int) (hz : ls.length ≤ 900) : FnS C 31 "_law_due" [.list (ls.map .int)] (.list ((dueF ls).map .int)) := by
  refine FnS.of_body (N := 30) (d := gDue.1) (ps := ["letters"]) (rest := ["numbers", "letter"]) (W.fns _ _ gDue.2) rfl (fun L a cd => ?_) (by ((intro pm cd doc vals h; obtain ⟨a1, ee⟩ := len1 h; subst ee; rfl))) (by decide) (by decide)
  show ExsS C 30 _ ["letters", "numbers", "letter"] [some (.v (.list (ls.map .int))), none, none] _ _
  refine ExsS.cons (ExS.assignO (l := []) (EvL.disp EvsS.nil rfl) (.tail .head) ?_)
  refine ExsS.cons (ExS.for (v := .list (ls.map .int)) (l := ls.map .int) (EvS.name .head) rfl trivial (dueI ls (dueF ls)) ⟨ls, [], none, rfl, rfl, rfl, by simp⟩ ?_ ?_)
  · rintro a r σ _ ⟨r', acc, u, hr, rfl, hfold, hlen⟩
    cases r' with
    | nil => cases hr
    | cons n r' =>
      obtain ⟨rfl, rfl⟩ : a = .int n ∧ r = r'.map .int := by simpa using hr
      have hlen' : acc.length + (r'.length + 1) ≤ ls.length := by simpa using hlen
      refine ⟨_, .tail (.tail .head), ?_⟩
      rw [List.foldl_cons] at hfold
      have done : ∀ σ, σ = [some (.v (.list (ls.map .int))), some (.own ((dueStep acc n).map .int)), some (.v (.at (.int n)))] → dueI ls (dueF ls) (r'.map .int) σ := fun σ hσ => by
        refine ⟨r', dueStep acc n, _, rfl, hσ, hfold, ?_⟩
        have : (dueStep acc n).length ≤ acc.length + 1 := by unfold dueStep; split <;> simp
        omega
      rcases List.eq_nil_or_concat acc with rfl | ⟨init, last, rfl⟩
      · refine ExsS.cons (ExS.ite (b := false) ((TsS.boolOp (TssS.andC (r := true) (TsS.val (c' := false) (EvS.own (l := []) (.tail .head)) (TruS.list (by decide))) (fun h => by cases h))).cast rfl) (fun h => by cases h) (fun _ => ?_))
        refine ExsS.cons (ExS.append (l := []) (a := .int n) (.tail .head) (EvsS.cons (EvS.name (.tail (.tail .head))) EvsS.nil) (.tail .head) (by decide) ?_)
        exact ExsS.nil (ExsS.nil (done _ rfl))
      · rw [List.concat_eq_append] at *
        have hl1 : (List.map At.int (init ++ [last])).length < 2 ^ 62 := by simp at hlen' ⊢; omega
        have hlast : (List.map At.int (init ++ [last])).getLast? = some (.int last) := by simp
        refine ExsS.cons (ExS.ite (b := (last == n) && ([16, 17, 20] : List Int).any (· == n)) ?ht (fun h => ?_) (fun h => ?_))
        case ht =>
          exact (TsS.boolOp (TssS.andC (TsS.val (c' := false) (EvS.own (l := (init ++ [last]).map .int) (.tail .head)) (TruS.list hl1)) (fun _ => TssS.andC (TsS.cmp (c₁ := false) (c₂ := false) (EvS.item (c' := false) (EvS.own (l := (init ++ [last]).map .int) (.tail .head)) (EvS.neg EvS.int) (ItemS.last hlast hl1)) (EvS.name (.tail (.tail .head))) CmpS.eqI)
            (fun _ => TssS.andC (TsS.cmp (c₁ := false) (c₂ := false) (EvS.name (.tail (.tail .head))) (EvS.tup (as := ([16, 17, 20] : List Int).map .int) (EvsS.cons EvS.int (EvsS.cons EvS.int (EvsS.cons EvS.int EvsS.nil))) rfl) CmpS.inT) (fun _ => TssS.andNil))))).cast (by simp)
        · rw [Bool.and_eq_true] at h
          have hn : last = n := by simpa using h.1
          subst hn
          have hm : at3 16 35 17 47 20 33 last = some (dueOf last) := by
            have := h.2
            simp at this
            rcases this with h | h | h <;> subst h <;> rfl
          have hd : dueStep (init ++ [last]) last = (init ++ [last]).set ((init ++ [last]).length - 1) (dueOf last) := by unfold dueStep; rw [if_pos ⟨by simp, h.2⟩]
          refine ExsS.cons (ExS.setLast (l := (init ++ [last]).map .int) (a := .int (dueOf last)) (.tail .head) (EvS.dict3 (EvS.name (.tail (.tail .head))) hm (by decide)) (EvS.neg EvS.int) (by simp) (by simp at hlen' ⊢; omega) (.tail .head) ?_)
          exact ExsS.nil (ExsS.nil (done _ (by rw [hd]; simp)))
        · have hd : dueStep (init ++ [last]) n = (init ++ [last]) ++ [n] := by
            unfold dueStep
            rw [if_neg]
            rintro ⟨h1, h2⟩
            have : last = n := by simpa using h1
            rw [h2, this] at h
            simp at h
          refine ExsS.cons (ExS.append (l := (init ++ [last]).map .int) (a := .int n) (.tail .head) (EvsS.cons (EvS.name (.tail (.tail .head))) EvsS.nil) (.tail .head) (by simp at hlen' ⊢; omega) ?_)
          exact ExsS.nil (ExsS.nil (done _ (by rw [hd]; simp)))
  · rintro σ ⟨r', acc, u, hr, rfl, hfold, hlen⟩
    have : r' = [] := by simpa using hr.symm
    subst this
    refine ExsS.cons (ExS.ret (v := .list ((dueF ls).map .int)) ?_ rfl)
    rw [← hfold]
    exact EvS.name (v := .list (acc.map .int)) (.tail .head)
end Mine
end partPD

section partPE
open PySem PySem.Calls PyProof.Rows
set_option maxRecDepth 100000
set_option linter.all false
set_option maxHeartbeats 4000000
namespace Mine

theorem slice_nat (x : Str) {a b : Nat} (hab : a ≤ b) (hb : b ≤ x.length) : (Txt.slice x (some (a : Int)) (some (b : Int))).cps.toList = (x.cps.toList.drop a).take (b - a) := by
  have := StrLaws.sliceText_nat x hab hb
  rw [show Txt.slice x (some (a : Int)) (some (b : Int)) = StrLaws.sliceText x (some (a : Int)) (some (b : Int)) from rfl, this]
theorem slice_from (x : Str) {a : Nat} (ha : a ≤ x.length) : (Txt.slice x (some (a : Int)) none).cps.toList = x.cps.toList.drop a := by
  have : Txt.slice x (some (a : Int)) none = Txt.slice x (some (a : Int)) (some (x.length : Int)) := by
    unfold Txt.slice
    rw [StrLaws.sliceIdx_none_hi]
  rw [this, slice_nat x ha (Nat.le_refl _)]
  exact List.take_of_length_le (by simp [Str.length])
theorem join_toList : ∀ ss : List Str, (Txt.join "" ss).cps.toList = ss.flatMap fun s => s.cps.toList := fun ss => by
  have h : ∀ ss : List Str, (Str.join "" ss).cps.toList = ss.flatMap fun s => s.cps.toList := fun ss => by
    induction ss with
    | nil => rfl
    | cons x r ih =>
      cases r with
      | nil => simp [Str.join]
      | cons y r =>
        show (x.cps ++ (Str.ofString "").cps ++ (Str.join "" (y :: r)).cps).toList = _
        rw [Array.toList_append, Array.toList_append, ih, show (Str.ofString "").cps.toList = [] from rfl, List.append_nil]
        rfl
  unfold Txt.join
  rw [StrLaws.glued_eq_join]
  exact h ss
theorem Str.toList_append (a b : Str) : (a ++ b).cps.toList = a.cps.toList ++ b.cps.toList := Array.toList_append

inductive Pc where
  | sg (b : Bool)
  | ec (c : Nat)
  | qt

noncomputable def Pc.tx : Pc → List Nat
  | .sg b => [if b then 40 else 41]
  | .ec c => [92, c]
  | .qt => [34, 40, 34]
noncomputable def Pc.isQ : Pc → Bool
  | .qt => true
  | _ => false
noncomputable def txs (ps : List Pc) : List Nat := ps.flatMap Pc.tx
noncomputable def sgs : List Pc → List Bool
  | [] => []
  | .sg b :: r => b :: sgs r
  | _ :: r => sgs r
noncomputable def balGo : Nat → List Bool → Bool
  | n, [] => n == 0
  | n, true :: r => balGo (n + 1) r
  | 0, false :: _ => false
  | n + 1, false :: r => balGo n r

theorem txs_cons (p : Pc) (r : List Pc) : txs (p :: r) = p.tx ++ txs r := rfl
theorem escFl_pcs : ∀ ps : List Pc, escFl false (txs ps) = false
  | [] => rfl
  | .sg true :: r => by rw [txs_cons]; exact escFl_pcs r
  | .sg false :: r => by rw [txs_cons]; exact escFl_pcs r
  | .ec c :: r => by rw [txs_cons]; exact escFl_pcs r
  | .qt :: r => by rw [txs_cons]; exact escFl_pcs r

noncomputable def Pc.tk (i : Nat) : Pc → List (Int × Str)
  | .sg b => [((i : Int), ⟨#[if b then 40 else 41]⟩)]
  | .ec c => [(((i + 1 : Nat) : Int), bsl ++ ⟨#[c]⟩)]
  | .qt => [((i : Int), ⟨#[34]⟩), (((i + 1 : Nat) : Int), ⟨#[40]⟩), (((i + 1 + 1 : Nat) : Int), ⟨#[34]⟩)]
theorem escGo_pc (i : Nat) (p : Pc) (r : List Nat) : escGo i false (p.tx ++ r) = p.tk i ++ escGo (i + p.tx.length) false r := by
  cases p with
  | sg b => cases b <;> rfl
  | ec c => rfl
  | qt => rfl

theorem strip_go (X : Str) : ∀ (ps : List Pc) (pre : List Nat) (st : Nat) (res : List Str), X.cps.toList = pre ++ txs ps → st ≤ pre.length →
    (stripEnd X ((escGo pre.length false (txs ps)).foldl (stripStep X) ((st : Int), none, res))).cps.toList = ((Txt.join "" res).cps.toList ++ pre.drop st) ++ txs (ps.filter fun p => !p.isQ) := by
  intro ps
  induction ps with
  | nil =>
    intro pre st res hX hst
    have hX' : X.cps.toList = pre := by simpa [txs] using hX
    have hl : X.length = pre.length := by rw [← hX']; simp [Str.length]
    show (stripEnd X ((st : Int), none, res)).cps.toList = _
    unfold stripEnd
    simp only []
    split
    · rw [join_toList, join_toList, List.flatMap_append]
      simp only [List.flatMap_cons, List.flatMap_nil, List.append_nil]
      rw [slice_from X (by omega), hX']
      simp [txs]
    · have : pre.drop st = [] := List.drop_eq_nil_of_le (by omega)
      rw [this]; simp [txs]
  | cons p ps ih =>
    intro pre st res hX hst
    have hX2 : X.cps.toList = (pre ++ p.tx) ++ txs ps := by rw [hX, txs_cons, List.append_assoc]
    have hlen : (pre ++ p.tx).length = pre.length + p.tx.length := List.length_append
    rw [txs_cons, escGo_pc, List.foldl_append, ← hlen]
    have key : p.isQ = false → (p.tk pre.length).foldl (stripStep X) ((st : Int), none, res) = ((st : Int), none, res) → (stripEnd X ((escGo (pre ++ p.tx).length false (txs ps)).foldl (stripStep X) ((p.tk pre.length).foldl (stripStep X) ((st : Int), none, res)))).cps.toList = ((Txt.join "" res).cps.toList ++ pre.drop st) ++ txs ((p :: ps).filter fun p => !p.isQ) := fun hQ hk => by
      have := ih (pre ++ p.tx) st res hX2 (by omega)
      rw [hk, this, List.filter_cons, hQ, List.drop_append_of_le_length hst]
      simp only [Bool.not_false, if_true, txs_cons, List.append_assoc]
    cases p with
    | sg b => exact key rfl (by cases b <;> rfl)
    | ec c =>
      refine key rfl ?_
      show stripStep X ((st : Int), none, res) (((pre.length + 1 : Nat) : Int), bsl ++ ⟨#[c]⟩) = _
      unfold stripStep
      rw [if_neg]
      intro h
      have := congrArg Str.length (eq_of_beq h)
      exact absurd this (show ¬ (2 = 1) by decide)
    | qt =>
      have hl : X.length = pre.length + 3 + (txs ps).length := by
        have := congrArg List.length hX
        rw [txs_cons] at this
        simp [Str.length, Pc.tx] at this ⊢
        omega
      have h1 : (Pc.tk pre.length .qt).foldl (stripStep X) ((st : Int), none, res) = (((pre.length + 3 : Nat) : Int), none, if ((st : Int) != (pre.length : Int)) = true then res ++ [Txt.slice X (some (st : Int)) (some (pre.length : Int))] else res) := rfl
      have h2 : ∀ res', (Txt.join "" res').cps.toList = (Txt.join "" res).cps.toList ++ pre.drop st → (stripEnd X ((escGo (pre ++ Pc.tx .qt).length false (txs ps)).foldl (stripStep X) (((pre.length + 3 : Nat) : Int), none, res'))).cps.toList = ((Txt.join "" res).cps.toList ++ pre.drop st) ++ txs ((Pc.qt :: ps).filter fun p => !p.isQ) := fun res' h => by
        have := ih (pre ++ Pc.tx .qt) (pre.length + 3) res' hX2 (by simp [Pc.tx])
        have hd : (pre ++ Pc.tx .qt).drop (pre.length + 3) = [] := List.drop_eq_nil_of_le (by simp [Pc.tx])
        rw [this, h, hd, List.append_nil]
        rfl
      rw [h1]
      refine h2 _ ?_
      split
      · rw [join_toList, join_toList, List.flatMap_append]
        simp only [List.flatMap_cons, List.flatMap_nil, List.append_nil]
        rw [slice_nat X hst (by omega), hX, List.drop_append_of_le_length hst, List.take_append_of_le_length (by simp), List.take_of_length_le (by simp)]
      · rename_i h
        have : st = pre.length := by
          have : (st : Int) = (pre.length : Int) := by simpa using h
          omega
        rw [this, List.drop_length, List.append_nil]

theorem strip_pcs {X : Str} {ps : List Pc} (hX : X.cps.toList = txs ps) : (stripF X).cps.toList = txs (ps.filter fun p => !p.isQ) := by
  unfold stripF
  split
  · have := strip_go X ps [] 0 [] (by simpa using hX) (Nat.le_refl _)
    rw [hX]
    simpa [join_toList] using this
  · rename_i h
    rw [hX] at h ⊢
    rw [List.filter_eq_self.mpr]
    intro p hp
    cases p with
    | sg b => rfl
    | ec c => rfl
    | qt => exact (h (List.mem_flatMap.mpr ⟨_, hp, .head _⟩)).elim

theorem check_go : ∀ (ps : List Pc) (i n : Nat), (∀ p ∈ ps, p.isQ = false) → checkGo (n : Int) (escGo i false (txs ps)) = balGo n (sgs ps)
  | [], i, n, _ => by
    show ((n : Int) == 0) = (n == 0)
    cases n with
    | zero => rfl
    | succ n => rfl
  | p :: ps, i, n, h => by
    have ih := fun i n => check_go ps i n fun q hq => h q (.tail _ hq)
    rw [txs_cons, escGo_pc]
    cases p with
    | sg b =>
      cases b with
      | true =>
        show checkGo ((n : Int) + 1) _ = _
        exact ih _ (n + 1)
      | false =>
        show (if (n : Int) - 1 < 0 then false else checkGo ((n : Int) - 1) _) = _
        cases n with
        | zero => rfl
        | succ n =>
          rw [if_neg (by omega), show ((n + 1 : Nat) : Int) - 1 = n by omega]
          exact ih _ n
    | ec c =>
      show checkGo _ ((_, bsl ++ ⟨#[c]⟩) :: _) = _
      have hno : ∀ y : Str, y.length = 1 → ((bsl ++ ⟨#[c]⟩ : Str) == y) = true → False := fun y hy h => by
        have := congrArg Str.length (eq_of_beq h)
        rw [hy] at this
        exact absurd this (show ¬ (2 = 1) by decide)
      rw [checkGo, if_neg (hno opn rfl), if_neg (hno cls rfl)]
      exact ih _ n
    | qt => exact absurd (h .qt (.head _)) (by decide)

theorem sgs_filter : ∀ ps : List Pc, sgs (ps.filter fun p => !p.isQ) = sgs ps
  | [] => rfl
  | .sg b :: r => congrArg (b :: ·) (sgs_filter r)
  | .ec c :: r => sgs_filter r
  | .qt :: r => sgs_filter r
theorem check_pcs {X : Str} {ps : List Pc} (hX : X.cps.toList = txs ps) : checkF X = balGo 0 (sgs ps) := by
  unfold checkF
  rw [strip_pcs hX]
  have := check_go (ps.filter fun p => !p.isQ) 0 0 fun p hp => by simpa using (List.mem_filter.mp hp).2
  rw [sgs_filter] at this
  exact this
theorem fine_pcs {X : Str} {ps : List Pc} (hX : X.cps.toList = txs ps) (hz : (txs ps).length ≤ 900) : Fine X where
  len := by rw [← hX] at hz; simpa [Str.length] using hz
  fl := by rw [hX]; exact escFl_pcs ps
  fl2 := by rw [strip_pcs hX]; exact escFl_pcs _
end Mine
end partPE

section partPF
open PySem PySem.Calls PyProof.Rows
set_option maxRecDepth 100000
set_option linter.all false
set_option maxHeartbeats 4000000
namespace Mine

noncomputable def sgS (b : Bool) : Str := if b then "(" else ")"
noncomputable def thing : Nat → List Pc
  | 0 => [.ec 92]
  | 3 => [.ec 41]
  | 4 => [.qt]
  | 5 => [.ec 34]
  | _ => []
noncomputable def rdS (k : Nat) : Str := ⟨(txs (thing k)).toArray⟩
noncomputable def sgL (bs : List Bool) : List At := (bs.map sgS).map At.str
noncomputable def rdL (rs : List Nat) : List At := (rs.map rdS).map At.str

noncomputable def seg (bs : List Bool) (i j : Nat) : List Bool := ((List.range (j - i)).map fun t => bs.getD (i + t) false) ++ [bs.getD j false]
noncomputable def partS (bs : List Bool) (rs : List Nat) (k : Nat) : Str := sgS (bs.getD k false) ++ rdS (rs.getD k 0)
noncomputable def stretchF (bs : List Bool) (rs : List Nat) (i j : Nat) : Str := Txt.join "" ((List.range (j - i)).map fun t => partS bs rs (i + t)) ++ sgS (bs.getD j false)
noncomputable def spcs (bs : List Bool) (rs : List Nat) (i j : Nat) : List Pc := ((List.range (j - i)).flatMap fun t => Pc.sg (bs.getD (i + t) false) :: thing (rs.getD (i + t) 0)) ++ [Pc.sg (bs.getD j false)]

theorem sgS_toList (b : Bool) : (sgS b).cps.toList = txs [.sg b] := by cases b <;> rfl
theorem txs_append (a b : List Pc) : txs (a ++ b) = txs a ++ txs b := List.flatMap_append
theorem sgs_append : ∀ (a b : List Pc), sgs (a ++ b) = sgs a ++ sgs b
  | [], _ => rfl
  | .sg x :: r, b => congrArg (x :: ·) (sgs_append r b)
  | .ec _ :: r, b => sgs_append r b
  | .qt :: r, b => sgs_append r b
theorem sgs_thing (k : Nat) : sgs (thing k) = [] := by unfold thing; split <;> rfl
theorem txs_thing_le (k : Nat) : (txs (thing k)).length ≤ 3 := by unfold thing; split <;> decide
theorem stretch_toList (bs : List Bool) (rs : List Nat) (i j : Nat) : (stretchF bs rs i j).cps.toList = txs (spcs bs rs i j) := by
  unfold stretchF spcs
  rw [Str.toList_append, join_toList, txs_append, sgS_toList]
  congr 1
  generalize j - i = n
  induction n with
  | zero => rfl
  | succ n ih =>
    rw [List.range_succ, List.map_append, List.flatMap_append, List.flatMap_append, txs_append, ih]
    congr 1
    simp only [List.map_cons, List.map_nil, List.flatMap_cons, List.flatMap_nil, List.append_nil]
    rw [show partS bs rs (i + n) = sgS (bs.getD (i + n) false) ++ rdS (rs.getD (i + n) 0) from rfl, Str.toList_append, sgS_toList]
    rfl
theorem stretch_sgs (bs : List Bool) (rs : List Nat) (i j : Nat) : sgs (spcs bs rs i j) = seg bs i j := by
  unfold spcs seg
  rw [sgs_append]
  congr 1
  generalize j - i = n
  induction n with
  | zero => rfl
  | succ n ih =>
    rw [List.range_succ, List.map_append, List.flatMap_append, sgs_append, ih]
    congr 1
    simp only [List.map_cons, List.map_nil, List.flatMap_cons, List.flatMap_nil, List.append_nil]
    rw [sgs, sgs_thing]
theorem spcs_len (bs : List Bool) (rs : List Nat) (i j : Nat) (hj : j ≤ 100) : (txs (spcs bs rs i j)).length ≤ 900 := by
  unfold spcs
  have h : ∀ n, (txs ((List.range n).flatMap fun t => Pc.sg (bs.getD (i + t) false) :: thing (rs.getD (i + t) 0))).length ≤ 4 * n := fun n => by
    induction n with
    | zero => exact Nat.le_refl _
    | succ n ih =>
      rw [List.range_succ, List.flatMap_append, txs_append, List.length_append]
      simp only [List.flatMap_cons, List.flatMap_nil, List.append_nil, txs_cons, List.length_append]
      have := txs_thing_le (rs.getD (i + n) 0)
      have h2 : (Pc.tx (.sg (bs.getD (i + n) false))).length = 1 := rfl
      omega
  rw [txs_append, List.length_append]
  have := h (j - i)
  have h2 : (txs [Pc.sg (bs.getD j false)]).length = 1 := rfl
  omega
noncomputable def bal (bs : List Bool) (i j : Nat) : Bool := balGo 0 (seg bs i j)
theorem stretch_fine (bs : List Bool) (rs : List Nat) (i j : Nat) (hj : j ≤ 100) : Fine (stretchF bs rs i j) := fine_pcs (stretch_toList bs rs i j) (spcs_len bs rs i j hj)
theorem stretch_check (bs : List Bool) (rs : List Nat) (i j : Nat) : checkF (stretchF bs rs i j) = bal bs i j := by rw [check_pcs (stretch_toList bs rs i j), stretch_sgs]; rfl

variable {C : Cfg}

theorem sgL_len (bs : List Bool) : (sgL bs).length = bs.length := by simp [sgL]
theorem rdL_len (rs : List Nat) : (rdL rs).length = rs.length := by simp [rdL]
theorem sgL_at (bs : List Bool) (k : Nat) (h : k < bs.length) : (sgL bs)[((k : Nat) : Int).toNat]? = some (.str (sgS (bs.getD k false))) := by
  rw [Int.toNat_natCast]
  simp [sgL, List.getD, List.getElem?_eq_getElem h]
theorem rdL_at (rs : List Nat) (k : Nat) (h : k < rs.length) : (rdL rs)[((k : Nat) : Int).toNat]? = some (.str (rdS (rs.getD k 0))) := by
  rw [Int.toNat_natCast]
  simp [rdL, List.getD, List.getElem?_eq_getElem h]
theorem small_range {a b : Nat} (hab : a ≤ b) : Builtin.Range.rangeSize (a : Int) (b : Int) 1 = ((b - a : Nat) : Int) := by
  simp [Builtin.Range.rangeSize]
  split <;> omega

theorem sgS_len (b : Bool) : (sgS b).length = 1 := by cases b <;> rfl
theorem rdS_len (k : Nat) : (rdS k).length ≤ 3 := by
  have := txs_thing_le k
  simpa [rdS, Str.length] using this
theorem partS_len (bs : List Bool) (rs : List Nat) (k : Nat) : (partS bs rs k).length ≤ 4 := by
  have h1 := sgS_len (bs.getD k false)
  have h2 := rdS_len (rs.getD k 0)
  have h3 : (partS bs rs k).length = (sgS (bs.getD k false)).length + (rdS (rs.getD k 0)).length := Array.size_append
  omega
theorem small_of {a b k : Int} (ha : -1000 ≤ a ∧ a ≤ 1000) (hb : -1000 ≤ b ∧ b ≤ 1000) (hk : k = 1 ∨ k = 2 ∨ k = -2) : smallV (.rng a b k) := by
  have hs : 0 ≤ Builtin.Range.rangeSize a b k ∧ Builtin.Range.rangeSize a b k ≤ 3000 := by
    rcases hk with rfl | rfl | rfl <;> simp [Builtin.Range.rangeSize] <;> split <;> omega
  refine ⟨?_, hs.1⟩
  unfold Builtin.Range.small
  have f : ∀ x : Int, -5000 ≤ x → x ≤ 5000 → Builtin.Range.rangeFitsLong x = true := fun x h1 h2 => by
    simp only [Builtin.Range.rangeFitsLong]
    simp
    omega
  rw [f a (by (first | decide | exact Int.natCast_nonneg _ | assumption | omega)) (by (first | decide | exact Int.natCast_nonneg _ | assumption | omega)), f b (by (first | decide | exact Int.natCast_nonneg _ | assumption | omega)) (by (first | decide | exact Int.natCast_nonneg _ | assumption | omega)), f k (by (first | decide | exact Int.natCast_nonneg _ | assumption | omega)) (by (first | decide | exact Int.natCast_nonneg _ | assumption | omega)), f _ (by (first | decide | exact Int.natCast_nonneg _ | assumption | omega)) (by (first | decide | exact Int.natCast_nonneg _ | assumption | omega))]
  have g : (if k > 0 then Builtin.Range.rangeFitsLong (b + (k - 1)) else Builtin.Range.rangeFitsLong (b + (k + 1))) = true := by
    split <;> exact f _ (by (first | decide | exact Int.natCast_nonneg _ | assumption | omega)) (by (first | decide | exact Int.natCast_nonneg _ | assumption | omega))
  rw [g, Bool.or_true]
  rfl

theorem stretch_ok (W : World1 C) (bs : List Bool) (rs : List Nat) (i j : Nat) (hij : i ≤ j) (hj : j < bs.length) (hr : j ≤ rs.length) (hz : bs.length ≤ 100) (hz2 : rs.length ≤ 100) :
    FnS C 31 "_law_stretch" [.list (sgL bs), .list (rdL rs), .at (.int (i : Int)), .at (.int (j : Int))] (.at (.str (stretchF bs rs i j))) := by
  refine FnS.of_body (N := 30) (d := gStretch.1) (ps := ["signs", "riders", "first", "last"]) (rest := []) (W.fns _ _ gStretch.2) rfl (fun L a cd => ?_) (by ((intro pm cd doc vals h; obtain ⟨a1, a2, a3, a4, ee⟩ := len4 h; subst ee; rfl))) (by decide) (by decide)
  show ExsS C 30 _ ["signs", "riders", "first", "last"] [some (.v (.list (sgL bs))), some (.v (.list (rdL rs))), some (.v (.at (.int i))), some (.v (.at (.int j)))] _ _
  refine ExsS.cons (ExS.ret (v := .at (.str (stretchF bs rs i j))) ?_ rfl)
  refine EvS.bin (a := .str (Txt.join "" ((List.range (j - i)).map fun t => partS bs rs (i + t)))) (b := .str (sgS (bs.getD j false))) ?_ ?_ (BinS.cat ?_)
  · refine EvS.join (c' := false) (EvsS.cons (EvL.ev (EvL.cast (EvL.comp (caps := ["riders", "signs"]) (cσ := [some (.v (.list (rdL rs))), some (.v (.list (sgL bs)))]) (v := .rng i j 1) (l := rangeItems i j 1) (c' := false) (pb := fun _ => true) (f := fun a => match a with | .int k => .str (partS bs rs k.toNat) | _ => .none)
      rfl (by decide) rfl (by decide) rfl ?_ rfl ?_ ?_ ?_ ?_ ?_) ?_)) EvsS.nil) ?_
    · exact EvS.range2 (EvsS.cons (EvS.name (.tail (.tail .head))) (EvsS.cons (EvS.name (.tail (.tail (.tail .head)))) EvsS.nil))
    · exact small_of (by (first | decide | exact Int.natCast_nonneg _ | assumption | omega)) (by (first | decide | exact Int.natCast_nonneg _ | assumption | omega)) (.inl rfl)
    · simp [rangeItems, small_range hij]; omega
    · exact .cons rfl rfl rfl (.cons rfl rfl rfl .nil)
    · exact .cons (.tail .head) (.cons .head .nil)
    · refine ⟨fun a ha Cad => rfl, fun a ha _ Cad => ⟨false, ?_⟩⟩
      obtain ⟨t, ht, rfl⟩ : ∃ t : Nat, t < j - i ∧ a = .int ((i + t : Nat) : Int) := by
        simp [rangeItems, small_range hij] at ha
        obtain ⟨t, h1, h2⟩ := ha
        exact ⟨t, by omega, by rw [← h2]; rfl⟩
      refine EvS.bin (a := .str (sgS (bs.getD (i + t) false))) (b := .str (rdS (rs.getD (i + t) 0))) ?_ ?_ (BinS.cat ?_)
      · exact EvS.item (c' := false) (EvS.name (.tail (.tail .head))) (EvS.name .head) (ItemS.list (by (first | decide | exact Int.natCast_nonneg _ | assumption | omega)) (sgL_at bs (i + t) (by (first | decide | exact Int.natCast_nonneg _ | assumption | omega))) (by (first | assumption | (rw [sgL_len]; omega))))
      · exact EvS.item (c' := false) (EvS.name (.tail .head)) (EvS.name .head) (ItemS.list (by (first | decide | exact Int.natCast_nonneg _ | assumption | omega)) (rdL_at rs (i + t) (by (first | decide | exact Int.natCast_nonneg _ | assumption | omega))) (by rw [rdL_len]; omega))
      · have h1 := sgS_len (bs.getD (i + t) false)
        have h2 := rdS_len (rs.getD (i + t) 0)
        have : sizeLine = 16777216 := rfl
        omega
    · rw [List.filter_eq_self.mpr (fun _ _ => rfl), List.map_map]
      unfold rangeItems
      rw [small_range hij, Int.toNat_natCast, List.map_map]
      refine List.map_congr_left fun t _ => ?_
      show At.str (partS bs rs ((i : Int) + (t : Int) * 1).toNat) = At.str (partS bs rs (i + t))
      rw [show ((i : Int) + (t : Int) * 1).toNat = i + t by omega]
    · have h : ∀ l : List Nat, ((l.map fun t => partS bs rs (i + t)).map (·.length)).sum ≤ 4 * l.length := fun l => by
        induction l with
        | nil => exact Nat.le_refl _
        | cons x l ih =>
          have := partS_len bs rs (i + x)
          simp only [List.map_cons, List.sum_cons, List.length_cons] at ih ⊢
          omega
      have h1 := h (List.range (j - i))
      rw [List.length_range] at h1
      rw [show ("" : Str).length = 0 from rfl, Nat.mul_zero]
      omega
  · exact EvS.item (c' := false) (EvS.name .head) (EvS.name (.tail (.tail (.tail .head)))) (ItemS.list (by (first | decide | exact Int.natCast_nonneg _ | assumption | omega)) (sgL_at bs j hj) (by (first | assumption | (rw [sgL_len]; omega))))
  · have h1 := (stretch_fine bs rs i j (by (first | decide | exact Int.natCast_nonneg _ | assumption | omega))).len
    have h2 : (stretchF bs rs i j).length = (Txt.join "" ((List.range (j - i)).map fun t => partS bs rs (i + t))).length + (sgS (bs.getD j false)).length := Array.size_append
    have : sizeLine = 16777216 := rfl
    omega
end Mine
end partPF

section partPG
open PySem PySem.Calls PyProof.Rows
set_option maxRecDepth 100000
set_option linter.all false
set_option maxHeartbeats 4000000
namespace Mine

variable {C : Cfg}

theorem EvS.chk {N : Nat} {env : Env} {vs : List Str} {σ : St} {c c' : Bool} (W : World1 C) {e1 e2 e3 e4 : Expr} {q1 q2 q3 q4 : Pos} {bs : List Bool} {rs : List Nat} {i j : Nat} (h : EvsS C false c' N env vs σ [e1, e2, e3, e4] [.list (sgL bs), .list (rdL rs), .at (.int (i : Int)), .at (.int (j : Int))])
    (hij : i ≤ j) (hb : bs.length = 8) (hr : rs.length = 7) (hj : j < 8) (hN : 70 ≤ N)
    (hx1 : env.kindOf "_check_parenthesis" = some .globalImplicit := by rfl) (hx2 : env.kindOf "_law_stretch" = some .globalImplicit := by rfl) (he : starEach [e1, e2, e3, e4] env = (false, eval e1 env) :: starEach [e2, e3, e4] env := by rfl)
    (he2 : starEach [.Call (.Name "_law_stretch" q2) [e1, e2, e3, e4] [] q3] env = (false, eval (.Call (.Name "_law_stretch" q2) [e1, e2, e3, e4] [] q3) env) :: starEach [] env := by rfl) :
    EvS C false c N env vs σ (.Call (.Name "_check_parenthesis" q1) [.Call (.Name "_law_stretch" q2) [e1, e2, e3, e4] [] q3] [] q4) (.at (.bool (bal bs i j))) := by
  have h1 := EvS.call (p1 := q2) (p2 := q3) h ((stretch_ok W bs rs i j hij (by (first | decide | exact Int.natCast_nonneg _ | assumption | omega)) (by (first | decide | exact Int.natCast_nonneg _ | assumption | omega)) (by (first | decide | exact Int.natCast_nonneg _ | assumption | omega)) (by (first | decide | exact Int.natCast_nonneg _ | assumption | omega))).room (by omega : 31 ≤ N)) hx2 (by decide) he
  have h2 := EvS.call (p1 := q1) (p2 := q4) (EvsS.cons h1 EvsS.nil he2) ((check_ok W _ (stretch_fine bs rs i j (by (first | decide | exact Int.natCast_nonneg _ | assumption | omega)))).room (by omega : 64 ≤ N)) hx1 (by decide) he2
  rw [stretch_check] at h2
  exact h2.atom

noncomputable def othersN (b : Bool) (p : Nat) : List Nat := if b then (List.range ((8 - p) / 2)).map (fun t => p + 1 + 2 * t) else (List.range ((p + 1) / 2)).map (fun t => p - 1 - 2 * t)
noncomputable def mateN (bs : List Bool) (p : Nat) : Nat := ((othersN (bs.getD p false) p).find? fun o => bal bs (min p o) (max p o)).getD p
noncomputable def nA (n : Nat) : At := .int (n : Int)

theorem others_up : ∀ p : Fin 8, rangeItems ((p.1 : Int) + 1) 8 2 = (othersN true p.1).map nA := by decide +kernel
theorem others_down : ∀ p : Fin 8, rangeItems ((p.1 : Int) - 1) (-1) (-2) = (othersN false p.1).map nA := by decide +kernel
theorem others_lt : ∀ (b : Bool) (p : Fin 8), ∀ o ∈ othersN b p.1, o < 8 := by decide +kernel

theorem sgS_eq (b : Bool) : (sgS b == ("(" : Str)) = b := by cases b <;> rfl

noncomputable def mateI (bs : List Bool) (rs : List Nat) (p : Nat) (v : V) (rem : List At) (σ : St) : Prop :=
  ∃ (rem' : List Nat) (u : Option Ent), rem = rem'.map nA ∧ (∀ o ∈ rem', o < 8) ∧ σ = [some (.v (.list (sgL bs))), some (.v (.list (rdL rs))), some (.v (.at (nA p))), some (.v v), u] ∧ (rem'.find? fun o => bal bs (min p o) (max p o)).getD p = mateN bs p

theorem mate_loop {N : Nat} {env : Env} (W : World1 C) (bs : List Bool) (rs : List Nat) (p : Nat) (v : V) {q1 q2 q3 q4 q5 q6 q7 q8 q9 q10 q11 q12 q13 q14 q15 q16 q17 q18 q19 q20 : Pos} {rest : List Stmt}
    (hb : bs.length = 8) (hr : rs.length = 7) (hp : p < 8) (hN : 70 ≤ N) (hv : itemsOf v = some ((othersN (bs.getD p false) p).map nA)) (hsm : smallV v)
    (hx1 : env.kindOf "_check_parenthesis" = some .globalImplicit) (hx2 : env.kindOf "_law_stretch" = some .globalImplicit) (hx3 : env.kindOf "min" = some .globalImplicit) (hx4 : env.kindOf "max" = some .globalImplicit)
    (fin : ∀ σ, mateI bs rs p v [] σ → ExsS C N env ["signs", "riders", "place", "others", "other"] σ rest (fun fl _ => fl = .ret (.at (nA (mateN bs p))))) :
    ExsS C N env ["signs", "riders", "place", "others", "other"] [some (.v (.list (sgL bs))), some (.v (.list (rdL rs))), some (.v (.at (nA p))), some (.v v), none]
      (.For (.Name "other" q1) (.Name "others" q2) [.If (.Call (.Name "_check_parenthesis" q3) [.Call (.Name "_law_stretch" q4) [.Name "signs" q5, .Name "riders" q6, .Call (.Name "min" q7) [.Name "place" q8, .Name "other" q9] [] q10, .Call (.Name "max" q11) [.Name "place" q12, .Name "other" q13] [] q14] [] q15] [] q16) [.Return (some (.Name "other" q17)) q18] [] q19] [] q20 :: rest)
      (fun fl _ => fl = .ret (.at (nA (mateN bs p)))) := by
  refine ExsS.cons (ExS.for (v := v) (EvS.name (.tail (.tail (.tail .head)))) hv hsm (mateI bs rs p v) ⟨_, none, rfl, others_lt _ ⟨p, hp⟩, rfl, rfl⟩ ?_ fin)
  rintro a r σ _ ⟨rem', u, hrem, hall, rfl, hfind⟩
  cases rem' with
  | nil => cases hrem
  | cons o rem' =>
    obtain ⟨rfl, rfl⟩ : a = nA o ∧ r = rem'.map nA := by simpa using hrem
    have ho : o < 8 := hall o (.head _)
    refine ⟨_, .tail (.tail (.tail (.tail .head))), ?_⟩
    have hmin : (V.at (.int (if (o : Int) < (p : Int) then (o : Int) else (p : Int)))) = .at (.int ((min p o : Nat) : Int)) := by
      congr 2; split <;> omega
    have hmax : (V.at (.int (if (o : Int) > (p : Int) then (o : Int) else (p : Int)))) = .at (.int ((max p o : Nat) : Int)) := by
      congr 2; split <;> omega
    refine ExsS.cons (ExS.ite (b := bal bs (min p o) (max p o)) (TsS.val (c' := false) (EvS.chk (c' := true) W (EvsS.cons (EvS.name .head) (EvsS.cons (EvS.name (.tail .head)) (EvsS.cons (EvS.cast (EvS.bi (c' := false) (EvsS.cons (EvS.name (.tail (.tail .head))) (EvsS.cons (EvS.name (.tail (.tail (.tail (.tail .head))))) EvsS.nil)) BiS.min (by (first | exact bn_len | exact bn_min | exact bn_max | exact bn_abs | exact bn_sum)) (by (first | decide | exact Int.natCast_nonneg _ | assumption | omega)) hx3) hmin)
      (EvsS.cons (EvS.cast (EvS.bi (c' := false) (EvsS.cons (EvS.name (.tail (.tail .head))) (EvsS.cons (EvS.name (.tail (.tail (.tail (.tail .head))))) EvsS.nil)) BiS.max (by (first | exact bn_len | exact bn_min | exact bn_max | exact bn_abs | exact bn_sum)) (by (first | decide | exact Int.natCast_nonneg _ | assumption | omega)) hx4) hmax) EvsS.nil)))) (by (first | decide | exact Int.natCast_nonneg _ | assumption | omega)) hb hr (by (first | decide | exact Int.natCast_nonneg _ | assumption | omega)) hN hx1 hx2) TruS.bool) (fun hb' => ?_) (fun hb' => ?_))
    · refine ExsS.cons (ExS.ret (v := .at (nA o)) (EvS.name (.tail (.tail (.tail (.tail .head))))) ?_)
      show Fl.ret _ = Fl.ret _
      rw [← hfind, List.find?_cons, hb']
      rfl
    · refine ExsS.nil (ExsS.nil ⟨rem', _, rfl, fun x hx => hall x (.tail _ hx), rfl, ?_⟩)
      rw [← hfind, List.find?_cons, hb']

theorem mate_ok (W : World1 C) (bs : List Bool) (rs : List Nat) (p : Nat) (hb : bs.length = 8) (hr : rs.length = 7) (hp : p < 8) :
    FnS C 81 "_law_mate" [.list (sgL bs), .list (rdL rs), .at (nA p)] (.at (nA (mateN bs p))) := by
  refine FnS.of_body (N := 80) (d := gMate.1) (ps := ["signs", "riders", "place"]) (rest := ["others", "other"]) (W.fns _ _ gMate.2) rfl (fun L a cd => ?_) (by ((intro pm cd doc vals h; obtain ⟨a1, a2, a3, ee⟩ := len3 h; subst ee; rfl))) (by decide) (by decide)
  show ExsS C 80 _ ["signs", "riders", "place", "others", "other"] [some (.v (.list (sgL bs))), some (.v (.list (rdL rs))), some (.v (.at (nA p))), none, none] _ _
  have hs62 : (sgL bs).length < 2 ^ 62 := by rw [sgL_len, hb]; decide
  have fin : ∀ (v : V) (q1 q2 : Pos) (σ : St), mateI bs rs p v [] σ → ExsS C 80 (envOfC gMate.1.name gMate.1.scope L a cd) ["signs", "riders", "place", "others", "other"] σ [.Return (some (.Name "place" q1)) q2] (fun fl _ => fl = .ret (.at (nA (mateN bs p)))) := by
    rintro v q1 q2 σ ⟨rem', u, hrem, _, rfl, hfind⟩
    have : rem' = [] := by simpa using hrem.symm
    subst this
    refine ExsS.cons (ExS.ret (v := .at (nA (mateN bs p))) ?_ rfl)
    rw [← hfind]
    exact EvS.name (.tail (.tail .head))
  cases hs : bs.getD p false with
  | true =>
    refine ExsS.cons (ExS.assign (v := .rng ((p : Int) + 1) 8 2) (EvS.ite (r := true) ((TsS.cmp (c₁ := false) (c₂ := false) (EvS.item (c' := false) (EvS.name .head) (EvS.name (.tail (.tail .head))) (ItemS.list (by (first | decide | exact Int.natCast_nonneg _ | assumption | omega)) (sgL_at bs p (by (first | decide | exact Int.natCast_nonneg _ | assumption | omega))) (by (first | assumption | (rw [sgL_len]; omega))))) EvS.str CmpS.eqS).cast (by rw [sgS_eq, hs])) ?_) (.tail (.tail (.tail .head))) ?_)
    · rw [if_pos rfl]
      refine EvS.range3 (EvsS.cons (EvS.bin (EvS.name (.tail (.tail .head))) EvS.int BinS.add) (EvsS.cons (EvS.cast (EvS.bi (c' := false) (EvsS.cons (EvS.name .head) EvsS.nil) (BiS.lenL (by (first | assumption | (rw [sgL_len]; omega)))) (by (first | exact bn_len | exact bn_min | exact bn_max | exact bn_abs | exact bn_sum)) (by (first | decide | exact Int.natCast_nonneg _ | assumption | omega))) (by rw [sgL_len, hb]; rfl)) (EvsS.cons EvS.int EvsS.nil))) (by decide) (by decide)
    · exact mate_loop W bs rs p _ hb hr hp (by (first | decide | exact Int.natCast_nonneg _ | assumption | omega)) (by rw [hs]; exact congrArg some (others_up ⟨p, hp⟩)) (small_of (by (first | decide | exact Int.natCast_nonneg _ | assumption | omega)) (by (first | decide | exact Int.natCast_nonneg _ | assumption | omega)) (.inr (.inl rfl))) rfl rfl rfl rfl (fin _ _ _)
  | false =>
    refine ExsS.cons (ExS.assign (v := .rng ((p : Int) - 1) (-1) (-2)) (EvS.ite (r := false) ((TsS.cmp (c₁ := false) (c₂ := false) (EvS.item (c' := false) (EvS.name .head) (EvS.name (.tail (.tail .head))) (ItemS.list (by (first | decide | exact Int.natCast_nonneg _ | assumption | omega)) (sgL_at bs p (by (first | decide | exact Int.natCast_nonneg _ | assumption | omega))) (by (first | assumption | (rw [sgL_len]; omega))))) EvS.str CmpS.eqS).cast (by rw [sgS_eq, hs])) ?_) (.tail (.tail (.tail .head))) ?_)
    · rw [if_neg Bool.false_ne_true]
      exact EvS.range3 (EvsS.cons (EvS.bin (EvS.name (.tail (.tail .head))) EvS.int BinS.sub) (EvsS.cons (EvS.neg EvS.int) (EvsS.cons (EvS.neg EvS.int) EvsS.nil))) (by decide) (by decide)
    · exact mate_loop W bs rs p _ hb hr hp (by (first | decide | exact Int.natCast_nonneg _ | assumption | omega)) (by rw [hs]; exact congrArg some (others_down ⟨p, hp⟩)) (small_of (by (first | decide | exact Int.natCast_nonneg _ | assumption | omega)) (by (first | decide | exact Int.natCast_nonneg _ | assumption | omega)) (.inr (.inr rfl))) rfl rfl rfl rfl (fin _ _ _)
end Mine
end partPG

section partPH
open PySem PySem.Calls PyProof.Rows
set_option maxRecDepth 100000
set_option linter.all false
set_option maxHeartbeats 4000000
namespace Mine

variable {C : Cfg}

noncomputable def ltA (p : Nat) : At := .int ((p : Int) + 14)

noncomputable def hookSet (bs : List Bool) (p a b : Nat) : List Bool := (((bs.set p true).set (p + 1) false).set (min a b) true).set (max a b) false
noncomputable def hookN (x : List Bool × Nat) (p : Nat) : List Bool × Nat :=
  if bal x.1 p (p + 1) = true then (x.1, x.2 + 1) else (hookSet x.1 p (mateN x.1 p) (mateN x.1 (p + 1)), x.2)
noncomputable def hookedF (bs : List Bool) (ps : List Nat) : List Bool × Nat := ps.foldl hookN (bs, 0)

theorem mateN_lt (bs : List Bool) (p : Nat) (hp : p < 8) : mateN bs p < 8 := by
  unfold mateN
  cases h : (othersN (bs.getD p false) p).find? fun o => bal bs (min p o) (max p o) with
  | none => exact hp
  | some o => exact others_lt _ ⟨p, hp⟩ o (List.mem_of_find?_eq_some h)
theorem sgL_set (bs : List Bool) (p : Nat) (b : Bool) : (sgL bs).set p (.str (sgS b)) = sgL (bs.set p b) := by
  simp [sgL, List.map_set]
theorem sort2_nat (a b : Nat) : (sort2 (a : Int) (b : Int)).map At.int = [nA (min a b), nA (max a b)] := by
  unfold sort2
  split
  · rw [Nat.min_eq_left (by (first | decide | exact Int.natCast_nonneg _ | assumption | omega)), Nat.max_eq_right (by (first | decide | exact Int.natCast_nonneg _ | assumption | omega))]; rfl
  · rw [Nat.min_eq_right (by (first | decide | exact Int.natCast_nonneg _ | assumption | omega)), Nat.max_eq_left (by (first | decide | exact Int.natCast_nonneg _ | assumption | omega))]; rfl

noncomputable def hookI (bs : List Bool) (rs : List Nat) (ps : List Nat) (fin : List Bool × Nat) (rem : List At) (σ : St) : Prop :=
  ∃ (ps' : List Nat) (x : List Bool × Nat) (u1 u2 u3 : Option Ent), rem = ps'.map ltA ∧ (∀ p ∈ ps', p < 7) ∧ x.1.length = 8 ∧
    σ = [some (.v (.list (sgL bs))), some (.v (.list (rdL rs))), some (.v (.list (ps.map ltA))), some (.own (sgL x.1)), some (.v (.at (nA x.2))), u1, u2, u3] ∧ ps'.foldl hookN x = fin

theorem hooked_ok (W : World1 C) (bs : List Bool) (rs : List Nat) (ps : List Nat) (hb : bs.length = 8) (hr : rs.length = 7) (hp : ∀ p ∈ ps, p < 7) :
    FnS C 91 "_law_hooked" [.list (sgL bs), .list (rdL rs), .list (ps.map ltA)] (.pLA (sgL (hookedF bs ps).1) (nA (hookedF bs ps).2)) := by
  refine FnS.of_body (N := 90) (d := gHooked.1) (ps := ["signs", "riders", "letters"]) (rest := ["row", "rings", "letter", "place", "ends"]) (W.fns _ _ gHooked.2) rfl (fun L a cd => ?_) (by ((intro pm cd doc vals h; obtain ⟨a1, a2, a3, ee⟩ := len3 h; subst ee; rfl))) (by decide) (by decide)
  show ExsS C 90 _ ["signs", "riders", "letters", "row", "rings", "letter", "place", "ends"] [some (.v (.list (sgL bs))), some (.v (.list (rdL rs))), some (.v (.list (ps.map ltA))), none, none, none, none, none] _ _
  refine ExsS.cons (ExS.tupleSw (xs := ["row", "rings"]) (ents := [.own (sgL bs), .v (.at (nA 0))]) (.cons (EvL.listOf (c' := false) (EvsS.cons (EvS.name .head) EvsS.nil) (by (first | assumption | (rw [sgL_len]; omega)))) rfl (.cons EvS.int rfl .nil)) rfl (show 2 ≤ 1000 by decide) (.cons (.tail (.tail (.tail (.tail .head)))) (.cons (.tail (.tail (.tail .head))) .nil)) ?_)
  refine ExsS.cons (ExS.for (v := .list (ps.map ltA)) (l := ps.map ltA) (EvS.name (.tail (.tail .head))) rfl trivial (hookI bs rs ps (hookedF bs ps)) ⟨ps, (bs, 0), none, none, none, rfl, hp, hb, rfl, rfl⟩ ?_ ?_)
  · rintro a r σ _ ⟨ps', ⟨bs', n⟩, u1, u2, u3, hrem, hall, hlen, rfl, hfold⟩
    cases ps' with
    | nil => cases hrem
    | cons p ps' =>
      obtain ⟨rfl, rfl⟩ : a = ltA p ∧ r = ps'.map ltA := by simpa using hrem
      have hp7 : p < 7 := hall p (.head _)
      have hlen : bs'.length = 8 := hlen
      have hs1000 : (sgL bs').length ≤ 1000 := by rw [sgL_len, hlen]; decide
      rw [List.foldl_cons] at hfold
      refine ⟨_, .tail (.tail (.tail (.tail (.tail .head)))), ?_⟩
      refine ExsS.cons (ExS.assign (v := .at (nA p)) (EvS.cast (EvS.bin (EvS.name (.tail (.tail (.tail (.tail (.tail .head)))))) EvS.int BinS.sub) (by unfold nA; congr 2; omega)) (.tail (.tail (.tail (.tail (.tail (.tail .head)))))) ?_)
      refine ExsS.cons (ExS.ite (b := bal bs' p (p + 1)) (TsS.val (c' := false) (EvS.chk (c' := false) (i := p) (j := p + 1) W (EvsS.cons (EvS.own (.tail (.tail (.tail .head)))) (EvsS.cons (EvS.name (.tail .head)) (EvsS.cons (EvS.name (.tail (.tail (.tail (.tail (.tail (.tail .head))))))) (EvsS.cons (EvS.bin (EvS.name (.tail (.tail (.tail (.tail (.tail (.tail .head))))))) EvS.int BinS.add) EvsS.nil)))) (by (first | decide | exact Int.natCast_nonneg _ | assumption | omega)) hlen hr (by (first | decide | exact Int.natCast_nonneg _ | assumption | omega)) (by (first | decide | exact Int.natCast_nonneg _ | assumption | omega))) TruS.bool) (fun hb' => ?_) (fun hb' => ?_))
      · refine ExsS.cons (ExS.aug (a := (n : Int)) (b := 1) (r := ((n + 1 : Nat) : Int)) (.tail (.tail (.tail (.tail .head)))) EvS.int (.inl ⟨rfl, by omega⟩) (.tail (.tail (.tail (.tail .head)))) ?_)
        refine ExsS.nil (ExsS.nil ⟨ps', (bs', n + 1), _, _, _, rfl, fun x hx => hall x (.tail _ hx), hlen, rfl, ?_⟩)
        rw [← hfold, hookN, if_pos hb']
      · have hm1 := mateN_lt bs' p (by (first | decide | exact Int.natCast_nonneg _ | assumption | omega))
        have hm2 := mateN_lt bs' (p + 1) (by (first | decide | exact Int.natCast_nonneg _ | assumption | omega))
        refine ExsS.cons (ExS.assign (v := .list [nA (min (mateN bs' p) (mateN bs' (p + 1))), nA (max (mateN bs' p) (mateN bs' (p + 1)))]) (EvL.ev (EvL.cast (EvL.sorted2 (c' := false) (a := (mateN bs' p : Int)) (b := (mateN bs' (p + 1) : Int)) (EvsS.cons (EvL.ev (EvL.disp (l := [.at (nA (mateN bs' p)), .at (nA (mateN bs' (p + 1)))])
          (EvsS.cons (EvS.atom (c' := false) (EvS.call (EvsS.cons (EvS.own (.tail (.tail (.tail .head)))) (EvsS.cons (EvS.name (.tail .head)) (EvsS.cons (EvS.name (.tail (.tail (.tail (.tail (.tail (.tail .head))))))) EvsS.nil))) ((mate_ok W bs' rs p hlen hr (by (first | decide | exact Int.natCast_nonneg _ | assumption | omega))).room (by (first | decide | exact Int.natCast_nonneg _ | assumption | omega)))))
          (EvsS.cons (EvS.atom (c' := false) (EvS.call (EvsS.cons (EvS.own (.tail (.tail (.tail .head)))) (EvsS.cons (EvS.name (.tail .head)) (EvsS.cons (EvS.bin (EvS.name (.tail (.tail (.tail (.tail (.tail (.tail .head))))))) EvS.int BinS.add) EvsS.nil))) ((mate_ok W bs' rs (p + 1) hlen hr (by (first | decide | exact Int.natCast_nonneg _ | assumption | omega))).room (by (first | decide | exact Int.natCast_nonneg _ | assumption | omega))))) EvsS.nil)) rfl (show 2 ≤ 1000 by decide))) EvsS.nil)) (sort2_nat _ _))) (.tail (.tail (.tail (.tail (.tail (.tail (.tail .head))))))) ?_)
        refine ExsS.cons (ExS.set2 (l := sgL bs') (m := (p : Int)) (n := ((p + 1 : Nat) : Int)) (a := .str (sgS true)) (b := .str (sgS false)) (.tail (.tail (.tail .head))) EvS.str EvS.str (EvS.name (.tail (.tail (.tail (.tail (.tail (.tail .head))))))) (.tail (.tail (.tail .head))) (EvS.bin (EvS.name (.tail (.tail (.tail (.tail (.tail (.tail .head))))))) EvS.int BinS.add) (.tail (.tail (.tail .head))) (by (first | assumption | (rw [sgL_len]; omega))) (by (first | assumption | (rw [sgL_len]; omega))) (by (first | assumption | (rw [sgL_len]; omega))) ?_)
        rw [Int.toNat_natCast, Int.toNat_natCast, sgL_set, sgL_set]
        refine ExsS.cons (ExS.set2 (l := sgL ((bs'.set p true).set (p + 1) false)) (m := ((min (mateN bs' p) (mateN bs' (p + 1)) : Nat) : Int)) (n := ((max (mateN bs' p) (mateN bs' (p + 1)) : Nat) : Int)) (a := .str (sgS true)) (b := .str (sgS false)) (.tail (.tail (.tail .head))) EvS.str EvS.str
          (EvS.item (c' := false) (EvS.name (.tail (.tail (.tail (.tail (.tail (.tail (.tail .head)))))))) EvS.int (ItemS.list (by decide) rfl (show 2 < 2 ^ 62 by decide))) (.tail (.tail (.tail .head)))
          (EvS.item (c' := false) (EvS.name (.tail (.tail (.tail (.tail (.tail (.tail (.tail .head)))))))) EvS.int (ItemS.list (by decide) rfl (show 2 < 2 ^ 62 by decide))) (.tail (.tail (.tail .head))) (by rw [sgL_len]; simp [hlen]; omega) (by rw [sgL_len]; simp [hlen]; omega) (by rw [sgL_len]; simp [hlen]) ?_)
        rw [Int.toNat_natCast, Int.toNat_natCast, sgL_set, sgL_set]
        refine ExsS.nil (ExsS.nil ⟨ps', (hookSet bs' p (mateN bs' p) (mateN bs' (p + 1)), n), _, _, _, rfl, fun x hx => hall x (.tail _ hx), ?_, rfl, ?_⟩)
        · simp [hookSet, hlen]
        · rw [← hfold, hookN, if_neg (by simp [hb'])]
  · rintro σ ⟨ps', ⟨bs', n⟩, u1, u2, u3, hrem, _, hlen, rfl, hfold⟩
    have : ps' = [] := by simpa using hrem.symm
    subst this
    refine ExsS.cons (ExS.ret (v := .pLA (sgL (hookedF bs ps).1) (nA (hookedF bs ps).2)) ?_ rfl)
    rw [← hfold]
    exact EvS.pairLA (EvsS.cons (EvS.name (.tail (.tail (.tail .head)))) (EvsS.cons (EvS.name (.tail (.tail (.tail (.tail .head))))) EvsS.nil))
end Mine
end partPH

section partMT
open PySem PySem.Calls PyProof.Rows
set_option maxRecDepth 100000
set_option linter.all false
namespace Mine
section
variable {C : Cfg} {p c : Bool} {N : Nat} {env : Env} {vs : List Str} {σ σ' : St} {P : List Addr} {Xc : Addr → Prop} {h h' : Heap} {Post : Fl → St → Prop}

theorem ExS.assignC {elt iter : Expr} {x0 y : Str} {px py : Pos} {ifs : List Expr} {scope : Scope} {cl : List (Str × Addr)} {pos spos : Pos} {caps : List Str} {cσ : St} {v : V} {l : List At} {pb : At → Bool} {f : At → At}
    (hclos : closureFor scope env = pure cl) (hcell : ∀ y ∈ scope.names, y.2 ≠ .cell) (hkind : scope.kind = .function) (hnames : ∀ y ∈ scope.names, y.2 = .local → scope.names.lookup y.1 = some .local) (hx : scope.names.lookup x0 = some .local)
    (hi : EvS C false true N env vs σ iter v) (hl : itemsOf v = some l) (hsm : smallV v) (hz : l.length ≤ 1000) (hcap : CapOk env scope cl caps) (hsub : Sub vs σ caps cσ) (H : CompS C N env scope cl x0 caps cσ ifs elt l pb f)
    (hp : Put vs σ y (.v (.list ((l.filter pb).map f))) σ') (hP : Post .next σ')
    (hsw : swapsWith (.ListComp elt [⟨.Name x0 px, iter, ifs, 0⟩] scope pos) (some (.Name y py)) spos.line env = pure true := by rfl) (hy : env.kindOf y = some .local := by rfl) (hs : ∀ x, foldedSetIterable iter env x = pure x := by intro _; rfl) :
    ExS C N env vs σ (.Assign [.Name y py] (.ListComp elt [⟨.Name x0 px, iter, ifs, 0⟩] scope pos) spos) Post := .mk fun A s P Xc Q hr hF hq => by
  have hf := hF.fm
  refine wpAny_Assign_ListComp_free (cl := cl) (fun v => pb (atOf v)) (fun v y => IsAt (f (atOf v)) y) hsw hclos hcell hkind hnames hx hy (by rw [hF.kind]; rfl) (hi.run A s _ _ hr hf fun x s₁ d e₁ => ?_) hs
  have d' : IsV s₁.heap (XP Xc P) v x := d.mono fun _ _ y _ => ⟨rfl, y⟩
  refine iter_wp (hr := hr.h) hl d' hsm fun I fp Pv St h₂ W hPv hlv st k fr hfp => ?_
  have e₂ := e₁.trans (.heap k)
  have F₁ := hF.keep e₁.keep
  obtain ⟨m, hm⟩ := F₁.ns
  have hIl : env.locals ≠ I := fun q => by obtain ⟨o, ho⟩ := F₁.liveP _ F₁.locP; rw [q, fr] at ho; cases ho
  refine ⟨I, fp, [I], l.length, (fun i v => i < l.length ∧ Pv i v), St, m, rfl, W.bound, by have : sizeLine = 16777216 := rfl; omega, st, fun b hb => ?_, ?_, hm.keeps k, ?_, ?_⟩
  · rcases hfp b hb with rfl | ⟨_, o, ho⟩
    · obtain ⟨o, ho⟩ := hlv _ _ st
      exact Heap.lt_size ho
    · exact Heap.lt_size (k _ _ ho)
  · simpa using hIl
  · exact comp_quiet hr hf e₂.keep (fresh_of e₁ fr) hkind hcap hsub hx (fun i val hp => let ⟨a, q, r⟩ := hPv i val hp.2 hp.1; ⟨a, List.mem_of_getElem? q, r⟩) H
  · intro D h'' tk ys vals hD _ hpl hlen hpp hpair hns hkp
    have hA : AtsAre l vals := AtsAre.of_get hlen fun i a v q q' => by
      obtain ⟨h1, h2⟩ := hpp i v q'
      obtain ⟨a', z, z'⟩ := hPv i v h2 h1
      rw [q] at z; cases z; exact z'
    have k2 : ∀ b o, b ≠ env.locals → s₁.heap.get? b = some o → h''.get? b = some o := fun b o hb e => hkp b o hb (fun q => by rcases List.mem_cons.mp q with rfl | q; rw [fr] at e; cases e; cases q) (k b o e)
    have hDn : s₁.heap.get? D = none := by
      cases q : s₁.heap.get? D with
      | none => rfl
      | some o => have := k _ _ q; rw [show h₂.get? D = none from hD] at this; cases this
    have c : Chg env P y (.ref D) s₁.heap h'' := by
      refine ⟨⟨env.locals, F₁.locP, .inl rfl, k2⟩, .inl ⟨hy, _, hns, by simp⟩, fun z u hne hu => ?_, ⟨_, hns⟩, fun z cc v' e hv => ?_⟩
      · rcases hu with ⟨k1, m2, hm2, e⟩ | ⟨k1, cc, e, o, ho, r⟩
        · exact .inl ⟨k1, _, hns, by rw [if_neg hne, Ns.det hm hm2]; exact e⟩
        · exact .inr ⟨k1, cc, e, o, k2 _ _ (F₁.cells z cc e).2.1 ho, r⟩
      · obtain ⟨o, ho, r⟩ := hv
        exact ⟨v', o, k2 _ _ (F₁.cells z cc e).2.1 ho, r⟩
    have hL : IsV h'' (XP Xc P) (.list ((l.filter pb).map f)) (.ref D) := ⟨D, rfl, (fun q => by obtain ⟨o, ho⟩ := F₁.fm.live D q; rw [hDn] at ho; cases ho), ys, hpl, paired_are hA hpair⟩
    refine hq _ _ _ _ hP (.of_put (F₁.put_v' c hp hL) ?_)
    refine (ExtP.of_ext (P := P) e₁).trans (P' := P) ?_ fun _ h => .inl h
    exact .heapt fun b o hb e => k2 b o (fun q => hb (q ▸ F₁.locP)) e
end
end Mine
end partMT

section partPI
open PySem PySem.Calls PyProof.Rows
set_option maxRecDepth 100000
set_option linter.all false
set_option maxHeartbeats 4000000
namespace Mine

variable {C : Cfg}

noncomputable def lcode (p : Nat) : Nat := [43, 45, 42, 47, 124, 38, 60].getD p 0
noncomputable def txt (ps : List Nat) : Str := ⟨(ps.map lcode).toArray⟩
noncomputable def dbl (p q : Nat) : Bool := p == q && (p == 2 || p == 3 || p == 6)
structure Tok1 (C : Cfg) : Prop where
  t1 : ∀ p, p < 7 → C.tok (txt [p]) = some ((p : Int) + 14)
  t2 : ∀ p q, p < 7 → q < 7 → C.tok (txt [p, q]) = if dbl p q = true then some (dueOf ((p : Int) + 14)) else none
  t3 : ∀ p q r, p < 7 → q < 7 → r < 7 → C.tok (txt [p, q, r]) = none

noncomputable def cutG : List Nat → List Int
  | [] => []
  | [p] => [(p : Int) + 14]
  | p :: q :: r => if dbl p q = true then dueOf ((p : Int) + 14) :: cutG r else ((p : Int) + 14) :: cutG (q :: r)
noncomputable def cutN : List Nat → Nat
  | p :: q :: _ => if dbl p q = true then 2 else 1
  | _ => 1
noncomputable def cutV : List Nat → Int
  | p :: q :: _ => if dbl p q = true then dueOf ((p : Int) + 14) else (p : Int) + 14
  | p :: _ => (p : Int) + 14
  | [] => 0
theorem cutG_step : ∀ (ps : List Nat), ps ≠ [] → cutG ps = cutV ps :: cutG (ps.drop (cutN ps))
  | [], h => (h rfl).elim
  | [p], _ => rfl
  | p :: q :: r, _ => by
    simp only [cutG, cutV, cutN]
    split <;> rfl

theorem txt_len (ps : List Nat) : (txt ps).length = ps.length := by simp [txt, Str.length]
theorem str_ext {x y : Str} (h : x.cps.toList = y.cps.toList) : x = y := by
  cases x; cases y; congr 1; exact Array.ext' h
theorem slice_min (x : Str) (a b : Nat) (hb : x.length ≤ b) : Txt.slice x (some (a : Int)) (some (b : Int)) = Txt.slice x (some (a : Int)) (some (x.length : Int)) := by
  have : Builtin.Str.strSliceIndices (some (a : Int)) (some (b : Int)) 1 x.length = Builtin.Str.strSliceIndices (some (a : Int)) (some (x.length : Int)) 1 x.length := by
    have h0 : (1 : Int) > 0 := by decide
    have h1 : ¬ ((a : Int) < 0) := by omega
    have h2 : ¬ ((b : Int) < 0) := by omega
    have h3 : ¬ ((x.length : Int) < 0) := by omega
    have e1 : max (0 : Int) (min (b : Int) (x.length : Int)) = x.length := by omega
    have e2 : max (0 : Int) (min (x.length : Int) (x.length : Int)) = x.length := by omega
    simp only [Builtin.Str.strSliceIndices, h0, h1, h2, h3, if_false, if_true, e1, e2]
  unfold Txt.slice
  rw [this]
theorem slice_txt (pre rem : List Nat) (k : Nat) : Txt.slice (txt (pre ++ rem)) (some (pre.length : Int)) (some ((pre.length : Int) + (k : Int))) = txt (rem.take k) := by
  apply str_ext
  have hl := txt_len (pre ++ rem)
  rw [List.length_append] at hl
  have ht : (txt (pre ++ rem)).cps.toList = pre.map lcode ++ rem.map lcode := by simp [txt]
  have hr : (txt (rem.take k)).cps.toList = (rem.map lcode).take k := by simp [txt, List.map_take]
  rw [hr]
  by_cases hk : pre.length + k ≤ (txt (pre ++ rem)).length
  · have e : ((pre.length : Int) + (k : Int)) = ((pre.length + k : Nat) : Int) := by omega
    rw [e, slice_nat _ (by (first | decide | exact Int.natCast_nonneg _ | assumption | omega)) hk, ht, List.drop_append_of_le_length (by simp), List.drop_of_length_le (by simp)]
    simp
  · have e : ((pre.length : Int) + (k : Int)) = ((pre.length + k : Nat) : Int) := by omega
    rw [e, slice_min _ _ _ (by (first | decide | exact Int.natCast_nonneg _ | assumption | omega)), slice_nat _ (by (first | decide | exact Int.natCast_nonneg _ | assumption | omega)) (Nat.le_refl _), ht, List.drop_append_of_le_length (by simp), List.drop_of_length_le (by simp), List.nil_append, List.take_of_length_le (by simp; omega), List.take_of_length_le (by simp; omega)]

noncomputable def cutPb (C : Cfg) (rem : List Nat) : At → Bool
  | .int k => (C.tok (txt (rem.take k.toNat))).isSome
  | _ => false
noncomputable def cutF (rem : List Nat) : At → At
  | .int k => .str (txt (rem.take k.toNat))
  | _ => .none
noncomputable def one23 : List At := [.int 1, .int 2, .int 3]
theorem cut_last (T : Tok1 C) : ∀ (rem : List Nat), rem ≠ [] → (∀ p ∈ rem, p < 7) → ((one23.filter (cutPb C rem)).map (cutF rem)).getLast? = some (.str (txt (rem.take (cutN rem)))) ∧ C.tok (txt (rem.take (cutN rem))) = some (cutV rem) ∧ (one23.filter (cutPb C rem)).length ≤ 3
  | [], h, _ => (h rfl).elim
  | [p], _, h => by
    have h1 := T.t1 p (h p (.head _))
    have q : ∀ k : Int, 1 ≤ k → cutPb C [p] (.int k) = true := fun k hk => by
      have : ([p] : List Nat).take k.toNat = [p] := List.take_of_length_le (by simp; omega)
      simp only [cutPb, this, h1]; rfl
    refine ⟨?_, h1, ?_⟩
    · simp only [one23, List.filter_cons, List.filter_nil, q 1 (by (first | decide | exact Int.natCast_nonneg _ | assumption | omega)), q 2 (by (first | decide | exact Int.natCast_nonneg _ | assumption | omega)), q 3 (by (first | decide | exact Int.natCast_nonneg _ | assumption | omega)), if_true]; rfl
    · simp only [one23, List.filter_cons, List.filter_nil, q 1 (by (first | decide | exact Int.natCast_nonneg _ | assumption | omega)), q 2 (by (first | decide | exact Int.natCast_nonneg _ | assumption | omega)), q 3 (by (first | decide | exact Int.natCast_nonneg _ | assumption | omega)), if_true]; decide
  | p :: q :: rest, _, h => by
    have hp := h p (.head _)
    have hq := h q (.tail _ (.head _))
    have h1 := T.t1 p hp
    have h2 := T.t2 p q hp hq
    have a1 : cutPb C (p :: q :: rest) (.int 1) = true := by
      show (C.tok (txt [p])).isSome = true
      rw [h1]; rfl
    have a2 : cutPb C (p :: q :: rest) (.int 2) = dbl p q := by
      show (C.tok (txt [p, q])).isSome = _
      rw [h2]; split
      · rename_i e; rw [e]; rfl
      · rename_i e; simp at e; rw [e]; rfl
    have a3 : cutPb C (p :: q :: rest) (.int 3) = true → rest = [] ∧ dbl p q = true := fun e => by
      cases rest with
      | nil => exact ⟨rfl, by rw [← a2]; exact e⟩
      | cons r rest =>
        have : (C.tok (txt [p, q, r])).isSome = true := e
        rw [T.t3 p q r hp hq (h r (.tail _ (.tail _ (.head _))))] at this
        cases this
    cases hd : dbl p q with
    | true =>
      have hn : cutN (p :: q :: rest) = 2 := by simp [cutN, hd]
      have hv : cutV (p :: q :: rest) = dueOf ((p : Int) + 14) := by simp [cutV, hd]
      rw [hn, hv]
      rw [hd] at a2
      refine ⟨?_, ?_, ?_⟩
      · simp only [one23, List.filter_cons, List.filter_nil, a1, a2, if_true]
        split
        · rename_i e; obtain ⟨rfl, _⟩ := a3 e; rfl
        · rfl
      · show C.tok (txt [p, q]) = _
        rw [h2, if_pos hd]
      · exact Nat.le_trans (List.length_filter_le _ _) (by decide)
    | false =>
      have hn : cutN (p :: q :: rest) = 1 := by simp [cutN, hd]
      have hv : cutV (p :: q :: rest) = (p : Int) + 14 := by simp [cutV, hd]
      rw [hn, hv]
      rw [hd] at a2
      have a3' : cutPb C (p :: q :: rest) (.int 3) = false := by
        cases e : cutPb C (p :: q :: rest) (.int 3) with
        | false => rfl
        | true => rw [(a3 e).2] at hd; cases hd
      refine ⟨?_, h1, ?_⟩
      · simp only [one23, List.filter_cons, List.filter_nil, a1, a2, a3', if_true, Bool.false_eq_true, if_false]; rfl
      · exact Nat.le_trans (List.length_filter_le _ _) (by decide)

noncomputable def cutI (ps : List Nat) (n : Nat) (σ : St) : Prop :=
  ∃ (pre rem : List Nat) (acc : List Int) (u : Option Ent), ps = pre ++ rem ∧ n = rem.length ∧ σ = [some (.v (.at (.str (txt ps)))), some (.own (acc.map .int)), some (.v (.at (nA pre.length))), u] ∧ acc ++ cutG rem = cutG ps ∧ acc.length ≤ pre.length

theorem cut_ok (W : World1 C) (T : Tok1 C) (ps : List Nat) (hp : ∀ p ∈ ps, p < 7) (hz : ps.length ≤ 500) : FnS C 31 "_law_cut" [.at (.str (txt ps))] (.list ((cutG ps).map .int)) := by
  refine FnS.of_body (N := 30) (d := gCut.1) (ps := ["text"]) (rest := ["numbers", "place", "found"]) (W.fns _ _ gCut.2) rfl (fun L a cd => ?_) (by ((intro pm cd doc vals h; obtain ⟨a1, ee⟩ := len1 h; subst ee; rfl))) (by decide) (by decide)
  show ExsS C 30 _ ["text", "numbers", "place", "found"] [some (.v (.at (.str (txt ps)))), none, none, none] _ _
  refine ExsS.cons (ExS.tuple (xs := ["numbers", "place"]) (ents := [.own [], .v (.at (nA 0))]) (.cons (EvL.disp EvsS.nil rfl) rfl (.cons EvS.int rfl .nil)) rfl (by decide) (.cons (stores_assign _ _) (.cons (stores_assign _ _) .nil)) rfl rfl (.cons (.tail .head) (.cons (.tail (.tail .head)) .nil)) ?_)
  refine ExsS.cons (ExS.while (cutI ps) ps.length ⟨[], ps, [], none, rfl, rfl, rfl, rfl, Nat.le_refl _⟩ ?_)
  rintro n σ ⟨pre, rem, acc, u, rfl, rfl, rfl, hacc, hle⟩
  have hlen := txt_len (pre ++ rem)
  rw [List.length_append] at hlen hz
  refine ⟨decide (0 < rem.length), TsS.cast (TsS.cmp (c₁ := false) (c₂ := false) (EvS.name (.tail (.tail .head))) (EvS.bi (c' := false) (EvsS.cons (EvS.name .head) EvsS.nil) (BiS.lenS (by (first | decide | exact Int.natCast_nonneg _ | assumption | omega))) (by (first | exact bn_len | exact bn_min | exact bn_max | exact bn_abs | exact bn_sum)) (by (first | decide | exact Int.natCast_nonneg _ | assumption | omega))) CmpS.ltI) (decide_eq_decide.mpr (by rw [hlen]; omega)), fun hb => ?_, fun hb => ?_⟩
  · have hpos : 0 < rem.length := by simpa using hb
    have hne : rem ≠ [] := List.length_pos_iff.mp hpos
    have hrem : ∀ p ∈ rem, p < 7 := fun p h => hp p (List.mem_append_right _ h)
    obtain ⟨hl1, hl2, hl3⟩ := cut_last T rem hne hrem
    have hcn : 1 ≤ cutN rem ∧ cutN rem ≤ rem.length := by
      match rem, hne with
      | [p], _ => exact ⟨Nat.le_refl 1, Nat.le_refl 1⟩
      | p :: q :: r, _ => simp only [cutN]; split <;> simp
    refine ExsS.cons (ExS.assignC (caps := ["place", "text"]) (cσ := [some (.v (.at (nA pre.length))), some (.v (.at (.str (txt (pre ++ rem)))))]) (v := .tup one23) (l := one23) (pb := cutPb C rem) (f := cutF rem) rfl (by decide) rfl (by decide) rfl
      (EvS.tup (EvsS.cons EvS.int (EvsS.cons EvS.int (EvsS.cons EvS.int EvsS.nil))) rfl (show 3 ≤ 1000 by decide)) rfl trivial (show 3 ≤ 1000 by decide) (.cons rfl rfl rfl (.cons rfl rfl rfl .nil)) (.cons (.tail (.tail .head)) (.cons .head .nil)) ?_ (.tail (.tail (.tail .head))) ?_)
    · have hsl : ∀ a ∈ one23, ∃ k : Nat, a = .int (k : Int) := fun a ha => by
        simp [one23] at ha
        rcases ha with rfl | rfl | rfl
        · exact ⟨1, rfl⟩
        · exact ⟨2, rfl⟩
        · exact ⟨3, rfl⟩
      constructor
      · intro a ha Cad
        obtain ⟨k, rfl⟩ := hsl a ha
        refine (TsS.tokIn (EvS.sliceS2 (c' := false) (EvS.name (.tail (.tail .head))) (EvS.name (.tail .head)) (EvS.bin (EvS.name (.tail .head)) (EvS.name .head) BinS.add) (by have : sizeLine = 16777216 := rfl; omega))).cast ?_
        rw [slice_txt]
        rfl
      · intro a ha _ Cad
        obtain ⟨k, rfl⟩ := hsl a ha
        refine ⟨false, EvS.cast (EvS.sliceS2 (c' := false) (EvS.name (.tail (.tail .head))) (EvS.name (.tail .head)) (EvS.bin (EvS.name (.tail .head)) (EvS.name .head) BinS.add) (by have : sizeLine = 16777216 := rfl; omega)) ?_⟩
        rw [slice_txt]
        rfl
    · have hfl : ((one23.filter (cutPb C rem)).map (cutF rem)).length < 2 ^ 62 := by rw [List.length_map]; omega
      refine ExsS.cons (ExS.append (l := acc.map .int) (a := .int (cutV rem)) (.tail .head) (EvsS.cons (EvS.tokAt (EvS.item (c' := false) (EvS.name (.tail (.tail (.tail .head)))) (EvS.neg EvS.int) (ItemS.last hl1 hfl)) hl2) EvsS.nil) (.tail .head) (by simp; omega) ?_)
      have hbl : (txt (rem.take (cutN rem))).length = cutN rem := by rw [txt_len, List.length_take]; omega
      refine ExsS.cons (ExS.aug (a := (pre.length : Int)) (b := ((txt (rem.take (cutN rem))).length : Int)) (r := ((pre ++ rem.take (cutN rem)).length : Int)) (.tail (.tail .head)) (EvS.bi (c' := false) (EvsS.cons (EvS.item (c := false) (c' := false) (EvS.name (.tail (.tail (.tail .head)))) (EvS.neg EvS.int) (ItemS.last hl1 hfl)) EvsS.nil) (BiS.lenS (by (first | decide | exact Int.natCast_nonneg _ | assumption | omega))) (by (first | exact bn_len | exact bn_min | exact bn_max | exact bn_abs | exact bn_sum)) (by (first | decide | exact Int.natCast_nonneg _ | assumption | omega))) (.inl ⟨rfl, by rw [txt_len, List.length_append]; omega⟩) (.tail (.tail .head)) ?_)
      refine ExsS.nil ⟨(rem.drop (cutN rem)).length, by rw [List.length_drop]; omega, pre ++ rem.take (cutN rem), rem.drop (cutN rem), acc ++ [cutV rem], _, by rw [List.append_assoc, List.take_append_drop], rfl, by rw [List.map_append]; rfl, ?_, by rw [List.length_append, List.length_append, List.length_take]; simp; omega⟩
      rw [← hacc, cutG_step rem hne, List.append_assoc]
      rfl
  · have : rem = [] := by simpa using hb
    subst this
    refine ExsS.cons (ExS.ret (v := .list ((cutG (pre ++ [])).map .int)) ?_ rfl)
    rw [← hacc]
    simp only [cutG, List.append_nil]
    exact EvS.name (v := .list (acc.map .int)) (.tail .head)
end Mine
end partPI

section partPJ
open PySem PySem.Calls PyProof.Rows
set_option maxRecDepth 100000
set_option linter.all false
set_option maxHeartbeats 4000000
namespace Mine

variable {C : Cfg}

noncomputable def dist (a b : Nat) : Nat := if a ≤ b then b - a else a - b
noncomputable def scan (ws : List Nat) (a : Nat) : List Nat → List Nat → Option (Nat × List Nat)
  | [], _ => none
  | j :: js, near => if (dist a (ws.getD j 0) == 0) = true then some (j, near) else scan ws a js (if dist a (ws.getD j 0) < 2 then near ++ [j] else near)
noncomputable def keepK (j : Nat) (near : List Nat) (k : Nat) : Bool := ((k : Int) != (j : Int)) && !((near.map fun n : Nat => (n : Int)).any (· == (k : Int)))
noncomputable def dropK (ws : List Nat) (j : Nat) (near : List Nat) : List Nat := ((List.range ws.length).filter (keepK j near)).map (ws.getD · 0)
structure Sh where
  ws : List Nat
  r : Nat
  i : Nat
noncomputable def upTo (a b : Nat) : List Nat := (List.range (b - a)).map (a + ·)
noncomputable def shStep (x : Sh) : Sh :=
  match scan x.ws (x.ws.getD x.i 0) (upTo (x.i + 1) x.ws.length) [] with
  | some (j, near) => if near.length < 2 then ⟨dropK x.ws j near, x.r + (1 - near.length), 0⟩ else ⟨x.ws, x.r, x.i + 1⟩
  | none => ⟨x.ws, x.r, x.i + 1⟩
noncomputable def shRun : Nat → Sh → Sh
  | 0, x => x
  | n + 1, x => if x.i < x.ws.length then shRun n (shStep x) else x
noncomputable def shMu (x : Sh) : Nat := x.ws.length * 600 + (x.ws.length - x.i)
noncomputable def shortF (ws : List Nat) : Sh := shRun (shMu ⟨ws, 0, 0⟩) ⟨ws, 0, 0⟩

theorem scan_some {ws : List Nat} {a : Nat} : ∀ {js near : List Nat} {j : Nat} {near' : List Nat}, scan ws a js near = some (j, near') → j ∈ js
  | j0 :: js, near, j, near', h => by
    unfold scan at h
    split at h
    · cases h; exact .head _
    · exact .tail _ (scan_some h)
theorem mem_upTo {a b k : Nat} : k ∈ upTo a b ↔ a ≤ k ∧ k < b := by
  simp only [upTo, List.mem_map, List.mem_range]
  constructor
  · rintro ⟨t, h, rfl⟩; omega
  · rintro ⟨h1, h2⟩; exact ⟨k - a, by omega, by omega⟩
theorem dropK_len {ws : List Nat} {j : Nat} {near : List Nat} (hj : j < ws.length) : (dropK ws j near).length < ws.length := by
  unfold dropK
  rw [List.length_map]
  refine Nat.lt_of_lt_of_eq ?_ List.length_range
  rw [List.length_filter_lt_length_iff_exists]
  exact ⟨j, List.mem_range.mpr hj, by simp [keepK]⟩
theorem shStep_len (x : Sh) : (shStep x).ws.length ≤ x.ws.length := by
  unfold shStep
  split
  · rename_i j near h
    split
    · exact Nat.le_of_lt (dropK_len (mem_upTo.mp (scan_some h)).2)
    · exact Nat.le_refl _
  · exact Nat.le_refl _
theorem mu_lt {a b i : Nat} (h : a < b) (hb : b ≤ 500) : a * 600 + (a - 0) < b * 600 + (b - i) := by omega
theorem mu_next {b i : Nat} (h : i < b) : b * 600 + (b - (i + 1)) < b * 600 + (b - i) := by omega
theorem shStep_mu (x : Sh) (hx : x.i < x.ws.length) (hz : x.ws.length ≤ 500) : shMu (shStep x) < shMu x := by
  unfold shStep
  split
  · rename_i j near h
    split
    · exact mu_lt (dropK_len (near := near) (mem_upTo.mp (scan_some h)).2) hz
    · exact mu_next hx
  · exact mu_next hx
theorem dropK_mem {ws : List Nat} {j : Nat} {near : List Nat} {w : Nat} (h : w ∈ dropK ws j near) : w ∈ ws := by
  unfold dropK at h
  obtain ⟨k, hk, rfl⟩ := List.mem_map.mp h
  have := List.mem_range.mp (List.mem_filter.mp hk).1
  simp [List.getD, List.getElem?_eq_getElem this]

theorem range_items (n : Nat) : rangeItems 0 (n : Int) 1 = (List.range n).map nA := by
  have := small_range (a := 0) (b := n) (by (first | decide | exact Int.natCast_nonneg _ | assumption | omega))
  unfold rangeItems
  rw [show ((0 : Nat) : Int) = 0 from rfl] at this
  rw [this, Int.toNat_natCast]
  refine List.map_congr_left fun t _ => ?_
  show At.int _ = At.int _
  congr 1; omega
theorem range_from {a b : Nat} (hab : a ≤ b) : rangeItems (a : Int) (b : Int) 1 = (upTo a b).map nA := by
  unfold rangeItems upTo
  rw [small_range hab, Int.toNat_natCast, List.map_map]
  refine List.map_congr_left fun t _ => ?_
  show At.int ((a : Int) + (t : Int) * 1) = At.int ((a + t : Nat) : Int)
  congr 1; omega
theorem ltL_at (ws : List Nat) (k : Nat) (h : k < ws.length) : (ws.map ltA)[((k : Nat) : Int).toNat]? = some (ltA (ws.getD k 0)) := by
  rw [Int.toNat_natCast]
  simp [List.getD, List.getElem?_eq_getElem h]

noncomputable def shWord (ls ws : List Nat) (r i : Nat) (near : Option Ent) (j ap : Option Ent) : St := [some (.v (.list (ls.map ltA))), some (.v (.list (ws.map ltA))), some (.v (.at (nA r))), some (.v (.at (nA i))), near, j, ap]
noncomputable def shVs : List Str := ["letters", "word", "rings", "i", "near", "j", "apart"]
noncomputable def shI (ls : List Nat) (fin : Sh) (n : Nat) (σ : St) : Prop :=
  ∃ (x : Sh) (u1 u2 u3 : Option Ent), σ = shWord ls x.ws x.r x.i u1 u2 u3 ∧ shMu x ≤ n ∧ (shRun n x).ws = fin.ws ∧ (shRun n x).r = fin.r ∧ x.ws.length ≤ 500
noncomputable def scI (ls : List Nat) (x : Sh) (rem : List At) (σ : St) : Prop :=
  ∃ (js near : List Nat) (u2 u3 : Option Ent), rem = js.map nA ∧ (∀ j ∈ js, j < x.ws.length) ∧ near.length + js.length ≤ 500 ∧ σ = shWord ls x.ws x.r (x.i + 1) (some (.own (near.map nA))) u2 u3 ∧ scan x.ws (x.ws.getD x.i 0) js near = scan x.ws (x.ws.getD x.i 0) (upTo (x.i + 1) x.ws.length) []

noncomputable def keepA (j : Nat) (near : List Nat) : At → Bool
  | .int k => (k != (j : Int)) && !((near.map fun n : Nat => (n : Int)).any (· == k))
  | _ => false
noncomputable def wordA (ws : List Nat) : At → At
  | .int k => ltA (ws.getD k.toNat 0)
  | _ => .none
theorem drop_comp (ws : List Nat) (j : Nat) (near : List Nat) : ((rangeItems 0 (ws.length : Int) 1).filter (keepA j near)).map (wordA ws) = (dropK ws j near).map ltA := by
  rw [range_items, List.filter_map, List.map_map]
  unfold dropK
  rw [List.map_map]
  rfl

theorem short_ok (W : World1 C) (ls : List Nat) (hz : ls.length ≤ 500) : FnS C 41 "_law_short" [.list (ls.map ltA)] (.pLA ((shortF ls).ws.map ltA) (nA (shortF ls).r)) := by
  refine FnS.of_body (N := 40) (d := gShort.1) (ps := ["letters"]) (rest := ["word", "rings", "i", "near", "j", "apart"]) (W.fns _ _ gShort.2) rfl (fun L a cd => ?_) (by ((intro pm cd doc vals h; obtain ⟨a1, ee⟩ := len1 h; subst ee; rfl))) (by decide) (by decide)
  show ExsS C 40 _ ["letters", "word", "rings", "i", "near", "j", "apart"] [some (.v (.list (ls.map ltA))), none, none, none, none, none, none] _ _
  refine ExsS.cons (ExS.tuple (xs := ["word", "rings", "i"]) (ents := [.v (.list (ls.map ltA)), .v (.at (nA 0)), .v (.at (nA 0))]) (.cons (EvS.name .head) rfl (.cons EvS.int rfl (.cons EvS.int rfl .nil))) rfl (show 3 ≤ 1000 by decide) (.cons (stores_assign _ _) (.cons (stores_assign _ _) (.cons (stores_assign _ _) .nil))) rfl rfl (.cons (.tail .head) (.cons (.tail (.tail .head)) (.cons (.tail (.tail (.tail .head))) .nil))) ?_)
  refine ExsS.cons (ExS.while (shI ls (shortF ls)) (shMu ⟨ls, 0, 0⟩) ⟨⟨ls, 0, 0⟩, none, none, none, rfl, Nat.le_refl _, rfl, rfl, hz⟩ ?_)
  rintro n σ ⟨⟨ws, r, i⟩, u1, u2, u3, rfl, hmu, hfin1, hfin2, hlen⟩
  have hlen : ws.length ≤ 500 := hlen
  have hw62 : (ws.map ltA).length < 2 ^ 62 := map62 (Nat.le_trans hlen (by decide))
  refine ⟨decide (i < ws.length), TsS.cast (TsS.cmp (c₁ := false) (c₂ := false) (EvS.name (v := .at (nA i)) (.tail (.tail (.tail .head)))) (EvS.bi (c' := false) (EvsS.cons (EvS.name (v := .list (ws.map ltA)) (.tail .head)) EvsS.nil) (BiS.lenL (by (first | assumption | exact map62 (by (first | decide | exact Int.natCast_nonneg _ | assumption | omega)) | (rw [List.length_map]; omega)))) (by (first | exact bn_len | exact bn_min | exact bn_max | exact bn_abs | exact bn_sum)) (by (first | decide | exact Int.natCast_nonneg _ | assumption | omega))) CmpS.ltI) (decide_eq_decide.mpr (by (first | assumption | exact map62 (by (first | decide | exact Int.natCast_nonneg _ | assumption | omega)) | (rw [List.length_map]; omega)))), fun hb => ?_, fun hb => ?_⟩
  · have hi : i < ws.length := by simpa using hb
    obtain ⟨m, rfl⟩ : ∃ m, n = m + 1 := by
      cases n with
      | zero => exact absurd hmu (by simp only [shMu]; omega)
      | succ m => exact ⟨m, rfl⟩
    have hmu2 : shMu (shStep ⟨ws, r, i⟩) ≤ m := by have := shStep_mu ⟨ws, r, i⟩ hi hlen; omega
    rw [shRun, if_pos hi] at hfin1 hfin2
    -- what a turn comes to
    have done : ∀ σ, (∃ u1 u2 u3, σ = shWord ls (shStep ⟨ws, r, i⟩).ws (shStep ⟨ws, r, i⟩).r (shStep ⟨ws, r, i⟩).i u1 u2 u3) → ∃ k, k < m + 1 ∧ shI ls (shortF ls) k σ := fun σ ⟨u1, u2, u3, hσ⟩ =>
      ⟨m, by omega, shStep ⟨ws, r, i⟩, u1, u2, u3, hσ, hmu2, hfin1, hfin2, Nat.le_trans (shStep_len _) hlen⟩
    refine ExsS.cons (ExS.tuple (xs := ["near", "i"]) (ents := [.own [], .v (.at (nA (i + 1)))]) (.cons (EvL.disp EvsS.nil rfl) rfl (.cons (EvS.bin (EvS.name (.tail (.tail (.tail .head)))) EvS.int BinS.add) rfl .nil)) rfl (show 2 ≤ 1000 by decide) (.cons (stores_assign _ _) (.cons (stores_assign _ _) .nil)) rfl rfl (.cons (.tail (.tail (.tail (.tail .head)))) (.cons (.tail (.tail (.tail .head))) .nil)) ?_)
    refine ExsS.cons (ExS.for (v := .rng ((i + 1 : Nat) : Int) (ws.length : Int) 1) (l := (upTo (i + 1) ws.length).map nA) (EvS.range2 (EvsS.cons (EvS.name (.tail (.tail (.tail .head)))) (EvsS.cons (EvS.cast (EvS.bi (c' := false) (EvsS.cons (EvS.name (.tail .head)) EvsS.nil) (BiS.lenL (by (first | assumption | exact map62 (by (first | decide | exact Int.natCast_nonneg _ | assumption | omega)) | (rw [List.length_map]; omega)))) (by (first | exact bn_len | exact bn_min | exact bn_max | exact bn_abs | exact bn_sum)) (by (first | decide | exact Int.natCast_nonneg _ | assumption | omega))) (by rw [List.length_map])) EvsS.nil))) (congrArg some (range_from (by (first | decide | exact Int.natCast_nonneg _ | assumption | omega)))) (small_of (by (first | decide | exact Int.natCast_nonneg _ | assumption | omega)) (by (first | decide | exact Int.natCast_nonneg _ | assumption | omega)) (.inl rfl)) (scI ls ⟨ws, r, i⟩)
      ⟨_, [], _, _, rfl, fun j hj => (mem_upTo.mp hj).2, by simp [upTo]; omega, rfl, rfl⟩ ?_ ?_)
    · rintro a rm σ _ ⟨js, near, v2, v3, hrem, hall, hnl, rfl, hscan⟩
      cases js with
      | nil => cases hrem
      | cons j js =>
        obtain ⟨rfl, rfl⟩ : a = nA j ∧ rm = js.map nA := by simpa using hrem
        have hj : j < ws.length := hall j (.head _)
        refine ⟨_, (.tail (.tail (.tail (.tail (.tail .head))))), ?_⟩
        have hap : (V.at (.int (if ((ws.getD j 0 : Int) + 14) - ((ws.getD i 0 : Int) + 14) < 0 then -(((ws.getD j 0 : Int) + 14) - ((ws.getD i 0 : Int) + 14)) else ((ws.getD j 0 : Int) + 14) - ((ws.getD i 0 : Int) + 14)))) = .at (nA (dist (ws.getD i 0) (ws.getD j 0))) := by
          unfold nA dist
          congr 2
          split <;> split <;> omega
        refine ExsS.cons (ExS.assign (v := .at (nA (dist (ws.getD i 0) (ws.getD j 0)))) (EvS.cast (EvS.bi (c' := false) (EvsS.cons (EvS.bin (EvS.item (c' := false) (EvS.name (.tail .head)) (EvS.name (.tail (.tail (.tail (.tail (.tail .head)))))) (ItemS.list (by (first | decide | exact Int.natCast_nonneg _ | assumption | omega)) (ltL_at ws j hj) (by (first | assumption | exact map62 (by (first | decide | exact Int.natCast_nonneg _ | assumption | omega)) | (rw [List.length_map]; omega)))))
          (EvS.item (c' := false) (EvS.name (.tail .head)) (EvS.cast (v' := .at (nA i)) (EvS.bin (EvS.name (v := .at (nA (i + 1))) (.tail (.tail (.tail .head)))) EvS.int BinS.sub) (by unfold nA; congr 2; omega)) (ItemS.list (by (first | decide | exact Int.natCast_nonneg _ | assumption | omega)) (ltL_at ws i hi) (by (first | assumption | exact map62 (by (first | decide | exact Int.natCast_nonneg _ | assumption | omega)) | (rw [List.length_map]; omega))))) BinS.sub) EvsS.nil) BiS.abs (by (first | exact bn_len | exact bn_min | exact bn_max | exact bn_abs | exact bn_sum)) (by (first | decide | exact Int.natCast_nonneg _ | assumption | omega))) hap) (.tail (.tail (.tail (.tail (.tail (.tail .head)))))) ?_)
        refine ExsS.cons (ExS.ite (b := dist (ws.getD i 0) (ws.getD j 0) == 0) (TsS.cast (TsS.val (c' := false) (EvS.atom (c' := false) (EvS.call (EvsS.cons (EvS.name (.tail (.tail (.tail (.tail (.tail (.tail .head))))))) EvsS.nil) ((eof_ok W _).room (by (first | decide | exact Int.natCast_nonneg _ | assumption | omega))))) TruS.bool) (by cases dist (ws.getD i 0) (ws.getD j 0) <;> rfl)) (fun hd => ?_) (fun hd => ?_))
        · have hsc : scan ws (ws.getD i 0) (upTo (i + 1) ws.length) [] = some (j, near) := by rw [← hscan, scan, if_pos hd]
          refine ExsS.cons (ExS.ite (b := decide (near.length < 2)) (TsS.cast (TsS.cmp (c₁ := false) (c₂ := false) (EvS.bi (c' := false) (EvsS.cons (EvS.own (.tail (.tail (.tail (.tail .head))))) EvsS.nil) (BiS.lenL (by rw [List.length_map]; simp at hnl; omega)) (by (first | exact bn_len | exact bn_min | exact bn_max | exact bn_abs | exact bn_sum)) (by (first | decide | exact Int.natCast_nonneg _ | assumption | omega))) EvS.int CmpS.ltI) (decide_eq_decide.mpr (by (first | assumption | exact map62 (by (first | decide | exact Int.natCast_nonneg _ | assumption | omega)) | (rw [List.length_map]; omega))))) (fun hn => ?_) (fun hn => ?_))
          · have hn2 : near.length < 2 := by simpa using hn
            have hst : shStep ⟨ws, r, i⟩ = ⟨dropK ws j near, r + (1 - near.length), 0⟩ := by unfold shStep; rw [show scan _ _ _ _ = _ from hsc]; simp only []; rw [if_pos hn2]
            refine ExsS.cons (ExS.aug (a := (r : Int)) (b := 1 - ((near.map nA).length : Int)) (r := ((r + (1 - near.length) : Nat) : Int)) (.tail (.tail .head)) (EvS.bin EvS.int (EvS.bi (c' := false) (EvsS.cons (EvS.own (.tail (.tail (.tail (.tail .head))))) EvsS.nil) (BiS.lenL (by (first | assumption | exact map62 (by (first | decide | exact Int.natCast_nonneg _ | assumption | omega)) | (rw [List.length_map]; omega)))) (by (first | exact bn_len | exact bn_min | exact bn_max | exact bn_abs | exact bn_sum)) (by (first | decide | exact Int.natCast_nonneg _ | assumption | omega))) BinS.sub) (.inl ⟨rfl, by rw [List.length_map]; omega⟩) (.tail (.tail .head)) ?_)
            refine ExsS.cons (ExS.assign (v := .list ((dropK ws j near).map ltA)) (EvL.ev (EvL.cast (EvL.comp (caps := ["j", "near", "word"]) (cσ := [some (.v (.at (nA j))), some (.own (near.map nA)), some (.v (.list (ws.map ltA)))]) (v := .rng 0 (ws.length : Int) 1) (l := rangeItems 0 (ws.length : Int) 1) (c' := false) (pb := keepA j near) (f := wordA ws)
              rfl (by decide) rfl (by decide) rfl (EvS.range1 (EvsS.cons (EvS.cast (EvS.bi (c' := false) (EvsS.cons (EvS.name (.tail .head)) EvsS.nil) (BiS.lenL (by (first | assumption | exact map62 (by (first | decide | exact Int.natCast_nonneg _ | assumption | omega)) | (rw [List.length_map]; omega)))) (by (first | exact bn_len | exact bn_min | exact bn_max | exact bn_abs | exact bn_sum)) (by (first | decide | exact Int.natCast_nonneg _ | assumption | omega))) (by rw [List.length_map])) EvsS.nil)) rfl (small_of (by (first | decide | exact Int.natCast_nonneg _ | assumption | omega)) (by (first | decide | exact Int.natCast_nonneg _ | assumption | omega)) (.inl rfl)) (by rw [range_items]; simp; omega)
              (.cons rfl rfl rfl (.cons rfl rfl rfl (.cons rfl rfl rfl .nil))) (.cons (.tail (.tail (.tail (.tail (.tail .head))))) (.cons (.tail (.tail (.tail (.tail .head)))) (.cons (.tail .head) .nil))) ?_) (drop_comp ws j near))) (.tail .head) ?_)
            · have hk : ∀ a ∈ rangeItems 0 (ws.length : Int) 1, ∃ k : Nat, k < ws.length ∧ a = nA k := fun a ha => by
                rw [range_items] at ha
                obtain ⟨k, h1, h2⟩ := List.mem_map.mp ha
                exact ⟨k, List.mem_range.mp h1, h2.symm⟩
              constructor
              · intro a ha Cad
                obtain ⟨k, hk, rfl⟩ := hk a ha
                exact TsS.cast (TsS.boolOp (TssS.andC (TsS.cmp (c₁ := false) (c₂ := false) (EvS.name .head) (EvS.name (.tail .head)) CmpS.neI) (fun _ => TssS.andC (TsS.cmp (c₁ := false) (c₂ := false) (EvS.name .head) (EvS.own (l := (near.map fun n : Nat => (n : Int)).map .int) (by rw [List.map_map]; exact (.tail (.tail .head)))) CmpS.notInL) (fun _ => TssS.andNil)))) (by rw [Bool.and_true]; rfl)
              · intro a ha _ Cad
                obtain ⟨k, hk, rfl⟩ := hk a ha
                exact ⟨false, EvS.item (c' := false) (EvS.name (.tail (.tail (.tail .head)))) (EvS.name .head) (ItemS.list (by (first | decide | exact Int.natCast_nonneg _ | assumption | omega)) (ltL_at ws k hk) (by (first | assumption | exact map62 (by (first | decide | exact Int.natCast_nonneg _ | assumption | omega)) | (rw [List.length_map]; omega))))⟩
            · refine ExsS.cons (ExS.assign (v := .at (nA 0)) EvS.int (.tail (.tail (.tail .head))) ?_)
              refine ExsS.nil ?_
              refine ExsS.cons (ExS.brk ?_)
              refine ExsS.nil (done _ ⟨_, _, _, by rw [hst]; rfl⟩)
          · have hn2 : ¬ near.length < 2 := by simpa using hn
            have hst : shStep ⟨ws, r, i⟩ = ⟨ws, r, i + 1⟩ := by unfold shStep; rw [show scan _ _ _ _ = _ from hsc]; simp only []; rw [if_neg hn2]
            refine ExsS.nil ?_
            refine ExsS.cons (ExS.brk ?_)
            refine ExsS.nil (done _ ⟨_, _, _, by rw [hst]; rfl⟩)
        · refine ExsS.nil ?_
          refine ExsS.cons (ExS.ite (b := decide (dist (ws.getD i 0) (ws.getD j 0) < 2)) (TsS.cast (TsS.val (c' := false) (EvS.atom (c' := false) (EvS.call (EvsS.cons (EvS.bin EvS.int (EvS.name (.tail (.tail (.tail (.tail (.tail (.tail .head))))))) BinS.add) EvsS.nil) ((term_ok W _).room (by (first | decide | exact Int.natCast_nonneg _ | assumption | omega))))) TruS.bool) (decide_eq_decide.mpr (by (first | decide | exact Int.natCast_nonneg _ | assumption | omega)))) (fun hn => ?_) (fun hn => ?_))
          · refine ExsS.cons (ExS.append (l := near.map nA) (a := nA j) (.tail (.tail (.tail (.tail .head)))) (EvsS.cons (EvS.name (.tail (.tail (.tail (.tail (.tail .head)))))) EvsS.nil) (.tail (.tail (.tail (.tail .head)))) (by simp at hnl ⊢; omega) ?_)
            refine ExsS.nil (ExsS.nil ⟨js, near ++ [j], _, _, rfl, fun x hx => hall x (.tail _ hx), by simp at hnl ⊢; omega, by rw [List.map_append]; rfl, ?_⟩)
            rw [← hscan, scan, if_neg (by rw [show _ = false from hd]; exact Bool.false_ne_true), if_pos (by simpa using hn)]
          · refine ExsS.nil (ExsS.nil ⟨js, near, _, _, rfl, fun x hx => hall x (.tail _ hx), by simp at hnl ⊢; omega, rfl, ?_⟩)
            rw [← hscan, scan, if_neg (by rw [show _ = false from hd]; exact Bool.false_ne_true), if_neg (by simpa using hn)]
    · rintro σ ⟨js, near, v2, v3, hrem, _, _, rfl, hscan⟩
      have : js = [] := by simpa using hrem.symm
      subst this
      have hst : shStep ⟨ws, r, i⟩ = ⟨ws, r, i + 1⟩ := by unfold shStep; rw [show scan _ _ _ _ = none from hscan.symm]
      refine ExsS.nil (done _ ⟨_, _, _, by rw [hst]⟩)
  · have hi : ¬ i < ws.length := by simpa using hb
    have hr : shRun n ⟨ws, r, i⟩ = ⟨ws, r, i⟩ := by
      cases n with
      | zero => rfl
      | succ n => rw [shRun, if_neg hi]
    rw [hr] at hfin1 hfin2
    refine ExsS.cons (ExS.ret (v := .pLA ((shortF ls).ws.map ltA) (nA (shortF ls).r)) ?_ rfl)
    rw [← hfin1, ← hfin2]
    exact EvS.pairLA (EvsS.cons (EvS.name (.tail .head)) (EvsS.cons (EvS.name (.tail (.tail .head))) EvsS.nil))
end Mine
end partPJ

section partPK
open PySem PySem.Calls PyProof.Rows
set_option maxRecDepth 100000
set_option linter.all false
set_option maxHeartbeats 4000000
namespace Mine

variable {C : Cfg}

noncomputable def stepM (bs : List Bool) (x : List Nat × List Nat) (k : Nat) : List Nat × List Nat :=
  if bs.getD k false = true then (x.1, x.2 ++ [k]) else match x.2.getLast? with
    | some o => ((x.1.set k o).set o k, x.2.dropLast)
    | none => x
noncomputable def okM (bs : List Bool) : List Nat → List Nat → Bool
  | [], _ => true
  | k :: ks, pile => if bs.getD k false = true then okM bs ks (pile ++ [k]) else !pile.isEmpty && okM bs ks pile.dropLast
noncomputable def matesF (bs : List Bool) : List Nat := ((List.range 8).foldl (stepM bs) (List.replicate 8 0, [])).1
noncomputable def twinStep (x : List Nat × Nat) (p : Nat) : List Nat × Nat :=
  if (x.1.getD p 0 == p + 1) = true then (x.1, x.2 + 1) else ((((x.1.set (x.1.getD p 0) (x.1.getD (p + 1) 0)).set (x.1.getD (p + 1) 0) (x.1.getD p 0)).set p (p + 1)).set (p + 1) p, x.2)
noncomputable def signsM (m : List Nat) : List Bool := (List.range m.length).map fun k => decide (k < m.getD k 0)
noncomputable def twinF (bs : List Bool) (ps : List Nat) : List Nat × Nat := ps.foldl twinStep (matesF bs, 0)

noncomputable def twSt (bs : List Bool) (ps m pile : List Nat) (r : Nat) (u5 u6 u7 u8 u9 : Option Ent) : St := [some (.v (.list (sgL bs))), some (.v (.list (ps.map ltA))), some (.own (m.map nA)), some (.own (pile.map nA)), some (.v (.at (nA r))), u5, u6, u7, u8, u9]
noncomputable def twI1 (bs : List Bool) (ps : List Nat) (rem : List At) (σ : St) : Prop :=
  ∃ (ks m pile : List Nat) (u5 u6 u7 u8 u9 : Option Ent), rem = ks.map nA ∧ (∀ k ∈ ks, k < 8) ∧ m.length = 8 ∧ (∀ o ∈ pile, o < 8) ∧ (∀ o ∈ m, o < 8) ∧ okM bs ks pile = true ∧ pile.length + ks.length ≤ 8 ∧ σ = twSt bs ps m pile 0 u5 u6 u7 u8 u9 ∧ (ks.foldl (stepM bs) (m, pile)).1 = matesF bs
noncomputable def twI2 (bs : List Bool) (ps : List Nat) (rem : List At) (σ : St) : Prop :=
  ∃ (ps' m pile : List Nat) (r : Nat) (u5 u6 u7 u8 u9 : Option Ent), rem = ps'.map ltA ∧ (∀ p ∈ ps', p < 7) ∧ m.length = 8 ∧ (∀ o ∈ m, o < 8) ∧ σ = twSt bs ps m pile r u5 u6 u7 u8 u9 ∧ ps'.foldl twinStep (m, r) = twinF bs ps

theorem nL_at (m : List Nat) (k : Nat) (h : k < m.length) : (m.map nA)[((k : Nat) : Int).toNat]? = some (nA (m.getD k 0)) := by
  rw [Int.toNat_natCast]
  simp [List.getD, List.getElem?_eq_getElem h]
theorem nL_set (m : List Nat) (k o : Nat) : (m.map nA).set ((k : Nat) : Int).toNat (nA o) = (m.set k o).map nA := by
  rw [Int.toNat_natCast]
  simp [List.map_set]
theorem mem_set {m : List Nat} {k o : Nat} (h : ∀ x ∈ m, x < 8) (ho : o < 8) : ∀ x ∈ m.set k o, x < 8 := fun x hx => by
  rcases List.mem_or_eq_of_mem_set hx with h1 | h1
  · exact h x h1
  · exact h1 ▸ ho
theorem getD_lt {m : List Nat} (h : ∀ x ∈ m, x < 8) (k : Nat) : m.getD k 0 < 8 := by
  rcases Nat.lt_or_ge k m.length with q | q
  · have : m.getD k 0 = m[k] := by simp [List.getD, List.getElem?_eq_getElem q]
    rw [this]; exact h _ (List.getElem_mem q)
  · have : m.getD k 0 = 0 := by simp [List.getD, List.getElem?_eq_none q]
    omega
theorem nA_beq (a b : Nat) : ((a : Int) == (b : Int)) = (a == b) := by
  rw [Bool.eq_iff_iff]
  simp
  omega

theorem twin_ok (W : World1 C) (bs : List Bool) (ps : List Nat) (hb : bs.length = 8) (hok : okM bs (List.range 8) [] = true) (hp : ∀ p ∈ ps, p < 7) (hz : ps.length ≤ 500) :
    FnS C 31 "_law_twin" [.list (sgL bs), .list (ps.map ltA)] (.pLA (sgL (signsM (twinF bs ps).1)) (nA (twinF bs ps).2)) := by
  refine FnS.of_body (N := 30) (d := gTwin.1) (ps := ["signs", "word"]) (rest := ["mates", "pile", "rings", "k", "other", "letter", "place", "one"]) (W.fns _ _ gTwin.2) rfl (fun L a cd => ?_) (by ((intro pm cd doc vals h; obtain ⟨a1, a2, ee⟩ := len2 h; subst ee; rfl))) (by decide) (by decide)
  show ExsS C 30 _ ["signs", "word", "mates", "pile", "rings", "k", "other", "letter", "place", "one"] [some (.v (.list (sgL bs))), some (.v (.list (ps.map ltA))), none, none, none, none, none, none, none, none] _ _
  have hsl := sgL_len bs
  refine ExsS.cons (ExS.tuple (xs := ["mates", "pile", "rings"]) (ents := [.own ((List.replicate 8 0).map nA), .own [], .v (.at (nA 0))]) (.cons (EvL.cast (EvL.rep (a := nA 0) (n := 8) EvS.int (EvS.cast (EvS.bi (c' := false) (EvsS.cons (EvS.name .head) EvsS.nil) (BiS.lenL (by (first | decide | exact Int.natCast_nonneg _ | assumption | omega))) (by (first | exact bn_len | exact bn_min | exact bn_max | exact bn_abs | exact bn_sum)) (by (first | decide | exact Int.natCast_nonneg _ | assumption | omega))) (by rw [hsl, hb]; rfl)) (by decide) (by decide)) rfl) rfl (.cons (EvL.disp EvsS.nil rfl) rfl (.cons EvS.int rfl .nil))) rfl (show 3 ≤ 1000 by decide) (.cons (stores_assign _ _) (.cons (stores_assign _ _) (.cons (stores_assign _ _) .nil))) rfl rfl (.cons (.tail (.tail .head)) (.cons (.tail (.tail (.tail .head))) (.cons (.tail (.tail (.tail (.tail .head)))) .nil))) ?_)
  refine ExsS.cons (ExS.for (v := .rng 0 ((8 : Nat) : Int) 1) (l := (List.range 8).map nA) (EvS.range1 (EvsS.cons (EvS.cast (EvS.bi (c' := false) (EvsS.cons (EvS.name .head) EvsS.nil) (BiS.lenL (by (first | decide | exact Int.natCast_nonneg _ | assumption | omega))) (by (first | exact bn_len | exact bn_min | exact bn_max | exact bn_abs | exact bn_sum)) (by (first | decide | exact Int.natCast_nonneg _ | assumption | omega))) (by rw [hsl, hb])) EvsS.nil)) (congrArg some (range_items 8)) (small_of (by (first | decide | exact Int.natCast_nonneg _ | assumption | omega)) (by (first | decide | exact Int.natCast_nonneg _ | assumption | omega)) (.inl rfl)) (twI1 bs ps)
    ⟨List.range 8, List.replicate 8 0, [], _, _, _, _, _, rfl, fun k hk => List.mem_range.mp hk, rfl, (fun _ h => nomatch h), by decide, hok, by decide, rfl, rfl⟩ ?_ ?_)
  · rintro a rm σ _ ⟨ks, m, pile, u5, u6, u7, u8, u9, hrem, hall, hml, hpile, hm, hokk, hpl, rfl, hfold⟩
    cases ks with
    | nil => cases hrem
    | cons k ks =>
      obtain ⟨rfl, rfl⟩ : a = nA k ∧ rm = ks.map nA := by simpa using hrem
      have hk : k < 8 := hall k (.head _)
      have hm1000 : (m.map nA).length ≤ 1000 := by rw [List.length_map, hml]; decide
      rw [List.foldl_cons] at hfold
      have hpl2 : pile.length + (ks.length + 1) ≤ 8 := by simpa using hpl
      refine ⟨_, (.tail (.tail (.tail (.tail (.tail .head))))), ?_⟩
      refine ExsS.cons (ExS.ite (b := bs.getD k false) (TsS.cast (TsS.cmp (c₁ := false) (c₂ := false) (EvS.item (c' := false) (EvS.name .head) (EvS.name (.tail (.tail (.tail (.tail (.tail .head)))))) (ItemS.list (by (first | decide | exact Int.natCast_nonneg _ | assumption | omega)) (sgL_at bs k (by (first | decide | exact Int.natCast_nonneg _ | assumption | omega))) (by (first | decide | exact Int.natCast_nonneg _ | assumption | omega)))) EvS.str CmpS.eqS) (by rw [sgS_eq])) (fun hbk => ?_) (fun hbk => ?_))
      · refine ExsS.cons (ExS.append (l := pile.map nA) (a := nA k) (.tail (.tail (.tail .head))) (EvsS.cons (EvS.name (.tail (.tail (.tail (.tail (.tail .head)))))) EvsS.nil) (.tail (.tail (.tail .head))) (by (first | assumption | exact map62 (by (first | decide | exact Int.natCast_nonneg _ | assumption | omega)) | (rw [List.length_map]; omega))) ?_)
        refine ExsS.nil (ExsS.nil ⟨ks, m, pile ++ [k], _, _, _, _, _, rfl, fun x hx => hall x (.tail _ hx), hml, fun o ho => ?_, hm, ?_, by rw [List.length_append]; simp; omega, by rw [twSt, List.map_append]; rfl, ?_⟩)
        · rcases List.mem_append.mp ho with h | h
          · exact hpile o h
          · rw [List.mem_singleton.mp h]; exact hk
        · rw [okM, if_pos hbk] at hokk; exact hokk
        · rw [stepM, if_pos hbk] at hfold; exact hfold
      · have hne : ¬ (bs.getD k false = true) := by rw [hbk]; exact Bool.false_ne_true
        rw [okM, if_neg hne, Bool.and_eq_true] at hokk
        rcases List.eq_nil_or_concat pile with rfl | ⟨init, o, rfl⟩
        · exact absurd hokk.1 (by decide)
        · rw [List.concat_eq_append] at *
          have ho : o < 8 := hpile o (by simp)
          rw [List.length_append, List.length_singleton] at hpl2
          refine ExsS.cons (ExS.pop (l := init.map nA) (a := nA o) (x := "pile") (y := "other") (by rw [List.map_append]; exact (.tail (.tail (.tail .head)))) (.tail (.tail (.tail .head))) (.tail (.tail (.tail (.tail (.tail (.tail .head)))))) (by (first | assumption | exact map62 (by (first | decide | exact Int.natCast_nonneg _ | assumption | omega)) | (rw [List.length_map]; omega))) ?_)
          refine ExsS.cons (ExS.set2 (l := m.map nA) (m := (k : Int)) (n := (o : Int)) (a := nA o) (b := nA k) (.tail (.tail .head)) (EvS.name (.tail (.tail (.tail (.tail (.tail (.tail .head))))))) (EvS.name (.tail (.tail (.tail (.tail (.tail .head)))))) (EvS.name (.tail (.tail (.tail (.tail (.tail .head)))))) (.tail (.tail .head)) (EvS.name (.tail (.tail (.tail (.tail (.tail (.tail .head))))))) (.tail (.tail .head)) (by (first | assumption | exact map62 (by (first | decide | exact Int.natCast_nonneg _ | assumption | omega)) | (rw [List.length_map]; omega))) (by (first | assumption | exact map62 (by (first | decide | exact Int.natCast_nonneg _ | assumption | omega)) | (rw [List.length_map]; omega))) (by (first | assumption | exact map62 (by (first | decide | exact Int.natCast_nonneg _ | assumption | omega)) | (rw [List.length_map]; omega))) ?_)
          rw [nL_set, nL_set]
          have hstep : stepM bs (m, init ++ [o]) k = ((m.set k o).set o k, init) := by
            rw [stepM, if_neg hne]
            simp
          rw [hstep] at hfold
          refine ExsS.nil (ExsS.nil ⟨ks, (m.set k o).set o k, init, _, _, _, _, _, rfl, fun x hx => hall x (.tail _ hx), by simp [hml], fun x hx => hpile x (List.mem_append_left _ hx), mem_set (mem_set hm ho) hk, ?_, by omega, rfl, hfold⟩)
          have := hokk.2
          rwa [List.dropLast_concat] at this
  · rintro σ ⟨ks, m, pile, u5, u6, u7, u8, u9, hrem, _, hml, _, hm, _, _, rfl, hfold⟩
    have : ks = [] := by simpa using hrem.symm
    subst this
    have hmf : m = matesF bs := hfold
    refine ExsS.cons (ExS.for (v := .list (ps.map ltA)) (l := ps.map ltA) (EvS.name (.tail .head)) rfl trivial (twI2 bs ps) ⟨ps, m, pile, 0, _, _, _, _, _, rfl, hp, hml, hm, rfl, by rw [hmf]; rfl⟩ ?_ ?_)
    · rintro a rm σ _ ⟨ps', m, pile, r, v5, v6, v7, v8, v9, hrem, hall, hml, hm, rfl, hfold⟩
      cases ps' with
      | nil => cases hrem
      | cons p ps' =>
        obtain ⟨rfl, rfl⟩ : a = ltA p ∧ rm = ps'.map ltA := by simpa using hrem
        have hp7 : p < 7 := hall p (.head _)
        have hm1000 : (m.map nA).length ≤ 1000 := by rw [List.length_map, hml]; decide
        have hm62 : (m.map nA).length < 2 ^ 62 := map62 (by rw [hml]; decide)
        rw [List.foldl_cons] at hfold
        have h1 := getD_lt hm p
        have h2 := getD_lt hm (p + 1)
        refine ⟨_, (.tail (.tail (.tail (.tail (.tail (.tail (.tail .head))))))), ?_⟩
        refine ExsS.cons (ExS.assign (v := .at (nA p)) (EvS.cast (EvS.bin (EvS.name (.tail (.tail (.tail (.tail (.tail (.tail (.tail .head)))))))) EvS.int BinS.sub) (by unfold nA; congr 2; omega)) (.tail (.tail (.tail (.tail (.tail (.tail (.tail (.tail .head)))))))) ?_)
        refine ExsS.cons (ExS.tupleSw (xs := ["one", "other"]) (ents := [.v (.at (nA (m.getD p 0))), .v (.at (nA (m.getD (p + 1) 0)))]) (.cons (EvS.item (c' := false) (EvS.own (.tail (.tail .head))) (EvS.name (.tail (.tail (.tail (.tail (.tail (.tail (.tail (.tail .head))))))))) (ItemS.list (by (first | decide | exact Int.natCast_nonneg _ | assumption | omega)) (nL_at m p (by (first | decide | exact Int.natCast_nonneg _ | assumption | omega))) (by (first | assumption | exact map62 (by (first | decide | exact Int.natCast_nonneg _ | assumption | omega)) | (rw [List.length_map]; omega))))) rfl (.cons (EvS.item (c' := false) (EvS.own (.tail (.tail .head))) (EvS.cast (v' := .at (nA (p + 1))) (EvS.bin (EvS.name (.tail (.tail (.tail (.tail (.tail (.tail (.tail (.tail .head))))))))) EvS.int BinS.add) rfl) (ItemS.list (by (first | decide | exact Int.natCast_nonneg _ | assumption | omega)) (nL_at m (p + 1) (by (first | decide | exact Int.natCast_nonneg _ | assumption | omega))) (by (first | assumption | exact map62 (by (first | decide | exact Int.natCast_nonneg _ | assumption | omega)) | (rw [List.length_map]; omega))))) rfl .nil)) rfl (show 2 ≤ 1000 by decide) (.cons (.tail (.tail (.tail (.tail (.tail (.tail .head)))))) (.cons (.tail (.tail (.tail (.tail (.tail (.tail (.tail (.tail (.tail .head))))))))) .nil)) ?_)
        refine ExsS.cons (ExS.ite (b := m.getD p 0 == p + 1) (TsS.cast (TsS.cmp (c₁ := false) (c₂ := false) (EvS.name (.tail (.tail (.tail (.tail (.tail (.tail (.tail (.tail (.tail .head)))))))))) (EvS.bin (EvS.name (.tail (.tail (.tail (.tail (.tail (.tail (.tail (.tail .head))))))))) EvS.int BinS.add) CmpS.eqI) (nA_beq _ (p + 1))) (fun hd => ?_) (fun hd => ?_))
        · refine ExsS.cons (ExS.aug (a := (r : Int)) (b := 1) (r := ((r + 1 : Nat) : Int)) (.tail (.tail (.tail (.tail .head)))) EvS.int (.inl ⟨rfl, by omega⟩) (.tail (.tail (.tail (.tail .head)))) ?_)
          refine ExsS.nil (ExsS.nil ⟨ps', m, pile, r + 1, _, _, _, _, _, rfl, fun x hx => hall x (.tail _ hx), hml, hm, rfl, ?_⟩)
          rw [twinStep, if_pos hd] at hfold
          exact hfold
        · refine ExsS.cons (ExS.set2 (l := m.map nA) (m := (m.getD p 0 : Int)) (n := (m.getD (p + 1) 0 : Int)) (a := nA (m.getD (p + 1) 0)) (b := nA (m.getD p 0)) (.tail (.tail .head)) (EvS.name (.tail (.tail (.tail (.tail (.tail (.tail .head))))))) (EvS.name (.tail (.tail (.tail (.tail (.tail (.tail (.tail (.tail (.tail .head)))))))))) (EvS.name (.tail (.tail (.tail (.tail (.tail (.tail (.tail (.tail (.tail .head)))))))))) (.tail (.tail .head)) (EvS.name (.tail (.tail (.tail (.tail (.tail (.tail .head))))))) (.tail (.tail .head)) (by (first | assumption | exact map62 (by (first | decide | exact Int.natCast_nonneg _ | assumption | omega)) | (rw [List.length_map]; omega))) (by (first | assumption | exact map62 (by (first | decide | exact Int.natCast_nonneg _ | assumption | omega)) | (rw [List.length_map]; omega))) (by (first | assumption | exact map62 (by (first | decide | exact Int.natCast_nonneg _ | assumption | omega)) | (rw [List.length_map]; omega))) ?_)
          rw [nL_set, nL_set]
          refine ExsS.cons (ExS.set2 (l := ((m.set (m.getD p 0) (m.getD (p + 1) 0)).set (m.getD (p + 1) 0) (m.getD p 0)).map nA) (m := (p : Int)) (n := ((p + 1 : Nat) : Int)) (a := nA (p + 1)) (b := nA p) (.tail (.tail .head)) (EvS.bin (EvS.name (.tail (.tail (.tail (.tail (.tail (.tail (.tail (.tail .head))))))))) EvS.int BinS.add) (EvS.name (.tail (.tail (.tail (.tail (.tail (.tail (.tail (.tail .head))))))))) (EvS.name (.tail (.tail (.tail (.tail (.tail (.tail (.tail (.tail .head))))))))) (.tail (.tail .head)) (EvS.bin (EvS.name (.tail (.tail (.tail (.tail (.tail (.tail (.tail (.tail .head))))))))) EvS.int BinS.add) (.tail (.tail .head)) (by rw [List.length_map]; simp [hml]; omega) (by rw [List.length_map]; simp [hml]; omega) (by rw [List.length_map]; simp [hml]) ?_)
          rw [nL_set, nL_set]
          refine ExsS.nil (ExsS.nil ⟨ps', _, pile, r, _, _, _, _, _, rfl, fun x hx => hall x (.tail _ hx), ?_, ?_, rfl, ?_⟩)
          · simp [hml]
          · exact mem_set (mem_set (mem_set (mem_set hm h2) h1) (by (first | decide | exact Int.natCast_nonneg _ | assumption | omega))) (by (first | decide | exact Int.natCast_nonneg _ | assumption | omega))
          · rw [twinStep, if_neg (by rw [show _ = false from hd]; exact Bool.false_ne_true)] at hfold
            exact hfold
    · rintro σ ⟨ps', m, pile, r, v5, v6, v7, v8, v9, hrem, _, hml, hm, rfl, hfold⟩
      have : ps' = [] := by simpa using hrem.symm
      subst this
      refine ExsS.cons (ExS.ret (v := .pLA (sgL (signsM (twinF bs ps).1)) (nA (twinF bs ps).2)) ?_ rfl)
      rw [← hfold]
      refine EvS.pairLA (EvsS.cons (EvL.ev (EvL.cast (EvL.comp (caps := ["mates"]) (cσ := [some (.v (.list (m.map nA)))]) (v := .rng 0 (m.length : Int) 1) (l := rangeItems 0 (m.length : Int) 1) (c' := false) (pb := fun _ => true) (f := fun a => match a with | .int k => .str (sgS (decide (k.toNat < m.getD k.toNat 0))) | _ => .none)
        rfl (by decide) rfl (by decide) rfl (EvS.range1 (EvsS.cons (EvS.cast (EvS.bi (c' := false) (EvsS.cons (EvS.name (v := .list (m.map nA)) (.tail (.tail .head))) EvsS.nil) (BiS.lenL (by (first | assumption | exact map62 (by (first | decide | exact Int.natCast_nonneg _ | assumption | omega)) | (rw [List.length_map]; omega)))) (by (first | exact bn_len | exact bn_min | exact bn_max | exact bn_abs | exact bn_sum)) (by (first | decide | exact Int.natCast_nonneg _ | assumption | omega))) (by rw [List.length_map])) EvsS.nil)) rfl (small_of (by (first | decide | exact Int.natCast_nonneg _ | assumption | omega)) (by (first | decide | exact Int.natCast_nonneg _ | assumption | omega)) (.inl rfl)) (by rw [range_items]; simp; omega)
        (.cons rfl rfl rfl .nil) (.cons (.tail (.tail .head)) .nil) ?_) ?_)) (EvsS.cons (EvS.name (.tail (.tail (.tail (.tail .head))))) EvsS.nil))
      · refine ⟨fun a ha Cad => rfl, fun a ha _ Cad => ?_⟩
        rw [range_items] at ha
        obtain ⟨k, hk, rfl⟩ := List.mem_map.mp ha
        have hk := List.mem_range.mp hk
        refine ⟨false, EvS.ite (r := decide (k < m.getD k 0)) (TsS.cast (TsS.cmp (c₁ := false) (c₂ := false) (EvS.item (c' := false) (EvS.name (.tail .head)) (EvS.name .head) (ItemS.list (by (first | decide | exact Int.natCast_nonneg _ | assumption | omega)) (nL_at m k hk) (by (first | assumption | exact map62 (by (first | decide | exact Int.natCast_nonneg _ | assumption | omega)) | (rw [List.length_map]; omega))))) (EvS.name .head) CmpS.gtI) (decide_eq_decide.mpr (by (first | decide | exact Int.natCast_nonneg _ | assumption | omega)))) ?_⟩
        show if decide (k < m.getD k 0) = true then EvS _ _ _ _ _ _ _ _ (.at (.str (sgS (decide (k < m.getD k 0))))) else EvS _ _ _ _ _ _ _ _ (.at (.str (sgS (decide (k < m.getD k 0)))))
        cases decide (k < m.getD k 0) with
        | true => rw [if_pos rfl]; exact EvS.str
        | false => rw [if_neg Bool.false_ne_true]; exact EvS.str
      · rw [range_items, List.filter_eq_self.mpr (fun _ _ => rfl), List.map_map]
        unfold signsM sgL
        rw [List.map_map, List.map_map]
        rfl
end Mine
end partPK

section partPM
open PySem PySem.Calls PyProof.Rows
set_option maxRecDepth 100000
set_option linter.all false
set_option maxHeartbeats 4000000
namespace Mine

variable {C : Cfg}

noncomputable def bitB (n : Int) (k : Nat) : Bool := (n.fdiv ((2 : Int) ^ k)).fmod 2 == 1
noncomputable def startGo (b : Nat → Bool) : List Nat → List Bool → Nat → Nat → List Bool
  | [], sg, _, _ => sg
  | k :: ks, sg, h, o => if (h == 0 || (decide (o < 4) && b k)) = true then startGo b ks (sg ++ [true]) (h + 1) (o + 1) else startGo b ks (sg ++ [false]) (h - 1) o
noncomputable def startF (n : Int) : List Bool := startGo (bitB n) (List.range 8) [] 0 0
noncomputable def ridI (n : Int) (k : Nat) : Int := ((n.fdiv 256).fdiv ((6 : Int) ^ k)).fmod 6
noncomputable def ridsF (n : Int) : List Nat := (List.range 7).map fun k => (ridI n k).toNat
noncomputable def thingsL : List At := [.str "\\\\", .str "", .str "", .str "\\)", .str "\"(\"", .str "\\\""]
theorem things_eq : thingsL = (List.range 6).map fun k => At.str (rdS k) := by decide +kernel
theorem rid_range (n : Int) (k : Nat) : 0 ≤ ridI n k ∧ ridI n k < 6 := by
  unfold ridI
  rw [Int.fmod_eq_emod_of_nonneg _ (by decide)]
  exact ⟨Int.emod_nonneg _ (by decide), Int.emod_lt_of_pos _ (by decide)⟩
theorem sgL_snoc (bs : List Bool) (b : Bool) : sgL (bs ++ [b]) = sgL bs ++ [.str (sgS b)] := by simp [sgL]
theorem pow_ne {b : Int} (hb : b = 2 ∨ b = 6 ∨ b = 7) (k : Nat) : b ^ k ≠ 0 := by
  apply Int.pow_ne_zero
  omega
theorem pow_small : (∀ k : Fin 8, (((2 : Int) ^ k.1).natAbs < 1073741824)) ∧ (∀ k : Fin 8, (((6 : Int) ^ k.1).natAbs < 1073741824)) ∧ (∀ k : Fin 8, (((7 : Int) ^ k.1).natAbs < 1073741824)) := by decide +kernel

noncomputable def startI (n : Int) (rem : List At) (σ : St) : Prop :=
  ∃ (ks : List Nat) (sg : List Bool) (h o : Nat) (u4 : Option Ent), rem = ks.map nA ∧ (∀ k ∈ ks, k < 8) ∧ σ = [some (.v (.at (.int n))), some (.own (sgL sg)), some (.v (.at (nA h))), some (.v (.at (nA o))), u4, none] ∧ startGo (bitB n) ks sg h o = startF n ∧ sg.length + ks.length ≤ 8

theorem start_ok (W : World1 C) (n : Int) : FnS C 31 "_law_start" [.at (.int n)] (.pLL (sgL (startF n)) (rdL (ridsF n))) := by
  refine FnS.of_body (N := 30) (d := gStart.1) (ps := ["number"]) (rest := ["signs", "height", "opens", "k", "things"]) (W.fns _ _ gStart.2) rfl (fun L a cd => ?_) (by ((intro pm cd doc vals h; obtain ⟨a1, ee⟩ := len1 h; subst ee; rfl))) (by decide) (by decide)
  show ExsS C 30 _ ["number", "signs", "height", "opens", "k", "things"] [some (.v (.at (.int n))), none, none, none, none, none] _ _
  refine ExsS.cons (ExS.tupleSw (xs := ["signs", "height", "opens"]) (ents := [.own [], .v (.at (nA 0)), .v (.at (nA 0))]) (.cons (EvL.disp EvsS.nil rfl) rfl (.cons EvS.int rfl (.cons EvS.int rfl .nil))) rfl (show 3 ≤ 1000 by decide) (.cons (.tail (.tail (.tail .head))) (.cons (.tail (.tail .head)) (.cons (.tail .head) .nil))) ?_)
  refine ExsS.cons (ExS.for (v := .rng 0 ((8 : Nat) : Int) 1) (l := (List.range 8).map nA) (EvS.range1 (EvsS.cons EvS.int EvsS.nil)) (congrArg some (range_items 8)) (small_of (by (first | decide | exact Int.natCast_nonneg _ | assumption | omega)) (by (first | decide | exact Int.natCast_nonneg _ | assumption | omega)) (.inl rfl)) (startI n)
    ⟨List.range 8, [], 0, 0, _, rfl, fun k hk => List.mem_range.mp hk, rfl, rfl, by decide⟩ ?_ ?_)
  · rintro a rm σ _ ⟨ks, sg, h, o, u4, hrem, hall, rfl, hgo, hlen⟩
    cases ks with
    | nil => cases hrem
    | cons k ks =>
      obtain ⟨rfl, rfl⟩ : a = nA k ∧ rm = ks.map nA := by simpa using hrem
      have hk : k < 8 := hall k (.head _)
      have hlen2 : sg.length + (ks.length + 1) ≤ 8 := by simpa using hlen
      refine ⟨_, (.tail (.tail (.tail (.tail .head)))), ?_⟩
      refine ExsS.cons (ExS.ite (b := (h == 0 || (decide (o < 4) && bitB n k))) (TsS.cast (TsS.boolOp (TssS.orC (TsS.cmp (c₁ := false) (c₂ := false) (EvS.name (.tail (.tail .head))) EvS.int CmpS.eqI) (fun _ => TssS.orC (TsS.boolOp (TssS.andC (TsS.cmp (c₁ := false) (c₂ := false) (EvS.name (.tail (.tail (.tail .head)))) EvS.int CmpS.ltI) (fun _ => TssS.andC (TsS.cmp (c₁ := false) (c₂ := false)
        (EvS.bin (EvS.bin (EvS.name .head) (EvS.bin EvS.int (EvS.name (.tail (.tail (.tail (.tail .head))))) (BinS.pow (by (first | decide | exact Int.natCast_nonneg _ | assumption | omega)) (by (first | decide | exact Int.natCast_nonneg _ | assumption | omega)) (by decide))) (BinS.div (pow_ne (.inl rfl) _) (PyProof.noPylong_small (pow_small.1 ⟨k, hk⟩)))) EvS.int (BinS.mod (by decide))) EvS.int CmpS.eqI) (fun _ => TssS.andNil)))) (fun _ => TssS.orNil)))) ?_) (fun hb => ?_) (fun hb => ?_))
      · rw [Bool.and_true, Bool.or_false, Int.toNat_natCast]
        congr 1
        · exact nA_beq h 0
        · congr 1
          exact decide_eq_decide.mpr (by (first | decide | exact Int.natCast_nonneg _ | assumption | omega))
      · refine ExsS.cons (ExS.append (l := sgL sg) (a := .str (sgS true)) (.tail .head) (EvsS.cons EvS.str EvsS.nil) (.tail .head) (by (first | assumption | (rw [sgL_len]; omega))) ?_)
        refine ExsS.cons (ExS.tupleSw (xs := ["height", "opens"]) (ents := [.v (.at (nA (h + 1))), .v (.at (nA (o + 1)))]) (.cons (EvS.cast (EvS.bin (EvS.name (.tail (.tail .head))) EvS.int BinS.add) rfl) rfl (.cons (EvS.cast (EvS.bin (EvS.name (.tail (.tail (.tail .head)))) EvS.int BinS.add) rfl) rfl .nil)) rfl (show 2 ≤ 1000 by decide) (.cons (.tail (.tail (.tail .head))) (.cons (.tail (.tail .head)) .nil)) ?_)
        refine ExsS.nil (ExsS.nil ⟨ks, sg ++ [true], h + 1, o + 1, _, rfl, fun x hx => hall x (.tail _ hx), by rw [sgL_snoc], ?_, by rw [List.length_append]; simp; omega⟩)
        rw [← hgo, startGo, if_pos hb]
      · have hh : h ≠ 0 := fun q => by subst q; cases hb
        refine ExsS.cons (ExS.append (l := sgL sg) (a := .str (sgS false)) (.tail .head) (EvsS.cons EvS.str EvsS.nil) (.tail .head) (by (first | assumption | (rw [sgL_len]; omega))) ?_)
        refine ExsS.cons (ExS.aug (a := (h : Int)) (b := 1) (r := ((h - 1 : Nat) : Int)) (.tail (.tail .head)) EvS.int (.inr ⟨rfl, by omega⟩) (.tail (.tail .head)) ?_)
        refine ExsS.nil (ExsS.nil ⟨ks, sg ++ [false], h - 1, o, _, rfl, fun x hx => hall x (.tail _ hx), by rw [sgL_snoc]; rfl, ?_, by rw [List.length_append]; simp; omega⟩)
        rw [← hgo, startGo, if_neg (by rw [show _ = false from hb]; exact Bool.false_ne_true)]
  · rintro σ ⟨ks, sg, h, o, u4, hrem, _, rfl, hgo, hlen⟩
    have : ks = [] := by simpa using hrem.symm
    subst this
    refine ExsS.cons (ExS.assign (v := .tup thingsL) (EvS.tup (EvsS.cons EvS.str (EvsS.cons EvS.str (EvsS.cons EvS.str (EvsS.cons EvS.str (EvsS.cons EvS.str (EvsS.cons EvS.str EvsS.nil)))))) rfl (show 6 ≤ 1000 by decide)) (.tail (.tail (.tail (.tail (.tail .head))))) ?_)
    refine ExsS.cons (ExS.ret (v := .pLL (sgL (startF n)) (rdL (ridsF n))) ?_ rfl)
    rw [← hgo]
    refine EvS.pairLL (EvsS.cons (EvS.name (.tail .head)) (EvsS.cons (EvL.ev (EvL.cast (EvL.comp (caps := ["number", "things"]) (cσ := [some (.v (.at (.int n))), some (.v (.tup thingsL))]) (v := .rng 0 ((7 : Nat) : Int) 1) (l := rangeItems 0 ((7 : Nat) : Int) 1) (c' := false) (pb := fun _ => true) (f := fun a => match a with | .int k => .str (rdS (ridI n k.toNat).toNat) | _ => .none)
      rfl (by decide) rfl (by decide) rfl (EvS.range1 (EvsS.cons EvS.int EvsS.nil)) rfl (small_of (by (first | decide | exact Int.natCast_nonneg _ | assumption | omega)) (by (first | decide | exact Int.natCast_nonneg _ | assumption | omega)) (.inl rfl)) (by rw [range_items]; simp)
      (.cons rfl rfl rfl (.cons rfl rfl rfl .nil)) (.cons .head (.cons (.tail (.tail (.tail (.tail (.tail .head))))) .nil)) ?_) ?_)) EvsS.nil))
    · refine ⟨fun a ha Cad => rfl, fun a ha _ Cad => ?_⟩
      rw [range_items] at ha
      obtain ⟨k, hk, rfl⟩ := List.mem_map.mp ha
      have hk := List.mem_range.mp hk
      obtain ⟨r1, r2⟩ := rid_range n k
      refine ⟨false, EvS.item (c' := false) (a := .int (ridI n k)) (EvS.name (.tail (.tail .head))) ?_ (ItemS.tup r1 ?_ (show 6 < 2 ^ 62 by decide))⟩
      · exact EvS.bin (EvS.bin (EvS.bin (EvS.name (.tail .head)) EvS.int (BinS.div (by decide) (PyProof.noPylong_small (by decide)))) (EvS.bin EvS.int (EvS.name .head) (BinS.pow (by (first | decide | exact Int.natCast_nonneg _ | assumption | omega)) (by (first | decide | exact Int.natCast_nonneg _ | assumption | omega)) (by decide))) (BinS.div (pow_ne (.inr (.inl rfl)) _) (PyProof.noPylong_small (pow_small.2.1 ⟨k, by omega⟩)))) EvS.int (BinS.mod (by decide))
      · rw [things_eq]
        have : (ridI n k).toNat < 6 := by omega
        show ((List.range 6).map fun k => At.str (rdS k))[(ridI n k).toNat]? = some (At.str (rdS (ridI n k).toNat))
        simp [this]
    · rw [range_items, List.filter_eq_self.mpr (fun _ _ => rfl), List.map_map]
      unfold ridsF rdL
      rw [List.map_map, List.map_map]
      rfl
end Mine
end partPM

section partPP
open PySem PySem.Calls PyProof.Rows
set_option maxRecDepth 100000
set_option linter.all false
set_option maxHeartbeats 4000000
namespace Mine

noncomputable def allB : Nat → List (List Bool)
  | 0 => [[]]
  | n + 1 => (allB n).flatMap fun l => [true :: l, false :: l]
noncomputable def st14 : List (List Bool) := (allB 8).filter (balGo 0)
theorem mem_allB : ∀ (n : Nat) (l : List Bool), l.length = n → l ∈ allB n
  | 0, [], _ => .head _
  | n + 1, b :: l, h => by
    refine List.mem_flatMap.mpr ⟨l, mem_allB n l (by simpa using h), ?_⟩
    cases b
    · exact .tail _ (.head _)
    · exact .head _

noncomputable def startL : List Bool → List Bool → Nat → Nat → List Bool
  | [], sg, _, _ => sg
  | b :: bs, sg, h, o => if (h == 0 || (decide (o < 4) && b)) = true then startL bs (sg ++ [true]) (h + 1) (o + 1) else startL bs (sg ++ [false]) (h - 1) o
theorem startGo_L (b : Nat → Bool) : ∀ (ks : List Nat) (sg : List Bool) (h o : Nat), startGo b ks sg h o = startL (ks.map b) sg h o
  | [], _, _, _ => rfl
  | k :: ks, sg, h, o => by
    simp only [startGo, List.map_cons, startL]
    rw [startGo_L b ks, startGo_L b ks]
theorem start_all : ∀ l ∈ allB 8, startL l [] 0 0 ∈ st14 := by decide +kernel
theorem start_mem (n : Int) : startF n ∈ st14 := by
  unfold startF
  rw [startGo_L]
  exact start_all _ (mem_allB 8 _ (by simp))

theorem st_len : ∀ s ∈ st14, s.length = 8 := by decide +kernel
theorem st_ok : ∀ s ∈ st14, okM s (List.range 8) [] = true := by decide +kernel
theorem st_whole : ∀ s ∈ st14, bal s 0 7 = true ∧ bal s 0 6 = false := by decide +kernel
theorem st_signs : ∀ s ∈ st14, signsM (matesF s) = s := by decide +kernel
theorem hook_mem0 : ∀ s ∈ st14, ∀ p ∈ List.range 7, (hookN (s, 0) p).1 ∈ st14 := by decide +kernel
theorem hook_twin0 : ∀ s ∈ st14, ∀ p ∈ List.range 7, twinStep (matesF s, 0) p = (matesF (hookN (s, 0) p).1, (hookN (s, 0) p).2) := by decide +kernel
theorem hook_cm0 : ∀ s ∈ st14, ∀ p ∈ List.range 7, ∀ q ∈ List.range 7, 2 ≤ dist p q → hookN (hookN (s, 0) p) q = hookN (hookN (s, 0) q) p := by decide +kernel
theorem hook_id0 : ∀ s ∈ st14, ∀ p ∈ List.range 7, hookN (hookN (s, 0) p) p = ((hookN (s, 0) p).1, (hookN (s, 0) p).2 + 1) := by decide +kernel
theorem hook_br0 : ∀ s ∈ st14, ∀ p ∈ List.range 7, ∀ q ∈ List.range 7, dist p q = 1 → hookN (hookN (hookN (s, 0) p) q) p = hookN (s, 0) p := by decide +kernel

noncomputable def lift (r : Nat) (x : List Bool × Nat) : List Bool × Nat := (x.1, x.2 + r)
theorem hook_lift (r : Nat) (x : List Bool × Nat) (p : Nat) : hookN (lift r x) p = lift r (hookN x p) := by
  by_cases h : bal x.1 p (p + 1) = true
  · rw [hookN, if_pos (show bal (lift r x).1 p (p + 1) = true from h), hookN, if_pos h]
    show (x.1, x.2 + r + 1) = (x.1, x.2 + 1 + r)
    congr 1; omega
  · rw [hookN, if_neg (show ¬ bal (lift r x).1 p (p + 1) = true from h), hookN, if_neg h]
    rfl
theorem as_lift (x : List Bool × Nat) : x = lift x.2 (x.1, 0) := by simp [lift]
theorem hook_mem {x : List Bool × Nat} {p : Nat} (h : x.1 ∈ st14) (hp : p < 7) : (hookN x p).1 ∈ st14 := by
  rw [as_lift x, hook_lift]
  exact hook_mem0 _ h p (List.mem_range.mpr hp)
theorem hook_cm {x : List Bool × Nat} {p q : Nat} (h : x.1 ∈ st14) (hp : p < 7) (hq : q < 7) (hd : 2 ≤ dist p q) : hookN (hookN x p) q = hookN (hookN x q) p := by
  rw [as_lift x, hook_lift, hook_lift, hook_lift, hook_lift, hook_cm0 _ h p (List.mem_range.mpr hp) q (List.mem_range.mpr hq) hd]
theorem hook_id {x : List Bool × Nat} {p : Nat} (h : x.1 ∈ st14) (hp : p < 7) : hookN (hookN x p) p = lift 1 (hookN x p) := by
  rw [as_lift x, hook_lift, hook_lift, hook_id0 _ h p (List.mem_range.mpr hp)]
  simp only [lift]
  congr 1; omega
theorem hook_br {x : List Bool × Nat} {p q : Nat} (h : x.1 ∈ st14) (hp : p < 7) (hq : q < 7) (hd : dist p q = 1) : hookN (hookN (hookN x p) q) p = hookN x p := by
  rw [as_lift x, hook_lift, hook_lift, hook_lift, hook_br0 _ h p (List.mem_range.mpr hp) q (List.mem_range.mpr hq) hd]

noncomputable abbrev Bk (ps : List Nat) (x : List Bool × Nat) : List Bool × Nat := ps.foldl hookN x
theorem bk_lift (r : Nat) : ∀ (ps : List Nat) (x : List Bool × Nat), Bk ps (lift r x) = lift r (Bk ps x)
  | [], _ => rfl
  | p :: ps, x => by rw [Bk, List.foldl_cons, hook_lift]; exact bk_lift r ps _
theorem bk_mem : ∀ (ps : List Nat) {x : List Bool × Nat}, x.1 ∈ st14 → (∀ p ∈ ps, p < 7) → (Bk ps x).1 ∈ st14
  | [], _, h, _ => h
  | p :: ps, x, h, hp => bk_mem ps (hook_mem h (hp p (.head _))) fun q hq => hp q (.tail _ hq)
theorem bk_append (u v : List Nat) (x : List Bool × Nat) : Bk (u ++ v) x = Bk v (Bk u x) := List.foldl_append
theorem bk_far {a : Nat} (ha : a < 7) : ∀ (mid : List Nat) {x : List Bool × Nat}, x.1 ∈ st14 → (∀ b ∈ mid, b < 7) → (∀ b ∈ mid, 2 ≤ dist a b) → Bk (mid ++ [a]) x = Bk (a :: mid) x
  | [], _, _, _, _ => rfl
  | b :: mid, x, h, hb, hd => by
    have ih := bk_far ha mid (hook_mem h (hb b (.head _))) (fun q hq => hb q (.tail _ hq)) fun q hq => hd q (.tail _ hq)
    show Bk (mid ++ [a]) (hookN x b) = Bk mid (hookN (hookN x a) b)
    rw [ih]
    show Bk mid (hookN (hookN x b) a) = _
    rw [hook_cm h ha (hb b (.head _)) (hd b (.head _))]

theorem bk_ring {a : Nat} {pre mid post : List Nat} {x : List Bool × Nat} (h : x.1 ∈ st14) (hall : ∀ b ∈ pre ++ a :: (mid ++ a :: post), b < 7) (hd : ∀ b ∈ mid, 2 ≤ dist a b) : Bk (pre ++ a :: (mid ++ a :: post)) x = lift 1 (Bk (pre ++ a :: (mid ++ post)) x) := by
  have hpre : ∀ b ∈ pre, b < 7 := fun b hb => hall b (by simp [hb])
  have hmid : ∀ b ∈ mid, b < 7 := fun b hb => hall b (by simp [hb])
  have ha : a < 7 := hall a (by simp)
  have h1 := bk_mem pre h hpre
  have e1 : pre ++ a :: (mid ++ a :: post) = pre ++ ([a] ++ ((mid ++ [a]) ++ post)) := by simp
  have e2 : pre ++ a :: (mid ++ post) = pre ++ ([a] ++ (mid ++ post)) := by simp
  rw [e1, e2]
  rw [bk_append, bk_append, bk_append, show Bk [a] (Bk pre x) = hookN (Bk pre x) a from rfl, bk_far ha mid (hook_mem h1 ha) hmid hd]
  rw [bk_append, bk_append [a], bk_append mid]
  show Bk post (Bk mid (hookN (hookN (Bk pre x) a) a)) = lift 1 (Bk post (Bk mid (hookN (Bk pre x) a)))
  rw [hook_id h1 ha, bk_lift, bk_lift]
theorem bk_one {a b : Nat} {pre m1 m2 post : List Nat} {x : List Bool × Nat} (h : x.1 ∈ st14) (hall : ∀ c ∈ pre ++ a :: (m1 ++ b :: (m2 ++ a :: post)), c < 7) (hd1 : ∀ c ∈ m1, 2 ≤ dist a c) (hd2 : ∀ c ∈ m2, 2 ≤ dist a c) (hb : dist a b = 1) : Bk (pre ++ a :: (m1 ++ b :: (m2 ++ a :: post))) x = Bk (pre ++ a :: (m1 ++ (m2 ++ post))) x := by
  have hpre : ∀ b ∈ pre, b < 7 := fun b hb => hall b (by simp [hb])
  have hm1 : ∀ b ∈ m1, b < 7 := fun b hb => hall b (by simp [hb])
  have hm2 : ∀ b ∈ m2, b < 7 := fun b hb => hall b (by simp [hb])
  have ha : a < 7 := hall a (by simp)
  have hb7 : b < 7 := hall b (by simp)
  have h1 := bk_mem pre h hpre
  have e1 : pre ++ a :: (m1 ++ b :: (m2 ++ a :: post)) = pre ++ ((a :: m1) ++ ([b] ++ ((m2 ++ [a]) ++ post))) := by simp
  have e2 : pre ++ a :: (m1 ++ (m2 ++ post)) = pre ++ ((a :: m1) ++ (m2 ++ post)) := by simp
  have hk := bk_far ha m1 h1 hm1 hd1
  have h2 : (Bk (a :: m1) (Bk pre x)).1 ∈ st14 := bk_mem _ h1 fun c hc => by
    rcases List.mem_cons.mp hc with rfl | hc
    · exact ha
    · exact hm1 c hc
  rw [e1, e2, bk_append, bk_append, bk_append [b], bk_append, show Bk [b] (Bk (a :: m1) (Bk pre x)) = hookN (Bk (a :: m1) (Bk pre x)) b from rfl, bk_far ha m2 (hook_mem h2 hb7) hm2 hd2]
  rw [bk_append, bk_append (a :: m1), bk_append m2]
  show Bk post (Bk m2 (hookN (hookN (Bk (a :: m1) (Bk pre x)) b) a)) = _
  rw [← hk, bk_append m1 [a]]
  show Bk post (Bk m2 (hookN (hookN (hookN (Bk m1 (Bk pre x)) a) b) a)) = Bk post (Bk m2 (hookN (Bk m1 (Bk pre x)) a))
  rw [hook_br (bk_mem m1 h1 hm1) ha hb7 hb]

theorem twin_lift (r : Nat) (x : List Nat × Nat) (p : Nat) : twinStep (x.1, x.2 + r) p = ((twinStep x p).1, (twinStep x p).2 + r) := by
  by_cases h : (x.1.getD p 0 == p + 1) = true
  · rw [twinStep, if_pos h, twinStep, if_pos h]
    show (x.1, x.2 + r + 1) = (x.1, x.2 + 1 + r)
    congr 1; omega
  · rw [twinStep, if_neg h, twinStep, if_neg h]
theorem twin_bk : ∀ (ps : List Nat) {x : List Bool × Nat}, x.1 ∈ st14 → (∀ p ∈ ps, p < 7) → ps.foldl twinStep (matesF x.1, x.2) = (matesF (Bk ps x).1, (Bk ps x).2)
  | [], _, _, _ => rfl
  | p :: ps, x, h, hp => by
    have hp7 := hp p (.head _)
    have h1 : twinStep (matesF x.1, x.2) p = (matesF (hookN x p).1, (hookN x p).2) := by
      have t := twin_lift x.2 (matesF x.1, 0) p
      rw [hook_twin0 _ h p (List.mem_range.mpr hp7)] at t
      simp only [Nat.zero_add] at t
      rw [t]
      have e := hook_lift x.2 (x.1, 0) p
      rw [← as_lift x] at e
      rw [e]
      rfl
    rw [List.foldl_cons, h1]
    exact twin_bk ps (hook_mem h hp7) fun q hq => hp q (.tail _ hq)
theorem twin_law {s : List Bool} (h : s ∈ st14) (ps : List Nat) (hp : ∀ p ∈ ps, p < 7) : signsM (twinF s ps).1 = (hookedF s ps).1 ∧ (twinF s ps).2 = (hookedF s ps).2 := by
  have := twin_bk ps (x := (s, 0)) h hp
  unfold twinF
  rw [this]
  exact ⟨st_signs _ (bk_mem ps (x := (s, 0)) h hp), rfl⟩
end Mine
end partPP

section partPQ
open PySem PySem.Calls PyProof.Rows
set_option maxRecDepth 100000
set_option linter.all false
set_option maxHeartbeats 4000000
namespace Mine

theorem dist_zero {a b : Nat} : dist a b = 0 ↔ a = b := by unfold dist; split <;> omega

noncomputable def nearIdx (a : Nat) : Nat → List Nat → List Nat
  | _, [] => []
  | k, b :: m => (if dist a b < 2 then [k] else []) ++ nearIdx a (k + 1) m
theorem upTo_cons {a b : Nat} (h : a < b) : upTo a b = a :: upTo (a + 1) b := by
  unfold upTo
  obtain ⟨n, hn⟩ : ∃ n, b - a = n + 1 := ⟨b - a - 1, by omega⟩
  rw [hn, show b - (a + 1) = n by omega, List.range_succ_eq_map, List.map_cons, List.map_map]
  congr 1
  refine List.map_congr_left fun t _ => ?_
  show a + (t + 1) = a + 1 + t
  omega
theorem upTo_nil {a b : Nat} (h : b ≤ a) : upTo a b = [] := by
  unfold upTo
  rw [show b - a = 0 by omega]; rfl
theorem getD_mid (P m : List Nat) (b : Nat) : (P ++ b :: m).getD P.length 0 = b := by simp [List.getD]
theorem scan_split (a : Nat) : ∀ (m P near : List Nat) (j : Nat) (near' : List Nat), scan (P ++ m) a (upTo P.length (P ++ m).length) near = some (j, near') →
    ∃ mid post, m = mid ++ a :: post ∧ j = P.length + mid.length ∧ near' = near ++ nearIdx a P.length mid ∧ ∀ b ∈ mid, dist a b ≠ 0
  | [], P, near, j, near', h => by
    rw [upTo_nil (by simp)] at h
    cases h
  | b :: m, P, near, j, near', h => by
    rw [upTo_cons (by simp), scan, getD_mid] at h
    split at h
    · rename_i hd
      have hd0 : a = b := dist_zero.mp (by simpa using hd)
      cases h
      exact ⟨[], m, by rw [hd0]; rfl, rfl, by simp [nearIdx], fun _ q => nomatch q⟩
    · rename_i hd
      have hd0 : dist a b ≠ 0 := by simpa using hd
      have e : P ++ b :: m = (P ++ [b]) ++ m := by simp
      have e2 : P.length + 1 = (P ++ [b]).length := by simp
      rw [e, e2] at h
      obtain ⟨mid, post, h1, h2, h3, h4⟩ := scan_split a m (P ++ [b]) _ j near' h
      refine ⟨b :: mid, post, by rw [h1]; rfl, by rw [h2]; simp; omega, ?_, fun c hc => ?_⟩
      · rw [h3, nearIdx, ← e2]
        split <;> simp
      · rcases List.mem_cons.mp hc with rfl | hc
        · exact hd0
        · exact h4 c hc
theorem near_nil (a : Nat) : ∀ (mid : List Nat) (k : Nat), nearIdx a k mid = [] → ∀ b ∈ mid, 2 ≤ dist a b
  | [], _, _, _, h => nomatch h
  | c :: mid, k, h, b, hb => by
    rw [nearIdx, List.append_eq_nil_iff] at h
    rcases List.mem_cons.mp hb with rfl | hb
    · have := h.1
      split at this
      · cases this
      · omega
    · exact near_nil a mid (k + 1) h.2 b hb
theorem near_one (a : Nat) : ∀ (mid : List Nat) (k q : Nat), nearIdx a k mid = [q] → ∃ m1 b m2, mid = m1 ++ b :: m2 ∧ q = k + m1.length ∧ dist a b < 2 ∧ (∀ c ∈ m1, 2 ≤ dist a c) ∧ ∀ c ∈ m2, 2 ≤ dist a c
  | [], _, _, h => nomatch h
  | c :: mid, k, q, h => by
    rw [nearIdx] at h
    split at h
    · rename_i hd
      have h' : k :: nearIdx a (k + 1) mid = [q] := h
      obtain ⟨hk, hn⟩ := List.cons.inj h'
      exact ⟨[], c, mid, rfl, hk.symm, hd, (fun _ h => nomatch h), near_nil a mid (k + 1) hn⟩
    · rename_i hd
      obtain ⟨m1, b, m2, h1, h2, h3, h4, h5⟩ := near_one a mid (k + 1) q h
      refine ⟨c :: m1, b, m2, by rw [h1]; rfl, by rw [h2]; simp; omega, h3, fun d hd' => ?_, h5⟩
      rcases List.mem_cons.mp hd' with rfl | hd'
      · omega
      · exact h4 d hd'

noncomputable def sel (keep : Nat → Bool) : Nat → List Nat → List Nat
  | _, [] => []
  | k, b :: m => (if keep k then [b] else []) ++ sel keep (k + 1) m
theorem sel_append (keep : Nat → Bool) : ∀ (u v : List Nat) (k : Nat), sel keep k (u ++ v) = sel keep k u ++ sel keep (k + u.length) v
  | [], v, k => rfl
  | b :: u, v, k => by
    rw [List.cons_append, sel, sel, sel_append keep u v (k + 1), List.append_assoc]
    rw [show k + 1 + u.length = k + (b :: u).length by simp; omega]
theorem sel_all (keep : Nat → Bool) : ∀ (u : List Nat) (k : Nat), (∀ t, k ≤ t → t < k + u.length → keep t = true) → sel keep k u = u
  | [], _, _ => rfl
  | b :: u, k, h => by
    rw [sel, if_pos (h k (Nat.le_refl _) (by simp)), sel_all keep u (k + 1) fun t h1 h2 => h t (by omega) (by simp; omega)]
    rfl
theorem sel_eq (keep : Nat → Bool) : ∀ (m P : List Nat), ((upTo P.length (P ++ m).length).filter keep).map ((P ++ m).getD · 0) = sel keep P.length m
  | [], P => by rw [upTo_nil (by simp)]; rfl
  | b :: m, P => by
    rw [upTo_cons (by simp), List.filter_cons, sel]
    have e : P ++ b :: m = (P ++ [b]) ++ m := by simp
    have e2 : P.length + 1 = (P ++ [b]).length := by simp
    have ih := sel_eq keep m (P ++ [b])
    rw [← e, ← e2] at ih
    split
    · rw [List.map_cons, ih, getD_mid]; rfl
    · rw [ih]; rfl
theorem range_upTo (n : Nat) : List.range n = upTo 0 n := by simp [upTo]
theorem dropK_sel (ws : List Nat) (j : Nat) (near : List Nat) : dropK ws j near = sel (keepK j near) 0 ws := by
  have := sel_eq (keepK j near) ws []
  unfold dropK
  rw [range_upTo]
  exact this
theorem keep_iff (j : Nat) (near : List Nat) (k : Nat) : keepK j near k = true ↔ k ≠ j ∧ k ∉ near := by
  unfold keepK
  rw [Bool.and_eq_true, bne_iff_ne, Bool.not_eq_true', ← Bool.not_eq_true, List.any_eq_true]
  constructor
  · rintro ⟨h1, h2⟩
    refine ⟨fun e => h1 (by rw [e]), fun e => h2 ⟨(k : Int), List.mem_map.mpr ⟨k, e, rfl⟩, by simp⟩⟩
  · rintro ⟨h1, h2⟩
    refine ⟨fun e => h1 (by omega), fun ⟨x, hx, e⟩ => ?_⟩
    obtain ⟨n, hn, rfl⟩ := List.mem_map.mp hx
    have : (n : Int) = (k : Int) := by simpa using e
    exact h2 (by rwa [show k = n by omega])
theorem sel_out (keep : Nat → Bool) (k b : Nat) (m : List Nat) (h : keep k = false) : sel keep k (b :: m) = sel keep (k + 1) m := by
  rw [sel, h]; rfl

theorem drop_ring (pre mid post : List Nat) (a : Nat) : dropK (pre ++ a :: (mid ++ a :: post)) (pre.length + 1 + mid.length) [] = pre ++ a :: (mid ++ post) := by
  have hk : ∀ t, t ≠ pre.length + 1 + mid.length → keepK (pre.length + 1 + mid.length) [] t = true := fun t h => (keep_iff _ _ _).mpr ⟨h, fun q => nomatch q⟩
  rw [dropK_sel, show pre ++ a :: (mid ++ a :: post) = (pre ++ [a] ++ mid) ++ a :: post by simp, sel_append]
  rw [sel_all _ (pre ++ [a] ++ mid) 0 fun t _ h2 => hk t (by simp at h2; omega)]
  rw [sel_out, sel_all _ post _ fun t h1 _ => hk t (by simp at h1; omega)]
  · simp
  · rw [← Bool.not_eq_true, keep_iff]
    intro h
    exact h.1 (by simp; omega)
theorem drop_one (pre m1 m2 post : List Nat) (a b : Nat) : dropK (pre ++ a :: (m1 ++ b :: (m2 ++ a :: post))) (pre.length + 1 + (m1 ++ b :: m2).length) [pre.length + 1 + m1.length] = pre ++ a :: (m1 ++ (m2 ++ post)) := by
  have hk : ∀ t, t ≠ pre.length + 1 + (m1 ++ b :: m2).length → t ≠ pre.length + 1 + m1.length → keepK (pre.length + 1 + (m1 ++ b :: m2).length) [pre.length + 1 + m1.length] t = true := fun t h h2 => (keep_iff _ _ _).mpr ⟨h, fun q => h2 (List.mem_singleton.mp q)⟩
  rw [dropK_sel, show pre ++ a :: (m1 ++ b :: (m2 ++ a :: post)) = (pre ++ [a] ++ m1) ++ b :: (m2 ++ a :: post) by simp, sel_append]
  rw [sel_all _ (pre ++ [a] ++ m1) 0 fun t _ h2 => hk t (by simp at h2 ⊢; omega) (by simp at h2; omega)]
  rw [sel_out, sel_append, sel_all _ m2 _ fun t h1 h2 => hk t (by simp at h1 h2 ⊢; omega) (by simp at h1 h2 ⊢; omega), sel_out, sel_all _ post _ fun t h1 _ => hk t (by simp at h1 ⊢; omega) (by simp at h1 ⊢; omega)]
  · simp
  · rw [← Bool.not_eq_true, keep_iff]
    intro h
    exact h.1 (by simp; omega)
  · rw [← Bool.not_eq_true, keep_iff]
    intro h
    exact h.2 (List.mem_singleton.mpr (by simp; omega))

theorem step_law {s : List Bool × Nat} (hs : s.1 ∈ st14) (x : Sh) (hx : x.i < x.ws.length) (hp : ∀ p ∈ x.ws, p < 7) : (∀ p ∈ (shStep x).ws, p < 7) ∧ lift (shStep x).r (Bk (shStep x).ws s) = lift x.r (Bk x.ws s) := by
  obtain ⟨ws, r, i⟩ := x
  have hx : i < ws.length := hx
  have hp : ∀ p ∈ ws, p < 7 := hp
  unfold shStep
  simp only []
  split
  · rename_i j near hsc
    split
    · rename_i hn
      refine ⟨fun p hp' => hp p (dropK_mem hp'), ?_⟩
      obtain ⟨pre, a, rest, hws, hpl⟩ : ∃ pre a rest, ws = pre ++ a :: rest ∧ pre.length = i := ⟨ws.take i, ws[i], ws.drop (i + 1), by rw [← List.drop_eq_getElem_cons hx, List.take_append_drop], by rw [List.length_take]; omega⟩
      subst hws hpl
      rw [getD_mid] at hsc
      have e : pre ++ a :: rest = (pre ++ [a]) ++ rest := by simp
      have e2 : pre.length + 1 = (pre ++ [a]).length := by simp
      rw [e, e2] at hsc
      obtain ⟨mid, post, h1, h2, h3, h4⟩ := scan_split a rest (pre ++ [a]) [] j near hsc
      subst h1
      rw [← e2] at h2
      subst h2
      rw [List.nil_append, ← e2] at h3
      match near, h3, hn with
      | [], h3, _ =>
        rw [drop_ring, bk_ring hs hp (near_nil a mid _ h3.symm)]
        simp only [lift, List.length_nil]
        congr 1; omega
      | [q], h3, _ =>
        obtain ⟨m1, b, m2, g1, g2, g3, g4, g5⟩ := near_one a mid _ q h3.symm
        subst g1 g2
        have hb : dist a b = 1 := by have := h4 b (by simp); omega
        have e3 : pre ++ a :: ((m1 ++ b :: m2) ++ a :: post) = pre ++ a :: (m1 ++ b :: (m2 ++ a :: post)) := by simp
        rw [e3] at hp ⊢
        rw [drop_one, bk_one hs hp g4 g5 hb]
        rfl
      | _ :: _ :: _, _, hn => exact absurd hn (by simp)
    · exact ⟨hp, rfl⟩
  · exact ⟨hp, rfl⟩
theorem run_law {s : List Bool × Nat} (hs : s.1 ∈ st14) : ∀ (n : Nat) (x : Sh), (∀ p ∈ x.ws, p < 7) → (∀ p ∈ (shRun n x).ws, p < 7) ∧ lift (shRun n x).r (Bk (shRun n x).ws s) = lift x.r (Bk x.ws s)
  | 0, x, hp => ⟨hp, rfl⟩
  | n + 1, x, hp => by
    rw [shRun]
    split
    · rename_i hx
      obtain ⟨h1, h2⟩ := step_law hs x hx hp
      obtain ⟨h3, h4⟩ := run_law hs n (shStep x) h1
      exact ⟨h3, h4.trans h2⟩
    · exact ⟨hp, rfl⟩
theorem run_len : ∀ (n : Nat) (x : Sh), (shRun n x).ws.length ≤ x.ws.length
  | 0, _ => Nat.le_refl _
  | n + 1, x => by
    rw [shRun]
    split
    · exact Nat.le_trans (run_len n _) (shStep_len x)
    · exact Nat.le_refl _
theorem short_law {s : List Bool} (hs : s ∈ st14) (ps : List Nat) (hp : ∀ p ∈ ps, p < 7) : (∀ p ∈ (shortF ps).ws, p < 7) ∧ (shortF ps).ws.length ≤ ps.length ∧
    (hookedF s ps).1 = signsM (twinF s (shortF ps).ws).1 ∧ (hookedF s ps).2 = (shortF ps).r + (twinF s (shortF ps).ws).2 := by
  obtain ⟨h1, h2⟩ := run_law (s := (s, 0)) hs (shMu ⟨ps, 0, 0⟩) ⟨ps, 0, 0⟩ hp
  obtain ⟨t1, t2⟩ := twin_law hs (shortF ps).ws h1
  refine ⟨h1, run_len _ _, ?_, ?_⟩
  · rw [t1]; exact (congrArg Prod.fst h2).symm
  · rw [t2]
    have := congrArg Prod.snd h2
    simp only [lift] at this
    show (Bk ps (s, 0)).2 = _
    rw [Nat.add_comm]
    exact this.symm

noncomputable def cInt (p : Nat) : Int := (p : Int) + 14
theorem dbl_iff (p q : Nat) : dbl p q = true ↔ (cInt p = cInt q ∧ ([16, 17, 20] : List Int).any (· == cInt q) = true) := by
  unfold dbl
  rw [Bool.and_eq_true, beq_iff_eq, Bool.or_eq_true, Bool.or_eq_true, beq_iff_eq, beq_iff_eq, beq_iff_eq]
  constructor
  · rintro ⟨rfl, h⟩
    refine ⟨rfl, ?_⟩
    rcases h with (rfl | rfl) | rfl <;> decide
  · rintro ⟨h1, h2⟩
    have e : p = q := by unfold cInt at h1; omega
    subst e
    refine ⟨rfl, ?_⟩
    obtain ⟨x, hx, e⟩ := List.any_eq_true.mp h2
    have e : x = (p : Int) + 14 := eq_of_beq e
    simp only [List.mem_cons, List.not_mem_nil, or_false] at hx
    clear h1 h2
    omega
theorem dueOf_ge (l : Int) : 33 ≤ dueOf l := by unfold dueOf; split; decide; split <;> decide
theorem due_two : ∀ (ps : List Nat), (∀ p ∈ ps, p < 7) → ∀ (init : List Int), (∀ p, (ps.map cInt).foldl dueStep (init ++ [cInt p]) = init ++ cutG (p :: ps)) ∧ ((∀ l, init.getLast? = some l → 33 ≤ l) → (ps.map cInt).foldl dueStep init = init ++ cutG ps)
  | [], _, init => ⟨fun p => rfl, fun _ => by simp [cutG]⟩
  | q :: r, hp, init => by
    have hr : ∀ p ∈ r, p < 7 := fun p h => hp p (.tail _ h)
    constructor
    · intro p
      rw [List.map_cons, List.foldl_cons]
      have hl : (init ++ [cInt p]).getLast? = some (cInt p) := by simp
      cases hd : dbl p q with
      | true =>
        obtain ⟨e1, e2⟩ := (dbl_iff p q).mp hd
        have h2 : dueStep (init ++ [cInt p]) (cInt q) = init ++ [dueOf (cInt q)] := by
          unfold dueStep
          rw [if_pos ⟨by rw [hl, e1], e2⟩]
          simp
        have h3 := (due_two r hr (init ++ [dueOf (cInt q)])).2 fun l h => by
          have : dueOf (cInt q) = l := by simpa using h
          rw [← this]; exact dueOf_ge _
        rw [h2, h3, List.append_assoc, cutG, if_pos hd, ← e1]
        rfl
      | false =>
        have h2 : dueStep (init ++ [cInt p]) (cInt q) = (init ++ [cInt p]) ++ [cInt q] := by
          unfold dueStep
          rw [if_neg]
          rintro ⟨e1, e2⟩
          rw [hl] at e1
          have := (dbl_iff p q).mpr ⟨Option.some.inj e1, e2⟩
          rw [hd] at this; cases this
        rw [h2, (due_two r hr (init ++ [cInt p])).1 q, List.append_assoc, cutG, if_neg (by rw [hd]; exact Bool.false_ne_true)]
        rfl
    · intro hi
      have h1 : dueStep init (cInt q) = init ++ [cInt q] := by
        unfold dueStep
        rw [if_neg]
        rintro ⟨e, _⟩
        have := hi _ e
        have := hp q (.head _)
        unfold cInt at *
        omega
      rw [List.map_cons, List.foldl_cons, h1, (due_two r hr init).1 q]
theorem due_cut (ps : List Nat) (hp : ∀ p ∈ ps, p < 7) : dueF (ps.map cInt) = cutG ps := by
  have := (due_two ps hp []).2 fun l h => nomatch h
  rw [List.nil_append] at this
  exact this
end Mine
end partPQ

section partPN
open PySem PySem.Calls PyProof.Rows
set_option maxRecDepth 100000
set_option linter.all false
set_option maxHeartbeats 4000000
namespace Mine

variable {C : Cfg}

noncomputable def pickZ (l : List Int) (lo hi st : Option Int) : List Int :=
  ((sliceRange (sliceBounds lo hi st l.length).1 (sliceBounds lo hi st l.length).2.1 (sliceBounds lo hi st l.length).2.2).filterMap (l[·]?))
theorem pick_map (l : List Int) (lo hi st : Option Int) : pickA (l.map .int) lo hi st = (pickZ l lo hi st).map .int := by
  unfold pickA pickZ
  rw [List.length_map, List.map_filterMap]
  congr 1
  funext i
  rw [List.getElem?_map]
theorem pick_63 (l : List Int) (h : l.length ≤ 63) : pickA (l.map .int) none (some 63) none = l.map .int := by
  have e : sliceBounds none (some 63) none (l.map At.int).length = (((0 : Nat) : Int), ((l.length : Nat) : Int), 1) := by
    rw [List.length_map]
    simp [sliceBounds]
    omega
  unfold pickA
  rw [e]
  have h1 := StrLaws.strSliceIndices_plain (a := 0) (b := l.length) (len := l.length) (Nat.zero_le _) (Nat.le_refl _)
  have h2 : sliceRange ((0 : Nat) : Int) ((l.length : Nat) : Int) 1 = (List.range (l.length - 0)).map fun k => 0 + k := by
    rw [← h1]
    unfold Builtin.Str.strSliceIndices
    have e0 : max (0 : Int) (min ((0 : Nat) : Int) (l.length : Int)) = ((0 : Nat) : Int) := by omega
    have e1 : max (0 : Int) (min (l.length : Int) (l.length : Int)) = (l.length : Int) := by omega
    have n1 : ¬ (((0 : Nat) : Int) < 0) := by omega
    have n2 : ¬ ((l.length : Int) < 0) := by omega
    simp only [n1, n2, if_false, show (1 : Int) > 0 from by decide, if_true, e0, e1]
  show (sliceRange ((0 : Nat) : Int) ((l.length : Nat) : Int) 1).filterMap _ = _
  rw [h2]
  have := StrLaws.picks (l.map At.int) (l.length - 0) 0 (by simp)
  rw [this]
  simp [List.take_of_length_le]

noncomputable def totZ (ns : List Int) : Int := 48869 + ns.sum
noncomputable def psF (ns : List Int) : List Nat := (List.range (4 + min ns.length 3)).map fun k => (((totZ ns).fdiv ((7 : Int) ^ k)).fmod 7).toNat
theorem ps_lt (ns : List Int) : ∀ p ∈ psF ns, p < 7 := fun p hp => by
  obtain ⟨k, _, rfl⟩ := List.mem_map.mp hp
  rw [Int.fmod_eq_emod_of_nonneg _ (by decide)]
  have := Int.emod_lt_of_pos ((totZ ns).fdiv ((7 : Int) ^ k)) (show (0 : Int) < 7 by decide)
  have := Int.emod_nonneg ((totZ ns).fdiv ((7 : Int) ^ k)) (show (7 : Int) ≠ 0 by decide)
  omega
theorem ps_len (ns : List Int) : (psF ns).length ≤ 7 := by
  simp [psF]; omega
theorem ltA_map (ps : List Nat) : ps.map ltA = (ps.map cInt).map .int := by rw [List.map_map]; rfl
noncomputable def oneS (p : Nat) : Str := ⟨#[lcode p]⟩
theorem join_txt (ps : List Nat) : Txt.join "" (ps.map oneS) = txt ps := by
  apply str_ext
  rw [join_toList]
  simp only [txt, oneS]
  induction ps with
  | nil => rfl
  | cons p ps ih => simp only [List.map_cons, List.flatMap_cons] at ih ⊢; rw [ih]; rfl
noncomputable def signsS : Str := "+-*/|&<"
theorem signs_at : ∀ p : Fin 7, signsS.cps[p.1]? = some (lcode p.1) := by decide +kernel

noncomputable def letF (ns : List Int) : At → At
  | .int k => At.int (14 + ((totZ ns).fdiv ((7 : Int) ^ k.toNat)).fmod 7)
  | _ => .none
theorem letters_comp (ns : List Int) (n : Nat) (hn : n = 4 + min ns.length 3) : ((rangeItems 0 (n : Int) 1).filter fun _ => true).map (letF ns) = (psF ns).map ltA := by
  rw [range_items, List.filter_eq_self.mpr (fun _ _ => rfl), List.map_map, hn, psF, List.map_map]
  refine List.map_congr_left fun k _ => ?_
  show At.int (14 + ((totZ ns).fdiv ((7 : Int) ^ k)).fmod 7) = At.int (((((totZ ns).fdiv ((7 : Int) ^ k)).fmod 7).toNat : Int) + 14)
  congr 1
  rw [Int.fmod_eq_emod_of_nonneg _ (by decide)]
  have := Int.emod_nonneg ((totZ ns).fdiv ((7 : Int) ^ k)) (show (7 : Int) ≠ 0 by decide)
  omega
theorem min_arg {a k n : Nat} (ha : a = k) (hn : n = 4 + min k 3) : (V.at (.int (4 + (if (3 : Int) < (a : Int) then 3 else (a : Int))))) = .at (.int (n : Int)) := by
  subst ha hn
  congr 2
  split <;> omega
theorem sub14 (p : Nat) : ((p : Int) + 14 - 14).toNat = p := by omega
theorem ones_sum : ∀ l : List Nat, ((l.map oneS).map (·.length)).sum = l.length
  | [] => rfl
  | x :: l => by
    have : (oneS x).length = 1 := rfl
    simp only [List.map_cons, List.sum_cons, List.length_cons, ones_sum l, this]
    exact Nat.add_comm _ _
theorem law_ok (W : World1 C) (T : Tok1 C) (ns : List Int) (hz : ns.length ≤ 63) : FnS C 121 "law" [.list (ns.map .int)] (.at (.bool true)) := by
  obtain ⟨A, hA⟩ : ∃ A, A = 6239242 + (pickZ ns (some 0) none (some 2)).sum := ⟨_, rfl⟩
  obtain ⟨s, hs⟩ : ∃ s, s = startF A := ⟨_, rfl⟩
  obtain ⟨rs, hrs⟩ : ∃ rs, rs = ridsF A := ⟨_, rfl⟩
  obtain ⟨ps, hps⟩ : ∃ ps, ps = psF ns := ⟨_, rfl⟩
  have hsm : s ∈ st14 := hs ▸ start_mem A
  have hsl := st_len s hsm
  have hrl : rs.length = 7 := by rw [hrs]; simp [ridsF]
  have hp7 : ∀ p ∈ ps, p < 7 := hps ▸ ps_lt ns
  have hpl : ps.length ≤ 7 := hps ▸ ps_len ns
  obtain ⟨b1, b2⟩ := st_whole (hookedF s ps).1 (bk_mem ps (x := (s, 0)) hsm hp7)
  have hrow := st_len (hookedF s ps).1 (bk_mem ps (x := (s, 0)) hsm hp7)
  obtain ⟨w1, w2, w3, w4⟩ := short_law hsm ps hp7
  refine FnS.of_body (N := 120) (d := gLaw.1) (ps := ["script"]) (rest := ["numbers", "signs", "riders", "total", "letters", "row", "rings", "word", "gone", "due", "left"]) (W.fns _ _ gLaw.2) rfl (fun L a cd => ?_) (by ((intro pm cd doc vals h; obtain ⟨a1, ee⟩ := len1 h; subst ee; rfl))) (by decide) (by decide)
  show ExsS C 120 _ ["script", "numbers", "signs", "riders", "total", "letters", "row", "rings", "word", "gone", "due", "left"] [some (.v (.list (ns.map .int))), none, none, none, none, none, none, none, none, none, none, none] _ _
  have hnz : (ns.map At.int).length ≤ sizeLine := by rw [List.length_map]; have : sizeLine = 16777216 := rfl; omega
  refine ExsS.cons (ExS.assign (v := .list (ns.map .int)) (EvL.ev (EvL.cast (EvL.slice (c' := false) (i := none) (j := some 63) (EvS.name .head) trivial EvS.int hnz) (pick_63 ns hz))) (.tail .head) ?_)
  refine ExsS.cons (ExS.pairLL (x := sgL s) (y := rdL rs) (EvS.cast (EvS.call (c' := true) (EvsS.cons (EvS.bin (a := .int 6239242) EvS.int (EvS.bi (c' := false) (EvsS.cons (EvL.ev (EvL.cast (EvL.sliceSt (c' := false) (i := some 0) (j := none) (k := 2) (EvS.name (.tail .head)) EvS.int trivial EvS.int (by decide) hnz) (pick_map ns _ _ _))) EvsS.nil) BiS.sum (by (first | exact bn_len | exact bn_min | exact bn_max | exact bn_abs | exact bn_sum)) (by (first | decide | exact Int.natCast_nonneg _ | assumption | omega))) BinS.add) EvsS.nil) ((start_ok W _).room (by (first | decide | exact Int.natCast_nonneg _ | assumption | omega)))) (by rw [hs, hrs, hA])) (.cons (.tail (.tail .head)) (.cons (.tail (.tail (.tail .head))) .nil)) ?_)
  refine ExsS.cons (ExS.assign (v := .at (.int (totZ ns))) (EvS.bin EvS.int (EvS.bi (c' := false) (EvsS.cons (EvS.name (.tail .head)) EvsS.nil) BiS.sum (by (first | exact bn_len | exact bn_min | exact bn_max | exact bn_abs | exact bn_sum)) (by (first | decide | exact Int.natCast_nonneg _ | assumption | omega))) BinS.add) (.tail (.tail (.tail (.tail .head)))) ?_)
  obtain ⟨n, hn⟩ : ∃ n, n = 4 + min ns.length 3 := ⟨_, rfl⟩
  have hletters := letters_comp ns n hn
  rw [← hps] at hletters
  refine ExsS.cons (ExS.assignC (caps := ["total"]) (cσ := [some (.v (.at (.int (totZ ns))))]) (v := .rng 0 (n : Int) 1) (l := rangeItems 0 (n : Int) 1) (pb := fun _ => true) (f := letF ns) rfl (by decide) rfl (by decide) rfl
    (EvS.range1 (EvsS.cons (EvS.cast (EvS.bin EvS.int (EvS.bi (c' := false) (EvsS.cons (EvS.bi (c := false) (c' := false) (EvsS.cons (EvS.name (.tail .head)) EvsS.nil) (BiS.lenL (by (first | assumption | exact map62 (by (first | decide | exact Int.natCast_nonneg _ | assumption | omega)) | (rw [List.length_map]; omega)))) (by (first | exact bn_len | exact bn_min | exact bn_max | exact bn_abs | exact bn_sum)) (by (first | decide | exact Int.natCast_nonneg _ | assumption | omega))) (EvsS.cons EvS.int EvsS.nil)) BiS.min (by (first | exact bn_len | exact bn_min | exact bn_max | exact bn_abs | exact bn_sum)) (by (first | decide | exact Int.natCast_nonneg _ | assumption | omega))) BinS.add) (min_arg (List.length_map _) hn)) EvsS.nil)) rfl (small_of (by (first | decide | exact Int.natCast_nonneg _ | assumption | omega)) (by (first | decide | exact Int.natCast_nonneg _ | assumption | omega)) (.inl rfl)) (by rw [range_items]; simp; omega)
    (.cons rfl rfl rfl .nil) (.cons (.tail (.tail (.tail (.tail .head)))) .nil) ?_ (.tail (.tail (.tail (.tail (.tail .head))))) ?_)
  · refine ⟨fun a ha Cad => rfl, fun a ha _ Cad => ?_⟩
    rw [range_items] at ha
    obtain ⟨k, hk, rfl⟩ := List.mem_map.mp ha
    have hk := List.mem_range.mp hk
    exact ⟨false, EvS.bin EvS.int (EvS.bin (EvS.bin (EvS.name (.tail .head)) (EvS.bin EvS.int (EvS.name .head) (BinS.pow (by (first | decide | exact Int.natCast_nonneg _ | assumption | omega)) (by (first | decide | exact Int.natCast_nonneg _ | assumption | omega)) (by decide))) (BinS.div (pow_ne (.inr (.inr rfl)) _) (PyProof.noPylong_small (pow_small.2.2 ⟨k, by omega⟩)))) EvS.int (BinS.mod (by decide))) BinS.add⟩
  rw [hletters]
  have hcut : FnS C 120 "_law_cut" [.at (.str (txt ps))] (.list ((cutG ps).map .int)) := (cut_ok W T ps hp7 (by (first | decide | exact Int.natCast_nonneg _ | assumption | omega))).room (by (first | decide | exact Int.natCast_nonneg _ | assumption | omega))
  have hdue : FnS C 120 "_law_due" [.list (ps.map ltA)] (.list ((cutG ps).map .int)) := by
    have := due_ok W (ps.map cInt) (by (first | assumption | exact map62 (by (first | decide | exact Int.natCast_nonneg _ | assumption | omega)) | (rw [List.length_map]; omega)))
    rw [due_cut ps hp7, ← ltA_map] at this
    exact this.room (by (first | decide | exact Int.natCast_nonneg _ | assumption | omega))
  refine ExsS.cons (ExS.ite (b := false) (TsS.cast (TsS.cmp (c₁ := false) (c₂ := false) (EvS.call (EvsS.cons (EvS.cast (EvS.join (c' := false) (ss := ps.map oneS) (EvsS.cons (EvL.ev (EvL.cast (EvL.comp (caps := []) (cσ := []) (v := .list (ps.map ltA)) (l := ps.map ltA) (c' := false) (pb := fun _ => true) (f := fun a => match a with | .int k => .str (oneS (k - 14).toNat) | _ => .none)
    rfl (by decide) rfl (by decide) rfl (EvS.name (.tail (.tail (.tail (.tail (.tail .head)))))) rfl trivial (by (first | assumption | exact map62 (by (first | decide | exact Int.natCast_nonneg _ | assumption | omega)) | (rw [List.length_map]; omega))) .nil .nil ?_) ?_)) EvsS.nil) ?_) (by rw [join_txt])) EvsS.nil) hcut) (EvS.call (EvsS.cons (EvS.name (.tail (.tail (.tail (.tail (.tail .head)))))) EvsS.nil) hdue) CmpS.neLI) (by simp)) (fun h => by cases h) (fun _ => ?_))
  · refine ⟨fun a ha Cad => rfl, fun a ha _ Cad => ?_⟩
    obtain ⟨p, hp, rfl⟩ := List.mem_map.mp ha
    have hp := hp7 p hp
    refine ⟨false, EvS.item (c' := false) (a := .int (p : Int)) EvS.str (EvS.cast (EvS.bin (EvS.name .head) EvS.int BinS.sub) ?_) ?_⟩
    · congr 2; omega
    · show ItemS C _ _ (.str (oneS ((p : Int) + 14 - 14).toNat))
      rw [sub14 p]
      exact ItemS.str (x := signsS) (by (first | decide | exact Int.natCast_nonneg _ | assumption | omega)) (signs_at ⟨p, hp⟩) (by decide)
  · rw [List.filter_eq_self.mpr (fun _ _ => rfl), List.map_map, List.map_map]
    refine List.map_congr_left fun p _ => ?_
    show At.str (oneS ((p : Int) + 14 - 14).toNat) = At.str (oneS p)
    rw [sub14 p]
  · rw [ones_sum, show ("" : Str).length = 0 from rfl, Nat.mul_zero]
    exact Nat.le_trans hpl (by decide)
  refine ExsS.nil ?_
  refine ExsS.cons (ExS.pairLA (x := sgL (hookedF s ps).1) (y := nA (hookedF s ps).2) (EvS.call (c' := true) (EvsS.cons (EvS.name (.tail (.tail .head))) (EvsS.cons (EvS.name (.tail (.tail (.tail .head)))) (EvsS.cons (EvS.name (.tail (.tail (.tail (.tail (.tail .head)))))) EvsS.nil))) ((hooked_ok W s rs ps hsl hrl hp7).room (by (first | decide | exact Int.natCast_nonneg _ | assumption | omega)))) (.cons (.tail (.tail (.tail (.tail (.tail (.tail .head)))))) (.cons (.tail (.tail (.tail (.tail (.tail (.tail (.tail .head))))))) .nil)) ?_)
  refine ExsS.cons (ExS.ite (b := false) (TsS.cast (TsS.boolOp (TssS.orC (TsS.cmp (c₁ := false) (c₂ := false) (EvS.chk (c' := true) (i := 0) (j := 7) W (EvsS.cons (EvS.name (.tail (.tail (.tail (.tail (.tail (.tail .head))))))) (EvsS.cons (EvS.name (.tail (.tail (.tail .head)))) (EvsS.cons EvS.int (EvsS.cons EvS.int EvsS.nil)))) (by (first | decide | exact Int.natCast_nonneg _ | assumption | omega)) hrow hrl (by (first | decide | exact Int.natCast_nonneg _ | assumption | omega)) (by (first | decide | exact Int.natCast_nonneg _ | assumption | omega))) EvS.bool CmpS.isNotB) (fun _ => TssS.orC (TsS.cmp (c₁ := false) (c₂ := false) (EvS.chk (c' := true) (i := 0) (j := 6) W (EvsS.cons (EvS.name (.tail (.tail (.tail (.tail (.tail (.tail .head))))))) (EvsS.cons (EvS.name (.tail (.tail (.tail .head)))) (EvsS.cons EvS.int (EvsS.cons EvS.int EvsS.nil)))) (by (first | decide | exact Int.natCast_nonneg _ | assumption | omega)) hrow hrl (by (first | decide | exact Int.natCast_nonneg _ | assumption | omega)) (by (first | decide | exact Int.natCast_nonneg _ | assumption | omega))) EvS.bool CmpS.isNotB) (fun _ => TssS.orNil)))) (by rw [b1, b2]; rfl)) (fun h => by cases h) (fun _ => ?_))
  refine ExsS.nil ?_
  refine ExsS.cons (ExS.pairLA (x := (shortF ps).ws.map ltA) (y := nA (shortF ps).r) (EvS.call (c' := true) (EvsS.cons (EvS.name (.tail (.tail (.tail (.tail (.tail .head)))))) EvsS.nil) ((short_ok W ps (by (first | decide | exact Int.natCast_nonneg _ | assumption | omega))).room (by (first | decide | exact Int.natCast_nonneg _ | assumption | omega)))) (.cons (.tail (.tail (.tail (.tail (.tail (.tail (.tail (.tail .head)))))))) (.cons (.tail (.tail (.tail (.tail (.tail (.tail (.tail (.tail (.tail .head))))))))) .nil)) ?_)
  refine ExsS.cons (ExS.pairLA (x := sgL (hookedF s ps).1) (y := nA (twinF s (shortF ps).ws).2) (EvS.cast (EvS.call (c' := true) (EvsS.cons (EvS.name (.tail (.tail .head))) (EvsS.cons (EvS.name (.tail (.tail (.tail (.tail (.tail (.tail (.tail (.tail .head))))))))) EvsS.nil)) ((twin_ok W s (shortF ps).ws hsl (st_ok s hsm) w1 (by (first | decide | exact Int.natCast_nonneg _ | assumption | omega))).room (by (first | decide | exact Int.natCast_nonneg _ | assumption | omega)))) (by rw [w3])) (.cons (.tail (.tail (.tail (.tail (.tail (.tail (.tail (.tail (.tail (.tail .head)))))))))) (.cons (.tail (.tail (.tail (.tail (.tail (.tail (.tail (.tail (.tail (.tail (.tail .head))))))))))) .nil)) ?_)
  refine ExsS.cons (ExS.ret (v := .at (.bool true)) ?_ rfl)
  refine EvS.cast (EvS.and2 (x := true) (y := true) (EvS.cmp (c₁ := false) (c₂ := false) (EvS.name (.tail (.tail (.tail (.tail (.tail (.tail .head))))))) (EvS.name (.tail (.tail (.tail (.tail (.tail (.tail (.tail (.tail (.tail (.tail .head))))))))))) CmpS.eqLS) fun _ => EvS.cast (EvS.cmp (c₁ := false) (c₂ := false) (EvS.name (.tail (.tail (.tail (.tail (.tail (.tail (.tail .head)))))))) (EvS.bin (EvS.name (.tail (.tail (.tail (.tail (.tail (.tail (.tail (.tail (.tail .head)))))))))) (EvS.name (.tail (.tail (.tail (.tail (.tail (.tail (.tail (.tail (.tail (.tail (.tail .head)))))))))))) BinS.add) CmpS.eqI) ?_) rfl
  congr 2
  rw [beq_iff_eq, w4]
  omega
end Mine
end partPN

section partJZ
open PySem PySem.W PySem.Calls PyProof.Rows
set_option maxRecDepth 100000
set_option linter.all false
set_option maxHeartbeats 4000000
namespace Mine

noncomputable def theBody : List Stmt := PySem.Challenge.pw_ph0123_01.main.body
noncomputable def tabName : Str := "EXACT_TOKEN_TYPES"
noncomputable def constGo (x : Str) : List Stmt → Option Int
  | .Assign [.Name y _] (.Constant (.int i) _ _) _ :: r => if y == x then some i else constGo x r
  | _ :: r => constGo x r
  | [] => none
noncomputable def pairsGo : List (Option PySem.Expr) → List PySem.Expr → List (Str × Int)
  | some (.Constant (.str k) _ _) :: ks, .Name x _ :: vs => (match constGo x theBody with
      | some i => (k, i) :: pairsGo ks vs
      | none => [])
  | _, _ => []
noncomputable def tabGo : List Stmt → List (Str × Int)
  | .Assign [.Name y _] (.Dict ks vs _) _ :: r => if y == tabName then pairsGo ks vs else tabGo r
  | _ :: r => tabGo r
  | [] => []
noncomputable def tokTab : List (Str × Int) := tabGo theBody
noncomputable def tokF (x : Str) : Option Int := (tokTab.find? fun p => p.1 == x).map (·.2)
theorem tok_1 : ∀ p : Fin 7, tokF (txt [p.1]) = some ((p.1 : Int) + 14) := by decide +kernel
theorem tok_2 : ∀ p q : Fin 7, tokF (txt [p.1, q.1]) = if dbl p.1 q.1 = true then some (dueOf ((p.1 : Int) + 14)) else none := by decide +kernel
theorem tok_3 : ∀ p q r : Fin 7, tokF (txt [p.1, q.1, r.1]) = none := by decide +kernel

noncomputable def entO (e : DictEntry) : Option (Str × Int × Int) := match e.key, e.val with
  | .str x _, .int i _ => some (x, e.hash, i)
  | _, _ => none
noncomputable def refO (o : Obj) : Option Addr := match o.data with
  | .dict es _ => (match ((es.toList.find? fun (e : DictEntry) => e.key.isStr tabName).map fun (e : DictEntry) => e.val : Option Value) with
    | some (Value.ref a) => if a == sysModules then none else some a
    | _ => none)
  | _ => none
noncomputable def tabO (o : Obj) : Option (List (Option (Str × Int × Int))) := match o with
  | ⟨.type T, none, .dict es _, sl⟩ => if T == "dict" && sl.isEmpty then some (es.toList.map entO) else none
  | _ => none
noncomputable def obsO (h : Heap) : Option (List (Option (Str × Int × Int))) := ((h.get? mainGlobals).bind refO).bind fun a => (h.get? a).bind tabO
noncomputable def valO (w : World) : Option (List (Option (Str × Int × Int))) := some (tokTab.map fun p => some (p.1, PyData.keyHash w.params p.1, p.2))
noncomputable def saysO (w : World) (h : Heap) : Prop := ∃ o a o', h.get? mainGlobals = some o ∧ refO o = some a ∧ h.get? a = some o' ∧ tabO o' = valO w
theorem says_of (w : World) (s : Shared) (e : obsO s.heap = valO w) : saysO w s.heap := by
  unfold obsO at e
  cases h1 : s.heap.get? mainGlobals with
  | none => rw [h1] at e; cases e
  | some o =>
    rw [h1, Option.bind_some] at e
    cases h2 : refO o with
    | none => rw [h2] at e; cases e
    | some a =>
      rw [h2, Option.bind_some] at e
      cases h3 : s.heap.get? a with
      | none => rw [h3] at e; cases e
      | some o' => rw [h3, Option.bind_some] at e; exact ⟨o, a, o', h1, h2, h3, e⟩
theorem says_keeps (w : World) (h h' : Heap) (x : saysO w h) (k : ∀ b o, h.get? b = some o → h'.get? b = some o) : saysO w h' :=
  let ⟨o, a, o', h1, h2, h3, e⟩ := x; ⟨o, a, o', k _ _ h1, h2, k _ _ h3, e⟩
noncomputable def theHook : Hook := ⟨Option (List (Option (Str × Int × Int))), fun s => obsO s.heap, valO, saysO, says_of, says_keeps⟩

theorem ref_mg {h : Heap} {mg : Str → Option Value} {o : Obj} {a : Addr} (G : h.Ns mainGlobals mg) (ho : h.get? mainGlobals = some o) (e : refO o = some a) : mg tabName = some (.ref a) ∧ (a == sysModules) = false := by
  obtain ⟨o', es, ep, ho', hd, _, hf⟩ := G
  rw [ho] at ho'; cases ho'
  unfold refO at e
  rw [hd] at e
  simp only [] at e
  rw [← hf]
  unfold nsFind findBy
  rw [← Array.find?_toList]
  generalize ((es.toList.find? fun (e : DictEntry) => e.key.isStr tabName).map fun (e : DictEntry) => e.val : Option Value) = v at e ⊢
  split at e
  · split at e
    · cases e
    · rename_i hn; cases e; exact ⟨rfl, by simpa using hn⟩
  · cases e
theorem tok_find (x : Str) {P : Params} : ∀ (l : List DictEntry) (tab : List (Str × Int)), l.map entO = tab.map (fun p => some (p.1, PyData.keyHash P p.1, p.2)) → TokVal ((tab.find? fun p => p.1 == x).map (·.2)) ((l.find? fun e => Value.isStrOf x e.key).map (·.val)) ∧ ∀ e ∈ l, ∃ y t, e.key = .str y t ∧ e.hash = PyData.keyHash P y := by
  intro l
  induction l with
  | nil =>
    intro tab h
    cases tab with
    | nil => exact ⟨rfl, fun e he => nomatch he⟩
    | cons p tab => cases h
  | cons e l ih =>
    intro tab h
    cases tab with
    | nil => cases h
    | cons p tab =>
      rw [List.map_cons, List.map_cons] at h
      obtain ⟨h1, h2⟩ := List.cons.inj h
      obtain ⟨i1, i2⟩ := ih tab h2
      obtain ⟨y, i⟩ := p
      obtain ⟨t, u, hk, hh, hv⟩ : ∃ t u, e.key = .str y t ∧ e.hash = PyData.keyHash P y ∧ e.val = .int i u := by
        unfold entO at h1
        split at h1
        · rename_i hk hv
          simp only [Option.some.injEq, Prod.mk.injEq] at h1
          obtain ⟨rfl, h3, rfl⟩ := h1
          exact ⟨_, _, hk, h3, hv⟩
        · cases h1
      refine ⟨?_, fun e' he' => ?_⟩
      · rw [List.find?_cons, List.find?_cons, hk]
        show TokVal (Option.map _ (match y == x with | true => _ | false => _)) (Option.map _ (match y == x with | true => _ | false => _))
        cases y == x with
        | true => exact ⟨u, by rw [← hv]; rfl⟩
        | false => exact i1
      · rcases List.mem_cons.mp he' with rfl | he'
        · exact ⟨y, t, hk, hh⟩
        · exact i2 e' he'

noncomputable def allRecs : List DefRec := PySem.Challenge.pw_ph0123_01.main.body.filterMap recOf
theorem recAt_mem {k : Nat} {d : DefRec} (h : recAt k = some d) : d ∈ allRecs := by
  unfold recAt at h
  cases e : PySem.Challenge.pw_ph0123_01.main.body[k]? with
  | none => rw [e] at h; cases h
  | some st => rw [e, Option.bind_some] at h; exact List.mem_filterMap.mpr ⟨_, List.mem_of_getElem? e, h⟩

structure ViewOk (q : Program) (loose : List Str) : Prop where
  recs : recsOf q = allRecs
  off : valOf q "NT_OFFSET" = some (.int 256)
  endm : valOf q "ENDMARKER" = some (.int 0)
  free : ∀ x ∈ bnames.map (·.1), x ∉ startupNames ∧ x ∉ loose ∧ x ∉ (recsOf q).map (·.name) ∧ x ∉ (litsOf q).map (·.1) ∧ x ∉ (clssOf q loose).map (·.name)
theorem names_boot : ∀ x ∈ bnames, bootBuiltins x.1 = some x.2 ∧ x.1 ≠ "__name__" := by
  intro x hx
  simp only [bnames, List.mem_cons, List.not_mem_nil, or_false] at hx
  rcases hx with rfl | rfl | rfl | rfl | rfl | rfl | rfl | rfl | rfl <;> exact ⟨by kernel_rfl, by decide⟩
theorem int_const {q : Program} {loose : List Str} {mean : ExcName → Option Value} {mg mb : Str → Option Value} {h : Heap} {x : Str} {i : Int} (T : Top q loose mean mg mb h) (e : valOf q x = some (.int i)) : ∃ t, mg x = some (.int i t) := by
  obtain ⟨v, h1, h2⟩ := T.const x _ e
  cases h2 h with
  | int i t => exact ⟨t, h1⟩

theorem law_good {c : ClaimW} {cl : Str → Option Addr} {mean : ExcName → Option Value} {args : List WData} {w : World} {mg mb : Str → Option Value} {s₁ : Shared} {fa a : Addr} {vs : List Value} {ns : List Int} {P : Params} {q : Program} {loose : List Str} {mean' : ExcName → Option Value}
    (O : ViewOk q loose) (Y : saysO w s₁.heap) (T : Top q loose mean' mg mb s₁.heap) (hmg : mg "law" = some (.ref fa)) (hg : s₁.gens = #[]) (hL : s₁.heap.IsList a vs.toArray) (hI : IntsAre vs ns) (hW : Well P s₁.heap (.ref a) (ofPy (PyData.list (ns.map PyData.int)))) (hz : ns.length ≤ 63)
    (hr : ∀ cls, c.raises args cls = false) (hp : c.post args (.bool true) args = true) :
    wpAny (model PySem.Challenge.pw_ph0123_01 w) callerA (call (.ref fa) [.ref a]) (fun v s' => GoodWG c cl mean args s₁ (.ok (.ret v)) s') (fun e s' => GoodWG c cl mean args s₁ (.error e) s') s₁ := by
  obtain ⟨o, ta, o', y1, y2, y3, y4⟩ := Y
  obtain ⟨m1, m2⟩ := ref_mg T.g y1 y2
  obtain ⟨es, n, rfl, hes⟩ : ∃ es n, o' = ⟨.type "dict", none, .dict es n, #[]⟩ ∧ es.toList.map entO = tokTab.map (fun p => some (p.1, PyData.keyHash w.params p.1, p.2)) := by
    unfold tabO at y4
    split at y4
    · split at y4
      · rename_i hc
        rw [Bool.and_eq_true] at hc
        have hT := eq_of_beq hc.1
        have hs := Array.isEmpty_iff.mp hc.2
        subst hT hs
        exact ⟨_, _, rfl, Option.some.inj y4⟩
      · cases y4
    · cases y4
  let C : Cfg := { prog := PySem.Challenge.pw_ph0123_01, w := w, fns := allRecs, mg := mg, mb := mb, tokA := ta, tok := tokF }
  have W : World1 C := ⟨fun k d h => recAt_mem h, int_const T O.off, int_const T O.endm⟩
  have B : Base C s₁.heap := {
    nm := fun x hx => by
      obtain ⟨f1, f2, f3, f4, f5⟩ := O.free x.1 (List.mem_map_of_mem hx)
      exact ⟨T.free _ f1 f2 f3 f4 f5, (T.builtins _ (names_boot x hx).2).trans (names_boot x hx).1⟩
    nolimit := T.nolimit
    g := T.g
    b := T.b
    fn := fun d hd => T.fn d (O.recs ▸ hd)
    tokm := ⟨m1, m2⟩
    tok := ⟨fun k => findBy Value.isStrOf es k, ⟨_, es, n, y3, ⟨rfl, rfl, rfl⟩, rfl, fun e he => by
        obtain ⟨y, t, hk, hh⟩ := (tok_find "" es.toList tokTab hes).2 e (Array.mem_toList_iff.mpr he)
        exact ⟨y, by rw [hk]; exact strKind_is _ _ y t, hh⟩, fun _ => rfl⟩, fun x => by
      show TokVal ((tokTab.find? fun p => p.1 == x).map (·.2)) ((es.find? fun e => Value.isStrOf x e.key).map (·.val))
      rw [← Array.find?_toList]
      exact (tok_find x es.toList tokTab hes).1⟩ }
  have Tk : Tok1 C := ⟨fun p hp => tok_1 ⟨p, hp⟩, fun p q hp hq => tok_2 ⟨p, hp⟩ ⟨q, hq⟩, fun p q r hp hq hr => tok_3 ⟨p, hp⟩ ⟨q, hq⟩ ⟨r, hr⟩⟩
  have hS : IsVs s₁.heap (fun _ => False) [.list (ns.map .int)] [.ref a] := by
    have hW' : Well P s₁.heap (.ref a) (.list (ofPys (ns.map PyData.int))) := hW
    cases hW' with
    | list hg _ =>
      obtain ⟨o, ho, _, n, hd⟩ := hL
      rw [hg] at ho
      cases ho
      have hd : Data.seq _ _ = Data.seq vs.toArray n := hd
      injection hd with h1 h2
      subst h2
      rw [h1] at hg
      exact ⟨⟨a, rfl, id, vs.toArray, ⟨_, hg⟩, AtsAre.of_ints hI⟩, trivial⟩
  have hlaw := (law_ok (C := C) W Tk ns hz).2
  refine wpAny_mono (hlaw callerA s₁ (fun _ => False) fa [.ref a] (fun v s' => GoodWG c cl mean args s₁ (.ok (.ret v)) s') ⟨rfl, by decide, by decide⟩ B hmg (fun _ q => q.elim) hS fun v s' hv hx => ?_) (fun _ _ h => h) fun _ _ h => h.elim
  cases (show v = .bool true from hv)
  obtain ⟨h', tk, g', rfl, k, gg, _⟩ := hx
  exact ⟨.inl ⟨_, _, [], rfl, hr, ReadsW.bool true, hp, fun _ => ⟨List.nodup_nil, fun _ hm => nomatch hm⟩⟩, .of_keep k, rfl, gg.bare (by rw [hg]; exact AllBare.empty)⟩
end Mine
end partJZ

open PySem PySem.W PySem.Calls PyProof.Rows
set_option maxRecDepth 100000 in
set_option maxHeartbeats 8000000 in
theorem PySem.Challenge.cw_ph0123_01_holds : PySem.Challenge.rw_ph0123_01.Holds := by
  w_on; o_law; o_head Mine.theHook
  (case hw => w_witness2)
  intro w s₀ s₁ mg mb G Y fa o pm cd doc dV kV ho hd hcd hD hmg hg args vals as hpre hlay hrd hwl hlo
  refine Ground.open G ?_
  intro T B D TE TW
  clear ho hd hcd hD G B D TE TW
  wrow_args hpre hlay hrd hwl hlo
  rename_i ns _ _ _ _ _ _ _ a vs _ hL _ hW _ hI _ hc _
  exact Mine.law_good ⟨by kernel_rfl, by kernel_rfl, by kernel_rfl, by decide +kernel⟩ Y T hmg hg hL hI hW (Int.ofNat_le.mp (Int.not_lt.mp hc)) (fun _ => rfl) (by first | rfl | wrow_post)
