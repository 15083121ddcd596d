import PyProof.Rows.All
import Wide.All
import OpenK.AllK
import Wide.FinOn
import PySem.Challenge.RW_dm0117_12
set_option Elab.async false
set_option linter.unusedVariables false
set_option linter.unusedSimpArgs false
namespace Mine
open PySem PySem.W PyProof.Rows

/-- pure data: what a Python value is, without addresses -/
inductive T where
  | none
  | bool (b : Bool)
  | int (i : Int)
  | str (x : Str)
  | opq (n : Int)
  | list (xs : List T)
  | tuple (xs : List T)

/-- what a law's proof fixes once: the program, the world, what stands for an opaque object, the heap at the law's call, the names of the top -/
structure Bd where
  prog : Program
  w : World
  P : Addr → Obj → Int → Prop
  hb : Heap
  mg : Str → Option Value
  mb : Str → Option Value

noncomputable def NF (o : Obj) : Prop := (∀ es ep, o.data ≠ .dict es ep) ∧ ∀ v, o.data ≠ .cell v
theorem NF.seq {o : Obj} {xs n} (hd : o.data = .seq xs n) : NF o := by
  refine ⟨fun es ep e => ?_, fun v e => ?_⟩
  · rw [hd] at e; cases e
  · rw [hd] at e; cases e

structure Bd.Ok (B : Bd) : Prop where
  g : B.hb.Ns mainGlobals B.mg
  b : B.hb.Ns builtinsNs B.mb
  nolimit : B.hb.NoLimit
  builtins : ∀ x : Str, x ≠ "__name__" → B.mb x = bootBuiltins x
  nf : ∀ a o n, B.P a o n → NF o

mutual
noncomputable def Rep (P : Addr → Obj → Int → Prop) (X : Addr → Prop) (h : Heap) : T → Value → Prop
  | .none, v => v = .none
  | .bool b, v => v = .bool b
  | .int i, v => ∃ t, v = .int i t
  | .str x, v => ∃ t, v = .str x t
  | .opq n, v => ∃ a o, v = .ref a ∧ ¬ X a ∧ h.get? a = some o ∧ P a o n
  | .list xs, v => ∃ a vs, v = .ref a ∧ ¬ X a ∧ h.PlainList a (List.toArray vs) ∧ Reps P X h xs vs
  | .tuple xs, v => ∃ a vs, v = .ref a ∧ ¬ X a ∧ h.IsTuple a (List.toArray vs) ∧ Reps P X h xs vs
noncomputable def Reps (P : Addr → Obj → Int → Prop) (X : Addr → Prop) (h : Heap) : List T → List Value → Prop
  | [], vs => vs = []
  | x :: xs, vs => ∃ v r, vs = v :: r ∧ Rep P X h x v ∧ Reps P X h xs r
end

noncomputable def noX : Addr → Prop := fun _ => False

mutual
theorem Rep.frame {P : Addr → Obj → Int → Prop} {X Y : Addr → Prop} {h h' : Heap} (hnf : ∀ a o n, P a o n → NF o) (hX : ∀ b, Y b → X b ∨ h.get? b = none) (hk : ∀ b o, h.get? b = some o → NF o → ¬ X b → h'.get? b = some o) :
    ∀ (t : T) (v : Value), Rep P X h t v → Rep P Y h' t v
  | .none, _, e => by simpa only [Rep] using e
  | .bool _, _, e => by simpa only [Rep] using e
  | .int _, _, e => by simpa only [Rep] using e
  | .str _, _, e => by simpa only [Rep] using e
  | .opq n, v, e => by
    simp only [Rep] at e ⊢
    obtain ⟨a, o, rfl, hx, ho, hp⟩ := e
    exact ⟨a, o, rfl, (fun hy => (hX _ hy).elim hx fun e => by rw [ho] at e; cases e), hk a o ho (hnf a o n hp) hx, hp⟩
  | .list xs, v, e => by
    simp only [Rep] at e ⊢
    obtain ⟨a, vs, rfl, hx, ⟨n, ho⟩, hr⟩ := e
    exact ⟨a, vs, rfl, (fun hy => (hX _ hy).elim hx fun e => by rw [ho] at e; cases e), ⟨n, hk a _ ho (NF.seq rfl) hx⟩, Reps.frame hnf hX hk xs vs hr⟩
  | .tuple xs, v, e => by
    simp only [Rep] at e ⊢
    obtain ⟨a, vs, rfl, hx, ⟨o, ho, hc, n, hd⟩, hr⟩ := e
    exact ⟨a, vs, rfl, (fun hy => (hX _ hy).elim hx fun e => by rw [ho] at e; cases e), ⟨o, hk a o ho (NF.seq hd) hx, hc, n, hd⟩, Reps.frame hnf hX hk xs vs hr⟩
theorem Reps.frame {P : Addr → Obj → Int → Prop} {X Y : Addr → Prop} {h h' : Heap} (hnf : ∀ a o n, P a o n → NF o) (hX : ∀ b, Y b → X b ∨ h.get? b = none) (hk : ∀ b o, h.get? b = some o → NF o → ¬ X b → h'.get? b = some o) :
    ∀ (ts : List T) (vs : List Value), Reps P X h ts vs → Reps P Y h' ts vs
  | [], _, e => by simpa only [Reps] using e
  | x :: xs, vs, e => by
    simp only [Reps] at e ⊢
    obtain ⟨v, r, rfl, h1, h2⟩ := e
    exact ⟨v, r, rfl, Rep.frame hnf hX hk x v h1, Reps.frame hnf hX hk xs r h2⟩
end

/-- the heap grows -/
noncomputable def Ext (h h' : Heap) : Prop := ∀ b o, h.get? b = some o → h'.get? b = some o
theorem Ext.refl (h : Heap) : Ext h h := fun _ _ e => e
theorem Ext.trans {a b c : Heap} (x : Ext a b) (y : Ext b c) : Ext a c := fun p o e => y p o (x p o e)
theorem Ext.push (h : Heap) (o : Obj) : Ext h (h.push o) := fun _ _ e => Heap.get?_push_of_some _ e

theorem Rep.ext {P : Addr → Obj → Int → Prop} {X : Addr → Prop} {h h' : Heap} {t : T} {v : Value} (hnf : ∀ a o n, P a o n → NF o) (x : Ext h h') (r : Rep P X h t v) : Rep P X h' t v :=
  Rep.frame hnf (fun _ y => .inl y) (fun b o e _ _ => x b o e) t v r
theorem Reps.ext {P : Addr → Obj → Int → Prop} {X : Addr → Prop} {h h' : Heap} {t : List T} {v : List Value} (hnf : ∀ a o n, P a o n → NF o) (x : Ext h h') (r : Reps P X h t v) : Reps P X h' t v :=
  Reps.frame hnf (fun _ y => .inl y) (fun b o e _ _ => x b o e) t v r
theorem Reps.length {P : Addr → Obj → Int → Prop} {X : Addr → Prop} {h : Heap} : ∀ {ts : List T} {vs : List Value}, Reps P X h ts vs → vs.length = ts.length
  | [], vs, e => by simp only [Reps] at e; rw [e]; rfl
  | x :: xs, vs, e => by
    simp only [Reps] at e
    obtain ⟨v, r, rfl, _, h2⟩ := e
    simp [Reps.length h2]
theorem Reps.get {P : Addr → Obj → Int → Prop} {X : Addr → Prop} {h : Heap} : ∀ {ts : List T} {vs : List Value}, Reps P X h ts vs → ∀ {i : Nat} {t : T}, ts[i]? = some t → ∃ v, vs[i]? = some v ∧ Rep P X h t v
  | [], vs, e, i, t, hi => by simp at hi
  | x :: xs, vs, e, i, t, hi => by
    simp only [Reps] at e
    obtain ⟨v, r, rfl, h1, h2⟩ := e
    cases i with
    | zero => simp at hi; subst hi; exact ⟨v, rfl, h1⟩
    | succ i => simpa using Reps.get h2 (by simpa using hi)
theorem Reps.get' {P : Addr → Obj → Int → Prop} {X : Addr → Prop} {h : Heap} : ∀ {ts : List T} {vs : List Value}, Reps P X h ts vs → ∀ {i : Nat} {v : Value}, vs[i]? = some v → ∃ t, ts[i]? = some t ∧ Rep P X h t v
  | [], vs, e, i, t, hi => by simp only [Reps] at e; subst e; simp at hi
  | x :: xs, vs, e, i, t, hi => by
    simp only [Reps] at e
    obtain ⟨v, r, rfl, h1, h2⟩ := e
    cases i with
    | zero => simp at hi; subst hi; exact ⟨x, rfl, h1⟩
    | succ i => simpa using Reps.get' h2 (by simpa using hi)
theorem Reps.of_get {P : Addr → Obj → Int → Prop} {X : Addr → Prop} {h : Heap} : ∀ {ts : List T} {vs : List Value}, vs.length = ts.length → (∀ (i : Nat) (t : T) (v : Value), ts[i]? = some t → vs[i]? = some v → Rep P X h t v) → Reps P X h ts vs
  | [], vs, e, _ => by simp only [Reps]; simpa using e
  | x :: xs, [], e, _ => by simp at e
  | x :: xs, v :: vs, e, hh => by
    simp only [Reps]
    exact ⟨v, vs, rfl, hh 0 x v rfl rfl, Reps.of_get (by simpa using e) fun i t v h1 h2 => hh (i + 1) t v (by simpa using h1) (by simpa using h2)⟩
theorem Reps.append {P : Addr → Obj → Int → Prop} {X : Addr → Prop} {h : Heap} : ∀ {ts us : List T} {vs ws : List Value}, Reps P X h ts vs → Reps P X h us ws → Reps P X h (ts ++ us) (vs ++ ws)
  | [], us, vs, ws, e, f => by simp only [Reps] at e; subst e; exact f
  | x :: xs, us, vs, ws, e, f => by
    simp only [Reps] at e
    obtain ⟨v, r, rfl, h1, h2⟩ := e
    simp only [List.cons_append, Reps]
    exact ⟨v, r ++ ws, rfl, h1, Reps.append h2 f⟩
theorem Reps.one {P : Addr → Obj → Int → Prop} {X : Addr → Prop} {h : Heap} {t : T} {v : Value} (r : Rep P X h t v) : Reps P X h [t] [v] := by
  simp only [Reps]; exact ⟨v, [], rfl, r, rfl⟩
theorem Reps.ints {P : Addr → Obj → Int → Prop} {X : Addr → Prop} {h : Heap} : ∀ {ns : List Int} {vs : List Value}, Reps P X h (ns.map T.int) vs → IntsAre vs ns
  | [], vs, e => by simp only [List.map_nil, Reps] at e; subst e; exact .nil
  | n :: ns, vs, e => by
    simp only [List.map_cons, Reps, Rep] at e
    obtain ⟨v, r, rfl, ⟨t, rfl⟩, h2⟩ := e
    exact .cons n t (Reps.ints h2)
theorem Reps.of_ints {P : Addr → Obj → Int → Prop} {X : Addr → Prop} {h : Heap} : ∀ {ns : List Int} {vs : List Value}, IntsAre vs ns → Reps P X h (ns.map T.int) vs
  | _, _, .nil => by simp only [List.map_nil, Reps]
  | _, _, .cons n t r => by
    simp only [List.map_cons, Reps, Rep]
    exact ⟨_, _, rfl, ⟨t, rfl⟩, Reps.of_ints r⟩

/-- a variable of the frame holds a value -/
noncomputable def VarIs (env : Env) (h : Heap) (x : Str) (v : Value) : Prop :=
  (env.kindOf x = some .local ∧ ∃ m, h.Ns env.locals m ∧ m x = some v) ∨ ((env.kindOf x = some .cell ∨ env.kindOf x = some .free) ∧ ∃ c, env.cells.lookup x = some c ∧ h.IsCell c (some v))
noncomputable def Acc (env : Env) (x : Str) : Prop := env.kindOf x = some .local ∨ env.kindOf x = some .cell ∨ env.kindOf x = some .free

theorem VarIs.ext {env : Env} {h h' : Heap} {x : Str} {v : Value} (e : Ext h h') : VarIs env h x v → VarIs env h' x v
  | .inl ⟨hk, m, hn, hm⟩ => .inl ⟨hk, m, hn.keeps e, hm⟩
  | .inr ⟨hk, c, hc, o, ho, hd⟩ => .inr ⟨hk, c, hc, o, e c o ho, hd⟩

noncomputable def lk : List Str → List (Option T) → Str → Option T
  | n :: ns, o :: os, x => if n = x then o else lk ns os x
  | _, _, _ => .none

structure EnvOk (sc : Scope) (env : Env) : Prop where
  scope : env.scope = sc
  kind : sc.kind = .function
  globals : env.globals = mainGlobals
  builtins : env.builtins = builtinsNs
  cells : ∀ x, (sc.names.lookup x = some .cell ∨ sc.names.lookup x = some .free) → ∃ c, env.cells.lookup x = some c

noncomputable def View (B : Bd) (X : Addr → Prop) (env : Env) (names : List Str) (ρ : List (Option T)) (h : Heap) : Prop :=
  ∀ x t, lk names ρ x = some t → Acc env x → ∃ v, VarIs env h x v ∧ Rep B.P X h t v

/-- what an expression's run may lean on: the base heap stands, the addresses X that no value may lead to are taken, the variables -/
structure Cx (B : Bd) (X : Addr → Prop) (env : Env) (names : List Str) (ρ : List (Option T)) (h : Heap) : Prop where
  hb : Ext B.hb h
  al : ∀ a, X a → ∃ o, h.get? a = some o
  view : View B X env names ρ h

theorem alive_ext {X : Addr → Prop} {h h' : Heap} (al : ∀ a, X a → ∃ o, h.get? a = some o) (e : Ext h h') : ∀ a, X a → ∃ o, h'.get? a = some o := fun a ha => let ⟨o, ho⟩ := al a ha; ⟨o, e a o ho⟩
theorem alive_new {X : Addr → Prop} {h : Heap} (al : ∀ a, X a → ∃ o, h.get? a = some o) {a : Addr} (ha : h.objs.size ≤ a) : ¬ X a := fun hx => by
  obtain ⟨o, ho⟩ := al a hx
  exact absurd (Heap.lt_size ho) (Nat.not_lt.mpr ha)

theorem Cx.ext {B : Bd} {X : Addr → Prop} {env : Env} {names : List Str} {ρ : List (Option T)} {h h' : Heap} (ok : B.Ok) (C : Cx B X env names ρ h) (e : Ext h h') : Cx B X env names ρ h' where
  hb := C.hb.trans e
  al := alive_ext C.al e
  view := fun x t hl ha => let ⟨v, h1, h2⟩ := C.view x t hl ha; ⟨v, h1.ext e, h2.ext ok.nf e⟩

/-- room for k more nested calls -/
structure Room (k : Nat) (A : Around) : Prop where
  handled : A.handled = none
  depth : A.depth + k < recursionLimit
  units : A.units + 10 * k + 10 < cLine

theorem Room.le {k j : Nat} {A : Around} (r : Room k A) (h : j ≤ k) : Room j A := ⟨r.handled, by have := r.depth; omega, by have := r.units; omega⟩

/-- what an expression's run leaves: the heap grown, a value that stands for t -/
noncomputable def Out (B : Bd) (X : Addr → Prop) (s : Shared) (t : T) (v : Value) (s' : Shared) : Prop := (∃ h' tk, s' = { s with heap := h', toks := tk } ∧ Ext s.heap h') ∧ Rep B.P X s'.heap t v

noncomputable abbrev Dn := List (Option T) → Option T
noncomputable abbrev Db := List (Option T) → Option Bool
noncomputable abbrev Dl := List (Option T) → Option (List T)

noncomputable def SoundE (B : Bd) (sc : Scope) (names : List Str) (n : Nat) (e : Expr) (d : Dn) : Prop :=
  ∀ (X : Addr → Prop) (env : Env) (ρ : List (Option T)) (s : Shared) (t : T) (A : Around) (E : Value → Shared → Prop), EnvOk sc env → Room n A → Cx B X env names ρ s.heap → d ρ = some t →
    wpAny (model B.prog B.w) A (eval e env) (Out B X s t) E s

noncomputable def SoundC (B : Bd) (sc : Scope) (names : List Str) (n : Nat) (e : Expr) (d : Db) : Prop :=
  ∀ (X : Addr → Prop) (env : Env) (ρ : List (Option T)) (s : Shared) (t : Bool) (A : Around) (E : Value → Shared → Prop), EnvOk sc env → Room n A → Cx B X env names ρ s.heap → d ρ = some t →
    wpAny (model B.prog B.w) A (isTrue e env (eval e env)) (fun b s' => b = t ∧ ∃ h' tk, s' = { s with heap := h', toks := tk } ∧ Ext s.heap h') E s

end Mine

namespace Mine
open PySem PySem.W PyProof.Rows

section
variable {B : Bd} {sc : Scope} {names : List Str} {n : Nat}

theorem SoundE.use {e : Expr} {d : Dn} (S : SoundE B sc names n e d) (ok : B.Ok) {X : Addr → Prop} {env : Env} {ρ : List (Option T)} {s : Shared} {t : T} {A : Around} {E : Value → Shared → Prop} {Q : Value → Shared → Prop}
    (eo : EnvOk sc env) (rm : Room n A) (C : Cx B X env names ρ s.heap) (hd : d ρ = some t)
    (k : ∀ v h' tk, Ext s.heap h' → Cx B X env names ρ h' → Rep B.P X h' t v → Q v { s with heap := h', toks := tk }) :
    wpAny (model B.prog B.w) A (eval e env) Q E s := by
  refine wpAny_mono (S X env ρ s t A E eo rm C hd) (fun v s' h => ?_) fun _ _ x => x
  obtain ⟨⟨h', tk, rfl, hk⟩, hr⟩ := h
  exact k v h' tk hk (C.ext ok hk) hr

theorem SoundC.use {e : Expr} {d : Db} (S : SoundC B sc names n e d) (ok : B.Ok) {X : Addr → Prop} {env : Env} {ρ : List (Option T)} {s : Shared} {t : Bool} {A : Around} {E : Value → Shared → Prop} {Q : Bool → Shared → Prop}
    (eo : EnvOk sc env) (rm : Room n A) (C : Cx B X env names ρ s.heap) (hd : d ρ = some t)
    (k : ∀ h' tk, Ext s.heap h' → Cx B X env names ρ h' → Q t { s with heap := h', toks := tk }) :
    wpAny (model B.prog B.w) A (isTrue e env (eval e env)) Q E s := by
  refine wpAny_mono (S X env ρ s t A E eo rm C hd) (fun v s' h => ?_) fun _ _ x => x
  obtain ⟨rfl, h', tk, rfl, hk⟩ := h
  exact k h' tk hk (C.ext ok hk)

/-- an end without a new object -/
theorem Out.same {X : Addr → Prop} {s : Shared} {t : T} {v : Value} (r : Rep B.P X s.heap t v) : Out B X s t v s := ⟨⟨s.heap, s.toks, rfl, Ext.refl _⟩, r⟩
theorem Out.tok {X : Addr → Prop} {s : Shared} {t : T} {v : Value} {tk : Nat} (r : Rep B.P X s.heap t v) : Out B X s t v { s with toks := tk } := ⟨⟨s.heap, tk, rfl, Ext.refl _⟩, r⟩
theorem Out.to {X : Addr → Prop} {s : Shared} {t : T} {v : Value} {tk : Nat} {h' : Heap} (x : Ext s.heap h') (r : Rep B.P X h' t v) : Out B X s t v { s with heap := h', toks := tk } := ⟨⟨h', tk, rfl, x⟩, r⟩
theorem Out.from {X : Addr → Prop} {s : Shared} {t : T} {v : Value} {tk : Nat} {h' : Heap} {s' : Shared} (x : Ext s.heap h') (o : Out B X { s with heap := h', toks := tk } t v s') : Out B X s t v s' := by
  obtain ⟨⟨h2, tk2, rfl, e⟩, r⟩ := o
  exact ⟨⟨h2, tk2, rfl, x.trans e⟩, r⟩
/-- a list that the run made: nothing else leads to it -/
noncomputable def OutN (B : Bd) (X : Addr → Prop) (s : Shared) (xs : List T) (v : Value) (s' : Shared) : Prop :=
  (∃ h' tk, s' = { s with heap := h', toks := tk } ∧ Ext s.heap h') ∧ ∃ a vs, v = .ref a ∧ s.heap.get? a = none ∧ s'.heap.PlainList a (List.toArray vs) ∧ Reps B.P X s'.heap xs vs
theorem OutN.out {X : Addr → Prop} {s s' : Shared} {xs : List T} {v : Value} (al : ∀ a, X a → ∃ o, s.heap.get? a = some o) (o : OutN B X s xs v s') : Out B X s (.list xs) v s' := by
  obtain ⟨h, a, vs, rfl, hn, hp, hr⟩ := o
  refine ⟨h, ?_⟩
  simp only [Rep]
  exact ⟨a, vs, rfl, (fun hx => by obtain ⟨o, ho⟩ := al a hx; rw [hn] at ho; cases ho), hp, hr⟩
theorem OutN.from {X : Addr → Prop} {s : Shared} {xs : List T} {v : Value} {tk : Nat} {h' : Heap} {s' : Shared} (x : Ext s.heap h') (o : OutN B X { s with heap := h', toks := tk } xs v s') : OutN B X s xs v s' := by
  obtain ⟨⟨h2, tk2, rfl, e⟩, a, vs, rfl, hn, hp, hr⟩ := o
  refine ⟨⟨h2, tk2, rfl, x.trans e⟩, a, vs, rfl, ?_, hp, hr⟩
  cases q : s.heap.get? a with
  | none => rfl
  | some o => have := x a o q; rw [hn] at this; cases this
theorem get?_size (h : Heap) {a : Addr} (ha : h.objs.size ≤ a) : h.get? a = none := by
  cases q : h.get? a with
  | none => rfl
  | some o => exact absurd (Heap.lt_size q) (Nat.not_lt.mpr ha)
theorem OutN.new (ok : B.Ok) {X : Addr → Prop} {s : Shared} {xs : List T} {vs : List Value} (r : Reps B.P X s.heap xs vs) : OutN B X s xs (.ref s.heap.objs.size) { s with heap := s.heap.push { cls := .type "list", data := .seq vs.toArray } } :=
  ⟨⟨_, s.toks, rfl, Ext.push _ _⟩, _, vs, rfl, get?_size _ (Nat.le_refl _), ⟨0, Heap.get?_push_size _ rfl⟩, r.ext ok.nf (Ext.push _ _)⟩
noncomputable def SoundF (B : Bd) (sc : Scope) (names : List Str) (n : Nat) (e : Expr) (d : Dn) : Prop :=
  ∀ (X : Addr → Prop) (env : Env) (ρ : List (Option T)) (s : Shared) (xs : List T) (A : Around) (E : Value → Shared → Prop), EnvOk sc env → Room n A → Cx B X env names ρ s.heap → d ρ = some (.list xs) →
    wpAny (model B.prog B.w) A (eval e env) (OutN B X s xs) E s

theorem rep_int {P : Addr → Obj → Int → Prop} {X : Addr → Prop} {h : Heap} (i : Int) (tk : Tok) : Rep P X h (.int i) (.int i tk) := by simp only [Rep]; exact ⟨tk, rfl⟩
theorem rep_bool {P : Addr → Obj → Int → Prop} {X : Addr → Prop} {h : Heap} (b : Bool) : Rep P X h (.bool b) (.bool b) := by simp only [Rep]
theorem rep_none {P : Addr → Obj → Int → Prop} {X : Addr → Prop} {h : Heap} : Rep P X h .none .none := by simp only [Rep]
theorem rep_newList {P : Addr → Obj → Int → Prop} {X : Addr → Prop} {h : Heap} {o : Obj} {xs : List T} {vs : List Value} (hn : ∀ a o n, P a o n → NF o) (ho : o = { cls := .type "list", data := .seq vs.toArray }) (al : ∀ a, X a → ∃ o, h.get? a = some o) (r : Reps P X h xs vs) :
    Rep P X (h.push o) (.list xs) (.ref h.objs.size) := by
  subst ho
  simp only [Rep]
  exact ⟨_, vs, rfl, alive_new al (Nat.le_refl _), ⟨0, Heap.get?_push_size _ rfl⟩, r.ext hn (Ext.push _ _)⟩
theorem rep_newTuple {P : Addr → Obj → Int → Prop} {X : Addr → Prop} {h : Heap} {o : Obj} {xs : List T} {vs : List Value} (hn : ∀ a o n, P a o n → NF o) (ho : o = { cls := .type "tuple", data := .seq vs.toArray }) (al : ∀ a, X a → ∃ o, h.get? a = some o) (r : Reps P X h xs vs) :
    Rep P X (h.push o) (.tuple xs) (.ref h.objs.size) := by
  subst ho
  simp only [Rep]
  exact ⟨_, vs, rfl, alive_new al (Nat.le_refl _), ⟨_, Heap.get?_push_size _ rfl, rfl, 0, rfl⟩, r.ext hn (Ext.push _ _)⟩

/-! ### constants, names -/
noncomputable def kT (t : T) : Dn := fun _ => some t
theorem s_int (i : Int) (k : Nat) (pos : Pos) : SoundE B sc names n (.Constant (.int i) k pos) (kT (.int i)) := by
  intro X env ρ s t A E _ _ _ hd
  cases hd
  exact wpAny_Constant_int (Out.tok (rep_int i _))
theorem s_bool (b : Bool) (k : Nat) (pos : Pos) : SoundE B sc names n (.Constant (.bool b) k pos) (kT (.bool b)) := by
  intro X env ρ s t A E _ _ _ hd
  cases hd
  exact Constant_bool (Out.same (rep_bool b))
theorem s_none (k : Nat) (pos : Pos) : SoundE B sc names n (.Constant .none k pos) (kT .none) := by
  intro X env ρ s t A E _ _ _ hd
  cases hd
  exact Constant_none (Out.same rep_none)

noncomputable def nm (i : Nat) : Dn := fun ρ => (ρ[i]?).join
theorem lk_eq : ∀ {ns : List Str} {x : Str} {i : Nat}, ns.findIdx? (fun y => y == x) = some i → ∀ ρ : List (Option T), lk ns ρ x = (ρ[i]?).join
  | [], x, i, h, ρ => by simp at h
  | m :: ns, x, i, h, [] => by simp [lk]
  | m :: ns, x, i, h, o :: ρ => by
    rw [List.findIdx?_cons] at h
    by_cases e : m = x
    · subst e
      simp at h
      subst h
      simp [lk]
    · have hb : (m == x) = false := by simpa using e
      rw [hb] at h
      simp only [Bool.false_eq_true, if_false] at h
      cases hf : ns.findIdx? (fun y => y == x) with
      | none => rw [hf] at h; simp at h
      | some j =>
        rw [hf] at h
        simp at h
        subst h
        simp only [lk, if_neg e, List.getElem?_cons_succ]
        exact lk_eq hf ρ

noncomputable def accB (sc : Scope) (x : Str) : Bool := match sc.names.lookup x with | some .local => true | some .cell => true | some .free => true | _ => false
theorem acc_of {env : Env} {x : Str} (eo : EnvOk sc env) (h : accB sc x = true) : Acc env x := by
  unfold accB at h
  unfold Acc Env.kindOf
  rw [eo.scope]
  split at h
  · exact .inl (by assumption)
  · exact .inr (.inl (by assumption))
  · exact .inr (.inr (by assumption))
  · cases h

theorem VarIs.load {env : Env} {s : Shared} {x : Str} {v : Value} {A : Around} {M : Model} {E : Value → Shared → Prop} {Q : Value → Shared → Prop} (hk : env.scope.kind = .function) (hcd : (x == ("__classdict__" : Str)) = false) (hv : VarIs env s.heap x v) (h : Q v s) : wpAny M A (loadName env x) Q E s := by
  rcases hv with ⟨hl, m, hn, hm⟩ | ⟨hl | hl, c, hc, hcell⟩
  · exact wpAny_loadName_local hk hl hn hm h
  · exact wpAny_loadName_cell hk hl hc hcell h
  · exact wpAny_loadName_free hk hl hc hcell h hcd

theorem s_name {x : Str} {i : Nat} (pos : Pos) (hi : names.findIdx? (fun y => y == x) = some i := by kernel_rfl) (ha : accB sc x = true := by kernel_rfl) (hd : (x == ("__debug__" : Str)) = false := by kernel_rfl) (hcd : (x == ("__classdict__" : Str)) = false := by kernel_rfl) :
    SoundE B sc names n (.Name x pos) (nm i) := by
  intro X env ρ s t A E eo rm C hd'
  have hl : lk names ρ x = some t := (lk_eq hi ρ).trans hd'
  obtain ⟨v, h1, h2⟩ := C.view x t hl (acc_of eo ha)
  exact wpAny_Name (h1.load (by rw [eo.scope]; exact eo.kind) hcd (Out.same h2)) hd

/-! ### operators -/
noncomputable def OpSound (B : Bd) (op : Operator) (f : T → T → Option T) : Prop :=
  ∀ (X : Addr → Prop) (A : Around) (s : Shared) (x y z : T) (u v : Value) (E : Value → Shared → Prop), Room 0 A → Ext B.hb s.heap → (∀ a, X a → ∃ o, s.heap.get? a = some o) → Rep B.P X s.heap x u → Rep B.P X s.heap y v → f x y = some z → wpAny (model B.prog B.w) A (binaryOp op u v) (Out B X s z) E s
noncomputable def CmpSound (B : Bd) (op : CmpOp) (f : T → T → Option Bool) : Prop :=
  ∀ (X : Addr → Prop) (A : Around) (s : Shared) (x y : T) (z : Bool) (u v : Value) (E : Value → Shared → Prop), Room 0 A → Ext B.hb s.heap → Rep B.P X s.heap x u → Rep B.P X s.heap y v → f x y = some z → wpAny (model B.prog B.w) A (compareOp op u v) (fun r s' => r = .bool z ∧ ∃ h' tk, s' = { s with heap := h', toks := tk } ∧ Ext s.heap h') E s

noncomputable def bin (f : T → T → Option T) (a b : Dn) : Dn := fun ρ => (a ρ).bind fun x => (b ρ).bind fun y => f x y
noncomputable def cmp (f : T → T → Option Bool) (a b : Dn) : Db := fun ρ => (a ρ).bind fun x => (b ρ).bind fun y => f x y
noncomputable def ofB (a : Db) : Dn := fun ρ => (a ρ).map T.bool

theorem s_bin (ok : B.Ok) {l r : Expr} {op : Operator} {pos : Pos} {a b : Dn} {f : T → T → Option T} (O : OpSound B op f) (hl : SoundE B sc names n l a) (hr : SoundE B sc names n r b) :
    SoundE B sc names n (.BinOp l op r pos) (bin f a b) := by
  intro X env ρ s t A E eo rm C hd
  unfold bin at hd
  obtain ⟨x, hxv, hd⟩ := Option.bind_eq_some_iff.mp hd
  obtain ⟨y, hyv, hd⟩ := Option.bind_eq_some_iff.mp hd
  refine wpAny_BinOp (hl.use ok eo rm C hxv fun u h1 tk1 e1 C1 r1 => hr.use ok eo rm C1 hyv fun v h2 tk2 e2 C2 r2 => ?_)
  refine wpAny_mono (O X A _ x y t u v E (rm.le (Nat.zero_le _)) C2.hb C2.al (r1.ext ok.nf e2) r2 hd) (fun w s' h => ?_) fun _ _ z => z
  exact Out.from (e1.trans e2) h

theorem c_cmp (ok : B.Ok) {l r : Expr} {op : CmpOp} {pos : Pos} {a b : Dn} {f : T → T → Option Bool} (O : CmpSound B op f) (hl : SoundE B sc names n l a) (hr : SoundE B sc names n r b)
    (hm : behindInMarks op r = false := by with_unfolding_all rfl) :
    SoundC B sc names n (.Compare l [op] [r] pos) (cmp f a b) := by
  intro X env ρ s c A E eo rm C hd
  unfold cmp at hd
  obtain ⟨x, hxv, hd⟩ := Option.bind_eq_some_iff.mp hd
  obtain ⟨y, hyv, hd⟩ := Option.bind_eq_some_iff.mp hd
  refine wpAny_isTrue_Compare1 (hl.use ok eo rm C hxv fun u h1 tk1 e1 C1 r1 => hr.use ok eo rm C1 hyv fun v h2 tk2 e2 C2 r2 => ?_) hm
  refine wpAny_mono (O X A _ x y c u v _ (rm.le (Nat.zero_le _)) C2.hb (r1.ext ok.nf e2) r2 hd) (fun w s' h => ?_) fun _ _ z => z
  obtain ⟨rfl, h', tk, rfl, e3⟩ := h
  exact wpAny_truthy_bool ⟨rfl, h', tk, rfl, (e1.trans e2).trans e3⟩

/-! ### truth -/
noncomputable def cAnd (a b : Db) : Db := fun ρ => (a ρ).bind fun x => if x then b ρ else some false
noncomputable def cOr (a b : Db) : Db := fun ρ => (a ρ).bind fun x => if x then some true else b ρ
theorem c_and2 (ok : B.Ok) {x y : Expr} {pos : Pos} {a b : Db} (h : SoundC B sc names n x a) (g : SoundC B sc names n y b) : SoundC B sc names n (.BoolOp .And [x, y] pos) (cAnd a b) := by
  intro X env ρ s c A E eo rm C hd
  unfold cAnd at hd
  obtain ⟨x, hxv, hd⟩ := Option.bind_eq_some_iff.mp hd
  refine isTrue_and (h.use ok eo rm C hxv fun h1 tk1 e1 C1 => ?_)
  cases x with
  | false => simp only [Bool.false_eq_true, if_false] at hd ⊢; cases hd; exact ⟨rfl, h1, tk1, rfl, e1⟩
  | true =>
    simp only [if_true] at hd ⊢
    refine isTrue_and (g.use ok eo rm C1 hd fun h2 tk2 e2 _ => ?_)
    cases c with
    | false => simp only [Bool.false_eq_true, if_false]; exact ⟨trivial, h2, tk2, rfl, e1.trans e2⟩
    | true => simp only [if_true]; exact isTrue_and_nil ⟨rfl, h2, tk2, rfl, e1.trans e2⟩
theorem c_or2 (ok : B.Ok) {x y : Expr} {pos : Pos} {a b : Db} (h : SoundC B sc names n x a) (g : SoundC B sc names n y b) : SoundC B sc names n (.BoolOp .Or [x, y] pos) (cOr a b) := by
  intro X env ρ s c A E eo rm C hd
  unfold cOr at hd
  obtain ⟨x, hxv, hd⟩ := Option.bind_eq_some_iff.mp hd
  refine isTrue_or (h.use ok eo rm C hxv fun h1 tk1 e1 C1 => ?_)
  cases x with
  | true => simp only [if_true] at hd ⊢; cases hd; exact ⟨rfl, h1, tk1, rfl, e1⟩
  | false =>
    simp only [Bool.false_eq_true, if_false] at hd ⊢
    refine isTrue_or (g.use ok eo rm C1 hd fun h2 tk2 e2 _ => ?_)
    cases c with
    | true => simp only [if_true]; exact ⟨trivial, h2, tk2, rfl, e1.trans e2⟩
    | false => simp only [Bool.false_eq_true, if_false]; exact isTrue_or_nil ⟨rfl, h2, tk2, rfl, e1.trans e2⟩

/-- the truth of a bool value, by a plain expression (a name, a call, a subscript) -/
noncomputable def cVal (a : Dn) : Db := fun ρ => (a ρ).bind fun | .bool b => some b | _ => none
theorem c_val (ok : B.Ok) {e : Expr} {a : Dn} (h : SoundE B sc names n e a)
    (he : ∀ env : Env, isTrue e env (eval e env) = (do let v ← eval e env; standAt e.pos; holding [v] (truthy v)) := by intro _; rfl) : SoundC B sc names n e (cVal a) := by
  intro X env ρ s c A E eo rm C hd
  unfold cVal at hd
  obtain ⟨x, hxv, hd⟩ := Option.bind_eq_some_iff.mp hd
  cases x <;> simp only at hd <;> cases hd
  refine isTrue_plain (h.use ok eo rm C hxv fun v h1 tk1 e1 C1 r => ?_) (he env)
  simp only [Rep] at r
  subst r
  exact wpAny_truthy_bool ⟨rfl, h1, tk1, rfl, e1⟩

/-! values of and, or, not -/
noncomputable def eNot (a : Dn) : Dn := fun ρ => (a ρ).bind fun | .bool b => some (.bool (!b)) | _ => none
theorem s_not (ok : B.Ok) {x : Expr} {pos : Pos} {a : Dn} (h : SoundE B sc names n x a) : SoundE B sc names n (.UnaryOp .Not x pos) (eNot a) := by
  intro X env ρ s t A E eo rm C hd
  unfold eNot at hd
  obtain ⟨x, hxv, hd⟩ := Option.bind_eq_some_iff.mp hd
  cases x <;> simp only at hd <;> cases hd
  refine UnaryOp_ (h.use ok eo rm C hxv fun v h1 tk1 e1 C1 r => ?_)
  simp only [Rep] at r
  subst r
  exact not_of (wpAny_truthy_bool (Out.to e1 (rep_bool _)))
noncomputable def eNeg (a : Dn) : Dn := fun ρ => (a ρ).bind fun | .int b => some (.int (-b)) | _ => none
theorem s_neg (ok : B.Ok) {x : Expr} {pos : Pos} {a : Dn} (h : SoundE B sc names n x a) : SoundE B sc names n (.UnaryOp .USub x pos) (eNeg a) := by
  intro X env ρ s t A E eo rm C hd
  unfold eNeg at hd
  obtain ⟨x, hxv, hd⟩ := Option.bind_eq_some_iff.mp hd
  cases x <;> simp only at hd <;> cases hd
  refine UnaryOp_ (h.use ok eo rm C hxv fun v h1 tk1 e1 C1 r => ?_)
  simp only [Rep] at r
  obtain ⟨tk, rfl⟩ := r
  exact neg_int (Out.to e1 (rep_int _ _))
noncomputable def eAnd (a b : Dn) : Dn := fun ρ => (a ρ).bind fun | .bool true => b ρ | .bool false => some (.bool false) | _ => none
theorem s_and2 (ok : B.Ok) {x y : Expr} {pos : Pos} {a b : Dn} (h : SoundE B sc names n x a) (g : SoundE B sc names n y b) : SoundE B sc names n (.BoolOp .And [x, y] pos) (eAnd a b) := by
  intro X env ρ s t A E eo rm C hd
  unfold eAnd at hd
  obtain ⟨x, hxv, hd⟩ := Option.bind_eq_some_iff.mp hd
  match x, hxv, hd with
  | .bool c, hxv, hd =>
    refine BoolOp_and (h.use ok eo rm C hxv fun v h1 tk1 e1 C1 r => ?_)
    simp only [Rep] at r
    subst r
    refine wpAny_truthy_bool ?_
    cases c with
    | false => simp only [Bool.false_eq_true, if_false] at hd ⊢; cases hd; exact Out.to e1 (rep_bool _)
    | true =>
      simp only [if_true] at hd ⊢
      exact BoolOp_one (g.use ok eo rm C1 hd fun v h2 tk2 e2 _ r => Out.to (e1.trans e2) r)
noncomputable def eIf (c : Db) (a b : Dn) : Dn := fun ρ => (c ρ).bind fun x => if x then a ρ else b ρ
theorem s_ifexp (ok : B.Ok) {c x y : Expr} {pos : Pos} {p : Db} {a b : Dn} (hc : SoundC B sc names n c p) (h : SoundE B sc names n x a) (g : SoundE B sc names n y b) :
    SoundE B sc names n (.IfExp c x y pos) (eIf p a b) := by
  intro X env ρ s t A E eo rm C hd
  unfold eIf at hd
  obtain ⟨k, hk, hd⟩ := Option.bind_eq_some_iff.mp hd
  refine IfExp_ (hc.use ok eo rm C hk fun h1 tk1 e1 C1 => ?_)
  cases k with
  | true => simp only [if_true] at hd ⊢; exact h.use ok eo rm C1 hd fun v h2 tk2 e2 _ r => Out.to (e1.trans e2) r
  | false => simp only [Bool.false_eq_true, if_false] at hd ⊢; exact g.use ok eo rm C1 hd fun v h2 tk2 e2 _ r => Out.to (e1.trans e2) r

/-! ### several expressions -/
noncomputable def SoundL (B : Bd) (sc : Scope) (names : List Str) (n : Nat) (es : List Expr) (d : Dl) : Prop :=
  ∀ (X : Addr → Prop) (env : Env) (ρ : List (Option T)) (s : Shared) (ts : List T) (pos : Pos) (A : Around) (E : Value → Shared → Prop), EnvOk sc env → Room n A → Cx B X env names ρ s.heap → d ρ = some ts →
    wpAny (model B.prog B.w) A (spliced (backTo pos (starEach es env))) (fun vs s' => (∃ h' tk, s' = { s with heap := h', toks := tk } ∧ Ext s.heap h') ∧ Reps B.P X s'.heap ts vs) E s
noncomputable def lNil : Dl := fun _ => some []
noncomputable def lCons (a : Dn) (b : Dl) : Dl := fun ρ => (a ρ).bind fun x => (b ρ).map fun y => x :: y
theorem l_nil : SoundL B sc names n [] lNil := by
  intro X env ρ s ts pos A E eo rm C hd
  cases hd
  exact spliced_none ⟨⟨s.heap, s.toks, rfl, Ext.refl _⟩, by simp only [Reps]⟩
theorem l_cons (ok : B.Ok) {e : Expr} {es : List Expr} {a : Dn} {b : Dl} (h : SoundE B sc names n e a) (g : SoundL B sc names n es b)
    (he : ∀ env : Env, starEach (e :: es) env = (false, eval e env) :: starEach es env := by intro _; rfl) : SoundL B sc names n (e :: es) (lCons a b) := by
  intro X env ρ s ts pos A E eo rm C hd
  unfold lCons at hd
  obtain ⟨x, hxv, hd⟩ := Option.bind_eq_some_iff.mp hd
  obtain ⟨y, hyv, rfl⟩ := Option.map_eq_some_iff.mp hd
  refine spliced_more (h.use ok eo rm C hxv fun v h1 tk1 e1 C1 r => ?_) (he env)
  refine wpAny_mono (g X env ρ _ y pos A E eo rm C1 hyv) (fun vs s' q => ?_) fun _ _ z => z
  obtain ⟨⟨h2, tk2, rfl, e2⟩, r2⟩ := q
  refine ⟨⟨h2, tk2, rfl, e1.trans e2⟩, ?_⟩
  simp only [Reps]
  exact ⟨v, vs, rfl, r.ext ok.nf e2, r2⟩

noncomputable def eList (a : Dl) : Dn := fun ρ => (a ρ).bind fun xs => if xs.length ≤ 1000 then some (.list xs) else none
noncomputable def eTuple (a : Dl) : Dn := fun ρ => (a ρ).bind fun xs => if xs.length ≤ 1000 then some (.tuple xs) else none
theorem wp_newList {M : Model} {A : Around} {E : Value → Shared → Prop} {s : Shared} {vs : List Value} {Q : Value → Shared → Prop} (hsz : vs.length ≤ 1000) (h : Q (.ref s.heap.objs.size) { s with heap := s.heap.push { cls := .type "list", data := .seq vs.toArray } }) :
    wpAny M A (newList vs) Q E s := wpAny_newObj_type h (by show vs.toArray.size ≤ sizeLine; rw [List.size_toArray]; exact Nat.le_trans hsz (by decide))
theorem wp_newTuple {M : Model} {A : Around} {E : Value → Shared → Prop} {s : Shared} {vs : List Value} {Q : Value → Shared → Prop} (hsz : vs.length ≤ 1000) (h : Q (.ref s.heap.objs.size) { s with heap := s.heap.push { cls := .type "tuple", data := .seq vs.toArray } }) :
    wpAny M A (newTuple vs) Q E s := wpAny_newObj_type h (by show vs.toArray.size ≤ sizeLine; rw [List.size_toArray]; exact Nat.le_trans hsz (by decide))
theorem s_list (ok : B.Ok) {es : List Expr} {pos : Pos} {a : Dl} (h : SoundL B sc names n es a) : SoundE B sc names n (.List es pos) (eList a) := by
  intro X env ρ s t A E eo rm C hd
  unfold eList at hd
  obtain ⟨xs, hxv, hd⟩ := Option.bind_eq_some_iff.mp hd
  split at hd
  · rename_i hlen
    cases hd
    refine List_ (wpAny_mono (h X env ρ s xs pos A E eo rm C hxv) (fun vs s' q => ?_) fun _ _ z => z)
    obtain ⟨⟨h2, tk2, rfl, e2⟩, r2⟩ := q
    exact wp_newList (by rw [r2.length]; exact hlen) (Out.to (e2.trans (Ext.push _ _)) (rep_newList ok.nf rfl (alive_ext C.al e2) r2))
  · cases hd
theorem s_tuple (ok : B.Ok) {es : List Expr} {k : Nat} {pos : Pos} {a : Dl} (h : SoundL B sc names n es a) : SoundE B sc names n (.Tuple es k pos) (eTuple a) := by
  intro X env ρ s t A E eo rm C hd
  unfold eTuple at hd
  obtain ⟨xs, hxv, hd⟩ := Option.bind_eq_some_iff.mp hd
  split at hd
  · rename_i hlen
    cases hd
    refine Tuple_ (wpAny_mono (h X env ρ s xs pos A E eo rm C hxv) (fun vs s' q => ?_) fun _ _ z => z)
    obtain ⟨⟨h2, tk2, rfl, e2⟩, r2⟩ := q
    exact wp_newTuple (by rw [r2.length]; exact hlen) (Out.to (e2.trans (Ext.push _ _)) (rep_newTuple ok.nf rfl (alive_ext C.al e2) r2))
  · cases hd
end
end Mine

namespace Mine
open PySem PySem.W PyProof.Rows
open PySem.SeqAt

noncomputable def small (a : Int) : Bool := decide (a.natAbs < 9223372036854775808)
noncomputable def fAdd : T → T → Option T
  | .int a, .int b => some (.int (a + b))
  | .list xs, .list ys => if xs.length + ys.length ≤ 1000 then some (.list (xs ++ ys)) else none
  | _, _ => none
noncomputable def fSub : T → T → Option T
  | .int a, .int b => some (.int (a - b))
  | _, _ => none
noncomputable def fMul : T → T → Option T
  | .int a, .int b => if small a || small b then some (.int (a * b)) else none
  | .list [x], .int k => if k ≤ 1000 ∧ -1000 ≤ k then some (.list (List.replicate k.toNat x)) else none
  | _, _ => none
noncomputable def fMod : T → T → Option T
  | .int a, .int b => if b = 0 then none else some (.int (a.fmod b))
  | _, _ => none
section
variable {B : Bd} {sc : Scope} {names : List Str} {n : Nat}
theorem add_list (ok : B.Ok) {X : Addr → Prop} {A : Around} {s : Shared} {xs ys : List T} {u v : Value} {E : Value → Shared → Prop} (rx : Rep B.P X s.heap (.list xs) u) (ry : Rep B.P X s.heap (.list ys) v) (hlen : xs.length + ys.length ≤ 1000) :
    wpAny (model B.prog B.w) A (binaryOp .Add u v) (OutN B X s (xs ++ ys)) E s := by
  simp only [Rep] at rx ry
  obtain ⟨l, vs, rfl, _, hl, rv⟩ := rx
  obtain ⟨b, ws, rfl, _, hb, rw'⟩ := ry
  obtain ⟨⟨cls, dd, data, sl⟩, ho, hc, n, hd⟩ := id hl.isList
  obtain ⟨⟨cls2, dd2, data2, sl2⟩, ho2, hc2, n2, hd2⟩ := id hb.isList
  simp only at hc hd hc2 hd2
  subst hc hd hc2 hd2
  have e : vs.toArray ++ ws.toArray = (vs ++ ws).toArray := by simp
  have l1 := rv.length
  have l2 := rw'.length
  refine concat_meets ⟨_, ho, rfl⟩ ⟨_, ho2, rfl⟩ noFill_list_add seq_list_add PySem.F.slot_list_add PySem.F.entry_list_add (PySem.F.args_list_add_2 _ _)
    (list_addW l b vs.toArray ws.toArray n n2 dd dd2 sl sl2 (by rw [List.size_toArray, List.size_toArray, l1, l2]; exact Nat.le_trans hlen (by decide))) ⟨ho, ho2, ?_⟩
  rw [e]
  exact OutN.new ok (rv.append rw')
theorem op_add (ok : B.Ok) : OpSound B .Add fAdd := by
  intro X A s x y z u v E rm hb al rx ry hf
  match x, y, hf, rx, ry with
  | .int a, .int b, hf, rx, ry =>
    simp only [fAdd] at hf; cases hf
    simp only [Rep] at rx ry
    obtain ⟨t, rfl⟩ := rx
    obtain ⟨t', rfl⟩ := ry
    exact add_int (Out.tok (rep_int _ _))
  | .list xs, .list ys, hf, rx, ry =>
    simp only [fAdd] at hf
    split at hf
    · rename_i hlen
      cases hf
      exact wpAny_mono (add_list ok rx ry hlen) (fun _ _ o => o.out al) fun _ _ e => e
    · cases hf
theorem reps_replicate {P : Addr → Obj → Int → Prop} {X : Addr → Prop} {h : Heap} {t : T} {v : Value} (r : Rep P X h t v) : ∀ k, Reps P X h (List.replicate k t) (List.replicate k v)
  | 0 => by simp only [List.replicate_zero, Reps]
  | k + 1 => by simp only [List.replicate_succ, Reps]; exact ⟨v, _, rfl, r, reps_replicate r k⟩
theorem flat_single (v : Value) (k : Nat) : (List.replicate k [v]).flatten = List.replicate k v := by
  induction k with
  | zero => rfl
  | succ k ih => rw [List.replicate_succ, List.flatten_cons, ih, List.replicate_succ]; rfl
theorem mul_list1 (ok : B.Ok) {X : Addr → Prop} {A : Around} {s : Shared} {x : T} {k : Int} {u v : Value} {E : Value → Shared → Prop} (rx : Rep B.P X s.heap (.list [x]) u) (ry : Rep B.P X s.heap (.int k) v) (hk : k ≤ 1000 ∧ -1000 ≤ k) :
    wpAny (model B.prog B.w) A (binaryOp .Mult u v) (OutN B X s (List.replicate k.toNat x)) E s := by
  simp only [Rep] at rx ry
  obtain ⟨l, vs, rfl, _, hl, rv⟩ := rx
  obtain ⟨t', rfl⟩ := ry
  simp only [Reps] at rv
  obtain ⟨v0, r0, rfl, rv0, rfl⟩ := rv
  obtain ⟨⟨cls, dd, data, sl⟩, ho, hc, n, hd⟩ := id hl.isList
  simp only at hc hd
  subst hc hd
  refine wpAny_binaryOp_repeat_ref (T := "list") (U := "int") (by decide) ⟨_, ho, rfl⟩ (fun s' => typeIs_int s' k t') noFill_list_mul F.fills_int_mul F.slot_int_rmul repeat_list F.slot_int_index.lookup
    (call_meets F.slot_int_rmul (typeIs_int s k t') F.entry_int_rmul (F.args_int_rmul_2 _ _) (lm_int_rmul_list_any k t' l [v0].toArray n dd sl)
      ⟨ho, rfl, ⟨_, ho, rfl⟩, call_meets F.slot_list_mul ⟨_, ho, rfl⟩ F.entry_list_mul (F.args_list_mul_2 _ _)
        (lm_list_mul_any l [v0].toArray n dd sl k t' (by simp [Builtin.List.listFitsIndex]; omega) (by simp; omega) (by simp [Builtin.List.listTooLong, sizeLine]; omega))
        ⟨ho, ?_⟩⟩)
  rw [listMul_foldl_if, flat_single]
  exact OutN.new ok (reps_replicate rv0 _)
theorem f_mul (ok : B.Ok) {l r : Expr} {pos : Pos} {a b : Dn} (hl : SoundE B sc names n l a) (hr : SoundE B sc names n r b) : SoundF B sc names n (.BinOp l .Mult r pos) (bin fMul a b) := by
  intro X env ρ s t A E eo rm C hd
  unfold bin at hd
  obtain ⟨x, hxv, hd⟩ := Option.bind_eq_some_iff.mp hd
  obtain ⟨y, hyv, hd⟩ := Option.bind_eq_some_iff.mp hd
  match x, y, hd, hxv, hyv with
  | .list [w], .int k, hd, hxv, hyv =>
    simp only [fMul] at hd
    split at hd
    · rename_i hk
      cases hd
      refine wpAny_BinOp (hl.use ok eo rm C hxv fun u h1 tk1 e1 C1 r1 => hr.use ok eo rm C1 hyv fun v h2 tk2 e2 C2 r2 => ?_)
      exact wpAny_mono (mul_list1 ok (r1.ext ok.nf e2) r2 hk) (fun _ _ o => OutN.from (e1.trans e2) o) fun _ _ e => e
    · cases hd
  | .int _, .int _, hd, _, _ => simp only [fMul] at hd; split at hd <;> cases hd
theorem op_mod : OpSound B .Mod fMod := by
  intro X A s x y z u v E rm hb al rx ry hf
  match x, y, hf, rx, ry with
  | .int a, .int b, hf, rx, ry =>
    simp only [fMod] at hf
    split at hf
    · cases hf
    · rename_i h0
      cases hf
      simp only [Rep] at rx ry
      obtain ⟨t, rfl⟩ := rx
      obtain ⟨t', rfl⟩ := ry
      exact mod_int' h0 (Out.tok (rep_int _ _))
/-! ### comparisons -/
noncomputable def sEq : T → T → Option Bool
  | .int a, .int b => some (a == b)
  | .bool a, .bool b => some (a == b)
  | .str a, .str b => some (a == b)
  | _, _ => none
noncomputable def lEq : List T → List T → Option Bool
  | [], [] => some true
  | x :: xs, y :: ys => (sEq x y).bind fun b => (lEq xs ys).map fun c => b && c
  | _, _ => some false
noncomputable def fEq : T → T → Option Bool
  | .list xs, .list ys => if xs.length = ys.length then lEq xs ys else some false
  | .tuple xs, .tuple ys => if xs.length = ys.length then lEq xs ys else none
  | x, y => sEq x y
noncomputable def fNe (x y : T) : Option Bool := (fEq x y).map not
noncomputable def fLt : T → T → Option Bool
  | .int a, .int b => some (decide (a < b))
  | .str a, .str b => some (decide (a.cps.toList < b.cps.toList))
  | _, _ => none
noncomputable def fGt : T → T → Option Bool
  | .int a, .int b => some (decide (b < a))
  | .str a, .str b => some (decide (b.cps.toList < a.cps.toList))
  | _, _ => none
noncomputable def fLe : T → T → Option Bool
  | .int a, .int b => some (decide (a ≤ b))
  | .str a, .str b => some (!decide (b.cps.toList < a.cps.toList))
  | _, _ => none
theorem sEq_left {x y : T} {b : Bool} (h : sEq x y = some b) : (∃ i j, x = .int i ∧ y = .int j ∧ b = (i == j)) ∨ (∃ i j, x = .bool i ∧ y = .bool j ∧ b = (i == j)) ∨ (∃ i j, x = .str i ∧ y = .str j ∧ b = (i == j)) := by
  match x, y, h with
  | .int a, .int b, h => simp only [sEq] at h; cases h; exact .inl ⟨_, _, rfl, rfl, rfl⟩
  | .bool a, .bool b, h => simp only [sEq] at h; cases h; exact .inr (.inl ⟨_, _, rfl, rfl, rfl⟩)
  | .str a, .str b, h => simp only [sEq] at h; cases h; exact .inr (.inr ⟨_, _, rfl, rfl, rfl⟩)

theorem eqAt_sc {P : Addr → Obj → Int → Prop} {X : Addr → Prop} {A : Around} {s : Shared} {x y : T} {u v : Value} {b : Bool} (rx : Rep P X s.heap x u) (ry : Rep P X s.heap y v) (h : sEq x y = some b) : EqAt A s u v b := by
  rcases sEq_left h with ⟨i, j, rfl, rfl, rfl⟩ | ⟨i, j, rfl, rfl, rfl⟩ | ⟨i, j, rfl, rfl, rfl⟩ <;> simp only [Rep] at rx ry
  · obtain ⟨t, rfl⟩ := rx
    obtain ⟨t', rfl⟩ := ry
    exact EqAt.int_int _ _ _ _
  · subst rx ry
    exact EqAt.bool_bool _ _
  · obtain ⟨t, rfl⟩ := rx
    obtain ⟨t', rfl⟩ := ry
    exact EqAt.str_str _ _ _ _

theorem eqAt_all {P : Addr → Obj → Int → Prop} {X : Addr → Prop} {A : Around} {s : Shared} {xs : List T} : ∀ {ys : List T} {us vs : List Value} {b : Bool}, Reps P X s.heap xs us → Reps P X s.heap ys vs → xs.length = ys.length → lEq xs ys = some b →
    ∃ e : Nat → Bool, (∀ j (h1 : j < us.length) (h2 : j < vs.length), EqAt A s us[j] vs[j] (e j)) ∧ (List.range us.length).all e = b := by
  induction xs with
  | nil =>
    intro ys us vs b r1 r2 hl h
    cases ys with
    | cons y ys => cases hl
    | nil =>
      simp only [Reps] at r1 r2
      subst r1 r2
      simp only [lEq] at h
      cases h
      exact ⟨fun _ => true, fun j h1 => absurd h1 (Nat.not_lt_zero _), rfl⟩
  | cons x xs ih =>
    intro ys us vs b r1 r2 hl h
    cases ys with
    | nil => cases hl
    | cons y ys =>
      simp only [Reps] at r1 r2
      obtain ⟨u, us, rfl, ru, r1⟩ := r1
      obtain ⟨v, vs, rfl, rv, r2⟩ := r2
      simp only [lEq] at h
      obtain ⟨c, hc, h⟩ := Option.bind_eq_some_iff.mp h
      obtain ⟨d, hd, rfl⟩ := Option.map_eq_some_iff.mp h
      obtain ⟨e, he, ha⟩ := ih r1 r2 (Nat.succ.inj hl) hd
      refine ⟨fun j => if j = 0 then c else e (j - 1), fun j h1 h2 => ?_, ?_⟩
      · cases j with
        | zero => exact eqAt_sc ru rv hc
        | succ j => exact he j (Nat.lt_of_succ_lt_succ h1) (Nat.lt_of_succ_lt_succ h2)
      · rw [List.length_cons, List.range_succ_eq_map, List.all_cons, List.all_map]
        simp only [if_true]
        rw [← ha]
        congr 1
theorem units_lt {A : Around} (rm : Room 0 A) : A.units < cLine := by have := rm.units; omega
theorem eq_rc {X : Addr → Prop} {A : Around} {s : Shared} {x y : T} {z : Bool} {u v : Value} (rm : Room 0 A) (rx : Rep B.P X s.heap x u) (ry : Rep B.P X s.heap y v) (hf : fEq x y = some z) : RcAt A s u v z ∧ RcNeAt A s u v (!z) := by
  have hu := units_lt rm
  by_cases hL : (∃ xs ys, x = .list xs ∧ y = .list ys) ∨ (∃ xs ys, x = .tuple xs ∧ y = .tuple ys)
  · rcases hL with ⟨xs, ys, rfl, rfl⟩ | ⟨xs, ys, rfl, rfl⟩
    · simp only [fEq] at hf
      simp only [Rep] at rx ry
      obtain ⟨l, us, rfl, _, hl, rv⟩ := rx
      obtain ⟨b, vs, rfl, _, hb, rw'⟩ := ry
      have l1 := rv.length
      have l2 := rw'.length
      split at hf
      · rename_i hlen
        obtain ⟨e, he, ha⟩ := eqAt_all (A := A.in1) rv rw' hlen hf
        have hsz : us.toArray.size = vs.toArray.size := by rw [List.size_toArray, List.size_toArray, l1, l2, hlen]
        have h1 := RcAt.lists (A := A) (e := e) hl.isList hb.isList hsz hu (fun j h1 h2 => by simpa using he j (by simpa using h1) (by simpa using h2))
        have h2 := RcNeAt.lists (A := A) (e := e) hl.isList hb.isList hsz hu (fun j h1 h2 => by simpa using he j (by simpa using h1) (by simpa using h2))
        rw [List.size_toArray, ha] at h1 h2
        exact ⟨h1, h2⟩
      · rename_i hlen
        cases hf
        have hsz : (us.toArray.size != vs.toArray.size) = true := by rw [List.size_toArray, List.size_toArray, l1, l2]; simpa using hlen
        exact ⟨RcAt.lists_lengths hl.isList hb.isList hsz hu, RcNeAt.lists_lengths hl.isList hb.isList hsz hu⟩
    · simp only [fEq] at hf
      simp only [Rep] at rx ry
      obtain ⟨l, us, rfl, _, hl, rv⟩ := rx
      obtain ⟨b, vs, rfl, _, hb, rw'⟩ := ry
      have l1 := rv.length
      have l2 := rw'.length
      split at hf
      · rename_i hlen
        obtain ⟨e, he, ha⟩ := eqAt_all (A := A.in1) rv rw' hlen hf
        have hsz : us.toArray.size = vs.toArray.size := by rw [List.size_toArray, List.size_toArray, l1, l2, hlen]
        have h1 := RcAt.tuples (A := A) (e := e) hl hb hu (fun j h1 h2 => by simpa using he j (by simpa using h1) (by simpa using h2))
        have h2 := RcNeAt.tuples (A := A) (e := e) hl hb hu (fun j h1 h2 => by simpa using he j (by simpa using h1) (by simpa using h2))
        have e1 : ((List.range (min us.toArray.size vs.toArray.size)).all e && us.toArray.size == vs.toArray.size) = z := by
          rw [← hsz, Nat.min_self, List.size_toArray, ha]; simp
        rw [e1] at h1 h2
        exact ⟨h1, h2⟩
      · cases hf
  · have hs : sEq x y = some z := by
      unfold fEq at hf
      split at hf
      · exact absurd (.inl ⟨_, _, rfl, rfl⟩) hL
      · exact absurd (.inr ⟨_, _, rfl, rfl⟩) hL
      · exact hf
    rcases sEq_left hs with ⟨i, j, rfl, rfl, rfl⟩ | ⟨i, j, rfl, rfl, rfl⟩ | ⟨i, j, rfl, rfl, rfl⟩
    · simp only [Rep] at rx ry
      obtain ⟨t, rfl⟩ := rx
      obtain ⟨t', rfl⟩ := ry
      exact ⟨RcAt.int_int _ _ _ _, RcNeAt.int_int _ _ _ _⟩
    · simp only [Rep] at rx ry
      subst rx ry
      exact ⟨RcAt.bool_bool _ _, RcNeAt.bool_bool _ _⟩
    · simp only [Rep] at rx ry
      obtain ⟨t, rfl⟩ := rx
      obtain ⟨t', rfl⟩ := ry
      exact ⟨RcAt.str_str _ _ _ _, RcNeAt.str_str _ _ _ _⟩
theorem cmp_eq : CmpSound B .Eq fEq := by
  intro X A s x y z u v E rm hb rx ry hf
  exact (eq_rc rm rx ry hf).1 B.prog B.w E _ ⟨rfl, s.heap, s.toks, rfl, Ext.refl _⟩
theorem cmp_ne : CmpSound B .NotEq fNe := by
  intro X A s x y z u v E rm hb rx ry hf
  unfold fNe at hf
  obtain ⟨c, hc, rfl⟩ := Option.map_eq_some_iff.mp hf
  exact (eq_rc rm rx ry hc).2 B.prog B.w E _ ⟨rfl, s.heap, s.toks, rfl, Ext.refl _⟩
theorem cmp_gt : CmpSound B .Gt fGt := by
  intro X A s x y z u v E rm hb rx ry hf
  match x, y, hf, rx, ry with
  | .int a, .int b, hf, rx, ry =>
    simp only [fGt] at hf; cases hf
    simp only [Rep] at rx ry
    obtain ⟨t, rfl⟩ := rx
    obtain ⟨t', rfl⟩ := ry
    exact PyProof.Rows.gt_int ⟨rfl, s.heap, s.toks, rfl, Ext.refl _⟩
  | .str a, .str b, hf, rx, ry =>
    simp only [fGt] at hf; cases hf
    simp only [Rep] at rx ry
    obtain ⟨t, rfl⟩ := rx
    obtain ⟨t', rfl⟩ := ry
    exact PySem.P.gt_str ⟨rfl, s.heap, s.toks, rfl, Ext.refl _⟩
theorem cmp_le : CmpSound B .LtE fLe := by
  intro X A s x y z u v E rm hb rx ry hf
  match x, y, hf, rx, ry with
  | .int a, .int b, hf, rx, ry =>
    simp only [fLe] at hf; cases hf
    simp only [Rep] at rx ry
    obtain ⟨t, rfl⟩ := rx
    obtain ⟨t', rfl⟩ := ry
    exact PyProof.Rows.le_int ⟨rfl, s.heap, s.toks, rfl, Ext.refl _⟩
  | .str a, .str b, hf, rx, ry =>
    simp only [fLe] at hf; cases hf
    simp only [Rep] at rx ry
    obtain ⟨t, rfl⟩ := rx
    obtain ⟨t', rfl⟩ := ry
    exact PySem.P.le_str ⟨rfl, s.heap, s.toks, rfl, Ext.refl _⟩
end
end Mine

namespace Mine
open PySem PySem.W PyProof.Rows
open PySem.SeqAt

section
variable {B : Bd} {sc : Scope} {names : List Str} {n : Nat}

/-! ### names of the top, built-in names -/
noncomputable def GlobIs (B : Bd) (sc : Scope) (x : Str) (v : Value) : Prop :=
  sc.names.lookup x = some .globalImplicit ∧ (x == ("__debug__" : Str)) = false ∧ (B.mg x = some v ∨ (B.mg x = none ∧ x ≠ "__name__" ∧ bootBuiltins x = some v))

theorem glob_name (ok : B.Ok) {x : Str} {v : Value} {pos : Pos} {env : Env} {s : Shared} {A : Around} {M : Model} {E : Value → Shared → Prop} {Q : Value → Shared → Prop} (g : GlobIs B sc x v) (eo : EnvOk sc env) (hb : Ext B.hb s.heap) (h : Q v s) :
    wpAny M A (eval (.Name x pos) env) Q E s := by
  obtain ⟨h1, h2, h3⟩ := g
  have hg : s.heap.Ns env.globals B.mg := by rw [eo.globals]; exact ok.g.keeps hb
  have hbn : s.heap.Ns env.builtins B.mb := by rw [eo.builtins]; exact ok.b.keeps hb
  refine Calls.Name_function_global (by rw [eo.scope]; exact eo.kind) (by show env.scope.names.lookup x = _; rw [eo.scope]; exact h1) ?_ h2
  rcases h3 with h3 | ⟨h3, h4, h5⟩
  · exact Calls.loadGlobal_global hg h3 h
  · exact Calls.loadGlobal_builtin hg h3 hbn ((ok.builtins x h4).trans h5) h

/-! ### calls of built-in functions -/
noncomputable def CallSound (B : Bd) (f : Value) (g : List T → Option T) : Prop :=
  ∀ (X : Addr → Prop) (A : Around) (s : Shared) (ts : List T) (vs : List Value) (t : T) (E : Value → Shared → Prop), Room 0 A → Ext B.hb s.heap → (∀ a, X a → ∃ o, s.heap.get? a = some o) → Reps B.P X s.heap ts vs → g ts = some t →
    wpAny (model B.prog B.w) A (call f vs) (Out B X s t) E s
noncomputable def eCall (g : List T → Option T) (a : Dl) : Dn := fun ρ => (a ρ).bind g
theorem s_callB (ok : B.Ok) {x : Str} {id : String} {e : Expr} {es : List Expr} {p1 pos : Pos} {a : Dl} {g : List T → Option T} (hg : GlobIs B sc x (.builtin id)) (hc : CallSound B (.builtin id) g) (hl : SoundL B sc names n (e :: es) a)
    (he : ∀ env : Env, starEach (e :: es) env = (false, eval e env) :: starEach es env := by intro _; rfl)
    (hp : ∀ env : Env, (backTo pos (starEach es env)).any (·.1) = false := by intro _; rfl) : SoundE B sc names n (.Call (.Name x p1) (e :: es) [] pos) (eCall g a) := by
  intro X env ρ s t A E eo rm C hd
  unfold eCall at hd
  obtain ⟨ts, hts, hd⟩ := Option.bind_eq_some_iff.mp hd
  refine Call_ (glob_name ok hg eo C.hb ?_)
  refine callWith_builtin1 (wpAny_mono (hl X env ρ s ts pos A E eo rm C hts) (fun vs s' q => ?_) fun _ _ z => z) (he env) (hp env)
  obtain ⟨⟨h2, tk2, rfl, e2⟩, r2⟩ := q
  exact wpAny_mono (hc X A _ ts vs t E (rm.le (Nat.zero_le _)) (C.hb.trans e2) (alive_ext C.al e2) r2 hd) (fun _ _ o => Out.from e2 o) fun _ _ z => z

noncomputable def ints? : List T → Option (List Int)
  | [] => some []
  | .int i :: r => (ints? r).map fun l => i :: l
  | _ :: _ => none
theorem ints?_eq : ∀ {xs : List T} {ns : List Int}, ints? xs = some ns → xs = ns.map T.int
  | [], ns, h => by simp only [ints?] at h; cases h; rfl
  | .int i :: r, ns, h => by
    simp only [ints?] at h
    obtain ⟨l, hl, rfl⟩ := Option.map_eq_some_iff.mp h
    rw [ints?_eq hl]; rfl
noncomputable def gLen : List T → Option T
  | [.list xs] => if xs.length ≤ 1000 then some (.int xs.length) else none
  | _ => none
theorem call_len : CallSound B (.builtin "len") gLen := by
  intro X A s ts vs t E rm hb al r hd
  match ts, hd, r with
  | [.list xs], hd, r =>
    simp only [gLen] at hd
    split at hd
    · rename_i hlen
      cases hd
      simp only [Reps, Rep] at r
      obtain ⟨v, r0, rfl, ⟨a, us, rfl, _, hl, ru⟩, rfl⟩ := r
      have l1 := ru.length
      refine PyProof.Rows.len_list hl.isList (by rw [List.size_toArray, l1]; omega) ?_
      rw [List.size_toArray, l1]
      exact Out.tok (rep_int _ _)
    · cases hd
noncomputable def minL : List Int → Int
  | [] => 0
  | [a] => a
  | a :: r => if a ≤ minL r then a else minL r
theorem minL_spec : ∀ (l : List Int), l ≠ [] → minL l ∈ l ∧ ∀ a ∈ l, minL l ≤ a
  | [], h => absurd rfl h
  | [a], _ => by simp [minL]
  | a :: b :: r, _ => by
    obtain ⟨h1, h2⟩ := minL_spec (b :: r) (by simp)
    simp only [minL]
    split
    · rename_i h
      refine ⟨by simp, fun c hc => ?_⟩
      rcases List.mem_cons.mp hc with rfl | hc
      · exact Int.le_refl _
      · exact Int.le_trans h (h2 c hc)
    · rename_i h
      refine ⟨List.mem_cons_of_mem _ h1, fun c hc => ?_⟩
      rcases List.mem_cons.mp hc with rfl | hc
      · exact Int.le_of_lt (Int.not_le.mp h)
      · exact h2 c hc
noncomputable def gMin : List T → Option T
  | [.int a, .int b] => some (.int (if b < a then b else a))
  | [.list xs] => (ints? xs).bind fun ns => if ns = [] then none else some (.int (minL ns))
  | _ => none
theorem min_ext {A : Around} {s : Shared} {l : Addr} {us : List Value} {ns : List Int} {E : Value → Shared → Prop} {Q : Value → Shared → Prop} (hh : A.handled = none) (hl : s.heap.IsList l us.toArray) (hi : IntsAre us ns) (hne : ns ≠ [])
    (h : ∀ h' t tk, Ext s.heap h' → Q (.int (minL ns) t) { s with heap := h', toks := tk }) : wpAny (model B.prog B.w) A (call (.builtin "min") [.ref l]) Q E s := by
  obtain ⟨xs, e⟩ := hi.allInts.items
  have hns : ns = xs.toList.map (·.1) := by rw [← hi.numsOf, ← nums_intItems, ← e]
  have hne' : 0 < ns.length := List.length_pos_iff.mpr hne
  have hsz : 0 < xs.size := by have h3 := hne'; rw [hns, List.length_map, Array.length_toList] at h3; exact h3
  rw [e] at hl
  refine min_intList hh hl hsz fun v h' tk hv hk => ?_
  obtain ⟨t, rfl⟩ := intItems_at hv
  obtain ⟨h1, h2⟩ := argBest_lt (numAt xs) (xs.size - 1)
  obtain ⟨m1, m2⟩ := minL_spec ns hne
  have a1 : numAt xs (argBest (fun i j => decide (numAt xs i < numAt xs j)) (xs.size - 1)) ∈ ns := by rw [hns, numAt_eq]; exact getD_mem (by rw [List.length_map, Array.length_toList]; omega)
  have a2 : ∀ a, a ∈ ns → numAt xs (argBest (fun i j => decide (numAt xs i < numAt xs j)) (xs.size - 1)) ≤ a := fun a ha => by
    rw [hns] at ha
    obtain ⟨j, hj, rfl⟩ := mem_getD ha
    rw [List.length_map, Array.length_toList] at hj
    rw [← numAt_eq]; exact h2 j (by omega)
  rw [Int.le_antisymm (a2 _ m1) (m2 _ a1)]
  exact h h' t tk hk
theorem call_min : CallSound B (.builtin "min") gMin := by
  intro X A s ts vs t E rm hb al r hd
  match ts, hd, r with
  | [.int a, .int b], hd, r =>
    simp only [gMin] at hd; cases hd
    simp only [Reps, Rep] at r
    obtain ⟨v, r0, rfl, ⟨tk, rfl⟩, v2, r1, rfl, ⟨tk2, rfl⟩, rfl⟩ := r
    refine min_two_ints rm.handled fun h' tk3 e => ?_
    split
    · exact Out.to e (rep_int _ _)
    · exact Out.to e (rep_int _ _)
  | [.list xs], hd, r =>
    simp only [gMin] at hd
    obtain ⟨ns, hns, hd⟩ := Option.bind_eq_some_iff.mp hd
    split at hd
    · cases hd
    · rename_i hne
      cases hd
      rw [ints?_eq hns] at r
      simp only [Reps, Rep] at r
      obtain ⟨v, r0, rfl, ⟨a, us, rfl, _, hl, ru⟩, rfl⟩ := r
      exact min_ext rm.handled hl.isList ru.ints hne fun h' t tk e => Out.to e (rep_int _ _)
end
end Mine

namespace Mine
open PySem PySem.W PyProof.Rows
open PySem.SeqAt

section
variable {B : Bd} {sc : Scope} {names : List Str} {n : Nat}

theorem tail_list {prog : Program} {w : World} {A : Around} {E : Value → Shared → Prop} {s : Shared} {value slice : Expr} {o i : Value} {ops : List Value} {Q : Value → Shared → Prop} (hT : s.TypeIs o "list")
    (h : wpAny (model prog w) A (getItem o i) Q E s) (hs : subscripted slice false o i = operate ops (getItem o i)) : wpAny (model prog w) A (subscriptTail value slice o i) Q E s := by
  unfold subscriptTail
  refine wpAny_bind ?_
  rw [getitemInPython_of_ne hT.not_modules]
  refine wpAny_bind (wpAny_specialOf hT slot_list_getitem.lookup ?_)
  have fin : wpAny (model prog w) A (subscripted slice false o i) (fun r s₃ => wpAny (model prog w) A (letTemporaryGo value o r >>= fun _ => pure r) Q E s₃) E s := by
    rw [hs]
    exact wpAny_operating (wpAny_mono h (fun r s₃ h₃ => wpAny_bind (wpAny_letTemporaryGo (wpAny_pure h₃))) fun _ _ x => x)
  first
    | exact wpAny_pure (wpAny_bind fin)
    | exact wpAny_bind (wpAny_pure (wpAny_bind fin))
    | exact wpAny_bind fin

noncomputable def idx (len : Nat) (k : Int) : Option Nat := if 0 ≤ k then (if k < len then some k.toNat else none) else (if -(len : Int) ≤ k then some (k + len).toNat else none)
noncomputable def gItem : T → T → Option T
  | .list xs, .int k => if xs.length ≤ 1000 then (idx xs.length k).bind fun i => xs[i]? else none
  | _, _ => none
noncomputable def eSub (a b : Dn) : Dn := fun ρ => (a ρ).bind fun x => (b ρ).bind fun y => gItem x y
theorem getItem_T {X : Addr → Prop} {A : Around} {s : Shared} {x y t : T} {u v : Value} {E : Value → Shared → Prop} (rx : Rep B.P X s.heap x u) (ry : Rep B.P X s.heap y v) (h : gItem x y = some t) :
    wpAny (model B.prog B.w) A (getItem u v) (fun r s' => s' = s ∧ Rep B.P X s.heap t r) E s ∧ s.TypeIs u "list" ∧ ∃ k tk, v = .int k tk := by
  match x, y, h, rx, ry with
  | .list xs, .int k, h, rx, ry =>
    simp only [gItem] at h
    split at h
    · rename_i hlen
      obtain ⟨i, hi, h⟩ := Option.bind_eq_some_iff.mp h
      simp only [Rep] at rx ry
      obtain ⟨l, vs, rfl, _, hl, rv⟩ := rx
      obtain ⟨tk, rfl⟩ := ry
      have l1 := rv.length
      obtain ⟨r, hr, hrep⟩ := rv.get h
      refine ⟨?_, hl.isList.typeIs, k, tk, rfl⟩
      unfold idx at hi
      split at hi
      · rename_i h0
        split at hi
        · rename_i h1
          cases hi
          exact wpAny_getItem_list hl.isList h0 (by omega) (by simpa using hr) ⟨rfl, hrep⟩
        · cases hi
      · rename_i h0
        split at hi
        · rename_i h1
          cases hi
          refine wpAny_getItem_list_neg hl.isList (by omega) (by rw [List.size_toArray, l1]; exact h1) (by omega) ?_ ⟨rfl, hrep⟩
          rw [List.size_toArray, l1]
          simpa using hr
        · cases hi
    · cases h
theorem s_sub (ok : B.Ok) {value slice : Expr} {pos : Pos} {a b : Dn} (hl : SoundE B sc names n value a) (hr : SoundE B sc names n slice b)
    (hs : ∀ o i : Value, subscripted slice false o i = operate [o, i] (getItem o i) := by intro _ _; with_unfolding_all rfl) : SoundE B sc names n (.Subscript value slice pos) (eSub a b) := by
  intro X env ρ s t A E eo rm C hd
  unfold eSub at hd
  obtain ⟨x, hxv, hd⟩ := Option.bind_eq_some_iff.mp hd
  obtain ⟨y, hyv, hd⟩ := Option.bind_eq_some_iff.mp hd
  refine Subscript_ (hl.use ok eo rm C hxv fun u h1 tk1 e1 C1 r1 => hr.use ok eo rm C1 hyv fun v h2 tk2 e2 C2 r2 => ?_)
  obtain ⟨g1, g2, k, tk, rfl⟩ := getItem_T (A := A) (s := { s with heap := h2, toks := tk2 }) (E := E) (r1.ext ok.nf e2) r2 hd
  refine tail_list g2 (wpAny_mono g1 (fun r s' q => ?_) fun _ _ z => z) (hs _ _)
  obtain ⟨rfl, q⟩ := q
  exact Out.to (e1.trans e2) q

/-! ### slices -/
theorem SoundF.sound {e : Expr} {d : Dn} (h : SoundF B sc names n e d) (hl : ∀ ρ t, d ρ = some t → ∃ xs, t = .list xs) : SoundE B sc names n e d := by
  intro X env ρ s t A E eo rm C hd
  obtain ⟨xs, rfl⟩ := hl ρ t hd
  exact wpAny_mono (h X env ρ s xs A E eo rm C hd) (fun _ _ o => o.out C.al) fun _ _ z => z
/-! ### type(x).__ge__(x, y) -/
noncomputable def eDun (f : T → T → T → Option Bool) (a0 a1 a2 : Dn) : Dn := fun ρ => (a0 ρ).bind fun x0 => (a1 ρ).bind fun x => (a2 ρ).bind fun y => (f x0 x y).map T.bool
/-- x is NotImplemented, of a bool -/
noncomputable def cNotImpl (a : Dn) : Db := fun ρ => (a ρ).bind fun | .bool _ => some false | _ => none
theorem c_notImpl (ok : B.Ok) {e : Expr} {x : Str} {p pos : Pos} {a : Dn} (h : SoundE B sc names n e a) (hg : GlobIs B sc x .notImplemented) (hm : behindInMarks .Is (.Name x p) = false := by with_unfolding_all rfl) :
    SoundC B sc names n (.Compare e [.Is] [.Name x p] pos) (cNotImpl a) := by
  intro X env ρ s c A E eo rm C hd
  unfold cNotImpl at hd
  obtain ⟨y, hyv, hd⟩ := Option.bind_eq_some_iff.mp hd
  cases y <;> simp only at hd <;> cases hd
  refine wpAny_isTrue_Compare1 (h.use ok eo rm C hyv fun u h1 tk1 e1 C1 r1 => glob_name ok hg eo C1.hb ?_) hm
  simp only [Rep] at r1
  subst r1
  exact wpAny_is_other rfl (fun e => by cases e) (wpAny_truthy_bool ⟨rfl, h1, tk1, rfl, e1⟩)

/-! ### calls of the text's own functions -/
noncomputable def FunSound (B : Bd) (fa : Addr) (n : Nat) (D : List T → Option T) : Prop :=
  (∃ o fd, B.hb.get? fa = some o ∧ o.data = .func fd) ∧
  ∀ (X : Addr → Prop) (A : Around) (s : Shared) (ts : List T) (vs : List Value) (t : T) (E : Value → Shared → Prop), Room n A → Ext B.hb s.heap → (∀ a, X a → ∃ o, s.heap.get? a = some o) → Reps B.P X s.heap ts vs → D ts = some t →
    wpAny (model B.prog B.w) A (call (.ref fa) vs) (Out B X s t) E s
theorem s_callU (ok : B.Ok) {x : Str} {fa : Addr} {m : Nat} {e : Expr} {es : List Expr} {p1 pos : Pos} {a : Dl} {D : List T → Option T} (hg : GlobIs B sc x (.ref fa)) (hf : FunSound B fa m D) (hl : SoundL B sc names n (e :: es) a) (hm : m ≤ n := by decide)
    (he : ∀ env : Env, starEach (e :: es) env = (false, eval e env) :: starEach es env := by intro _; rfl) : SoundE B sc names n (.Call (.Name x p1) (e :: es) [] pos) (eCall D a) := by
  intro X env ρ s t A E eo rm C hd
  unfold eCall at hd
  obtain ⟨ts, hts, hd⟩ := Option.bind_eq_some_iff.mp hd
  obtain ⟨⟨o, fd, ho, hfd⟩, hf⟩ := hf
  refine Call_ (glob_name ok hg eo C.hb ?_)
  refine callWith_def hfd (o := o) (wpAny_mono (hl X env ρ s ts pos A E eo rm C hts) (fun vs s' q => ?_) fun _ _ z => z) (he env)
  obtain ⟨⟨h2, tk2, rfl, e2⟩, r2⟩ := q
  refine ⟨(C.hb.trans e2) _ _ ho, ?_⟩
  exact wpAny_mono (hf X A _ ts vs t E (rm.le hm) (C.hb.trans e2) (alive_ext C.al e2) r2 hd) (fun _ _ o => Out.from e2 o) fun _ _ z => z
end
end Mine

namespace Mine
open PySem PySem.W PyProof.Rows

/-- what a variable of a frame holds: nothing; a value that is not changed any more; a list of the frame's own -/
inductive Slot where
  | un
  | val (t : T)
  | own (xs : List T)
  | own2 (xss : List (List T))

noncomputable def Slot.rd : Slot → Option T
  | .un => none
  | .val t => some t
  | .own xs => some (.list xs)
  | .own2 xss => some (.list (xss.map T.list))
noncomputable def Slot.cl : Slot → Option T
  | .val t => some t
  | _ => none

noncomputable def inOwn (adr : List (List Addr)) (a : Addr) : Prop := a ∈ adr.flatten
noncomputable def foot (env : Env) (adr : List (List Addr)) (b : Addr) : Prop := b = env.locals ∨ (∃ x, env.cells.lookup x = some b) ∨ inOwn adr b
noncomputable def Ex (X : Addr → Prop) (adr : List (List Addr)) (a : Addr) : Prop := X a ∨ inOwn adr a

noncomputable def Inner (P : Addr → Obj → Int → Prop) (Y : Addr → Prop) (h : Heap) : List (List T) → List Addr → Prop
  | [], bs => bs = []
  | xs :: r, bs => ∃ b bs' vs, bs = b :: bs' ∧ h.PlainList b (List.toArray vs) ∧ Reps P Y h xs vs ∧ Inner P Y h r bs'

/-- the value v stands for a slot's content -/
noncomputable def SlotVal (P : Addr → Obj → Int → Prop) (Y : Addr → Prop) (h : Heap) (v : Value) : Slot → List Addr → Prop
  | .un, _ => False
  | .val t, as => as = [] ∧ Rep P Y h t v
  | .own xs, as => ∃ a vs, as = [a] ∧ v = .ref a ∧ h.PlainList a (List.toArray vs) ∧ Reps P Y h xs vs
  | .own2 xss, as => ∃ a bs, as = a :: bs ∧ v = .ref a ∧ h.PlainList a (List.toArray (bs.map Value.ref)) ∧ Inner P Y h xss bs
noncomputable def SlotOk (P : Addr → Obj → Int → Prop) (Y : Addr → Prop) (env : Env) (h : Heap) (x : Str) (sl : Slot) (as : List Addr) : Prop :=
  (sl = .un ∧ as = []) ∨ ∃ v, VarIs env h x v ∧ SlotVal P Y h v sl as

structure Rel (B : Bd) (X : Addr → Prop) (env : Env) (names : List Str) (ρ : List Slot) (adr : List (List Addr)) (h : Heap) : Prop where
  hb : Ext B.hb h
  al : ∀ a, X a → ∃ o, h.get? a = some o
  xoff : ∀ a, X a → ¬ foot env adr a
  boff : ∀ b, foot env adr b → B.hb.get? b = none
  ns : ∃ m, h.Ns env.locals m
  cells : ∀ x c, env.cells.lookup x = some c → ∃ v, h.IsCell c v
  apart : env.cells.Pairwise fun x y => x.2 ≠ y.2
  kinds : ∀ x ∈ names, env.kindOf x = some .local ∨ (env.kindOf x = some .cell ∧ ∃ c, env.cells.lookup x = some c)
  nodup : names.Nodup
  len : ρ.length = names.length
  lenA : adr.length = names.length
  slots : ∀ (i : Nat) x sl as, names[i]? = some x → ρ[i]? = some sl → adr[i]? = some as → SlotOk B.P (Ex X adr) env h x sl as
  dis : adr.flatten.Nodup

section
variable {B : Bd} {X : Addr → Prop} {env : Env} {names : List Str} {ρ : List Slot} {adr : List (List Addr)} {h : Heap}

theorem Inner.frame {P : Addr → Obj → Int → Prop} {Y Z : Addr → Prop} {h h' : Heap} (hnf : ∀ a o n, P a o n → NF o) (hX : ∀ b, Z b → Y b ∨ h.get? b = none) (hk : ∀ b o, h.get? b = some o → NF o → ¬ Y b → h'.get? b = some o) :
    ∀ {xss : List (List T)} {bs : List Addr}, (∀ b ∈ bs, ∀ o, h.get? b = some o → h'.get? b = some o) → Inner P Y h xss bs → Inner P Z h' xss bs
  | [], bs, _, e => by simpa only [Inner] using e
  | xs :: r, bs, hbs, e => by
    simp only [Inner] at e ⊢
    obtain ⟨b, bs', vs, rfl, hp, hr, hi⟩ := e
    exact ⟨b, bs', vs, rfl, hp.at (hbs b List.mem_cons_self), hr.frame hnf hX hk xs vs, Inner.frame hnf hX hk (fun c hc => hbs c (List.mem_cons_of_mem _ hc)) hi⟩
theorem Inner.alive {P : Addr → Obj → Int → Prop} {Y : Addr → Prop} {h : Heap} : ∀ {xss : List (List T)} {bs : List Addr}, Inner P Y h xss bs → ∀ b ∈ bs, ∃ items, h.PlainList b items
  | [], bs, e, b, hb => by simp only [Inner] at e; subst e; cases hb
  | xs :: r, bs, e, b, hb => by
    simp only [Inner] at e
    obtain ⟨c, bs', vs, rfl, hp, hr, hi⟩ := e
    rcases List.mem_cons.mp hb with rfl | hb
    · exact ⟨_, hp⟩
    · exact Inner.alive hi b hb

theorem SlotVal.frame {P : Addr → Obj → Int → Prop} {Y Z : Addr → Prop} {h h' : Heap} {v : Value} {sl : Slot} {as : List Addr} (hnf : ∀ a o n, P a o n → NF o) (hX : ∀ b, Z b → Y b ∨ h.get? b = none)
    (hk : ∀ b o, h.get? b = some o → NF o → ¬ Y b → h'.get? b = some o) (ha : ∀ b ∈ as, ∀ o, h.get? b = some o → h'.get? b = some o) (s : SlotVal P Y h v sl as) : SlotVal P Z h' v sl as := by
  cases sl with
  | un => exact s
  | val t => exact ⟨s.1, Rep.frame hnf hX hk t v s.2⟩
  | own xs =>
    obtain ⟨a, vs, rfl, rfl, hp, hr⟩ := s
    exact ⟨a, vs, rfl, rfl, hp.at (ha a List.mem_cons_self), hr.frame hnf hX hk xs vs⟩
  | own2 xss =>
    obtain ⟨a, bs, rfl, rfl, hp, hi⟩ := s
    exact ⟨a, bs, rfl, rfl, hp.at (ha a List.mem_cons_self), hi.frame hnf hX hk (fun b hb => ha b (List.mem_cons_of_mem _ hb))⟩
theorem SlotVal.alive {P : Addr → Obj → Int → Prop} {Y : Addr → Prop} {h : Heap} {v : Value} {sl : Slot} {as : List Addr} (s : SlotVal P Y h v sl as) : ∀ b ∈ as, ∃ items, h.PlainList b items := by
  cases sl with
  | un => exact s.elim
  | val t => intro b hb; rw [s.1] at hb; cases hb
  | own xs =>
    obtain ⟨a, vs, rfl, rfl, hp, hr⟩ := s
    intro b hb
    rw [List.mem_singleton.mp hb]
    exact ⟨_, hp⟩
  | own2 xss =>
    obtain ⟨a, bs, rfl, rfl, hp, hi⟩ := s
    intro b hb
    rcases List.mem_cons.mp hb with rfl | hb
    · exact ⟨_, hp⟩
    · exact hi.alive b hb
theorem SlotOk.alive {P : Addr → Obj → Int → Prop} {Y : Addr → Prop} {env : Env} {h : Heap} {x : Str} {sl : Slot} {as : List Addr} (s : SlotOk P Y env h x sl as) : ∀ b ∈ as, ∃ items, h.PlainList b items := by
  rcases s with ⟨rfl, rfl⟩ | ⟨v, _, s⟩
  · intro b hb; cases hb
  · exact s.alive

theorem inOwn_get {adr : List (List Addr)} {a : Addr} (h : inOwn adr a) : ∃ (i : Nat) (as : List Addr), adr[i]? = some as ∧ a ∈ as := by
  obtain ⟨l, hl, ha⟩ := List.mem_flatten.mp h
  obtain ⟨i, hi⟩ := List.mem_iff_getElem?.mp hl
  exact ⟨i, l, hi, ha⟩
theorem inOwn_of {adr : List (List Addr)} {a : Addr} {i : Nat} {as : List Addr} (h : adr[i]? = some as) (ha : a ∈ as) : inOwn adr a := List.mem_flatten.mpr ⟨as, List.mem_of_getElem? h, ha⟩

theorem Rel.slot (R : Rel B X env names ρ adr h) {i : Nat} {as : List Addr} (hi : adr[i]? = some as) : ∃ x sl, names[i]? = some x ∧ ρ[i]? = some sl ∧ SlotOk B.P (Ex X adr) env h x sl as := by
  have hlt : i < adr.length := (List.getElem?_eq_some_iff.mp hi).1
  have h1 : names[i]? = some (names[i]'(by rw [← R.lenA]; exact hlt)) := List.getElem?_eq_getElem _
  have h2 : ρ[i]? = some (ρ[i]'(by rw [R.len, ← R.lenA]; exact hlt)) := List.getElem?_eq_getElem _
  exact ⟨_, _, h1, h2, R.slots i _ _ _ h1 h2 hi⟩
theorem Rel.ownPlain (R : Rel B X env names ρ adr h) {a : Addr} (ha : inOwn adr a) : ∃ items, h.PlainList a items := by
  obtain ⟨i, as, hi, hm⟩ := inOwn_get ha
  obtain ⟨x, sl, _, _, hs⟩ := R.slot hi
  exact hs.alive a hm
theorem Rel.exAlive (R : Rel B X env names ρ adr h) : ∀ a, Ex X adr a → ∃ o, h.get? a = some o := fun a ha => ha.elim (R.al a) fun ho => let ⟨_, _, e⟩ := R.ownPlain ho; ⟨_, e⟩
theorem Rel.footAlive (R : Rel B X env names ρ adr h) : ∀ a, foot env adr a → ∃ o, h.get? a = some o := fun a ha => by
  rcases ha with rfl | ⟨x, hc⟩ | ho
  · obtain ⟨m, o, es, ep, hg, _⟩ := R.ns; exact ⟨o, hg⟩
  · obtain ⟨v, o, hg, _⟩ := R.cells x a hc; exact ⟨o, hg⟩
  · exact R.exAlive a (.inr ho)

theorem lk_mem : ∀ {ns : List Str} {os : List (Option T)} {x : Str} {t : T}, lk ns os x = some t → ∃ i : Nat, ns[i]? = some x ∧ os[i]? = some (some t)
  | [], _, _, _, h => by simp [lk] at h
  | _ :: _, [], _, _, h => by simp [lk] at h
  | m :: ns, o :: os, x, t, h => by
    unfold lk at h
    split at h
    · rename_i e; subst e h; exact ⟨0, rfl, rfl⟩
    · obtain ⟨i, h1, h2⟩ := lk_mem h; exact ⟨i + 1, by simpa using h1, by simpa using h2⟩

theorem Inner.reps {P : Addr → Obj → Int → Prop} {Y : Addr → Prop} {h : Heap} {Z : Addr → Prop} (hnf : ∀ a o n, P a o n → NF o) (hZ : ∀ b, Z b → Y b) : ∀ {xss : List (List T)} {bs : List Addr}, (∀ b ∈ bs, ¬ Z b) → Inner P Y h xss bs → Reps P Z h (xss.map T.list) (bs.map Value.ref)
  | [], bs, _, e => by simp only [Inner] at e; subst e; simp only [List.map_nil, Reps]
  | xs :: r, bs, hbs, e => by
    simp only [Inner] at e
    obtain ⟨b, bs', vs, rfl, hp, hr, hi⟩ := e
    simp only [List.map_cons, Reps, Rep]
    exact ⟨_, _, rfl, ⟨b, vs, rfl, hbs b List.mem_cons_self, hp, hr.frame hnf (fun b hb => .inl (hZ b hb)) (fun _ _ e _ _ => e) xs vs⟩, Inner.reps hnf hZ (fun c hc => hbs c (List.mem_cons_of_mem _ hc)) hi⟩

/-- the variables as an expression may read them, own lists too -/
theorem Rel.cx (ok : B.Ok) (R : Rel B X env names ρ adr h) : Cx B X env names (ρ.map Slot.rd) h where
  hb := R.hb
  al := R.al
  view := fun x t hl _ => by
    obtain ⟨i, h1, h2⟩ := lk_mem hl
    rw [List.getElem?_map] at h2
    obtain ⟨sl, hsl, hrd⟩ := Option.map_eq_some_iff.mp h2
    have hlt : i < adr.length := by rw [R.lenA]; exact (List.getElem?_eq_some_iff.mp h1).1
    have h3 : adr[i]? = some adr[i] := List.getElem?_eq_getElem hlt
    rcases R.slots i x sl _ h1 hsl h3 with ⟨rfl, _⟩ | ⟨v, hv, hs⟩
    · cases hrd
    · refine ⟨v, hv, ?_⟩
      have mono : ∀ b, X b → Ex X adr b ∨ h.get? b = none := fun b hb => .inl (.inl hb)
      cases sl with
      | un => exact hs.elim
      | val u => cases hrd; exact Rep.frame ok.nf mono (fun _ _ e _ _ => e) _ _ hs.2
      | own xs =>
        cases hrd
        obtain ⟨a, vs, has, rfl, hp, hr⟩ := hs
        simp only [Rep]
        exact ⟨a, vs, rfl, fun hx => R.xoff a hx (.inr (.inr (inOwn_of h3 (by rw [has]; exact List.mem_cons_self)))), hp, hr.frame ok.nf mono (fun _ _ e _ _ => e) xs vs⟩
      | own2 xss =>
        cases hrd
        obtain ⟨a, bs, has, rfl, hp, hi⟩ := hs
        simp only [Rep]
        exact ⟨a, bs.map Value.ref, rfl, fun hx => R.xoff a hx (.inr (.inr (inOwn_of h3 (by rw [has]; exact List.mem_cons_self)))), hp,
          hi.reps ok.nf (fun b hb => .inl hb) fun b hb hx => R.xoff b hx (.inr (.inr (inOwn_of h3 (by rw [has]; exact List.mem_cons_of_mem _ hb))))⟩
/-- the variables that are no lists of the frame's own: what is read leads to none of these -/
theorem Rel.cxc (R : Rel B X env names ρ adr h) : Cx B (Ex X adr) env names (ρ.map Slot.cl) h where
  hb := R.hb
  al := R.exAlive
  view := fun x t hl _ => by
    obtain ⟨i, h1, h2⟩ := lk_mem hl
    rw [List.getElem?_map] at h2
    obtain ⟨sl, hsl, hrd⟩ := Option.map_eq_some_iff.mp h2
    have hlt : i < adr.length := by rw [R.lenA]; exact (List.getElem?_eq_some_iff.mp h1).1
    have h3 : adr[i]? = some adr[i] := List.getElem?_eq_getElem hlt
    rcases R.slots i x sl _ h1 hsl h3 with ⟨rfl, _⟩ | ⟨v, hv, hs⟩
    · cases hrd
    · cases sl with
      | val u => cases hrd; exact ⟨v, hv, hs.2⟩
      | _ => cases hrd

theorem nf_ne_ns {h : Heap} {L : Addr} {m} (hn : h.Ns L m) {b : Addr} {o : Obj} (ho : h.get? b = some o) (hf : NF o) : b ≠ L := by
  obtain ⟨o', es, ep, hg, hd, _⟩ := hn
  rintro rfl
  rw [ho] at hg
  cases hg
  exact hf.1 _ _ hd
theorem nf_ne_cell {h : Heap} {c : Addr} {v} (hc : h.IsCell c v) {b : Addr} {o : Obj} (ho : h.get? b = some o) (hf : NF o) : b ≠ c := by
  obtain ⟨o', hg, hd⟩ := hc
  rintro rfl
  rw [ho] at hg
  cases hg
  exact hf.2 _ hd
theorem ns_ne_cell {h : Heap} {L c : Addr} {m v} (hn : h.Ns L m) (hc : h.IsCell c v) : c ≠ L := by
  obtain ⟨o', es, ep, hg, hd, _⟩ := hn
  obtain ⟨o, hg', hd'⟩ := hc
  rintro rfl
  rw [hg] at hg'
  cases hg'
  rw [hd] at hd'
  cases hd'
/-- what one statement leaves -/
structure Aft (B : Bd) (X : Addr → Prop) (env : Env) (names : List Str) (adr : List (List Addr)) (h : Heap) (ρ' : List Slot) (adr' : List (List Addr)) (h' : Heap) : Prop where
  rel : Rel B X env names ρ' adr' h'
  pres : ∀ b o, h.get? b = some o → ¬ foot env adr b → h'.get? b = some o
  new : ∀ a, inOwn adr' a → inOwn adr a ∨ h.get? a = none

theorem flatten_set_mem {adr : List (List Addr)} {i : Nat} {as' : List Addr} {a : Addr} (h : inOwn (adr.set i as') a) : (∃ (j : Nat) (as : List Addr), j ≠ i ∧ adr[j]? = some as ∧ a ∈ as) ∨ a ∈ as' := by
  obtain ⟨j, as, hj, ha⟩ := inOwn_get h
  rw [List.getElem?_set] at hj
  split at hj
  · split at hj
    · cases hj; exact .inr ha
    · cases hj
  · rename_i hne; exact .inl ⟨j, as, fun e => hne e.symm, hj, ha⟩
theorem nodup_set : ∀ {adr : List (List Addr)} {i : Nat} {as' : List Addr}, adr.flatten.Nodup → as'.Nodup → (∀ a ∈ as', ∀ (j : Nat) as, j ≠ i → adr[j]? = some as → a ∉ as) → (adr.set i as').flatten.Nodup
  | [], i, as', h, _, _ => by simp
  | l :: adr, 0, as', h, h2, h3 => by
    simp only [List.set_cons_zero, List.flatten_cons] at h ⊢
    obtain ⟨a1, a2, a3⟩ := List.nodup_append.mp h
    refine List.nodup_append.mpr ⟨h2, a2, fun a ha b hb e => ?_⟩
    subst e
    obtain ⟨j, as, hj, hm⟩ := inOwn_get (adr := adr) hb
    exact h3 a ha (j + 1) as (by omega) (by simpa using hj) hm
  | l :: adr, i + 1, as', h, h2, h3 => by
    simp only [List.set_cons_succ, List.flatten_cons] at h ⊢
    obtain ⟨a1, a2, a3⟩ := List.nodup_append.mp h
    refine List.nodup_append.mpr ⟨a1, nodup_set a2 h2 fun a ha j as hj hg => h3 a ha (j + 1) as (by omega) (by simpa using hg), fun a ha b hb e => ?_⟩
    subst e
    rcases flatten_set_mem hb with ⟨j, as, hj, hg, hm⟩ | hm
    · exact a3 a ha a (inOwn_of (adr := adr) hg hm) rfl
    · exact h3 a hm 0 l (by omega) rfl ha
theorem dis_slots {adr : List (List Addr)} : adr.flatten.Nodup → ∀ {i j : Nat} {as bs : List Addr} {a : Addr}, i ≠ j → adr[i]? = some as → adr[j]? = some bs → a ∈ as → a ∉ bs := by
  induction adr with
  | nil => intro _ i j as bs a _ h; simp at h
  | cons l adr ih =>
    intro h i j as bs a hne hi hj ha hb
    simp only [List.flatten_cons] at h
    obtain ⟨a1, a2, a3⟩ := List.nodup_append.mp h
    cases i with
    | zero =>
      simp at hi; subst hi
      cases j with
      | zero => exact hne rfl
      | succ j => exact a3 a ha a (inOwn_of (adr := adr) (by simpa using hj) hb) rfl
    | succ i =>
      cases j with
      | zero => simp at hj; subst hj; exact a3 a hb a (inOwn_of (adr := adr) (by simpa using hi) ha) rfl
      | succ j => exact ih a2 (i := i) (j := j) (fun e => hne (by omega)) (by simpa using hi) (by simpa using hj) ha hb
end
end Mine

namespace Mine
open PySem PySem.W PyProof.Rows

/-- an iterator over the data xs: what it stands on, what a step of it changes -/
structure Iter (B : Bd) (Y : Addr → Prop) (A : Around) (xs : List T) (I : Addr) (fp wr : List Addr) (P : Nat → Value → Prop) (St : Nat → Heap → Prop) (h0 h : Heap) : Prop where
  walks : Walks B.prog B.w A I fp wr xs.length P St
  st : St 0 h
  held : ∀ i v, P i v → i < xs.length → ∃ t, xs[i]? = some t ∧ Rep B.P (fun a => Y a ∨ a ∈ wr) h t v
  rest : ∀ b ∈ fp, b ∈ wr ∨ ∃ o, h.get? b = some o ∧ NF o ∧ ¬ Y b
  fresh : ∀ b ∈ wr, h0.get? b = none
  wal : ∀ i h', St i h' → ∀ b ∈ wr, ∃ o, h'.get? b = some o
  fpal : ∀ b ∈ fp, b < h.objs.size

noncomputable def SoundI (B : Bd) (sc : Scope) (names : List Str) (n : Nat) (e : Expr) (d : Dl) : Prop :=
  ∀ (X : Addr → Prop) (env : Env) (ρ : List (Option T)) (s : Shared) (xs : List T) (A : Around) (E : Value → Shared → Prop), EnvOk sc env → Room n A → Cx B X env names ρ s.heap → d ρ = some xs →
    xs.length ≤ 1000 ∧ wpAny (model B.prog B.w) A (eval e env) (fun xv s₁ => wpAny (model B.prog B.w) A (pyIter xv) (fun it s₂ => (∃ h' tk, s₂ = { s with heap := h', toks := tk } ∧ Ext s.heap h') ∧
      ∃ I fp wr P St, it = .ref I ∧ Iter B X A xs I fp wr P St s.heap s₂.heap) E s₁) E s

/-- a range: nothing that stands in the heap is read -/
noncomputable def SoundR (B : Bd) (sc : Scope) (names : List Str) (n : Nat) (e : Expr) (d : Dl) : Prop :=
  ∀ (X : Addr → Prop) (env : Env) (ρ : List (Option T)) (s : Shared) (xs : List T) (A : Around) (E : Value → Shared → Prop), EnvOk sc env → Room n A → Cx B X env names ρ s.heap → d ρ = some xs →
    xs.length ≤ 1000 ∧ wpAny (model B.prog B.w) A (eval e env) (fun xv s₁ => wpAny (model B.prog B.w) A (pyIter xv) (fun it s₂ => (∃ h' tk, s₂ = { s with heap := h', toks := tk } ∧ Ext s.heap h') ∧
      ∃ I fp wr P St, it = .ref I ∧ ∀ Y, Iter B Y A xs I fp wr P St s.heap s₂.heap) E s₁) E s

section
variable {B : Bd} {sc : Scope} {names : List Str} {n : Nat}

theorem SoundR.sound {e : Expr} {d : Dl} (h : SoundR B sc names n e d) : SoundI B sc names n e d := by
  intro X env ρ s xs A E eo rm C hd
  obtain ⟨h1, h2⟩ := h X env ρ s xs A E eo rm C hd
  refine ⟨h1, wpAny_mono h2 (fun xv s1 q => wpAny_mono q (fun it s2 q => ?_) fun _ _ z => z) fun _ _ z => z⟩
  obtain ⟨q1, I, fp, wr, P, St, rfl, q⟩ := q
  exact ⟨q1, I, fp, wr, P, St, rfl, q X⟩

noncomputable def itL (a : Dn) : Dl := fun ρ => (a ρ).bind fun | .list xs => if xs.length ≤ 1000 then some xs else none | _ => none
theorem i_list (ok : B.Ok) {e : Expr} {a : Dn} (h : SoundE B sc names n e a) : SoundI B sc names n e (itL a) := by
  intro X env ρ s xs A E eo rm C hd
  unfold itL at hd
  obtain ⟨x, hxv, hd⟩ := Option.bind_eq_some_iff.mp hd
  match x, hd, hxv with
  | .list ys, hd, hxv =>
    simp only at hd
    split at hd
    · rename_i hlen
      cases hd
      refine ⟨hlen, h.use ok eo rm C hxv fun v h1 tk1 e1 C1 r1 => ?_⟩
      simp only [Rep] at r1
      obtain ⟨l, vs, rfl, hX, hl, rv⟩ := r1
      have hlt : l < h1.objs.size := by obtain ⟨o, ho⟩ := hl; exact Heap.lt_size ho
      have hsz : vs.toArray.size = xs.length := by rw [List.size_toArray, rv.length]
      refine wpAny_pyIter_list (s := { s with heap := h1, toks := tk1 }) hl.isList ⟨⟨_, tk1, rfl, e1.trans (Ext.push _ _)⟩, h1.objs.size, [h1.objs.size, l], [h1.objs.size], (fun i v => vs.toArray[i]? = some v), (fun i h => h.IsListIter h1.objs.size l i ∧ h.IsList l vs.toArray), rfl, ?_⟩
      have W := Walks.list (prog := B.prog) (w := B.w) (A := A) rm.handled h1.objs.size l (Nat.ne_of_lt hlt) vs.toArray
      rw [hsz] at W
      refine ⟨W, ⟨⟨_, Heap.get?_push_size _ rfl, rfl, rfl⟩, hl.isList.push _⟩, fun i v hP hi => ?_, fun b hb => ?_, fun b hb => ?_, fun i h' hst b hb => ?_, fun b hb => ?_⟩
      · have hP' : vs[i]? = some v := by simpa using hP
        obtain ⟨t, ht, hr⟩ := rv.get' hP'
        refine ⟨t, ht, Rep.frame ok.nf (fun b hb => hb.elim .inl fun hm => .inr ?_) (fun b o e _ _ => Heap.get?_push_of_some _ e) t v hr⟩
        rw [List.mem_singleton.mp hm]
        exact get?_size _ (Nat.le_refl _)
      · rcases List.mem_cons.mp hb with rfl | hb
        · exact .inl List.mem_cons_self
        · right
          rw [List.mem_singleton.mp hb]
          obtain ⟨o, ho, hc, n, hd⟩ := hl.isList
          exact ⟨o, Heap.get?_push_of_some _ ho, NF.seq hd, hX⟩
      · rw [List.mem_singleton.mp hb]
        cases q : s.heap.get? h1.objs.size with
        | none => rfl
        | some o => exact absurd (Heap.lt_size (e1 _ _ q)) (Nat.lt_irrefl _)
      · rw [List.mem_singleton.mp hb]
        obtain ⟨⟨o, ho, _⟩, _⟩ := hst
        exact ⟨o, ho⟩
      · show b < (h1.push _).objs.size
        rw [Heap.size_push]
        rcases List.mem_cons.mp hb with rfl | hb
        · exact Nat.lt_succ_self _
        · rw [List.mem_singleton.mp hb]; exact Nat.lt_succ_of_lt hlt
    · cases hd

theorem iter_range {A : Around} {s : Shared} {E : Value → Shared → Prop} {r : Addr} {a b c : Int} {t u v : Tok} {h0 : Heap} {k : Nat} {xs : List T} (hh : A.handled = none) (hr : IsRange s.heap r a b c t u v) (hsm : Builtin.Range.small a b c = true)
    (hk : Builtin.Range.rangeSize a b c = k) (hxs : xs = (List.range k).map fun (i : Nat) => T.int (a + i * c)) (he : Ext h0 s.heap) :
    wpAny (model B.prog B.w) A (pyIter (.ref r)) (fun it s₂ => (∃ h', s₂ = { s with heap := h' } ∧ Ext s.heap h') ∧ ∃ I fp wr P St, it = .ref I ∧ ∀ Y, Iter B Y A xs I fp wr P St h0 s₂.heap) E s := by
  refine wpAny_pyIter_range hr hsm ⟨⟨_, rfl, Ext.push _ _⟩, s.heap.objs.size, [s.heap.objs.size], [s.heap.objs.size], (fun i v => ∃ t, v = .int (a + i * c) t), (fun i h => IsRangeIter h s.heap.objs.size (a + (i : Nat) * c) ((xs.length : Int) - (i : Nat)) c), rfl, fun Y => ?_⟩
  have hlen : xs.length = k := by rw [hxs]; simp
  have W := Walks.range (prog := B.prog) (w := B.w) (A := A) hh s.heap.objs.size a c k
  rw [← hlen] at W
  refine ⟨W, ?_, fun i v hP hi => ?_, fun b hb => .inl hb, fun b hb => ?_, fun i h' hst b hb => ?_, fun b hb => ?_⟩
  · show IsRangeIter (s.heap.push _) _ _ _ _
    unfold IsRangeIter
    rw [Heap.get?_push_size _ rfl, hk, hlen]
    simp
  · obtain ⟨tk, rfl⟩ := hP
    refine ⟨T.int (a + i * c), ?_, rep_int _ _⟩
    rw [hxs]
    rw [hlen] at hi
    simp [hi]
  · rw [List.mem_singleton.mp hb]
    cases q : h0.get? s.heap.objs.size with
    | none => rfl
    | some o => exact absurd (Heap.lt_size (he _ _ q)) (Nat.lt_irrefl _)
  · rw [List.mem_singleton.mp hb]
    exact ⟨_, hst⟩
  · rw [List.mem_singleton.mp hb]
    show _ < (s.heap.push _).objs.size
    rw [Heap.size_push]
    exact Nat.lt_succ_self _

noncomputable def rng (a b : Int) : List T := (List.range (b - a).toNat).map fun (i : Nat) => T.int (a + i)
noncomputable def fits (a : Int) : Bool := decide (-1000000 ≤ a) && decide (a ≤ 1000000)
theorem fits_iff {a : Int} : fits a = true ↔ -1000000 ≤ a ∧ a ≤ 1000000 := by simp [fits]
noncomputable def itR1 (a : Dn) : Dl := fun ρ => (a ρ).bind fun | .int k => if fits k && decide (k ≤ 1000) then some (rng 0 k) else none | _ => none
noncomputable def itR2 (a b : Dn) : Dl := fun ρ => (a ρ).bind fun x => (b ρ).bind fun y => match x, y with | .int j, .int k => if fits j && fits k && decide (k - j ≤ 1000) then some (rng j k) else none | _, _ => none
theorem size_rng (a b : Int) : Builtin.Range.rangeSize a b 1 = ((b - a).toNat : Nat) := by
  rw [rangeSize_one]; split <;> omega
theorem i_range1 (ok : B.Ok) {x : Str} {e : Expr} {p1 pos : Pos} {a : Dn} (hg : GlobIs B sc x (.type "range")) (h : SoundE B sc names n e a)
    (he : ∀ env : Env, starEach [e] env = (false, eval e env) :: starEach [] env := by intro _; rfl) : SoundR B sc names n (.Call (.Name x p1) [e] [] pos) (itR1 a) := by
  intro X env ρ s xs A E eo rm C hd
  unfold itR1 at hd
  obtain ⟨y, hyv, hd⟩ := Option.bind_eq_some_iff.mp hd
  match y, hd, hyv with
  | .int k, hd, hyv =>
    simp only at hd
    split at hd
    · rename_i hf
      simp only [Bool.and_eq_true, fits_iff, decide_eq_true_eq] at hf
      cases hd
      refine ⟨by simp [rng]; omega, Call_ (glob_name ok hg eo C.hb ?_)⟩
      refine callWith_type1 (spliced_more (h.use ok eo rm C hyv fun u0 h1' tk1 e1' C1 r1 => spliced_none ?_) (he env)) (he env)
      simp only [Rep] at r1
      obtain ⟨tk, rfl⟩ := r1
      refine call_range_1 (wpAny_mono (iter_range (h0 := s.heap) (k := (k - 0).toNat) rm.handled (IsRange.new ..) (small_one (by omega) (by omega) (by omega) (by omega)) (size_rng 0 k) (xs := rng 0 k) (by simp [rng]) (e1'.trans (Ext.push _ _))) (fun it s2 q => ?_) fun _ _ z => z)
      obtain ⟨⟨h', rfl, e2⟩, q⟩ := q
      exact ⟨⟨h', _, rfl, (e1'.trans (Ext.push _ _)).trans e2⟩, q⟩
    · cases hd
theorem i_range2 (ok : B.Ok) {x : Str} {e e2 : Expr} {p1 pos : Pos} {a b : Dn} (hg : GlobIs B sc x (.type "range")) (h : SoundE B sc names n e a) (h2 : SoundE B sc names n e2 b)
    (he : ∀ env : Env, starEach [e, e2] env = (false, eval e env) :: starEach [e2] env := by intro _; rfl)
    (he2 : ∀ env : Env, starEach [e2] env = (false, eval e2 env) :: starEach [] env := by intro _; rfl)
    (hp : ∀ env : Env, (backTo pos (starEach [e2] env)).any (·.1) = false := by intro _; rfl) : SoundR B sc names n (.Call (.Name x p1) [e, e2] [] pos) (itR2 a b) := by
  intro X env ρ s xs A E eo rm C hd
  unfold itR2 at hd
  obtain ⟨y, hyv, hd⟩ := Option.bind_eq_some_iff.mp hd
  obtain ⟨z, hzv, hd⟩ := Option.bind_eq_some_iff.mp hd
  match y, z, hd, hyv, hzv with
  | .int j, .int k, hd, hyv, hzv =>
    simp only at hd
    split at hd
    · rename_i hf
      simp only [Bool.and_eq_true, fits_iff, decide_eq_true_eq] at hf
      cases hd
      refine ⟨by simp [rng]; omega, Call_ (glob_name ok hg eo C.hb ?_)⟩
      refine callWith_type1 (spliced_more (h.use ok eo rm C hyv fun u0 h1' tk1 e1' C1 r1 => spliced_more (h2.use ok eo rm C1 hzv fun u2 h2' tk2 e2' C2 r2 => spliced_none ?_) (he2 env)) (he env)) (he env) (hp env)
      simp only [Rep] at r1 r2
      obtain ⟨tk, rfl⟩ := r1
      obtain ⟨tk', rfl⟩ := r2
      refine call_range_2 (wpAny_mono (iter_range (h0 := s.heap) (k := (k - j).toNat) rm.handled (IsRange.new ..) (small_one (by omega) (by omega) (by omega) (by omega)) (size_rng j k) (xs := rng j k) (by simp [rng]) ((e1'.trans e2').trans (Ext.push _ _))) (fun it s2 q => ?_) fun _ _ z => z)
      obtain ⟨⟨h', rfl, e3⟩, q⟩ := q
      exact ⟨⟨h', _, rfl, ((e1'.trans e2').trans (Ext.push _ _)).trans e3⟩, q⟩
    · cases hd
end
end Mine

namespace Mine
open PySem PySem.W PyProof.Rows

inductive Fl where
  | next | brk | cont
  | ret (t : T)

noncomputable def FlOk (B : Bd) (X : Addr → Prop) (h : Heap) : Fl → Flow → Prop
  | .next, .next => True
  | .brk, .brk => True
  | .cont, .cont => True
  | .ret t, .ret v => Rep B.P X h t v
  | _, _ => False

noncomputable abbrev Ds := List Slot → Option (Fl × List Slot)

noncomputable def After (B : Bd) (X : Addr → Prop) (env : Env) (names : List Str) (adr : List (List Addr)) (s : Shared) (f : Fl) (ρ' : List Slot) (f' : Flow) (s' : Shared) : Prop :=
  ∃ adr' h' tk, s' = { s with heap := h', toks := tk } ∧ Aft B X env names adr s.heap ρ' adr' h' ∧ FlOk B X h' f f'

noncomputable def SoundS (B : Bd) (sc : Scope) (names : List Str) (n : Nat) (st : Stmt) (d : Ds) : Prop :=
  ∀ (X : Addr → Prop) (env : Env) (ρ : List Slot) (adr : List (List Addr)) (s : Shared) (f : Fl) (ρ' : List Slot) (A : Around) (E : Value → Shared → Prop), EnvOk sc env → Room n A → Rel B X env names ρ adr s.heap → d ρ = some (f, ρ') →
    wpAny (model B.prog B.w) A (exec st env) (After B X env names adr s f ρ') E s
noncomputable def SoundB (B : Bd) (sc : Scope) (names : List Str) (n : Nat) (ss : List Stmt) (d : Ds) : Prop :=
  ∀ (X : Addr → Prop) (env : Env) (ρ : List Slot) (adr : List (List Addr)) (s : Shared) (f : Fl) (ρ' : List Slot) (A : Around) (E : Value → Shared → Prop), EnvOk sc env → Room n A → Rel B X env names ρ adr s.heap → d ρ = some (f, ρ') →
    wpAny (model B.prog B.w) A (execs ss env) (After B X env names adr s f ρ') E s

section
variable {B : Bd} {sc : Scope} {names : List Str} {n : Nat}

theorem Aft.trans {X : Addr → Prop} {env : Env} {adr adr1 adr2 : List (List Addr)} {h h1 h2 : Heap} {ρ1 ρ2 : List Slot} (a : Aft B X env names adr h ρ1 adr1 h1) (b : Aft B X env names adr1 h1 ρ2 adr2 h2) : Aft B X env names adr h ρ2 adr2 h2 where
  rel := b.rel
  pres := fun c o hc hf => b.pres c o (a.pres c o hc hf) fun hf1 => by
    rcases hf1 with rfl | hcell | ho
    · exact hf (.inl rfl)
    · exact hf (.inr (.inl hcell))
    · rcases a.new c ho with h1 | h1
      · exact hf (.inr (.inr h1))
      · rw [hc] at h1; cases h1
  new := fun c hc => by
    rcases b.new c hc with h1 | h1
    · exact a.new c h1
    · by_cases ho : inOwn adr c
      · exact .inl ho
      · right
        cases q : h.get? c with
        | none => rfl
        | some o =>
          by_cases hf : foot env adr c
          · rcases hf with rfl | ⟨x, hcell⟩ | hh
            · obtain ⟨m, o', es, ep, hg, _⟩ := a.rel.ns; rw [h1] at hg; cases hg
            · obtain ⟨v, o', hg, _⟩ := a.rel.cells x c hcell; rw [h1] at hg; cases hg
            · exact absurd hh ho
          · have := a.pres c o q hf; rw [h1] at this; cases this

theorem Aft.refl {X : Addr → Prop} {env : Env} {adr : List (List Addr)} {h h' : Heap} {ρ : List Slot} (R : Rel B X env names ρ adr h') (e : Ext h h') : Aft B X env names adr h ρ adr h' := ⟨R, fun b o hb _ => e b o hb, fun _ ha => .inl ha⟩

theorem Rel.ext {X : Addr → Prop} {env : Env} {adr : List (List Addr)} {h h' : Heap} {ρ : List Slot} (ok : B.Ok) (R : Rel B X env names ρ adr h) (e : Ext h h') : Rel B X env names ρ adr h' where
  hb := R.hb.trans e
  al := alive_ext R.al e
  xoff := R.xoff
  boff := R.boff
  ns := let ⟨m, hm⟩ := R.ns; ⟨m, hm.keeps e⟩
  cells := fun x c hc => let ⟨v, o, ho, hd⟩ := R.cells x c hc; ⟨v, o, e _ _ ho, hd⟩
  apart := R.apart
  kinds := R.kinds
  nodup := R.nodup
  len := R.len
  lenA := R.lenA
  slots := fun i x sl as h1 h2 h3 => by
    rcases R.slots i x sl as h1 h2 h3 with hu | ⟨v, hv, hs⟩
    · exact .inl hu
    · exact .inr ⟨v, hv.ext e, hs.frame ok.nf (fun _ hb => .inl hb) (fun b o hb _ _ => e b o hb) fun b _ o hb => e b o hb⟩
  dis := R.dis

/-- a value is stored under a name of the frame's -/
theorem store_ok' (ok : B.Ok) {X : Addr → Prop} {env : Env} {adr : List (List Addr)} {s : Shared} {ρ : List Slot} {h : Heap} {tk : Nat} {x : Str} {i : Nat} {v : Value} {sl : Slot} {as : List Addr} {A : Around} {M : Model} {E : Value → Shared → Prop} {Q : Unit → Shared → Prop}
    (eo : EnvOk sc env) (R : Rel B X env names ρ adr s.heap) (e : Ext s.heap h) (hi : names[i]? = some x) (sv : SlotVal B.P (Ex X (adr.set i as)) h v sl as) (hnew : ∀ a ∈ as, s.heap.get? a = none) (hnd : as.Nodup)
    (k : ∀ h' tk', Aft B X env names adr s.heap (ρ.set i sl) (adr.set i as) h' → (∀ b o, h.get? b = some o → ¬ foot env adr b → h'.get? b = some o) → Q () { s with heap := h', toks := tk' }) : wpAny M A (storeName env x v) Q E { s with heap := h, toks := tk } := by
  have Rh := R.ext ok e
  have hlt : i < names.length := (List.getElem?_eq_some_iff.mp hi).1
  have hex : ∀ b, Ex X (adr.set i as) b → Ex X adr b ∨ s.heap.get? b = none := fun b hb => by
    rcases hb with hb | hb
    · exact .inl (.inl hb)
    · rcases flatten_set_mem hb with ⟨j, bs, _, hj, hm⟩ | hm
      · exact .inl (.inr (inOwn_of hj hm))
      · exact .inr (hnew b hm)
  have hnf : ∀ b, foot env (adr.set i as) b → foot env adr b ∨ (s.heap.get? b = none ∧ b ∈ as) := fun b hb => by
    rcases hb with rfl | hc | ho
    · exact .inl (.inl rfl)
    · exact .inl (.inr (.inl hc))
    · rcases flatten_set_mem ho with ⟨j, bs, _, hj, hm⟩ | hm
      · exact .inl (.inr (.inr (inOwn_of hj hm)))
      · exact .inr ⟨hnew b hm, hm⟩
  have hdis : (adr.set i as).flatten.Nodup := nodup_set R.dis hnd fun a ha j bs _ hj hm => by
    obtain ⟨items, m, q⟩ := R.ownPlain (inOwn_of hj hm)
    rw [hnew a ha] at q; cases q
  -- the frame after a change at one place of the frame itself
  have main : ∀ (h' : Heap) (p : Addr), foot env adr p → (∀ b o, b ≠ p → h.get? b = some o → h'.get? b = some o) → (∀ b o, h.get? b = some o → NF o → b ≠ p) → VarIs env h' x v →
      (∀ y ∈ names, y ≠ x → ∀ u, VarIs env h y u → VarIs env h' y u) → (∃ m, h'.Ns env.locals m) → (∀ y c, env.cells.lookup y = some c → ∃ u, h'.IsCell c u) →
      Aft B X env names adr s.heap (ρ.set i sl) (adr.set i as) h' := by
    intro h' p hp hk hnp hv hother hns hcells
    have pres : ∀ b o, s.heap.get? b = some o → ¬ foot env adr b → h'.get? b = some o := fun b o hb hf => hk b o (fun e' => hf (e' ▸ hp)) (e b o hb)
    have kn : ∀ b o, h.get? b = some o → NF o → h'.get? b = some o := fun b o hb hn => hk b o (hnp b o hb hn) hb
    refine ⟨⟨fun b o hb => ?_, fun a ha => ?_, fun a ha hf => ?_, fun b hb => ?_, hns, hcells, R.apart, R.kinds, R.nodup, by rw [List.length_set]; exact R.len, by rw [List.length_set]; exact R.lenA, fun j y sl' as' h1 h2 h3 => ?_, hdis⟩, pres, fun a ha => ?_⟩
    · exact pres b o (R.hb b o hb) fun hf => by rw [R.boff b hf] at hb; cases hb
    · obtain ⟨o, ho⟩ := R.al a ha
      exact ⟨o, pres a o ho (R.xoff a ha)⟩
    · rcases hnf a hf with h1 | ⟨h1, _⟩
      · exact R.xoff a ha h1
      · obtain ⟨o, ho⟩ := R.al a ha; rw [h1] at ho; cases ho
    · rcases hnf b hb with h1 | ⟨h1, _⟩
      · exact R.boff b h1
      · cases q : B.hb.get? b with
        | none => rfl
        | some o => have := R.hb b o q; rw [h1] at this; cases this
    · rw [List.getElem?_set] at h2 h3
      by_cases hij : i = j
      · subst hij
        rw [if_pos rfl] at h2 h3
        have hy : x = y := by rw [hi] at h1; exact Option.some.inj h1
        subst hy
        split at h2
        · cases h2
          split at h3
          · cases h3
            exact .inr ⟨v, hv, sv.frame ok.nf (fun _ hb => .inl hb) (fun b o hb hn _ => kn b o hb hn) fun b hb o hbo => by
              obtain ⟨items, m, q⟩ := sv.alive b hb
              exact kn b o hbo (by rw [q] at hbo; cases hbo; exact NF.seq rfl)⟩
          · cases h3
        · cases h2
      · rw [if_neg hij] at h2 h3
        have hyx : y ≠ x := fun e' => hij (by
          exact (List.getElem?_inj hlt R.nodup).mp (by rw [hi, h1, e']))
        rcases R.slots j y sl' as' h1 h2 h3 with hu | ⟨u, hu, hs⟩
        · exact .inl hu
        · refine .inr ⟨u, hother y (List.mem_of_getElem? h1) hyx u (hu.ext e), ?_⟩
          have s1 : SlotVal B.P (Ex X adr) h u sl' as' := hs.frame ok.nf (fun _ hb => .inl hb) (fun b o hb _ _ => e b o hb) fun b _ o hb => e b o hb
          have s2 : SlotVal B.P (Ex X (adr.set i as)) s.heap u sl' as' := hs.frame ok.nf hex (fun _ _ hb _ _ => hb) fun _ _ _ hb => hb
          exact s2.frame ok.nf (fun _ hb => .inl hb) (fun b o hb hn _ => kn b o (e b o hb) hn) fun b hb o hbo => by
            obtain ⟨items, m, q⟩ := hs.alive b hb
            exact kn b o (e b o hbo) (by rw [q] at hbo; cases hbo; exact NF.seq rfl)
    · rcases flatten_set_mem ha with ⟨j, bs, _, hj, hm⟩ | hm
      · exact .inl (inOwn_of hj hm)
      · exact .inr (hnew a hm)
  rcases R.kinds x (List.mem_of_getElem? hi) with hl | ⟨hl, c, hc⟩
  · obtain ⟨m, hm⟩ := Rh.ns
    refine wpAny_storeName_local (s := { s with heap := h, toks := tk }) hl hm (fun h' hn hs => k h' (tk + 1) ?_ fun b o hb hf => hs.extBut b o (fun e => hf (e ▸ .inl rfl)) hb) (by rw [eo.scope, eo.kind]; rfl)
    refine main h' env.locals (.inl rfl) (fun b o hb e' => hs.extBut b o hb e') (fun b o hb hn' => nf_ne_ns hm hb hn') (.inl ⟨hl, _, hn, by simp⟩) (fun y hy hyx u hu => ?_) ⟨_, hn⟩ (fun y c' hc' => ?_)
    · rcases hu with ⟨hk', m', hm', hmy⟩ | ⟨hk', c', hc', hcell⟩
      · have : m = m' := by
          obtain ⟨o1, es1, ep1, g1, d1, _, f1⟩ := hm
          obtain ⟨o2, es2, ep2, g2, d2, _, f2⟩ := hm'
          have e1 : o1 = o2 := Option.some.inj (g1.symm.trans g2)
          subst e1
          rw [d1] at d2
          cases d2
          funext z
          rw [← f1 z, ← f2 z]
        subst this
        exact .inl ⟨hk', _, hn, by simp [hyx, hmy]⟩
      · refine .inr ⟨hk', c', hc', hcell.sameBut hs (ns_ne_cell hm hcell)⟩
    · obtain ⟨u, hu⟩ := Rh.cells y c' hc'
      exact ⟨u, hu.sameBut hs (ns_ne_cell hm hu)⟩
  · obtain ⟨v0, hv0⟩ := Rh.cells x c hc
    refine wpAny_storeName_cell (s := { s with heap := h, toks := tk }) (by rw [eo.scope]; exact eo.kind) hl hc hv0 fun h' hcell' hs => k h' tk ?_ fun b o hb hf => hs.extBut b o (fun e => hf (e ▸ .inr (.inl ⟨x, hc⟩))) hb
    obtain ⟨m, hm⟩ := Rh.ns
    refine main h' c (.inr (.inl ⟨x, hc⟩)) (fun b o hb e' => hs.extBut b o hb e') (fun b o hb hn' => nf_ne_cell hv0 hb hn') (.inr ⟨.inl hl, c, hc, hcell'⟩) (fun y hy hyx u hu => ?_) ⟨m, hm.sameBut hs (ns_ne_cell hm hv0).symm⟩ (fun y c' hc' => ?_)
    · rcases hu with ⟨hk', m', hm', hmy⟩ | ⟨hk', c', hc', hcell⟩
      · exact .inl ⟨hk', m', hm'.sameBut hs (ns_ne_cell hm' hv0).symm, hmy⟩
      · refine .inr ⟨hk', c', hc', hcell.sameBut hs fun e' => hyx ?_⟩
        subst e'
        exact name_of_addr R.apart (mem_of_lookup hc') (mem_of_lookup hc)
    · by_cases hcc : c' = c
      · subst hcc; exact ⟨_, hcell'⟩
      · obtain ⟨u, hu⟩ := Rh.cells y c' hc'
        exact ⟨u, hu.sameBut hs hcc⟩
theorem store_ok (ok : B.Ok) {X : Addr → Prop} {env : Env} {adr : List (List Addr)} {s : Shared} {ρ : List Slot} {h : Heap} {tk : Nat} {x : Str} {i : Nat} {v : Value} {sl : Slot} {as : List Addr} {A : Around} {M : Model} {E : Value → Shared → Prop} {Q : Unit → Shared → Prop}
    (eo : EnvOk sc env) (R : Rel B X env names ρ adr s.heap) (e : Ext s.heap h) (hi : names[i]? = some x) (sv : SlotVal B.P (Ex X (adr.set i as)) h v sl as) (hnew : ∀ a ∈ as, s.heap.get? a = none) (hnd : as.Nodup)
    (k : ∀ h' tk', Aft B X env names adr s.heap (ρ.set i sl) (adr.set i as) h' → Q () { s with heap := h', toks := tk' }) : wpAny M A (storeName env x v) Q E { s with heap := h, toks := tk } :=
  store_ok' ok eo R e hi sv hnew hnd fun h' tk' a _ => k h' tk' a
end
end Mine

namespace Mine
open PySem PySem.W PyProof.Rows

section
variable {B : Bd} {sc : Scope} {names : List Str} {n : Nat}

noncomputable def flat : T → Bool
  | .list _ => false
  | .tuple _ => false
  | .opq _ => false
  | _ => true
theorem flat_rep {P : Addr → Obj → Int → Prop} {X Y : Addr → Prop} {h h' : Heap} {t : T} {v : Value} (hf : flat t = true) (r : Rep P X h t v) : Rep P Y h' t v := by
  cases t <;> first | (simp only [Rep] at r ⊢; exact r) | cases hf
theorem flats_rep {P : Addr → Obj → Int → Prop} {X Y : Addr → Prop} {h h' : Heap} : ∀ {ts : List T} {vs : List Value}, ts.all flat = true → Reps P X h ts vs → Reps P Y h' ts vs
  | [], vs, _, r => by simpa only [Reps] using r
  | t :: ts, vs, hf, r => by
    simp only [Reps] at r ⊢
    rw [List.all_cons, Bool.and_eq_true] at hf
    obtain ⟨v, r0, rfl, h1, h2⟩ := r
    exact ⟨v, r0, rfl, flat_rep hf.1 h1, flats_rep hf.2 h2⟩

/-! ### blocks -/
noncomputable def sNil : Ds := fun ρ => some (.next, ρ)
noncomputable def sSeq (a b : Ds) : Ds := fun ρ => (a ρ).bind fun p => match p.1 with | .next => b p.2 | _ => some p
theorem b_nil : SoundB B sc names n [] sNil := by
  intro X env ρ adr s f ρ' A E eo rm R hd
  cases hd
  exact wpAny_execs_nil ⟨adr, s.heap, s.toks, rfl, Aft.refl R (Ext.refl _), trivial⟩
theorem b_cons {st : Stmt} {ss : List Stmt} {a b : Ds} (h : SoundS B sc names n st a) (g : SoundB B sc names n ss b) : SoundB B sc names n (st :: ss) (sSeq a b) := by
  intro X env ρ adr s f ρ' A E eo rm R hd
  unfold sSeq at hd
  obtain ⟨⟨f1, ρ1⟩, h1, hd⟩ := Option.bind_eq_some_iff.mp hd
  refine wpAny_execs_cons (wpAny_mono (h X env ρ adr s f1 ρ1 A E eo rm R h1) (fun f' s' q => ?_) fun _ _ z => z)
  obtain ⟨adr1, h', tk, rfl, a1, fo⟩ := q
  cases f1 with
  | next =>
    cases f' <;> simp only [FlOk] at fo
    refine wpAny_mono (g X env ρ1 adr1 _ f ρ' A E eo rm a1.rel hd) (fun f2 s2 q => ?_) fun _ _ z => z
    obtain ⟨adr2, h2, tk2, rfl, a2, fo2⟩ := q
    exact ⟨adr2, h2, tk2, rfl, a1.trans a2, fo2⟩
  | brk => cases f' <;> simp only [FlOk] at fo; cases hd; exact ⟨adr1, h', tk, rfl, a1, trivial⟩
  | cont => cases f' <;> simp only [FlOk] at fo; cases hd; exact ⟨adr1, h', tk, rfl, a1, trivial⟩
  | ret t => cases f' <;> simp only [FlOk] at fo; cases hd; exact ⟨adr1, h', tk, rfl, a1, fo⟩
/-! ### return -/
noncomputable def sRet (d : Dn) : Ds := fun ρ => (d (ρ.map Slot.rd)).map fun t => (.ret t, ρ)
theorem t_ret (ok : B.Ok) {e : Expr} {pos : Pos} {d : Dn} (h : SoundE B sc names n e d) : SoundS B sc names n (.Return (some e) pos) (sRet d) := by
  intro X env ρ adr s f ρ' A E eo rm R hd
  unfold sRet at hd
  obtain ⟨t, ht, hd⟩ := Option.map_eq_some_iff.mp hd
  cases hd
  exact wpAny_Return_some (h.use ok eo rm (R.cx ok) ht fun v h' tk e1 C1 r => ⟨adr, h', tk, rfl, Aft.refl (R.ext ok e1) e1, r⟩)

/-! ### assignments -/
/-- x = e: a plain value, or one that leads to no list of the frame's own -/
noncomputable def sSet (i : Nat) (d : Dn) : Ds := fun ρ => (d (ρ.map Slot.rd)).bind fun t => if flat t then some (.next, ρ.set i (.val t)) else (d (ρ.map Slot.cl)).map fun t' => (.next, ρ.set i (.val t'))
theorem set_val' (ok : B.Ok) {X : Addr → Prop} {env : Env} {adr : List (List Addr)} {s : Shared} {ρ : List Slot} {h : Heap} {tk : Nat} {x : Str} {i : Nat} {v : Value} {t : T} {A : Around} {M : Model} {E : Value → Shared → Prop} {Q : Unit → Shared → Prop}
    (eo : EnvOk sc env) (R : Rel B X env names ρ adr s.heap) (e : Ext s.heap h) (hi : names[i]? = some x) (r : Rep B.P (Ex X adr) h t v)
    (k : ∀ h' tk', Aft B X env names adr s.heap (ρ.set i (.val t)) (adr.set i []) h' → (∀ b o, h.get? b = some o → ¬ foot env adr b → h'.get? b = some o) → Q () { s with heap := h', toks := tk' }) : wpAny M A (storeName env x v) Q E { s with heap := h, toks := tk } :=
  store_ok' (sl := .val t) (as := []) ok eo R e hi ⟨rfl, Rep.frame ok.nf (fun b hb => .inl (hb.imp id fun ho => by
    rcases flatten_set_mem ho with ⟨j, bs, _, hj, hm⟩ | hm
    · exact inOwn_of hj hm
    · cases hm)) (fun _ _ e _ _ => e) t v r⟩ (fun _ ha => by cases ha) List.nodup_nil k
theorem set_val (ok : B.Ok) {X : Addr → Prop} {env : Env} {adr : List (List Addr)} {s : Shared} {ρ : List Slot} {h : Heap} {tk : Nat} {x : Str} {i : Nat} {v : Value} {t : T} {A : Around} {M : Model} {E : Value → Shared → Prop} {Q : Unit → Shared → Prop}
    (eo : EnvOk sc env) (R : Rel B X env names ρ adr s.heap) (e : Ext s.heap h) (hi : names[i]? = some x) (r : Rep B.P (Ex X adr) h t v)
    (k : ∀ h' tk', Aft B X env names adr s.heap (ρ.set i (.val t)) (adr.set i []) h' → Q () { s with heap := h', toks := tk' }) : wpAny M A (storeName env x v) Q E { s with heap := h, toks := tk } :=
  set_val' ok eo R e hi r fun h' tk' a _ => k h' tk' a
theorem t_set (ok : B.Ok) {x : Str} {i : Nat} {p pos : Pos} {e : Expr} {d : Dn} (h : SoundE B sc names n e d) (hi : names[i]? = some x := by kernel_rfl)
    (hs : ∀ env : Env, swapsWith e (some (.Name x p)) pos.line env = pure false := by intro _; rfl) : SoundS B sc names n (.Assign [.Name x p] e pos) (sSet i d) := by
  intro X env ρ adr s f ρ' A E eo rm R hd
  unfold sSet at hd
  obtain ⟨t, ht, hd⟩ := Option.bind_eq_some_iff.mp hd
  split at hd
  · rename_i hf
    cases hd
    exact wpAny_Assign_Name (h.use ok eo rm (R.cx ok) ht fun v h' tk e1 C1 r => set_val ok eo R e1 hi (flat_rep hf r) fun h2 tk2 a => ⟨_, h2, tk2, rfl, a, trivial⟩) (hs env)
  · obtain ⟨t', ht', hd⟩ := Option.map_eq_some_iff.mp hd
    cases hd
    exact wpAny_Assign_Name (h.use ok eo rm R.cxc ht' fun v h' tk e1 C1 r => set_val ok eo R e1 hi r fun h2 tk2 a => ⟨_, h2, tk2, rfl, a, trivial⟩) (hs env)

/-- x = e, a list that the run of e has made -/
noncomputable def sOwn (i : Nat) (d : Dn) : Ds := fun ρ => (d (ρ.map Slot.rd)).bind fun | .list xs => if xs.all flat then some (.next, ρ.set i (.own xs)) else none | _ => none
theorem set_own' (ok : B.Ok) {X : Addr → Prop} {env : Env} {adr : List (List Addr)} {s s' : Shared} {ρ : List Slot} {x : Str} {i : Nat} {v : Value} {xs : List T} {A : Around} {M : Model} {E : Value → Shared → Prop} {Q : Unit → Shared → Prop}
    (eo : EnvOk sc env) (R : Rel B X env names ρ adr s.heap) (hi : names[i]? = some x) (o : OutN B X s xs v s') (hf : xs.all flat = true)
    (k : ∀ h' tk', Aft B X env names adr s.heap (ρ.set i (.own xs)) (adr.set i [match v with | .ref a => a | _ => 0]) h' → (∀ b o, s'.heap.get? b = some o → ¬ foot env adr b → h'.get? b = some o) → Q () { s with heap := h', toks := tk' }) : wpAny M A (storeName env x v) Q E s' := by
  obtain ⟨⟨h', tk, rfl, e⟩, a, vs, rfl, hn, hp, hr⟩ := o
  exact store_ok' (sl := .own xs) (as := [a]) ok eo R e hi ⟨a, vs, rfl, rfl, hp, flats_rep hf hr⟩ (fun b hb => by rw [List.mem_singleton.mp hb]; exact hn) (by simp) k
theorem set_own (ok : B.Ok) {X : Addr → Prop} {env : Env} {adr : List (List Addr)} {s s' : Shared} {ρ : List Slot} {x : Str} {i : Nat} {v : Value} {xs : List T} {A : Around} {M : Model} {E : Value → Shared → Prop} {Q : Unit → Shared → Prop}
    (eo : EnvOk sc env) (R : Rel B X env names ρ adr s.heap) (hi : names[i]? = some x) (o : OutN B X s xs v s') (hf : xs.all flat = true)
    (k : ∀ h' tk', Aft B X env names adr s.heap (ρ.set i (.own xs)) (adr.set i [match v with | .ref a => a | _ => 0]) h' → Q () { s with heap := h', toks := tk' }) : wpAny M A (storeName env x v) Q E s' := by
  exact set_own' ok eo R hi o hf fun h' tk' a _ => k h' tk' a
theorem t_own (ok : B.Ok) {x : Str} {i : Nat} {p pos : Pos} {e : Expr} {d : Dn} (h : SoundF B sc names n e d) (hi : names[i]? = some x := by kernel_rfl)
    (hs : ∀ env : Env, swapsWith e (some (.Name x p)) pos.line env = pure false := by intro _; rfl) : SoundS B sc names n (.Assign [.Name x p] e pos) (sOwn i d) := by
  intro X env ρ adr s f ρ' A E eo rm R hd
  unfold sOwn at hd
  obtain ⟨t, ht, hd⟩ := Option.bind_eq_some_iff.mp hd
  match t, hd, ht with
  | .list xs, hd, ht =>
    simp only at hd
    split at hd
    · rename_i hf
      cases hd
      refine wpAny_Assign_Name (wpAny_mono (h X env _ s xs A _ eo rm (R.cx ok) ht) (fun v s' o => ?_) fun _ _ z => z) (hs env)
      exact set_own ok eo R hi o hf fun h2 tk2 a => ⟨_, h2, tk2, rfl, a, trivial⟩
    · cases hd

/-! ### a list of the frame's own is given up: from now on it is a value -/
/-! ### if, while -/
noncomputable def sIf (c : Db) (a b : Ds) : Ds := fun ρ => (c (ρ.map Slot.rd)).bind fun x => if x then a ρ else b ρ
theorem t_if (ok : B.Ok) {c : Expr} {ss ts : List Stmt} {pos : Pos} {p : Db} {a b : Ds} (hc : SoundC B sc names n c p) (h : SoundB B sc names n ss a) (g : SoundB B sc names n ts b) : SoundS B sc names n (.If c ss ts pos) (sIf p a b) := by
  intro X env ρ adr s f ρ' A E eo rm R hd
  unfold sIf at hd
  obtain ⟨x, hx, hd⟩ := Option.bind_eq_some_iff.mp hd
  refine wpAny_If (hc.use ok eo rm (R.cx ok) hx fun h' tk e1 C1 => ?_)
  have R1 := R.ext ok e1
  have fin : ∀ f' s', After B X env names adr { s with heap := h', toks := tk } f ρ' f' s' → After B X env names adr s f ρ' f' s' := fun f' s' q => by
    obtain ⟨adr2, h2, tk2, rfl, a2, fo⟩ := q
    exact ⟨adr2, h2, tk2, rfl, (Aft.refl R1 e1).trans a2, fo⟩
  cases x with
  | true => simp only [if_true] at hd ⊢; exact wpAny_mono (h X env ρ adr _ f ρ' A E eo rm R1 hd) (fun f' s' q => fin f' s' q) fun _ _ z => z
  | false => simp only [Bool.false_eq_true, if_false] at hd ⊢; exact wpAny_mono (g X env ρ adr _ f ρ' A E eo rm R1 hd) (fun f' s' q => fin f' s' q) fun _ _ z => z

/-- a while, at most k turns -/
noncomputable def sWhileN (c : Db) (b : Ds) : Nat → Ds
  | 0, _ => none
  | k + 1, ρ => (c (ρ.map Slot.rd)).bind fun x => if x then (b ρ).bind fun p => match p.1 with | .next => sWhileN c b k p.2 | .cont => sWhileN c b k p.2 | .brk => some (.next, p.2) | .ret t => some (.ret t, p.2) else some (.next, ρ)
noncomputable def sWhile (c : Db) (b : Ds) : Ds := sWhileN c b 1000
theorem t_while (ok : B.Ok) {c : Expr} {ss : List Stmt} {pos : Pos} {p : Db} {b : Ds} (hc : SoundC B sc names n c p) (h : SoundB B sc names n ss b) : SoundS B sc names n (.While c ss [] pos) (sWhile p b) := by
  intro X env ρ adr s f ρ' A E eo rm R hd
  refine wpAny_While ?_
  refine codeAny_whileLoop (fun k s' => ∃ ρ1 adr1 h1 tk1, s' = { s with heap := h1, toks := tk1 } ∧ Aft B X env names adr s.heap ρ1 adr1 h1 ∧ sWhileN p b k ρ1 = some (f, ρ')) ?_ 1000 ⟨ρ, adr, s.heap, s.toks, rfl, Aft.refl R (Ext.refl _), hd⟩
  rintro k s' ⟨ρ1, adr1, h1, tk1, rfl, a1, hd⟩
  cases k with
  | zero => simp [sWhileN] at hd
  | succ k =>
    simp only [sWhileN] at hd
    obtain ⟨x, hx, hd⟩ := Option.bind_eq_some_iff.mp hd
    refine hc.use (s := { s with heap := h1, toks := tk1 }) ok eo rm (a1.rel.cx ok) hx fun h2 tk2 e2 C2 => ?_
    have R2 := a1.rel.ext ok e2
    have a2 := a1.trans (Aft.refl R2 e2)
    cases x with
    | false =>
      simp only [Bool.false_eq_true, if_false] at hd ⊢
      cases hd
      exact wpAny_execs_nil ⟨adr1, h2, tk2, rfl, a2, trivial⟩
    | true =>
      simp only [if_true] at hd ⊢
      obtain ⟨⟨f3, ρ3⟩, h3, hd⟩ := Option.bind_eq_some_iff.mp hd
      refine wpAny_mono (h X env ρ1 adr1 { s with heap := h2, toks := tk2 } f3 ρ3 A _ eo rm R2 h3) (fun f' s' q => ?_) fun _ _ z => z
      obtain ⟨adr4, h4, tk4, rfl, a4, fo⟩ := q
      have a5 := a2.trans a4
      cases f3 with
      | next => cases f' <;> simp only [FlOk] at fo; exact ⟨k, Nat.lt_succ_self _, ρ3, adr4, h4, tk4, rfl, a5, hd⟩
      | cont => cases f' <;> simp only [FlOk] at fo; exact ⟨k, Nat.lt_succ_self _, ρ3, adr4, h4, tk4, rfl, a5, hd⟩
      | brk => cases f' <;> simp only [FlOk] at fo; cases hd; exact ⟨adr4, h4, tk4, rfl, a5, trivial⟩
      | ret t => cases f' <;> simp only [FlOk] at fo; cases hd; exact ⟨adr4, h4, tk4, rfl, a5, fo⟩
end
end Mine

namespace Mine
open PySem PySem.W PyProof.Rows

section
variable {B : Bd} {sc : Scope} {names : List Str} {n : Nat}

theorem Rel.change (ok : B.Ok) {X X' : Addr → Prop} {env : Env} {adr : List (List Addr)} {h h' : Heap} {ρ : List Slot} (R : Rel B X' env names ρ adr h) (hX : ∀ a, X a → X' a) (Wr : Addr → Prop) (hW : ∀ a, Wr a → X' a)
    (hk : ∀ b o, ¬ Wr b → h.get? b = some o → h'.get? b = some o) (hbd : ∀ b, Wr b → B.hb.get? b = none) (al : ∀ a, X a → ∃ o, h'.get? a = some o) : Rel B X env names ρ adr h' := by
  have kf : ∀ b o, foot env adr b → h.get? b = some o → h'.get? b = some o := fun b o hf hb => hk b o (fun hw => R.xoff b (hW b hw) hf) hb
  refine ⟨fun b o hb => hk b o (fun hw => by rw [hbd b hw] at hb; cases hb) (R.hb b o hb), al, fun a ha => R.xoff a (hX a ha), R.boff, ?_, fun x c hc => ?_, R.apart, R.kinds, R.nodup, R.len, R.lenA, fun i x sl as h1 h2 h3 => ?_, R.dis⟩
  · obtain ⟨m, hm⟩ := R.ns
    exact ⟨m, hm.at' fun o e => kf _ o (.inl rfl) e⟩
  · obtain ⟨v, o, ho, hd⟩ := R.cells x c hc
    exact ⟨v, o, kf c o (.inr (.inl ⟨x, hc⟩)) ho, hd⟩
  · rcases R.slots i x sl as h1 h2 h3 with hu | ⟨v, hv, hs⟩
    · exact .inl hu
    · refine .inr ⟨v, ?_, hs.frame ok.nf (fun b hb => .inl (hb.imp (hX b) id)) (fun b o hb _ hn => hk b o (fun hw => hn (.inl (hW b hw))) hb) fun b hb o ho => kf b o (.inr (.inr (inOwn_of h3 hb))) ho⟩
      rcases hv with ⟨hl, m, hm, hmx⟩ | ⟨hl, c, hc, o, ho, hd⟩
      · exact .inl ⟨hl, m, hm.at' fun o e => kf _ o (.inl rfl) e, hmx⟩
      · exact .inr ⟨hl, c, hc, o, kf c o (.inr (.inl ⟨x, hc⟩)) ho, hd⟩

theorem Rel.notFoot {X : Addr → Prop} {env : Env} {adr : List (List Addr)} {h : Heap} {ρ : List Slot} (R : Rel B X env names ρ adr h) {b : Addr} {o : Obj} (ho : h.get? b = some o) (hn : NF o) (hx : ¬ inOwn adr b) : ¬ foot env adr b := fun hf => by
  rcases hf with rfl | ⟨x, hc⟩ | hh
  · obtain ⟨m, hm⟩ := R.ns; exact nf_ne_ns hm ho hn rfl
  · obtain ⟨v, hv⟩ := R.cells x b hc; exact nf_ne_cell hv ho hn rfl
  · exact hx hh
theorem Aft.rep (ok : B.Ok) {X : Addr → Prop} {env : Env} {adr adr' : List (List Addr)} {h h' : Heap} {ρ ρ' : List Slot} {t : T} {v : Value} (R : Rel B X env names ρ adr h) (a : Aft B X env names adr h ρ' adr' h') (r : Rep B.P (Ex X adr) h t v) : Rep B.P (Ex X adr') h' t v :=
  Rep.frame ok.nf (fun b hb => hb.elim (fun h => .inl (.inl h)) fun ho => (a.new b ho).imp .inr id) (fun b o ho hn hx => a.pres b o ho (R.notFoot ho hn fun h => hx (.inr h))) t v r

noncomputable def sForN (i : Nat) (b : Ds) : List T → Ds
  | [], ρ => some (.next, ρ)
  | x :: xs, ρ => (b (ρ.set i (.val x))).bind fun p => match p.1 with | .next => sForN i b xs p.2 | .cont => sForN i b xs p.2 | .brk => some (.next, p.2) | .ret t => some (.ret t, p.2)

theorem for_iter (ok : B.Ok) {X : Addr → Prop} {env : Env} {adr : List (List Addr)} {s : Shared} {ρ ρ' : List Slot} {f : Fl} {h2 : Heap} {tk2 : Nat} {A : Around} {E : Value → Shared → Prop} {x : Str} {ix : Nat} {px : Pos} {body : List Stmt} {b : Ds} {xs : List T} {I : Addr} {fp wr : List Addr} {P : Nat → Value → Prop} {St : Nat → Heap → Prop}
    (eo : EnvOk sc env) (rm : Room n A) (R : Rel B X env names ρ adr s.heap) (e2 : Ext s.heap h2) (hix : names[ix]? = some x) (hb : SoundB B sc names n body b) (it : Iter B (Ex X adr) A xs I fp wr P St s.heap h2) (hd : sForN ix b xs ρ = some (f, ρ')) :
    codeAny (model B.prog B.w) A (.forLoop (.Name x px) (.ref I) body [] env) (fun r s' => match r with | .ok f' => After B X env names adr s f ρ' f' s' | .error e => cameBackBy (model B.prog B.w) A env E e s') { s with heap := h2, toks := tk2 } := by
  let X' : Addr → Prop := fun a => X a ∨ a ∈ wr
  have hXX' : ∀ a, X a → X' a := fun a ha => .inl ha
  have hWX' : ∀ a, a ∈ wr → X' a := fun a ha => .inr ha
  have hbd : ∀ b, b ∈ wr → B.hb.get? b = none := fun b hb => by
    cases q : B.hb.get? b with
    | none => rfl
    | some o => have := R.hb b o q; rw [it.fresh b hb] at this; cases this
  have hXw : ∀ a, X a → a ∉ wr := fun a ha hw => by obtain ⟨o, ho⟩ := R.al a ha; rw [it.fresh a hw] at ho; cases ho
  have Rn : Rel B X' env names ρ adr h2 := by
    have R2 := R.ext ok e2
    refine ⟨R2.hb, fun a ha => ha.elim (R2.al a) fun hw => it.wal 0 h2 it.st a hw, fun a ha hf => ha.elim (fun h => R.xoff a h hf) fun hw => ?_, R.boff, R2.ns, R2.cells, R.apart, R.kinds, R.nodup, R.len, R.lenA, fun i y sl as q1 q2 q3 => ?_, R.dis⟩
    · obtain ⟨o, ho⟩ := R.footAlive a hf; rw [it.fresh a hw] at ho; cases ho
    · rcases R.slots i y sl as q1 q2 q3 with hu | ⟨v, hv, hs⟩
      · exact .inl hu
      · exact .inr ⟨v, hv.ext e2, hs.frame ok.nf (fun b hb => by
          rcases hb with (hb | hb) | hb
          · exact .inl (.inl hb)
          · exact .inr (it.fresh b hb)
          · exact .inl (.inr hb)) (fun b o hb _ _ => e2 b o hb) fun b _ o hb => e2 b o hb⟩
  refine codeAny_forLoop (fun k s' => ∃ i ρi adri hi tki, s' = { s with heap := hi, toks := tki } ∧ i ≤ xs.length ∧ k = xs.length + 1 - i ∧ Rel B X' env names ρi adri hi ∧ (∀ b o, h2.get? b = some o → ¬ foot env adr b → b ∉ wr → hi.get? b = some o) ∧
      (∀ a, inOwn adri a → inOwn adr a ∨ h2.get? a = none) ∧ St i hi ∧ (∀ j v, P j v → j < xs.length → ∃ t, xs[j]? = some t ∧ Rep B.P (Ex X' adri) hi t v) ∧ (∀ b ∈ fp, b ∈ wr ∨ ∃ o, hi.get? b = some o ∧ NF o ∧ ¬ Ex X' adri b) ∧
      sForN ix b (xs.drop i) ρi = some (f, ρ')) ?_ (xs.length + 1)
    ⟨0, ρ, adr, h2, tk2, rfl, Nat.zero_le _, rfl, Rn, fun b o hb _ _ => hb, fun a ha => .inl ha, it.st, fun j v hP hj => ?_, fun b hb => ?_, by simpa using hd⟩
  · rintro k s' ⟨i, ρi, adri, hi, tki, rfl, hile, rfl, Ri, pres, new, st, held, rest, hd⟩
    by_cases hlt : i < xs.length
    · obtain ⟨xi, hxi⟩ : ∃ xi, xs[i]? = some xi := ⟨xs[i], List.getElem?_eq_getElem hlt⟩
      have hdrop : xs.drop i = xi :: xs.drop (i + 1) := by
        rw [List.drop_eq_getElem_cons hlt]
        have := List.getElem?_eq_getElem hlt
        rw [hxi] at this
        rw [Option.some.inj this]
      rw [hdrop] at hd
      simp only [sForN] at hd
      obtain ⟨⟨f3, ρ3⟩, h3, hd⟩ := Option.bind_eq_some_iff.mp hd
      refine it.walks.item i _ _ _ hlt st fun v h1 tk1 hP st1 hk1 => ?_
      have hk1' : ∀ b o, ¬ (b ∈ wr) → hi.get? b = some o → h1.get? b = some o := fun b o hb e => hk1 b o hb e
      have al1 : ∀ a, X' a → ∃ o, h1.get? a = some o := fun a ha => by
        by_cases hw : a ∈ wr
        · exact it.wal (i + 1) h1 st1 a hw
        · obtain ⟨o, ho⟩ := Ri.al a ha; exact ⟨o, hk1' a o hw ho⟩
      have R1 : Rel B X' env names ρi adri h1 := Ri.change ok (fun _ h => h) (· ∈ wr) hWX' hk1' hbd al1
      obtain ⟨t, ht, hrep⟩ := held i v hP hlt
      have htx : t = xi := by rw [hxi] at ht; exact (Option.some.inj ht).symm
      subst htx
      have toh1 : ∀ {t : T} {v : Value}, Rep B.P (Ex X' adri) hi t v → Rep B.P (Ex X' adri) h1 t v := fun r => Rep.frame ok.nf (fun _ hb => .inl hb) (fun b o hb _ hx => hk1' b o (fun hw => hx (.inl (hWX' b hw))) hb) _ _ r
      refine wpAny_assign_Name (set_val (s := { s with heap := h1, toks := tk1 }) ok eo R1 (Ext.refl _) hix (toh1 hrep) fun h4 tk4 a4 => ?_)
      refine wpAny_mono (hb X' env _ _ { s with heap := h4, toks := tk4 } f3 ρ3 A _ eo rm a4.rel h3) (fun f' s' q => ?_) fun _ _ z => z
      obtain ⟨adr5, h5, tk5, rfl, a5, fo⟩ := q
      have a6 := a4.trans a5
      have pres5 : ∀ b o, h2.get? b = some o → ¬ foot env adr b → b ∉ wr → h5.get? b = some o := fun b o hb hf hw => a6.pres b o (hk1' b o hw (pres b o hb hf hw)) fun hf' => by
        rcases hf' with rfl | hc | ho
        · exact hf (.inl rfl)
        · exact hf (.inr (.inl hc))
        · rcases new b ho with q | q
          · exact hf (.inr (.inr q))
          · rw [hb] at q; cases q
      have new5 : ∀ a, inOwn adr5 a → inOwn adr a ∨ h2.get? a = none := fun a ha => by
        rcases a6.new a ha with q | q
        · exact new a q
        · by_cases ho : inOwn adr a
          · exact .inl ho
          · right
            cases qq : h2.get? a with
            | none => rfl
            | some o =>
              by_cases hw : a ∈ wr
              · obtain ⟨o', ho'⟩ := al1 a (hWX' a hw); rw [q] at ho'; cases ho'
              · by_cases hf : foot env adr a
                · rcases hf with rfl | ⟨y, hc⟩ | hh
                  · obtain ⟨m, o', es, ep, hg, _⟩ := R1.ns; rw [q] at hg; cases hg
                  · obtain ⟨u, o', hg, _⟩ := R1.cells y a hc; rw [q] at hg; cases hg
                  · exact absurd hh ho
                · have := hk1' a o hw (pres a o qq hf hw); rw [q] at this; cases this
      have final : ∀ (f' : Flow), FlOk B X' h5 f f' → ρ3 = ρ' → After B X env names adr s f ρ' f' { s with heap := h5, toks := tk5 } := fun f' fo' e' => by
        subst e'
        refine ⟨adr5, h5, tk5, rfl, ⟨a5.rel.change ok hXX' (fun _ => False) (fun _ h => h.elim) (fun b o _ e => e) (fun _ h => h.elim) fun a ha => a5.rel.al a (hXX' a ha), fun b o hb hf => pres5 b o (e2 b o hb) hf fun hw => ?_, fun a ha => ?_⟩, ?_⟩
        · rw [it.fresh b hw] at hb; cases hb
        · rcases new5 a ha with q | q
          · exact .inl q
          · right
            cases qq : s.heap.get? a with
            | none => rfl
            | some o => have := e2 a o qq; rw [q] at this; cases this
        · cases f with
          | ret t => cases f' <;> simp only [FlOk] at fo' ⊢; exact Rep.frame ok.nf (fun b hb => .inl (hXX' b hb)) (fun _ _ e _ _ => e) _ _ fo'
          | _ => cases f' <;> simp only [FlOk] at fo' ⊢
      have cont : sForN ix b (xs.drop (i + 1)) ρ3 = some (f, ρ') → ∃ m, m < xs.length + 1 - i ∧ ∃ i' ρi' adri' hi' tki', ({ s with heap := h5, toks := tk5 } : Shared) = { s with heap := hi', toks := tki' } ∧ i' ≤ xs.length ∧ m = xs.length + 1 - i' ∧ Rel B X' env names ρi' adri' hi' ∧ (∀ b o, h2.get? b = some o → ¬ foot env adr b → b ∉ wr → hi'.get? b = some o) ∧
          (∀ a, inOwn adri' a → inOwn adr a ∨ h2.get? a = none) ∧ St i' hi' ∧ (∀ j v, P j v → j < xs.length → ∃ t, xs[j]? = some t ∧ Rep B.P (Ex X' adri') hi' t v) ∧ (∀ b ∈ fp, b ∈ wr ∨ ∃ o, hi'.get? b = some o ∧ NF o ∧ ¬ Ex X' adri' b) ∧
          sForN ix b (xs.drop i') ρi' = some (f, ρ') := fun hd => by
        refine ⟨xs.length + 1 - (i + 1), by omega, i + 1, ρ3, adr5, h5, tk5, rfl, hlt, rfl, a5.rel, pres5, new5, ?_, fun j v hP hj => ?_, fun b hb => ?_, hd⟩
        · refine it.walks.frame (i + 1) h1 h5 st1 fun b hb o ho => a6.pres b o ho ?_
          rcases rest b hb with hw | ⟨o', ho', hn, hx⟩
          · exact R1.xoff b (hWX' b hw)
          · have ho1 := hk1' b o' (fun hw => hx (.inl (hWX' b hw))) ho'
            exact R1.notFoot ho1 hn fun h => hx (.inr h)
        · obtain ⟨t, ht, hr⟩ := held j v hP hj
          exact ⟨t, ht, a6.rep ok R1 (toh1 hr)⟩
        · rcases rest b hb with hw | ⟨o', ho', hn, hx⟩
          · exact .inl hw
          · right
            have ho1 := hk1' b o' (fun hw => hx (.inl (hWX' b hw))) ho'
            refine ⟨o', a6.pres b o' ho1 (R1.notFoot ho1 hn fun h => hx (.inr h)), hn, fun hx5 => ?_⟩
            rcases hx5 with hx5 | hx5
            · exact hx (.inl hx5)
            · rcases a6.new b hx5 with q | q
              · exact hx (.inr q)
              · rw [ho1] at q; cases q
      cases f3 with
      | next => cases f' <;> simp only [FlOk] at fo; exact cont hd
      | cont => cases f' <;> simp only [FlOk] at fo; exact cont hd
      | brk => cases f' <;> simp only [FlOk] at fo; cases hd; exact final .next trivial rfl
      | ret t => cases f' <;> simp only [FlOk] at fo; cases hd; exact final _ fo rfl
    · have hin : i = xs.length := by omega
      subst hin
      refine it.walks.done _ _ _ st fun h1 tk1 hk1 => wpAny_execs_nil ?_
      rw [List.drop_length] at hd
      simp only [sForN] at hd
      cases hd
      refine ⟨adri, h1, tk1, rfl, ⟨Ri.change ok hXX' (· ∈ wr) hWX' (fun b o hb e => hk1 b o hb e) hbd fun a ha => ?_, fun b o hb hf => ?_, fun a ha => ?_⟩, trivial⟩
      · obtain ⟨o, ho⟩ := Ri.al a (hXX' a ha); exact ⟨o, hk1 a o (hXw a ha) ho⟩
      · have hw : b ∉ wr := fun hw => by rw [it.fresh b hw] at hb; cases hb
        exact hk1 b o hw (pres b o (e2 b o hb) hf hw)
      · rcases new a ha with q | q
        · exact .inl q
        · right
          cases qq : s.heap.get? a with
          | none => rfl
          | some o => have := e2 a o qq; rw [q] at this; cases this
  · obtain ⟨t, ht, hr⟩ := it.held j v hP hj
    refine ⟨t, ht, Rep.frame ok.nf (fun b hb => .inl ?_) (fun _ _ e _ _ => e) t v hr⟩
    rcases hb with (hb | hb) | hb
    · exact .inl (.inl hb)
    · exact .inr hb
    · exact .inl (.inr hb)
  · rcases it.rest b hb with hw | ⟨o, ho, hn, hx⟩
    · exact .inl hw
    · by_cases hw : b ∈ wr
      · exact .inl hw
      · refine .inr ⟨o, ho, hn, fun hx' => ?_⟩
        rcases hx' with (h1 | h1) | h1
        · exact hx (.inl h1)
        · exact hw h1
        · exact hx (.inr h1)

/-- for x in a range -/
noncomputable def sForR (i : Nat) (src : Dl) (b : Ds) : Ds := fun ρ => (src (ρ.map Slot.rd)).bind fun xs => sForN i b xs ρ
theorem t_forR (ok : B.Ok) {x : Str} {i : Nat} {px pos : Pos} {iter : Expr} {body : List Stmt} {src : Dl} {b : Ds} (hs : SoundR B sc names n iter src) (hb : SoundB B sc names n body b) (hi : names[i]? = some x := by kernel_rfl)
    (hf : ∀ (env : Env) x, foldedSetIterable iter env x = pure x := by intro _ _; rfl) : SoundS B sc names n (.For (.Name x px) iter body [] pos) (sForR i src b) := by
  intro X env ρ adr s f ρ' A E eo rm R hd
  unfold sForR at hd
  obtain ⟨xs, hxs, hd⟩ := Option.bind_eq_some_iff.mp hd
  refine wpAny_For (wpAny_mono (hs X env _ s xs A _ eo rm (R.cx ok) hxs).2 (fun xv s1 q => wpAny_mono q (fun it s2 q => ?_) fun _ _ z => z) fun _ _ z => z) (hf env)
  obtain ⟨⟨h2, tk2, rfl, e2⟩, I, fp, wr, P, St, rfl, it⟩ := q
  exact for_iter ok eo rm R e2 hi hb (it (Ex X adr)) hd
end
end Mine

namespace Mine
open PySem PySem.W PyProof.Rows

section
variable {B : Bd} {sc : Scope} {names : List Str} {n : Nat}

theorem Rel.ownAt {X : Addr → Prop} {env : Env} {adr : List (List Addr)} {h : Heap} {ρ : List Slot} (R : Rel B X env names ρ adr h) {i : Nat} {x : Str} {xs : List T} (hi : names[i]? = some x) (hr : ρ[i]? = some (.own xs)) :
    ∃ a vs, adr[i]? = some [a] ∧ VarIs env h x (.ref a) ∧ h.PlainList a (List.toArray vs) ∧ Reps B.P (Ex X adr) h xs vs := by
  have hlt : i < adr.length := by rw [R.lenA]; exact (List.getElem?_eq_some_iff.mp hi).1
  have h3 : adr[i]? = some adr[i] := List.getElem?_eq_getElem hlt
  rcases R.slots i x _ _ hi hr h3 with ⟨h, _⟩ | ⟨v, hv, a, vs, has, rfl, hp, hrep⟩
  · cases h
  · exact ⟨a, vs, by rw [h3, has], hv, hp, hrep⟩
/-- a list of the frame's own has changed -/
theorem Rel.mut (ok : B.Ok) {X : Addr → Prop} {env : Env} {adr : List (List Addr)} {h h' : Heap} {ρ : List Slot} (R : Rel B X env names ρ adr h) {i : Nat} {x : Str} {a : Addr} {xs' : List T} {vs' : List Value} (hi : names[i]? = some x) (ha : adr[i]? = some [a])
    (hv : VarIs env h x (.ref a)) (hk : ∀ b o, b ≠ a → h.get? b = some o → h'.get? b = some o) (hp : h'.PlainList a (List.toArray vs')) (hf : ∀ Y h, Reps B.P Y h xs' vs') : Aft B X env names adr h (ρ.set i (.own xs')) adr h' := by
  have hin : inOwn adr a := inOwn_of ha List.mem_cons_self
  obtain ⟨items, m0, hpa⟩ := R.ownPlain hin
  have hfa : foot env adr a := .inr (.inr hin)
  have kL : ∀ o, h.get? env.locals = some o → h'.get? env.locals = some o := fun o ho => hk _ o (fun e => by obtain ⟨m, hm⟩ := R.ns; exact nf_ne_ns hm hpa (NF.seq rfl) e.symm) ho
  have kC : ∀ x c, env.cells.lookup x = some c → ∀ o, h.get? c = some o → h'.get? c = some o := fun x c hc o ho => hk _ o (fun e => by obtain ⟨v, hv⟩ := R.cells x c hc; exact nf_ne_cell hv hpa (NF.seq rfl) e.symm) ho
  have kV : ∀ y u, VarIs env h y u → VarIs env h' y u := fun y u hu => by
    rcases hu with ⟨hl, m, hm, hmx⟩ | ⟨hl, c, hc, o, ho, hd⟩
    · exact .inl ⟨hl, m, hm.at' kL, hmx⟩
    · exact .inr ⟨hl, c, hc, o, kC y c hc o ho, hd⟩
  refine ⟨⟨fun b o hb => hk b o (fun e => by subst e; rw [R.boff b hfa] at hb; cases hb) (R.hb b o hb), fun c hc => ?_, R.xoff, R.boff, ?_, fun y c hc => ?_, R.apart, R.kinds, R.nodup, by rw [List.length_set]; exact R.len, R.lenA, fun j y sl as h1 h2 h3 => ?_, R.dis⟩, fun b o hb hf' => hk b o (fun e => hf' (e ▸ hfa)) hb, fun b hb => .inl hb⟩
  · obtain ⟨o, ho⟩ := R.al c hc
    exact ⟨o, hk c o (fun e => R.xoff c hc (e ▸ hfa)) ho⟩
  · obtain ⟨m, hm⟩ := R.ns
    exact ⟨m, hm.at' kL⟩
  · obtain ⟨v, o, ho, hd⟩ := R.cells y c hc
    exact ⟨v, o, kC y c hc o ho, hd⟩
  · rw [List.getElem?_set] at h2
    by_cases hij : i = j
    · subst hij
      rw [if_pos rfl] at h2
      split at h2
      · cases h2
        have hy : x = y := by rw [hi] at h1; exact Option.some.inj h1
        subst hy
        have hasq : as = [a] := by rw [ha] at h3; exact (Option.some.inj h3).symm
        subst hasq
        exact .inr ⟨_, kV _ _ hv, a, vs', rfl, rfl, hp, hf _ _⟩
      · cases h2
    · rw [if_neg hij] at h2
      rcases R.slots j y sl as h1 h2 h3 with hu | ⟨u, hu, hs⟩
      · exact .inl hu
      · refine .inr ⟨u, kV _ _ hu, hs.frame ok.nf (fun _ hb => .inl hb) (fun b o hb _ hx => hk b o (fun e => hx (.inr (e ▸ hin))) hb) fun b hb o ho => hk b o (fun e => ?_) ho⟩
        subst e
        exact dis_slots R.dis hij ha h3 List.mem_cons_self hb

theorem setItem_plain {prog : Program} {w : World} {A : Around} {E : Value → Shared → Prop} {s : Shared} {l : Addr} {vs : List Value} {k : Int} {t : Tok} {v : Value} {Q : Unit → Shared → Prop} (hl : s.heap.PlainList l vs.toArray)
    (h0 : 0 ≤ k) (hfit : k < 2 ^ 63) (hn : k < vs.length)
    (hQ : ∀ h', h'.PlainList l (vs.set k.toNat v).toArray → Heap.SameBut l s.heap h' → Q () { s with heap := h' }) : wpAny (model prog w) A (setItem (.ref l) (.int k t) v) Q E s := by
  obtain ⟨n, ho⟩ := id hl
  have hl' := hl.isList
  unfold setItem
  try with_reducible refine wpAny_holding ?_
  first | refine wpAny_bind (wpAny_pure ?_) | skip
  refine wpAny_bind (wpAny_sequenceKey hl'.typeIs (by decide) ?_)
  refine wpAny_bind (wpAny_callSpecial?_slot (name := Str.ofString "__setitem__") hl'.typeIs slot_list_setitem
    (wpAny_call_entry slot_list_setitem hl'.typeIs entry_list_setitem ?_ (args_list_setitem _ _ _)))
  show wpAny _ _ (Builtin.List.listSubscript? (.int k t) >>= _) _ _ s
  refine wpAny_bind (wpAny_listSubscript_int (fitsIndex_of h0 hfit) ?_)
  clear hfit
  obtain ⟨j, rfl⟩ := Int.eq_ofNat_of_zero_le h0
  have hj : j < vs.toArray.size := by rw [List.size_toArray]; omega
  have hx' : vs.toArray[j]? = some vs.toArray[j] := Array.getElem?_eq_getElem hj
  show wpAny _ _ ((seqItemAt l j >>= fun r => pure (r.map (j, ·))) >>= _) _ _ s
  refine wpAny_bind (wpAny_bind (wpAny_seqItemAt ho rfl (wpAny_pure ?_)))
  rw [hx']
  show wpAny _ _ (setSeqItemAt l j v >>= _) _ _ s
  have hfin : (s.heap.update l (Obj.mapSeq (·.setIfInBounds j v))).PlainList l (vs.set j v).toArray := by
    refine ⟨n, ?_⟩
    rw [Heap.get?_update_self _ ho rfl]
    simp [Obj.mapSeq]
  refine wpAny_bind (wpAny_setSeqItemAt ho rfl ?_)
  first
    | exact wpAny_bind (wpAny_pure (wpAny_pure ⟨.none, rfl, wpAny_pure (hQ _ hfin (Heap.SameBut.update ..))⟩))
    | exact wpAny_pure ⟨.none, rfl, wpAny_pure (hQ _ hfin (Heap.SameBut.update ..))⟩

theorem reps_set {P : Addr → Obj → Int → Prop} {Y : Addr → Prop} {h : Heap} : ∀ {xs : List T} {vs : List Value} {t : T} {v : Value} (k : Nat), Reps P Y h xs vs → Rep P Y h t v → Reps P Y h (xs.set k t) (vs.set k v)
  | [], vs, t, v, k, r, _ => by simp only [Reps] at r; subst r; simp [Reps]
  | x :: xs, vs, t, v, k, r, rt => by
    simp only [Reps] at r
    obtain ⟨u, us, rfl, h1, h2⟩ := r
    cases k with
    | zero => simp only [List.set_cons_zero, Reps]; exact ⟨v, us, rfl, rt, h2⟩
    | succ k => simp only [List.set_cons_succ, Reps]; exact ⟨u, us.set k v, rfl, h1, reps_set k h2 rt⟩
/-- the own list in slot i, put another way -/
noncomputable def upd (i : Nat) (g : List T → Option (List T)) (ρ : List Slot) : Option (List Slot) := match ρ[i]? with | some (.own xs) => if xs.all flat && decide (xs.length ≤ 1000) then (g xs).bind fun ys => if ys.all flat then some (ρ.set i (.own ys)) else none else none | _ => none

/-- x[k] = e -/
noncomputable def sPut (i : Nat) (k v : Dn) : Ds := fun ρ => (v (ρ.map Slot.rd)).bind fun y => (k (ρ.map Slot.rd)).bind fun j => match j with | .int j => (upd i (fun xs => if 0 ≤ j ∧ j < xs.length then some (xs.set j.toNat y) else none) ρ).map fun r => (.next, r) | _ => none
/-! ### augmented assignments of ints -/
noncomputable def IOpSound (B : Bd) (op : Operator) (f : Int → Int → Int) : Prop :=
  ∀ (A : Around) (s : Shared) (a b : Int) (t u : Tok) (E : Value → Shared → Prop), wpAny (model B.prog B.w) A (inplaceOp op (.int a t) (.int b u)) (fun r s' => (∃ t', r = .int (f a b) t') ∧ ∃ tk, s' = { s with toks := tk }) E s
theorem iop_add : IOpSound B .Add (· + ·) := fun A s a b t u E => iadd_int ⟨⟨_, rfl⟩, _, rfl⟩
/-- x[k] op= e -/
noncomputable def sAugAt (i : Nat) (f : Int → Int → Int) (k d : Dn) : Ds := fun ρ => (k (ρ.map Slot.rd)).bind fun j => (d (ρ.map Slot.rd)).bind fun y => match j, y with
  | .int j, .int b => (upd i (fun xs => if 0 ≤ j ∧ j < xs.length then (match xs[j.toNat]? with | some (.int a) => some (xs.set j.toNat (.int (f a b))) | _ => none) else none) ρ).map fun r => (.next, r)
  | _, _ => none
theorem t_augAt (ok : B.Ok) {x : Str} {i : Nat} {px p pos : Pos} {op : Operator} {ie e : Expr} {f : Int → Int → Int} {k d : Dn} (O : IOpSound B op f) (hk : SoundE B sc names n ie k) (h : SoundE B sc names n e d) (hi : names[i]? = some x := by kernel_rfl)
    (hd1 : (x == ("__debug__" : Str)) = false := by kernel_rfl) (hcd : (x == ("__classdict__" : Str)) = false := by kernel_rfl)
    (hau : ∀ ov iv new, augStore ie ov iv new = (do holding [new, ov, iv] (setItem ov iv new); release [new, ov, iv] []; pure .next) := by intro _ _ _; rfl) : SoundS B sc names n (.AugAssign (.Subscript (.Name x px) ie p) op e pos) (sAugAt i f k d) := by
  intro X env ρ adr s fl ρ' A E eo rm R hd
  unfold sAugAt at hd
  obtain ⟨j, hj, hd⟩ := Option.bind_eq_some_iff.mp hd
  obtain ⟨y, hy, hd⟩ := Option.bind_eq_some_iff.mp hd
  match j, y, hd, hj, hy with
  | .int j, .int b, hd, hj, hy =>
    simp only at hd
    obtain ⟨r, hr, hd⟩ := Option.map_eq_some_iff.mp hd
    cases hd
    unfold upd at hr
    split at hr
    · rename_i xs hxs
      split at hr
      · rename_i hfl
        simp only [Bool.and_eq_true, decide_eq_true_eq] at hfl
        obtain ⟨ys, hys, hr⟩ := Option.bind_eq_some_iff.mp hr
        split at hr
        · rename_i hfl2
          cases hr
          simp only at hys
          split at hys
          · rename_i hb
            split at hys
            · rename_i av hav
              cases hys
              have C := R.cx ok
              obtain ⟨a, vs, haa, hva, hpa, hra⟩ := R.ownAt hi hxs
              refine wpAny_AugAssign_Subscript_any (wpAny_Name (hva.load (by rw [eo.scope]; exact eo.kind) hcd (hk.use ok eo rm C hj fun u h1 tk1 e1 C1 r1 => ?_)) hd1) hau
              simp only [Rep] at r1
              obtain ⟨tk, rfl⟩ := r1
              have R1 := R.ext ok e1
              obtain ⟨a', vs', haa', hva', hpa', hra'⟩ := R1.ownAt hi hxs
              have : a' = a := by rw [haa] at haa'; cases haa'; rfl
              subst this
              obtain ⟨w, hw, hwr⟩ := hra'.get hav
              simp only [Rep] at hwr
              obtain ⟨tw, rfl⟩ := hwr
              refine wpAny_getItem_list (s := { s with heap := h1, toks := tk1 }) hpa'.isList hb.1 (by omega) (by simpa using hw) ?_
              refine h.use (s := { s with heap := h1, toks := tk1 }) ok eo rm C1 hy fun u2 h2 tk2 e2 C2 r2 => ?_
              simp only [Rep] at r2
              obtain ⟨t2, rfl⟩ := r2
              refine wpAny_mono (O A _ av b tw t2 E) (fun r s' q => ?_) fun _ _ z => z
              obtain ⟨⟨t3, rfl⟩, tk3, rfl⟩ := q
              have R2 := R.ext ok (e1.trans e2)
              obtain ⟨a2, vs2, haa2, hva2, hpa2, hra2⟩ := R2.ownAt hi hxs
              have : a2 = a' := by rw [haa] at haa2; cases haa2; rfl
              subst this
              refine setItem_plain (s := { s with heap := h2, toks := tk3 }) hpa2 hb.1 (by omega) (by rw [hra2.length]; exact hb.2) fun h3 hp3 hs3 => ?_
              have a3 := R2.mut ok hi haa2 hva2 (fun b o hb' e' => hs3.extBut b o hb' e') hp3 (fun Y h => reps_set _ (flats_rep hfl.1 hra2) (rep_int _ _))
              exact ⟨adr, h3, tk3, rfl, (Aft.refl R2 (e1.trans e2)).trans a3, trivial⟩
            · cases hys
          · cases hys
        · cases hr
      · cases hr
    · cases hr
end
end Mine

namespace Mine
open PySem PySem.W PyProof.Rows

section
variable {B : Bd} {sc : Scope} {names : List Str} {n : Nat}

theorem cellsFrom_some : ∀ (ns : List (Str × NameKind)) (k : Nat) (acc : List (Str × Addr)) (x : Str), (ns.lookup x = some .cell ∨ (acc.lookup x).isSome = true) → ((cellsFrom k ns acc).lookup x).isSome = true
  | [], k, acc, x, h => by
    unfold cellsFrom
    rcases h with h | h
    · cases h
    · exact h
  | (m, kd) :: r, k, acc, x, h => by
    unfold cellsFrom
    split
    · rename_i hc
      refine cellsFrom_some r (k + 1) _ x ?_
      by_cases e : x = m
      · subst e; right; simp [List.lookup_cons]
      · have hb : (x == m) = false := by simpa using e
        rcases h with h | h
        · left; simpa [List.lookup_cons, hb] using h
        · right; simpa [List.lookup_cons, hb] using h
    · rename_i hc
      refine cellsFrom_some r k acc x ?_
      rcases h with h | h
      · by_cases e : x = m
        · subst e
          simp [List.lookup_cons] at h
          subst h
          exact absurd rfl hc
        · have hb : (x == m) = false := by simpa using e
          left; simpa [List.lookup_cons, hb] using h
      · exact .inr h

theorem bindL_get (kindOf : Str → Option NameKind) : ∀ (binds : List (Str × Value)) (m : Str → Option Value) (x : Str) (v : Value), (binds.map (·.1)).Nodup → binds.lookup x = some v → kindOf x = some .local → bindL kindOf binds m x = some v
  | [], m, x, v, _, h, _ => by cases h
  | (y, u) :: r, m, x, v, hn, h, hk => by
    simp only [List.map_cons, List.nodup_cons] at hn
    unfold bindL
    by_cases e : x = y
    · subst e
      simp [List.lookup_cons] at h
      subst h
      rw [if_pos hk]
      have : ∀ (r : List (Str × Value)) (m : Str → Option Value), x ∉ r.map (·.1) → bindL kindOf r m x = m x := by
        intro r
        induction r with
        | nil => intro m _; rfl
        | cons p r ih =>
          intro m hx
          obtain ⟨z, w⟩ := p
          simp only [List.map_cons, List.mem_cons, not_or] at hx
          unfold bindL
          rw [ih _ hx.2]
          split
          · simp [hx.1]
          · rfl
      rw [this r _ hn.1]
      simp
    · have hb : (x == y) = false := by simpa using e
      rw [List.lookup_cons, hb] at h
      exact bindL_get kindOf r _ x v hn.2 h hk
theorem bindC_get (kindOf : Str → Option NameKind) : ∀ (binds : List (Str × Value)) (m : Str → Option Value) (x : Str) (v : Value), (binds.map (·.1)).Nodup → binds.lookup x = some v → kindOf x ≠ some .local → bindC kindOf binds m x = some v
  | [], m, x, v, _, h, _ => by cases h
  | (y, u) :: r, m, x, v, hn, h, hk => by
    simp only [List.map_cons, List.nodup_cons] at hn
    unfold bindC
    by_cases e : x = y
    · subst e
      simp [List.lookup_cons] at h
      subst h
      rw [if_neg hk]
      have : ∀ (r : List (Str × Value)) (m : Str → Option Value), x ∉ r.map (·.1) → bindC kindOf r m x = m x := by
        intro r
        induction r with
        | nil => intro m _; rfl
        | cons p r ih =>
          intro m hx
          obtain ⟨z, w⟩ := p
          simp only [List.map_cons, List.mem_cons, not_or] at hx
          unfold bindC
          rw [ih _ hx.2]
          split
          · rfl
          · simp [hx.1]
      rw [this r _ hn.1]
      simp
    · have hb : (x == y) = false := by simpa using e
      rw [List.lookup_cons, hb] at h
      exact bindC_get kindOf r _ x v hn.2 h hk

noncomputable def slots0 (names ps : List Str) (ts : List T) : List Slot := names.map fun x => match (ps.zip ts).lookup x with | some t => .val t | none => .un
/-- a function by its body: what it hands back for these arguments -/
noncomputable def funD (names ps : List Str) (d : Ds) (ts : List T) : Option T := if ts.length = ps.length then (d (slots0 names ps ts)).bind fun p => match p.1 with | .ret t => some t | .next => some .none | _ => none else none

structure FdOk (B : Bd) (sc : Scope) (names ps : List Str) (body : List Stmt) (fa : Addr) (o : Obj) (fd : FuncData) : Prop where
  ho : B.hb.get? fa = some o
  hd : o.data = .func fd
  code : B.hb.CodeRec fd.code fd.qualname
  body : fd.body = .stmts body
  scope : fd.scope = sc
  globals : fd.globals = mainGlobals
  builtins : fd.builtins = builtinsNs
  closure : fd.closure = []
  bind : ∀ vs : List Value, vs.length = ps.length → bindArgs fd ⟨vs, []⟩ = pure (ps.zip vs)
/-- what can be looked up in the text alone -/
structure FnShape (sc : Scope) (names ps : List Str) : Prop where
  kind : sc.kind = .function
  co : sc.isCoroutine = false
  gen : sc.isGenerator = false
  kinds : ∀ x ∈ names, sc.names.lookup x = some .local ∨ sc.names.lookup x = some .cell
  nodup : names.Nodup
  psIn : ∀ x ∈ ps, x ∈ names
  psn : ps.Nodup
  nofree : ∀ p ∈ sc.names, p.2 ≠ .free

theorem zip_map_fst {α β : Type} : ∀ (l : List α) (m : List β), m.length = l.length → (l.zip m).map (·.1) = l
  | [], [], _ => rfl
  | [], _ :: _, h => by cases h
  | _ :: _, [], h => by cases h
  | a :: l, b :: m, h => by simp [zip_map_fst l m (by simpa using h)]
theorem reps_lookup {P : Addr → Obj → Int → Prop} {X : Addr → Prop} {h : Heap} : ∀ {l : List Str} {ts : List T} {vs : List Value} {x : Str} {t : T}, Reps P X h ts vs → (l.zip ts).lookup x = some t → ∃ v, (l.zip vs).lookup x = some v ∧ Rep P X h t v
  | [], ts, vs, x, t, r, e => by simp at e
  | a :: l, [], vs, x, t, r, e => by simp at e
  | a :: l, u :: ts, vs, x, t, r, e => by
    simp only [Reps] at r
    obtain ⟨v, vs, rfl, h1, h2⟩ := r
    rw [List.zip_cons_cons, List.lookup_cons] at e
    rw [List.zip_cons_cons, List.lookup_cons]
    cases hb : x == a with
    | true => rw [hb] at e; cases e; exact ⟨v, rfl, h1⟩
    | false => rw [hb] at e; exact reps_lookup h2 e

theorem fun_ok (ok : B.Ok) {ps : List Str} {body : List Stmt} {fa : Addr} {o : Obj} {fd : FuncData} {d : Ds} (F : FdOk B sc names ps body fa o fd) (S : FnShape sc names ps) (hs : SoundB B sc names n body d) : FunSound B fa (n + 1) (funD names ps d) := by
  refine ⟨⟨o, fd, F.ho, F.hd⟩, fun X A s ts vs t E rm hb al r hD => ?_⟩
  unfold funD at hD
  split at hD
  · rename_i hlen
    obtain ⟨⟨f, ρ'⟩, hd, hD⟩ := Option.bind_eq_some_iff.mp hD
    have hvl : vs.length = ps.length := by rw [r.length, hlen]
    refine wpAny_call (codeAny_call_cells (binds := ps.zip vs) (by have := rm.depth; omega) (hb _ _ F.ho) F.hd (ok.nolimit.keeps hb) (F.code.keeps hb) F.body (F.bind vs hvl) F.closure ?_ ?_ (by rw [F.scope]; exact S.co) (by rw [F.scope]; exact S.gen) (by rw [F.scope]; exact S.kind))
    · intro x hx
      have hxp : x.1 ∈ ps := by obtain ⟨h1, _⟩ := List.of_mem_zip (a := x.1) (b := x.2) hx; exact h1
      rw [F.scope]
      rcases S.kinds x.1 (S.psIn x.1 hxp) with h | h
      · exact .inl h
      · exact .inr ⟨h, cellsFrom_some _ _ _ _ (.inl h)⟩
    · intro s1 ic
      generalize hL : s.heap.objs.size = L at ic
      have henv : EnvOk sc (callEnvC fd L fa) := ⟨F.scope, S.kind, F.globals, F.builtins, fun x hx => Option.isSome_iff_exists.mp (by
        show ((cellsFrom (L + 1) fd.scope.names []).lookup x).isSome = true
        rw [F.scope]
        rcases hx with hx | hx
        · exact cellsFrom_some _ _ _ _ (.inl hx)
        · exact absurd rfl (S.nofree (x, .free) (mem_of_lookup hx)))⟩
      obtain ⟨h1, tk1, rfl⟩ := ic.toInCall.same
      have keep := ic.toInCall.keep
      have dead : ∀ b, L ≤ b → s.heap.get? b = none := fun b hb' => get?_size _ (by rw [hL]; exact hb')
      have hk : ∀ x, (callEnvC fd L fa).kindOf x = sc.names.lookup x := fun x => by show fd.scope.names.lookup x = _; rw [F.scope]
      let adr0 : List (List Addr) := names.map fun _ => []
      have hno : ∀ a, ¬ inOwn adr0 a := fun a ha => by
        obtain ⟨l, hl, hm⟩ := List.mem_flatten.mp ha
        obtain ⟨_, _, rfl⟩ := List.mem_map.mp hl
        cases hm
      have hfoot : ∀ b, foot (callEnvC fd L fa) adr0 b → L ≤ b := fun b hb' => by
        rcases hb' with rfl | ⟨x, hc⟩ | ho
        · exact Nat.le_refl _
        · exact Nat.le_of_lt (ic.above x b (mem_of_lookup hc))
        · exact absurd ho (hno b)
      have R0 : Rel B X (callEnvC fd L fa) names (slots0 names ps ts) adr0 h1 := by
        refine ⟨hb.trans keep, alive_ext al keep, fun a ha hf => ?_, fun b hb' => ?_, ⟨_, ic.toInCall.ns⟩, fun x c hc => ⟨_, ic.cell x c hc⟩, ic.apart, fun x hx => ?_, S.nodup, by simp [slots0], by simp [adr0], fun i x sl as q1 q2 q3 => ?_, ?_⟩
        · obtain ⟨o', ho'⟩ := al a ha; rw [dead a (hfoot a hf)] at ho'; cases ho'
        · cases q : B.hb.get? b with
          | none => rfl
          | some o' => have := hb b o' q; rw [dead b (hfoot b hb')] at this; cases this
        · rw [hk]
          rcases S.kinds x hx with h | h
          · exact .inl h
          · refine .inr ⟨h, Option.isSome_iff_exists.mp ?_⟩
            show ((cellsFrom (L + 1) fd.scope.names []).lookup x).isSome = true
            rw [F.scope]
            exact cellsFrom_some _ _ _ _ (.inl h)
        · have has : as = [] := by
            simp only [adr0, List.getElem?_map] at q3
            obtain ⟨_, _, rfl⟩ := Option.map_eq_some_iff.mp q3
            rfl
          subst has
          simp only [slots0, List.getElem?_map, q1, Option.map_some, Option.some.injEq] at q2
          cases hl : (ps.zip ts).lookup x with
          | none => rw [hl] at q2; exact .inl ⟨q2.symm, rfl⟩
          | some u =>
            rw [hl] at q2
            subst q2
            obtain ⟨v, hv, hrv⟩ := reps_lookup r hl
            refine .inr ⟨v, ?_, rfl, Rep.frame ok.nf (fun b hb' => hb'.elim .inl fun ho => absurd ho (hno b)) (fun b o' e _ _ => keep b o' e) u v hrv⟩
            have hnd : ((ps.zip vs).map (·.1)).Nodup := by rw [zip_map_fst ps vs hvl]; exact S.psn
            rcases S.kinds x (List.mem_of_getElem? q1) with h | h
            · have hkl : (callEnvC fd L fa).kindOf x = some .local := by rw [hk]; exact h
              exact .inl ⟨hkl, _, ic.toInCall.ns, bindL_get _ _ _ x v hnd hv hkl⟩
            · have hkc : (callEnvC fd L fa).kindOf x = some .cell := by rw [hk]; exact h
              obtain ⟨c, hc⟩ : ∃ c, (callEnvC fd L fa).cells.lookup x = some c := Option.isSome_iff_exists.mp (by
                show ((cellsFrom (L + 1) fd.scope.names []).lookup x).isSome = true
                rw [F.scope]
                exact cellsFrom_some _ _ _ _ (.inl h))
              refine .inr ⟨.inl hkc, c, hc, ?_⟩
              have := ic.cell x c hc
              rwa [bindC_get _ _ _ x v hnd hv (by rw [hkc]; intro e; cases e)] at this
        · have : adr0.flatten = [] := by
            cases q : adr0.flatten with
            | nil => rfl
            | cons a l => exact absurd (show inOwn adr0 a by unfold inOwn; rw [q]; exact List.mem_cons_self) (hno a)
          rw [this]; exact List.nodup_nil
      have rm' : Room n (A.deeper (callEnvC fd L fa)) := ⟨rm.handled, by have := rm.depth; show A.depth + 1 + n < _; omega, by have := rm.units; show A.units + 3 + 10 * n + 10 < _; omega⟩
      refine wpAny_mono (hs X _ _ _ { s with heap := h1, toks := tk1 } f ρ' _ _ henv rm' R0 hd) (fun f' s' q => ?_) fun _ _ z => z
      obtain ⟨adr', h', tk', rfl, a, fo⟩ := q
      have ext : Ext s.heap h' := fun b o' e => a.pres b o' (keep b o' e) fun hf => by rw [dead b (hfoot b hf)] at e; cases e
      cases f with
      | ret u =>
        cases hD
        cases f' <;> simp only [FlOk] at fo
        exact Out.to ext fo
      | next =>
        cases hD
        cases f' <;> simp only [FlOk] at fo
        exact Out.to ext rep_none
      | brk => cases hD
      | cont => cases hD
  · cases hD
end
end Mine

namespace Mine
open PySem PySem.W PyProof.Rows

noncomputable def fnAt (p : Program) (x : Str) : Option DefRec := p.main.body.findSome? fun st => match st with
  | .FunctionDef name a b _ _ _ sc _ _ pos => if name == x then some ⟨name, a, b, sc, pos⟩ else none
  | _ => none
noncomputable def bodyOf (p : Program) (x : Str) : List Stmt := match fnAt p x with | some d => d.body | none => []
noncomputable def scopeOf (p : Program) (x : Str) : Scope := match fnAt p x with | some d => d.scope | none => default
noncomputable def paramsOf (p : Program) (x : Str) : Arguments := match fnAt p x with | some d => d.params | none => default

section
variable {B : Bd} {sc : Scope} {names : List Str} {n : Nat}

/-- the text's function x stands in the heap -/
theorem fd_of_top {q p : Program} {loose : List Str} {mean : ExcName → Option Value} {s : Shared} (T : Top q loose mean B.mg B.mb s.heap) (hb : B.hb = s.heap) (x : Str) {ps : List Str}
    (h : ((recsOf q).find? fun d => d.name == x).map (fun d => (d.name, d.params, d.body, d.scope)) = some (x, paramsOf p x, bodyOf p x, scopeOf p x))
    (hbind : ∀ (pm cd doc : Value) (vs : List Value), vs.length = ps.length → bindArgs (Calls.docDef x (paramsOf p x) (bodyOf p x) (scopeOf p x) pm cd doc) ⟨vs, []⟩ = pure (ps.zip vs)) :
    ∃ fa o fd, B.mg x = some (.ref fa) ∧ FdOk B (scopeOf p x) names ps (bodyOf p x) fa o fd := by
  obtain ⟨d, hf, hd⟩ := Option.map_eq_some_iff.mp h
  have hm := List.mem_of_find?_eq_some hf
  obtain ⟨a, o, pm, code, doc, h1, h2, h3, h4⟩ := T.fn d hm
  obtain ⟨dn, dp, db, ds, dpos⟩ := d
  simp only [Prod.mk.injEq] at hd
  obtain ⟨rfl, rfl, rfl, rfl⟩ := hd
  refine ⟨a, o, _, h1, ⟨by rw [hb]; exact h2, h3, by rw [hb]; exact h4, rfl, rfl, rfl, rfl, rfl, fun vs hv => hbind pm code doc vs hv⟩⟩

theorem bt_len : bootBuiltins "len" = some (.builtin "len") := by decide +kernel
theorem bt_min : bootBuiltins "min" = some (.builtin "min") := by decide +kernel
theorem bt_sorted : bootBuiltins "sorted" = some (.builtin "sorted") := by decide +kernel
theorem bt_range : bootBuiltins "range" = some (.type "range") := by decide +kernel
theorem bt_type : bootBuiltins "type" = some (.type "type") := by decide +kernel
theorem bt_NotImplemented : bootBuiltins "NotImplemented" = some .notImplemented := by decide +kernel
theorem globB {x : Str} {v : Value} (hfree : B.mg x = none) (hb : bootBuiltins x = some v) (h : sc.names.lookup x = some .globalImplicit := by kernel_rfl) (hd : (x == ("__debug__" : Str)) = false := by kernel_rfl) (hn : (x == ("__name__" : Str)) = false := by kernel_rfl) : GlobIs B sc x v :=
  ⟨h, hd, .inr ⟨hfree, fun e => by rw [e] at hn; simp at hn, hb⟩⟩
theorem globU {x : Str} {fa : Addr} (hm : B.mg x = some (.ref fa)) (h : sc.names.lookup x = some .globalImplicit := by kernel_rfl) (hd : (x == ("__debug__" : Str)) = false := by kernel_rfl) : GlobIs B sc x (.ref fa) := ⟨h, hd, .inl hm⟩

theorem well_int {P : Params} {h : Heap} {v : Value} {d : WData} {i : Int} (w : Well P h v d) (e : d = .int i) : ∃ t, v = .int i t := by
  cases w <;> first | cases e | skip
  exact ⟨_, rfl⟩
theorem wellAll_aux {P : Params} {h : Heap} : ∀ {vs : List Value} {ds : List WData}, WellAll P h vs ds → ∀ ns : List Int, ds = ns.map WData.int → IntsAre vs ns
  | _, _, .nil, [], _ => .nil
  | _, _, .nil, n :: ns, e => by simp at e
  | _, _, .cons w r, [], e => by simp at e
  | _, _, .cons w r, n :: ns, e => by
    simp only [List.map_cons, List.cons.injEq] at e
    obtain ⟨t, rfl⟩ := well_int w e.1
    exact .cons n t (wellAll_aux r ns e.2)
theorem wellAll_ints {P : Params} {h : Heap} {ns : List Int} {vs : List Value} (x : WellAll P h vs (ns.map WData.int)) : IntsAre vs ns := wellAll_aux x ns rfl
theorem ofPys_ints : ∀ ns : List Int, ofPys (ns.map PyData.int) = ns.map WData.int
  | [] => rfl
  | n :: ns => by simp [ofPys, ofPy, ofPys_ints ns]

end
end Mine

namespace Mine
open PySem PySem.W PyProof.Rows

/-! plain facts about denotations -/
theorem sForN_inv {i : Nat} {b : Ds} (I : Nat → List Slot → Prop) : ∀ (xs : List T) (ρ : List Slot) (k : Nat), I k ρ →
    (∀ (j : Nat) (x : T) (ρ : List Slot), xs[j]? = some x → I (k + j) ρ → ∃ ρ', b (ρ.set i (.val x)) = some (.next, ρ') ∧ I (k + j + 1) ρ') → ∃ ρ', sForN i b xs ρ = some (.next, ρ') ∧ I (k + xs.length) ρ'
  | [], ρ, k, h, _ => ⟨ρ, rfl, h⟩
  | x :: xs, ρ, k, h, step => by
    obtain ⟨ρ1, h1, h2⟩ := step 0 x ρ rfl h
    obtain ⟨ρ2, h3, h4⟩ := sForN_inv I xs ρ1 (k + 1) h2 fun j y r hy hi => by
      have := step (j + 1) y r (by simpa using hy) (by rw [show k + (j + 1) = k + 1 + j by omega]; exact hi)
      rw [show k + (j + 1) + 1 = k + 1 + j + 1 by omega] at this
      exact this
    refine ⟨ρ2, ?_, ?_⟩
    · simp only [sForN, h1, Option.bind_some]
      exact h3
    · rw [List.length_cons, show k + (xs.length + 1) = k + 1 + xs.length by omega]
      exact h4
theorem sForN_inv0 {i : Nat} {b : Ds} (I : Nat → List Slot → Prop) (xs : List T) (ρ : List Slot) (h0 : I 0 ρ)
    (step : ∀ (j : Nat) (x : T) (ρ : List Slot), xs[j]? = some x → I j ρ → ∃ ρ', b (ρ.set i (.val x)) = some (.next, ρ') ∧ I (j + 1) ρ') : ∃ ρ', sForN i b xs ρ = some (.next, ρ') ∧ I xs.length ρ' := by
  have := sForN_inv I xs ρ 0 h0 fun j x r hx hi => by
    rw [Nat.zero_add] at hi
    obtain ⟨r', h1, h2⟩ := step j x r hx hi
    exact ⟨r', h1, by rw [Nat.zero_add]; exact h2⟩
  rwa [Nat.zero_add] at this

theorem all_flat_ints (ns : List Int) : (ns.map T.int).all flat = true := by
  induction ns with
  | nil => rfl
  | cons n ns ih => simp [flat, ih]
theorem rng_get {a b : Int} {j : Nat} {x : T} (h : (rng a b)[j]? = some x) : x = .int (a + j) ∧ (j : Int) < b - a := by
  unfold rng at h
  rw [List.getElem?_map] at h
  obtain ⟨i, hi, rfl⟩ := Option.map_eq_some_iff.mp h
  obtain ⟨hlt, rfl⟩ := List.getElem?_eq_some_iff.mp hi
  simp at hlt ⊢
  omega
theorem sSeq_next {a b : Ds} {ρ ρ1 : List Slot} (h : a ρ = some (.next, ρ1)) : sSeq a b ρ = b ρ1 := by simp only [sSeq, h, Option.bind_some]
theorem sSeq_ret {a b : Ds} {ρ ρ1 : List Slot} {t : T} (h : a ρ = some (.ret t, ρ1)) : sSeq a b ρ = some (.ret t, ρ1) := by simp only [sSeq, h, Option.bind_some]
theorem sIf_true {c : Db} {a b : Ds} {ρ : List Slot} (h : c (ρ.map Slot.rd) = some true) : sIf c a b ρ = a ρ := by simp only [sIf, h, Option.bind_some, if_true]
theorem sIf_false {c : Db} {a b : Ds} {ρ : List Slot} (h : c (ρ.map Slot.rd) = some false) : sIf c a b ρ = b ρ := by simp only [sIf, h, Option.bind_some, Bool.false_eq_true, if_false]
theorem sRet_eq {d : Dn} {ρ : List Slot} {t : T} (h : d (ρ.map Slot.rd) = some t) : sRet d ρ = some (.ret t, ρ) := by simp only [sRet, h, Option.map_some]
theorem sSet_flat {i : Nat} {d : Dn} {ρ : List Slot} {t : T} (h : d (ρ.map Slot.rd) = some t) (hf : flat t = true) : sSet i d ρ = some (.next, ρ.set i (.val t)) := by simp only [sSet, h, Option.bind_some, hf, if_true]
theorem sSet_any {i : Nat} {d : Dn} {ρ : List Slot} {t t' : T} (h : d (ρ.map Slot.rd) = some t) (hf : flat t = false) (h' : d (ρ.map Slot.cl) = some t') : sSet i d ρ = some (.next, ρ.set i (.val t')) := by
  simp only [sSet, h, Option.bind_some, hf, Bool.false_eq_true, if_false, h', Option.map_some]
theorem sOwn_eq {i : Nat} {d : Dn} {ρ : List Slot} {xs : List T} (h : d (ρ.map Slot.rd) = some (.list xs)) (hf : xs.all flat = true) : sOwn i d ρ = some (.next, ρ.set i (.own xs)) := by simp only [sOwn, h, Option.bind_some, hf, if_true]
theorem sForR_eq {i : Nat} {src : Dl} {b : Ds} {ρ : List Slot} {xs : List T} (h : src (ρ.map Slot.rd) = some xs) : sForR i src b ρ = sForN i b xs ρ := by simp only [sForR, h, Option.bind_some]
theorem upd_ints {i : Nat} {g : List T → Option (List T)} {ρ : List Slot} {hs hs' : List Int} (h : ρ[i]? = some (.own (hs.map T.int))) (hl : hs.length ≤ 1000) (hg : g (hs.map T.int) = some (hs'.map T.int)) : upd i g ρ = some (ρ.set i (.own (hs'.map T.int))) := by
  simp only [upd, h, all_flat_ints, List.length_map, hl, decide_true, Bool.and_self, if_true, hg, Option.bind_some]
theorem sAugAt_ints {i : Nat} {f : Int → Int → Int} {k d : Dn} {ρ : List Slot} {hs : List Int} {j : Nat} {b : Int} (h : ρ[i]? = some (.own (hs.map T.int))) (hl : hs.length ≤ 1000) (hk : k (ρ.map Slot.rd) = some (.int j)) (hd : d (ρ.map Slot.rd) = some (.int b)) (hj : j < hs.length) :
    sAugAt i f k d ρ = some (.next, ρ.set i (.own ((hs.set j (f hs[j] b)).map T.int))) := by
  simp only [sAugAt, hk, hd, Option.bind_some]
  rw [upd_ints (hs' := hs.set j (f hs[j] b)) h hl]
  · rfl
  · have h1 : (0 : Int) ≤ (j : Int) ∧ (j : Int) < ((hs.map T.int).length : Nat) := by simp; omega
    rw [if_pos h1]
    simp [List.getElem?_eq_getElem hj, List.map_set]
theorem gItem_ints {ns : List Int} {j : Nat} (hl : ns.length ≤ 1000) (hj : j < ns.length) : gItem (.list (ns.map T.int)) (.int j) = some (.int ns[j]) := by
  simp only [gItem, List.length_map, hl, if_true, idx]
  rw [if_pos (by omega), if_pos (by omega)]
  simp [List.getElem?_eq_getElem hj]
theorem funD_ret {names ps : List Str} {d : Ds} {ts : List T} {ρ0 : List Slot} {t : T} (hl : ts.length = ps.length) (h0 : slots0 names ps ts = ρ0) (h : ∃ ρ', d ρ0 = some (.ret t, ρ')) : funD names ps d ts = some t := by
  obtain ⟨ρ', h⟩ := h
  simp only [funD, hl, if_true, h0, h, Option.bind_some]

/-! ### heaps -/
noncomputable def heapsB (k : Int) : Ds := (sSeq (sOwn 1 (bin fMul (eList (lCons (kT (.int 0)) lNil)) (eCall gMin (lCons (eCall gLen (lCons (nm 0) lNil)) (lCons (kT (.int k)) lNil)))))
  (sSeq (sForR 2 (itR1 (eCall gLen (lCons (nm 0) lNil))) (sSeq (sAugAt 1 (· + ·) (bin fMod (nm 2) (kT (.int k))) (eSub (nm 0) (nm 2)))
  sNil))
  (sSeq (sRet (nm 1))
  sNil)))
theorem heaps_ok (k : Int) (hk : 0 < k) (hk2 : k ≤ 100) (ns : List Int) (hn : ns.length ≤ 63) :
    ∃ hs : List Int, (hs.length : Int) = min (ns.length : Int) k ∧ funD ["script", "heaps", "place"] ["script"] (heapsB k) [.list (ns.map T.int)] = some (.list (hs.map T.int)) := by
  let m : Int := if k < (ns.length : Int) then k else (ns.length : Int)
  have hm0 : 0 ≤ m := by simp only [m]; split <;> omega
  have hm1 : m ≤ 63 := by simp only [m]; split <;> omega
  have hn' : ns.length ≤ 1000 := by omega
  obtain ⟨ρ', h1, hs, v, rfl, hlen⟩ := sForN_inv0 (i := 2) (b := sSeq (sAugAt 1 (· + ·) (bin fMod (nm 2) (kT (.int k))) (eSub (nm 0) (nm 2))) sNil)
    (fun _ ρ => ∃ (hs : List Int) (v : Slot), ρ = [.val (.list (ns.map T.int)), .own (hs.map T.int), v] ∧ (hs.length : Int) = m) (rng 0 ns.length)
    [.val (.list (ns.map T.int)), .own (List.replicate m.toNat (T.int 0)), .un] ⟨List.replicate m.toNat 0, .un, by simp, by simp; omega⟩ (by
      rintro j x ρ hx ⟨hs, v, rfl, hlen⟩
      obtain ⟨rfl, hj⟩ := rng_get hx
      have hjn : j < ns.length := by omega
      have hmod0 : 0 ≤ Int.fmod (j : Int) k := Int.fmod_nonneg_of_pos _ hk
      have hmodk : Int.fmod (j : Int) k < k := Int.fmod_lt_of_pos _ hk
      have hmodj : Int.fmod (j : Int) k ≤ j := by
        have h1 := Int.fmod_add_mul_fdiv (j : Int) k
        have h2 : 0 ≤ Int.fdiv (j : Int) k := Int.fdiv_nonneg (by omega) (by omega)
        have h3 := Int.mul_nonneg (Int.le_of_lt hk) h2
        omega
      obtain ⟨q, hq⟩ := Int.eq_ofNat_of_zero_le hmod0
      have hlt : q < hs.length := by
        have : (q : Int) < m := by simp only [m]; split <;> omega
        omega
      rw [Int.zero_add]
      refine ⟨_, (sSeq_next (sAugAt_ints (hs := hs) (j := q) (b := ns[j]) rfl (by omega) ?_ ?_ hlt)).trans rfl, _, _, rfl, by simpa using hlen⟩
      · show fMod (.int j) (.int k) = _
        simp only [fMod]
        rw [if_neg (by omega), hq]
      · exact gItem_ints hn' hjn)
  refine ⟨hs, by rw [hlen]; simp only [m]; split <;> omega, ?_⟩
  have e1 : (if k < (ns.length : Int) then k else (ns.length : Int)) = m := rfl
  have hfits : fits (ns.length : Int) = true := by rw [fits_iff]; omega
  have a1 : (bin fMul (eList (lCons (kT (.int 0)) lNil)) (eCall gMin (lCons (eCall gLen (lCons (nm 0) lNil)) (lCons (kT (.int k)) lNil)))) (([.val (.list (ns.map T.int)), .un, .un] : List Slot).map Slot.rd) = some (.list (List.replicate m.toNat (T.int 0))) := by
    simp [bin, eList, lCons, lNil, kT, eCall, gMin, gLen, nm, fMul, Slot.rd, hn', e1]
    omega
  have a2 : (itR1 (eCall gLen (lCons (nm 0) lNil))) (([.val (.list (ns.map T.int)), .own (List.replicate m.toNat (T.int 0)), .un] : List Slot).map Slot.rd) = some (rng 0 ns.length) := by
    simp [itR1, eCall, lCons, lNil, gLen, nm, Slot.rd, hn', hfits]
    omega
  exact funD_ret rfl (ρ0 := [.val (.list (ns.map T.int)), .un, .un]) (by kernel_rfl) ⟨_, (sSeq_next (sOwn_eq (xs := List.replicate m.toNat (T.int 0)) a1 (by simp [flat]))).trans ((sSeq_next ((sForR_eq a2).trans h1)).trans (sSeq_ret (sRet_eq rfl)))⟩
end Mine

namespace Mine
open PySem PySem.W PyProof.Rows

noncomputable def relabelS (scope sc : Scope) : Scope :=
  { scope with names := scope.names.map fun (n, k) => if (k == .free && sc.kind == .function && sc.names.lookup n == some .cell) then (n, .cell) else (n, k) }
/-- what can be looked up of a comprehension in the text alone -/
noncomputable def compOk (sc scope : Scope) (xs names : List Str) : Bool :=
  (match scope.kind with | .function => true | _ => false) && decide ((scope.names.map (·.1)).Nodup) && xs.all (fun x => match scope.names.lookup x with | some .local => true | _ => false) &&
    scope.names.all fun p => match p.2 with
      | .cell => false
      | .free => (match sc.names.lookup p.1 with | some .cell => true | some .free => true | _ => false) && !xs.contains p.1
      | .local => xs.contains p.1 || !names.contains p.1
      | _ => true

theorem lookup_of_nodup {β : Type} : ∀ {l : List (Str × β)} {x : Str} {b : β}, (l.map (·.1)).Nodup → (x, b) ∈ l → l.lookup x = some b
  | [], _, _, _, h => by cases h
  | (y, c) :: l, x, b, hn, h => by
    simp only [List.map_cons, List.nodup_cons] at hn
    rcases List.mem_cons.mp h with h' | h'
    · cases h'; simp [List.lookup_cons]
    · have hne : (x == y) = false := by
        rw [beq_eq_false_iff_ne]; intro e; subst e
        exact hn.1 (List.mem_map.mpr ⟨(x, b), h', rfl⟩)
      rw [List.lookup_cons, hne]
      exact lookup_of_nodup hn.2 h'

structure CompOk (sc scope : Scope) (xs names : List Str) : Prop where
  kind : scope.kind = .function
  nodup : (scope.names.map (·.1)).Nodup
  tgt : ∀ x ∈ xs, scope.names.lookup x = some .local
  nocell : ∀ p ∈ scope.names, p.2 ≠ .cell
  free : ∀ p ∈ scope.names, p.2 = .free → (sc.names.lookup p.1 = some .cell ∨ sc.names.lookup p.1 = some .free) ∧ p.1 ∉ xs
  loc : ∀ p ∈ scope.names, p.2 = .local → p.1 ∈ xs ∨ p.1 ∉ names

theorem compOk_iff {sc scope : Scope} {xs names : List Str} (h : compOk sc scope xs names = true) : CompOk sc scope xs names := by
  unfold compOk at h
  simp only [Bool.and_eq_true, decide_eq_true_eq, List.all_eq_true] at h
  obtain ⟨⟨⟨h1, h2⟩, h3⟩, h4⟩ := h
  refine ⟨?_, h2, fun x hx => ?_, fun p hp e => ?_, fun p hp e => ?_, fun p hp e => ?_⟩
  · split at h1
    · assumption
    · cases h1
  · have := h3 x hx
    split at this
    · assumption
    · cases this
  · have := h4 p hp
    rw [e] at this
    cases this
  · have := h4 p hp
    rw [e] at this
    simp only [Bool.and_eq_true, Bool.not_eq_true', List.contains_eq_mem, decide_eq_false_iff_not] at this
    refine ⟨?_, this.2⟩
    have q := this.1
    split at q
    · exact .inl (by assumption)
    · exact .inr (by assumption)
    · cases q
  · have := h4 p hp
    rw [e] at this
    simpa using this

/-- the cells that a comprehension takes along -/
noncomputable def closL (cells : List (Str × Addr)) : List (Str × NameKind) → List (Str × Addr) → List (Str × Addr)
  | [], acc => acc
  | (n, k) :: r, acc => closL cells r (if k == .free then (match cells.lookup n with | some a => (n, a) :: acc | none => acc) else acc)
theorem closureFor_eq {scope : Scope} {env : Env} (h : ∀ p ∈ scope.names, p.2 = .free → ∃ c, env.cells.lookup p.1 = some c) : closureFor scope env = pure (closL env.cells scope.names []) := by
  unfold closureFor
  have gen : ∀ (ns : List (Str × NameKind)) (acc : List (Str × Addr)), (∀ p ∈ ns, p.2 = .free → ∃ c, env.cells.lookup p.1 = some c) →
      (forIn ns acc fun x (cs : List (Str × Addr)) => (match x with | (name, kind) => if kind == .free then do let a ← cellOf env name; pure (ForInStep.yield ((name, a) :: cs)) else pure (ForInStep.yield cs) : Sem (ForInStep (List (Str × Addr))))) = (pure (closL env.cells ns acc) : Sem (List (Str × Addr))) := by
    intro ns
    induction ns with
    | nil => intro acc _; rfl
    | cons p ns ih =>
      intro acc hp
      obtain ⟨n, k⟩ := p
      have hr := fun acc => ih acc fun q hq => hp q (List.mem_cons_of_mem _ hq)
      rw [List.forIn_cons]
      cases hk : k == NameKind.free with
      | false =>
        simp only [hk, Bool.false_eq_true, if_false, closL]
        exact hr acc
      | true =>
        obtain ⟨c, hc⟩ := hp (n, k) List.mem_cons_self (by simpa using hk)
        simp only at hc
        have e : cellOf env n = pure c := by unfold cellOf; rw [hc]
        simp only [hk, if_true, closL, hc, e]
        exact hr _
  have := gen scope.names [] h
  first
    | exact this
    | (simp only [bind_pure]; exact this)
theorem closL_lookup (cells : List (Str × Addr)) {c : Addr} : ∀ (ns : List (Str × NameKind)) (acc : List (Str × Addr)) (x : Str), (ns.map (·.1)).Nodup → cells.lookup x = some c → ((x, NameKind.free) ∈ ns ∨ (x ∉ ns.map (·.1) ∧ acc.lookup x = some c)) → (closL cells ns acc).lookup x = some c
  | [], acc, x, _, _, h => by
    rcases h with h | h
    · cases h
    · exact h.2
  | (n, k) :: r, acc, x, hn, hc, h => by
    simp only [List.map_cons, List.nodup_cons] at hn
    unfold closL
    by_cases e : x = n
    · subst e
      have hfree : (k == NameKind.free) = true := by
        rcases h with h | h
        · rcases List.mem_cons.mp h with h | h
          · cases h; rfl
          · exact absurd (List.mem_map.mpr ⟨_, h, rfl⟩) hn.1
        · exact absurd List.mem_cons_self h.1
      rw [hfree]
      simp only [if_true]
      refine closL_lookup cells r _ x hn.2 hc (.inr ⟨hn.1, ?_⟩)
      rw [hc]
      simp [List.lookup_cons]
    · have hb : (x == n) = false := by simpa using e
      refine closL_lookup cells r _ x hn.2 hc ?_
      rcases h with h | h
      · rcases List.mem_cons.mp h with h | h
        · cases h; exact absurd rfl e
        · exact .inl h
      · refine .inr ⟨fun hm => h.1 (List.mem_cons_of_mem _ hm), ?_⟩
        rw [← h.2]
        split
        · split
          · rw [List.lookup_cons, hb]
          · rfl
        · rfl

section
variable {B : Bd} {sc : Scope} {names : List Str} {n : Nat}

theorem relabel_eq {scope : Scope} {env : Env} (eo : EnvOk sc env) : relabel scope env = relabelS scope sc := by
  unfold relabel relabelS Env.kindOf
  rw [eo.scope]
theorem relabelS_lookup {scope : Scope} : ∀ (ns : List (Str × NameKind)) (x : Str),
    (ns.map fun (p : Str × NameKind) => if (p.2 == NameKind.free && sc.kind == .function && sc.names.lookup p.1 == some NameKind.cell) then (p.1, NameKind.cell) else p).lookup x =
      match ns.lookup x with | some .free => (if (sc.kind == .function && sc.names.lookup x == some .cell) then some .cell else some .free) | k => k
  | [], x => rfl
  | (n, k) :: r, x => by
    have ih := relabelS_lookup (scope := scope) r x
    rw [List.map_cons]
    by_cases e : x = n
    · subst e
      cases k <;> simp [List.lookup_cons] <;> split <;> simp_all [List.lookup_cons]
    · have hb : (x == n) = false := by simpa using e
      have : List.lookup x ((n, k) :: r) = List.lookup x r := by rw [List.lookup_cons, hb]
      rw [this, ← ih]
      split <;> simp only [List.lookup_cons, hb]
theorem relabelS_names (scope : Scope) (x : Str) : (relabelS scope sc).names.lookup x = match scope.names.lookup x with | some .free => (if (sc.kind == .function && sc.names.lookup x == some .cell) then some .cell else some .free) | k => k :=
  relabelS_lookup (scope := scope) scope.names x

/-- the frame of a comprehension -/
theorem comp_envOk {scope : Scope} {env : Env} {xs : List Str} {C : Addr} (eo : EnvOk sc env) (c : CompOk sc scope xs names) : EnvOk (relabelS scope sc) (compEnvC scope (closL env.cells scope.names []) C env) := by
  refine ⟨relabel_eq eo, c.kind, eo.globals, eo.builtins, fun x hx => ?_⟩
  have hf : scope.names.lookup x = some .free := by
    rw [relabelS_names] at hx
    cases q : scope.names.lookup x with
    | none => rw [q] at hx; simp at hx
    | some k =>
      rw [q] at hx
      cases k with
      | free => rfl
      | cell => exact absurd rfl (c.nocell _ (mem_of_lookup q))
      | _ => simp at hx
  have hm := mem_of_lookup hf
  obtain ⟨a, ha⟩ := eo.cells x (c.free _ hm rfl).1
  exact ⟨a, closL_lookup _ _ _ _ c.nodup ha (.inl hm)⟩
theorem comp_closure {scope : Scope} {env : Env} {xs : List Str} (eo : EnvOk sc env) (c : CompOk sc scope xs names) : closureFor scope env = pure (closL env.cells scope.names []) :=
  closureFor_eq fun p hp e => eo.cells p.1 (c.free p hp e).1
/-- what is seen of the frame around -/
theorem comp_view {scope : Scope} {env : Env} {xs : List Str} {C : Addr} {X : Addr → Prop} {ρ : List (Option T)} {h : Heap} {m : Str → Option Value} (eo : EnvOk sc env) (c : CompOk sc scope xs names) (hv : View B X env names ρ h) (hC : h.Ns C m) :
    ∀ (ts : List T) (vs : List Value), ts.length = xs.length → Reps B.P X h ts vs → (∀ (i : Nat) x v, xs[i]? = some x → vs[i]? = some v → m x = some v) → View B X (compEnvC scope (closL env.cells scope.names []) C env) (xs ++ names) (ts.map some ++ ρ) h := by
  intro ts vs hlen r hm x t hl ha
  have hk : ∀ x, (compEnvC scope (closL env.cells scope.names []) C env).kindOf x = (relabelS scope sc).names.lookup x := fun x => by
    show (relabel scope env).names.lookup x = _
    rw [relabel_eq eo]
  have split : ∀ (xs : List Str) (ts : List T) (vs : List Value), ts.length = xs.length → Reps B.P X h ts vs → (∀ (i : Nat) x v, xs[i]? = some x → vs[i]? = some v → m x = some v) → lk (xs ++ names) (ts.map some ++ ρ) x = some t → (∃ v, x ∈ xs ∧ m x = some v ∧ Rep B.P X h t v) ∨ (x ∉ xs ∧ lk names ρ x = some t) := by
    intro xs
    induction xs with
    | nil => intro ts vs hlen _ _ h; cases ts with | nil => exact .inr ⟨by simp, h⟩ | cons _ _ => cases hlen
    | cons y xs ih =>
      intro ts vs hlen r hm h
      cases ts with
      | nil => cases hlen
      | cons u ts =>
        simp only [Reps] at r
        obtain ⟨v, vs, rfl, r1, r2⟩ := r
        simp only [List.cons_append, List.map_cons, lk] at h
        split at h
        · rename_i e
          subst e
          cases h
          exact .inl ⟨v, List.mem_cons_self, hm 0 y v rfl rfl, r1⟩
        · rename_i e
          rcases ih ts vs (by simpa using hlen) r2 (fun i x v h1 h2 => hm (i + 1) x v (by simpa using h1) (by simpa using h2)) h with ⟨v, h1, h2, h3⟩ | ⟨h1, h2⟩
          · exact .inl ⟨v, List.mem_cons_of_mem _ h1, h2, h3⟩
          · exact .inr ⟨by simp [h1, Ne.symm e], h2⟩
  rcases split xs ts vs hlen r hm hl with ⟨v, hx, hmx, hr⟩ | ⟨hx, hl⟩
  · refine ⟨v, .inl ⟨?_, m, hC, hmx⟩, hr⟩
    rw [hk, relabelS_names, c.tgt x hx]
  · have hkx := hk x
    rw [relabelS_names] at hkx
    cases q : scope.names.lookup x with
    | none => rw [q] at hkx; rcases ha with ha | ha | ha <;> rw [ha] at hkx <;> cases hkx
    | some k =>
      have hmem := mem_of_lookup q
      rw [q] at hkx
      cases k with
      | cell => exact absurd rfl (c.nocell _ hmem)
      | «local» =>
        rcases c.loc _ hmem rfl with h1 | h1
        · exact absurd h1 hx
        · obtain ⟨i, h2, _⟩ := lk_mem hl
          exact absurd (List.mem_of_getElem? h2) h1
      | free =>
        obtain ⟨hout, _⟩ := c.free _ hmem rfl
        obtain ⟨v, hvar, hr⟩ := hv x t hl (by unfold Acc Env.kindOf; rw [eo.scope]; rcases hout with h | h; exact .inr (.inl h); exact .inr (.inr h))
        refine ⟨v, .inr ⟨?_, ?_⟩, hr⟩
        · rw [hkx]
          simp only
          split
          · exact .inl rfl
          · exact .inr rfl
        · rcases hvar with ⟨hl', _⟩ | ⟨_, a, hc, hcell⟩
          · unfold Env.kindOf at hl'
            rw [eo.scope] at hl'
            rcases hout with h | h <;> rw [h] at hl' <;> cases hl'
          · exact ⟨a, closL_lookup _ _ _ _ c.nodup hc (.inl hmem), hcell⟩
      | _ => simp only at hkx; rcases ha with ha | ha | ha <;> rw [ha] at hkx <;> cases hkx

/-! ### tests -/
noncomputable def cTrue : Db := fun _ => some true
noncomputable def SoundQ (B : Bd) (sc : Scope) (names : List Str) (n : Nat) (ifs : List Expr) (d : Db) : Prop :=
  ∀ (X : Addr → Prop) (env : Env) (ρ : List (Option T)) (s : Shared) (t : Bool) (A : Around) (E : Value → Shared → Prop), EnvOk sc env → Room n A → Cx B X env names ρ s.heap → d ρ = some t →
    wpAny (model B.prog B.w) A (forIn ifs true fun c r => if r = true then do let ok ← isTrue c env (eval c env); pure (ForInStep.yield ok) else pure (ForInStep.yield r)) (fun b s' => b = t ∧ ∃ h' tk, s' = { s with heap := h', toks := tk } ∧ Ext s.heap h') E s
theorem q_nil : SoundQ B sc names n [] cTrue := by
  intro X env ρ s t A E eo rm C hd
  cases hd
  exact wpAny_tests_nil ⟨rfl, s.heap, s.toks, rfl, Ext.refl _⟩
theorem q_one {c : Expr} {d : Db} (h : SoundC B sc names n c d) : SoundQ B sc names n [c] d := by
  intro X env ρ s t A E eo rm C hd
  exact wpAny_tests_one (h X env ρ s t A E eo rm C hd)

/-! ### the loop -/
noncomputable def compL (t : T → Option Bool) (e : T → Option T) : List T → Option (List T)
  | [] => some []
  | x :: xs => (t x).bind fun b => if b then (e x).bind fun y => (compL t e xs).map fun r => y :: r else compL t e xs
/-- what the loop of a comprehension leaves: a new list D, the frame C of its own -/
noncomputable def CompEnd (B : Bd) (X : Addr → Prop) (s : Shared) (ys : List T) (RR : Value → Addr → Result → Shared → Prop) : Prop :=
  ∀ (D C : Addr) (h' : Heap) (tk : Nat) (m' : Str → Option Value) (vs : List Value), s.heap.get? D = none → s.heap.get? C = none → D ≠ C → h'.Ns C m' → h'.PlainList D vs.toArray → Reps B.P X h' ys vs → Ext s.heap h' → RR (.ref D) C (.ok .next) { s with heap := h', toks := tk }

theorem comp_core (ok : B.Ok) {x : Str} {px pos : Pos} {iter elt : Expr} {ifs : List Expr} {scope : Scope} {src : Dl} {t : Db} {e : Dn} (hs : SoundI B sc names n iter src) (ht : SoundQ B (relabelS scope sc) (x :: names) n ifs t) (he : SoundE B (relabelS scope sc) (x :: names) n elt e)
    (c : CompOk sc scope [x] names) {X : Addr → Prop} {env : Env} {ρ : List (Option T)} {s : Shared} {A : Around} {E : Value → Shared → Prop} (eo : EnvOk sc env) (rm : Room n A) (Cx0 : Cx B X env names ρ s.heap) {xs ys : List T} (hxs : src ρ = some xs)
    (hys : compL (fun u => t (some u :: ρ)) (fun u => e (some u :: ρ)) xs = some ys) {RR : Value → Addr → Result → Shared → Prop} (hRR : CompEnd B X s ys RR) :
    wpAny (model B.prog B.w) A (eval iter env) (fun xv s₁ => wpAny (model B.prog B.w) A (pyIter xv) (fun it s₂ => wpAny (model B.prog B.w) A (newList []) (fun acc s₃ =>
      wpAny (model B.prog B.w) A (newFunctionEnv scope env.globals (closL env.cells scope.names []) [] env.qual none .none (some env)) (fun cenv s₄ =>
        codeAny (model B.prog B.w) A (.compStart (.ListComp elt [⟨.Name x px, iter, ifs, 0⟩] scope pos) 0 it acc { cenv with scope := relabel scope env }) (RR acc cenv.locals) s₄) E s₃) E s₂) E s₁) E s := by
  obtain ⟨hlen, hit⟩ := hs X env ρ s xs A E eo rm Cx0 hxs
  refine wpAny_mono hit (fun xv s₁ h₁ => wpAny_mono h₁ (fun it s₂ h₂ => ?_) fun _ _ z => z) fun _ _ z => z
  obtain ⟨⟨h2, tk2, rfl, e2⟩, I, fp, wr, P, St, rfl, it⟩ := h₂
  refine wpAny_newObj_type (wpAny_newFunctionEnv c.nocell (by intro y hy; simp at hy) (fun h₁ hns₁ hsb₁ => ?_) c.kind)
  dsimp only at hns₁ hsb₁ ⊢
  generalize hH2 : h2.push { cls := .type "list", dict := none, data := .seq ([] : List Value).toArray } = H2 at hns₁ hsb₁ ⊢
  generalize hDe : h2.objs.size = D at *
  have hC : H2.objs.size = D + 1 := by rw [← hH2, Heap.size_push, hDe]
  generalize hCe : H2.objs.size = C at *
  subst hC
  have hDC : D ≠ D + 1 := Nat.ne_of_lt (Nat.lt_succ_self _)
  have neC : ∀ b : Nat, b < D → b ≠ D + 1 := fun b h e => by omega
  have neD : ∀ b : Nat, b < D → b ≠ D := fun b h e => by omega
  have dead2 : ∀ b, D ≤ b → h2.get? b = none := fun b hb => get?_size _ (by rw [hDe]; exact hb)
  have dead0 : ∀ b, D ≤ b → s.heap.get? b = none := fun b hb => by
    cases q : s.heap.get? b with
    | none => rfl
    | some o => have := e2 b o q; rw [dead2 b hb] at this; cases this
  have live : ∀ b o, h2.get? b = some o → b < D := fun b o hb => by rw [← hDe]; exact Heap.lt_size hb
  have old : ∀ b o, h2.get? b = some o → h₁.get? b = some o := fun b o hb => hsb₁.extBut b o (neC b (live b o hb)) (Heap.get?_push_of_some _ (hH2 ▸ Heap.get?_push_of_some _ hb))
  have hacc : h₁.PlainList D #[] := ⟨0, hsb₁.extBut _ _ hDC (Heap.get?_push_of_some _ (by rw [← hH2, ← hDe]; exact Heap.get?_push_size _ rfl))⟩
  have hfpD : ∀ b ∈ fp, b < D := fun b hb => by have := it.fpal b hb; rw [← hDe]; exact this
  have hwD : ∀ b ∈ wr, b < D := fun b hb => hfpD b (it.walks.sub b hb)
  let cenv := compEnvC scope (closL env.cells scope.names []) (D + 1) env
  let X' : Addr → Prop := fun a => X a ∨ a ∈ wr ∨ a = D
  have ceo : EnvOk (relabelS scope sc) cenv := comp_envOk eo c
  have hxl : cenv.kindOf x = some .local := by
    show (relabel scope env).names.lookup x = _
    rw [relabel_eq eo, relabelS_names, c.tgt x List.mem_cons_self]
  have hsk : (cenv.scope.kind == .class || (cenv.scope.kind == .module && cenv.locals != cenv.globals)) = false := by
    rw [ceo.scope, ceo.kind]; rfl
  have loop : ∀ s₃ : Shared, s₃ = { s with heap := h₁, toks := tk2 + ([] : List (Str × Value)).length } →
      codeAny (model B.prog B.w) A (.compLoop (.ListComp elt [⟨.Name x px, iter, ifs, 0⟩] scope pos) 0 (.ref I) (.ref D) cenv) (RR (.ref D) (D + 1)) s₃ := by
    rintro s₃ rfl
    refine codeAny_compLoop_tests (fun k s' => ∃ i h' tk m' vs done rest, s' = { s with heap := h', toks := tk } ∧ i ≤ xs.length ∧ k = xs.length + 1 - i ∧ St i h' ∧ h'.PlainList D (List.toArray vs) ∧ h'.Ns (D + 1) m' ∧ Reps B.P X' h' done vs ∧ done.length ≤ i ∧
        compL (fun u => t (some u :: ρ)) (fun u => e (some u :: ρ)) (xs.drop i) = some rest ∧ ys = done ++ rest ∧ (∀ b o, h2.get? b = some o → b ∉ wr → h'.get? b = some o)) ?_ (xs.length + 1)
      ⟨0, h₁, _, _, [], [], ys, rfl, Nat.zero_le _, rfl, it.walks.frame _ _ _ it.st fun b _ o hb => old b o hb, hacc, hns₁, by simp only [Reps], Nat.le_refl _, by simpa using hys, rfl, fun b o hb _ => old b o hb⟩
    rintro k s' ⟨i, h', tk, m', vs, done, rest, rfl, hile, rfl, st, hpl, hns, hre, hdl, hrest, hyd, keep⟩
    have al' : ∀ (h'' : Heap) (j : Nat), St j h'' → (∃ vs, h''.PlainList D (List.toArray vs)) → (∀ b o, h2.get? b = some o → b ∉ wr → h''.get? b = some o) → ∀ a, X' a → ∃ o, h''.get? a = some o := by
      intro h'' j st' ⟨vs', n', hp'⟩ kp a ha
      by_cases hw : a ∈ wr
      · exact it.wal j h'' st' a hw
      · rcases ha with ha | ha | rfl
        · obtain ⟨o, ho⟩ := Cx0.al a ha
          exact ⟨o, kp a o (e2 a o ho) hw⟩
        · exact absurd ha hw
        · exact ⟨_, hp'⟩
    have view' : ∀ (h'' : Heap), (∀ b o, h2.get? b = some o → b ∉ wr → h''.get? b = some o) → View B X' env names ρ h'' := by
      intro h'' kp y u hl ha
      obtain ⟨v, hv, hr⟩ := Cx0.view y u hl ha
      have kp0 : Ext s.heap h'' := fun b o hb => kp b o (e2 b o hb) fun hw => by rw [it.fresh b hw] at hb; cases hb
      refine ⟨v, hv.ext kp0, Rep.frame ok.nf (fun b hb => ?_) (fun b o hb _ _ => kp0 b o hb) u v hr⟩
      rcases hb with hb | hb | rfl
      · exact .inl hb
      · exact .inr (it.fresh b hb)
      · exact .inr (dead0 b (Nat.le_refl _))
    have hbx : ∀ (h'' : Heap), (∀ b o, h2.get? b = some o → b ∉ wr → h''.get? b = some o) → Ext B.hb h'' := fun h'' kp b o hb => kp b o (e2 b o (Cx0.hb b o hb)) fun hw => by have := Cx0.hb b o hb; rw [it.fresh b hw] at this; cases this
    by_cases hlt : i < xs.length
    · obtain ⟨xi, hxi⟩ : ∃ xi, xs[i]? = some xi := ⟨xs[i], List.getElem?_eq_getElem hlt⟩
      have hdrop : xs.drop i = xi :: xs.drop (i + 1) := by
        rw [List.drop_eq_getElem_cons hlt]
        have := List.getElem?_eq_getElem hlt
        rw [hxi] at this
        rw [Option.some.inj this]
      rw [hdrop] at hrest
      unfold compL at hrest
      obtain ⟨b, hb, hrest⟩ := Option.bind_eq_some_iff.mp hrest
      refine it.walks.item i _ _ _ hlt st fun v h3 tk3 hP st3 hk3 => ?_
      have hk3' : ∀ b o, ¬ (b ∈ wr) → h'.get? b = some o → h3.get? b = some o := fun b o hb e' => hk3 b o hb e'
      have hCw : D + 1 ∉ wr := fun h => neC _ (hwD _ h) rfl
      have hDw : D ∉ wr := fun h => neD _ (hwD _ h) rfl
      refine wpAny_assign_Name (wpAny_storeName_local hxl (hns.at' fun o e' => hk3' _ o hCw e') (fun h4 hn4 hs4 => ?_) hsk)
      have up4 : ∀ b o, b ≠ D + 1 → b ∉ wr → h'.get? b = some o → h4.get? b = some o := fun b o hbC hbw e' => hs4.extBut b o hbC (hk3' b o hbw e')
      have st4 : St (i + 1) h4 := it.walks.frame _ _ _ st3 fun b hb o e' => hs4.extBut b o (neC b (hfpD b hb)) e'
      have keep4 : ∀ b o, h2.get? b = some o → b ∉ wr → h4.get? b = some o := fun b o hb hw => up4 b o (neC b (live b o hb)) hw (keep b o hb hw)
      have hpl4 : h4.PlainList D (List.toArray vs) := hpl.at fun o e' => up4 D o hDC hDw e'
      have hre4 : Reps B.P X' h4 done vs := hre.frame ok.nf (fun _ hb => .inl hb) (fun b o hb hn hx => up4 b o (nf_ne_ns hns hb hn) (fun hw => hx (.inr (.inl hw))) hb) _ _
      obtain ⟨ti, hti, hri⟩ := it.held i v hP hlt
      have hti' : ti = xi := by rw [hxi] at hti; exact (Option.some.inj hti).symm
      subst hti'
      have hri4 : Rep B.P X' h4 ti v := Rep.frame ok.nf (fun b hb => by
        rcases hb with hb | hb | rfl
        · exact .inl (.inl hb)
        · exact .inl (.inr hb)
        · exact .inr (dead2 b (Nat.le_refl _))) (fun b o hb _ hx => keep4 b o hb fun hw => hx (.inr hw)) ti v hri
      have C4 : Cx B X' cenv (x :: names) (some ti :: ρ) h4 := by
        refine ⟨hbx h4 keep4, al' h4 (i + 1) st4 ⟨vs, hpl4⟩ keep4, ?_⟩
        have := comp_view (B := B) (xs := [x]) eo c (view' h4 keep4) hn4 [ti] [v] rfl (Reps.one hri4) (fun j y u h1 h2 => by
          cases j with
          | zero => simp at h1 h2; subst h1 h2; simp
          | succ j => simp at h1)
        exact this
      refine wpAny_mono (ht X' cenv _ { s with heap := h4, toks := tk3 + 1 } b A _ ceo rm C4 hb) (fun bv s5 q => ?_) fun _ _ z => z
      obtain ⟨rfl, h5, tk5, rfl, e5⟩ := q
      have st5 : St (i + 1) h5 := it.walks.frame _ _ _ st4 fun b _ o e' => e5 b o e'
      have hre5 := hre4.ext ok.nf e5
      have hpl5 : h5.PlainList D (List.toArray vs) := hpl4.at fun o e' => e5 _ o e'
      have hn5 := hn4.keeps e5
      cases bv with
      | false =>
        simp only [Bool.false_eq_true, if_false] at hrest ⊢
        exact ⟨xs.length + 1 - (i + 1), by omega, i + 1, h5, tk5, _, vs, done, rest, rfl, hlt, rfl, st5, hpl5, hn5, hre5, by omega, hrest, hyd, fun b o hb hw => e5 b o (keep4 b o hb hw)⟩
      | true =>
        simp only [if_true] at hrest ⊢
        obtain ⟨y, hy, hrest⟩ := Option.bind_eq_some_iff.mp hrest
        obtain ⟨rest', hrest', rfl⟩ := Option.map_eq_some_iff.mp hrest
        refine he.use (s := { s with heap := h5, toks := tk5 }) ok ceo rm (C4.ext ok e5) hy fun w h6 tk6 e6 C6 r6 => ?_
        have hpl6 : h6.PlainList D (List.toArray vs) := hpl5.at fun o e' => e6 _ o e'
        have hvl := hre.length
        refine wpAny_list_append_plain (s := { s with heap := h6, toks := tk6 }) hpl6 (fun h7 hpl7 hs7 => ?_) (by rw [List.size_toArray, hvl]; exact Nat.le_trans (Nat.le_trans hdl (Nat.le_trans hile hlen)) (by decide))
        have hpl7' : h7.PlainList D (List.toArray (vs ++ [w])) := by simpa using hpl7
        have upX : ∀ b o, h6.get? b = some o → NF o → ¬ X' b → h7.get? b = some o := fun b o hb _ hx => hs7.extBut b o (fun h => hx (.inr (.inr h))) hb
        refine ⟨xs.length + 1 - (i + 1), by omega, i + 1, h7, tk6, _, vs ++ [w], done ++ [y], rest', rfl, hlt, rfl, it.walks.frame _ _ _ st5 fun b hb o e' => hs7.extBut b o (neD b (hfpD b hb)) (e6 b o e'), hpl7',
          (hn5.keeps e6).sameBut hs7 (Ne.symm hDC), ?_, by simp only [List.length_append, List.length_singleton]; omega, hrest', by rw [hyd]; simp, fun b o hb hw => hs7.extBut b o (neD b (live b o hb)) (e6 b o (e5 b o (keep4 b o hb hw)))⟩
        exact Reps.append ((hre5.ext ok.nf e6).frame ok.nf (fun _ hb => .inl hb) upX _ _) (Reps.one (Rep.frame ok.nf (fun _ hb => .inl hb) upX y w r6))
    · have hin : i = xs.length := by omega
      subst hin
      refine it.walks.done _ _ _ st fun h3 tk3 hk3 => ?_
      rw [List.drop_length] at hrest
      simp only [compL] at hrest
      cases hrest
      rw [List.append_nil] at hyd
      subst hyd
      have hCw : D + 1 ∉ wr := fun h => neC _ (hwD _ h) rfl
      have hDw : D ∉ wr := fun h => neD _ (hwD _ h) rfl
      refine hRR D (D + 1) h3 tk3 m' vs (dead0 D (Nat.le_refl _)) (dead0 _ (Nat.le_succ _)) hDC (hns.at' fun o e' => hk3 _ o hCw e') (hpl.at fun o e' => hk3 _ o hDw e') (hre.frame ok.nf (fun b hb => .inl (.inl hb)) (fun b o hb _ hx => hk3 b o (fun hw => hx (.inr (.inl hw))) hb) _ _) fun b o hb => ?_
      have hw : b ∉ wr := fun hw => by rw [it.fresh b hw] at hb; cases hb
      exact hk3 b o hw (keep b o (e2 b o hb) hw)
  exact codeAny_compStart_list (loop _ rfl) (it.walks.self 0 _ _ _ (it.walks.frame _ _ _ it.st fun b _ o hb => old b o hb) (loop _ rfl))

noncomputable def eComp (src : Dl) (t : Db) (e : Dn) : Dn := fun ρ => (src ρ).bind fun xs => (compL (fun u => t (some u :: ρ)) (fun u => e (some u :: ρ)) xs).map T.list

theorem CompOk.locs {sc scope : Scope} {xs names : List Str} (c : CompOk sc scope xs names) : ∀ x ∈ scope.names, x.2 = .local → scope.names.lookup x.1 = some .local := fun p hp e => lookup_of_nodup c.nodup (by rw [← e]; exact hp)

theorem f_comp (ok : B.Ok) {x : Str} {px pos : Pos} {iter elt : Expr} {ifs : List Expr} {scope : Scope} {src : Dl} {t : Db} {e : Dn} (hs : SoundI B sc names n iter src) (ht : SoundQ B (relabelS scope sc) (x :: names) n ifs t) (he : SoundE B (relabelS scope sc) (x :: names) n elt e)
    (hc : compOk sc scope [x] names = true := by kernel_rfl) (hf : ∀ (env : Env) x, foldedSetIterable iter env x = pure x := by intro _ _; rfl) :
    SoundF B sc names n (.ListComp elt [⟨.Name x px, iter, ifs, 0⟩] scope pos) (eComp src t e) := by
  intro X env ρ s ys A E eo rm C hd
  unfold eComp at hd
  obtain ⟨xs, hxs, hd⟩ := Option.bind_eq_some_iff.mp hd
  obtain ⟨ys', hys, hd⟩ := Option.map_eq_some_iff.mp hd
  cases hd
  have c := compOk_iff hc
  rw [eval_ListComp]
  refine wpAny_comprehension_free (use := none) rfl (hf env) (comp_closure eo c) c.kind c.locs
    (comp_core ok hs ht he c eo rm C hxs hys (RR := compPost (model B.prog B.w) A E none (OutN B X s ys))
      fun D Ca h' tk m' vs hD hCa hDC hns hpl hre ext => ⟨m', hns, fun h'' hs'' => ?_⟩)
  refine ⟨⟨h'', tk, rfl, fun b o hb => hs''.extBut b o (fun e => by subst e; rw [hCa] at hb; cases hb) (ext b o hb)⟩, D, vs, rfl, hD, hpl.extBut hs''.extBut hDC, hre.frame ok.nf (fun _ hb => .inl hb) (fun b o hb hn _ => hs''.extBut b o (nf_ne_ns hns hb hn) hb) _ _⟩
theorem s_comp (ok : B.Ok) {x : Str} {px pos : Pos} {iter elt : Expr} {ifs : List Expr} {scope : Scope} {src : Dl} {t : Db} {e : Dn} (hs : SoundI B sc names n iter src) (ht : SoundQ B (relabelS scope sc) (x :: names) n ifs t) (he : SoundE B (relabelS scope sc) (x :: names) n elt e)
    (hc : compOk sc scope [x] names = true := by kernel_rfl) (hf : ∀ (env : Env) x, foldedSetIterable iter env x = pure x := by intro _ _; rfl) :
    SoundE B sc names n (.ListComp elt [⟨.Name x px, iter, ifs, 0⟩] scope pos) (eComp src t e) := by
  refine (f_comp (px := px) (pos := pos) ok hs ht he hc hf).sound fun ρ t' hd => ?_
  unfold eComp at hd
  obtain ⟨xs, hxs, hd⟩ := Option.bind_eq_some_iff.mp hd
  obtain ⟨ys', hys, hd⟩ := Option.map_eq_some_iff.mp hd
  exact ⟨ys', hd.symm⟩

/-! ### y = [...]: the comprehension's own frame is given up behind the assignment -/
theorem Rel.changeC (ok : B.Ok) {X : Addr → Prop} {env : Env} {adr : List (List Addr)} {h h' : Heap} {ρ : List Slot} (R : Rel B X env names ρ adr h) (hk : ∀ b o, (NF o ∨ foot env adr b) → h.get? b = some o → h'.get? b = some o) (hb : Ext B.hb h') (al : ∀ a, X a → ∃ o, h'.get? a = some o) : Rel B X env names ρ adr h' := by
  have kf : ∀ b o, foot env adr b → h.get? b = some o → h'.get? b = some o := fun b o hf hb => hk b o (.inr hf) hb
  refine ⟨hb, al, R.xoff, R.boff, ?_, fun x c hc => ?_, R.apart, R.kinds, R.nodup, R.len, R.lenA, fun i x sl as h1 h2 h3 => ?_, R.dis⟩
  · obtain ⟨m, hm⟩ := R.ns
    exact ⟨m, hm.at' fun o e => kf _ o (.inl rfl) e⟩
  · obtain ⟨v, o, ho, hd⟩ := R.cells x c hc
    exact ⟨v, o, kf c o (.inr (.inl ⟨x, hc⟩)) ho, hd⟩
  · rcases R.slots i x sl as h1 h2 h3 with hu | ⟨v, hv, hs⟩
    · exact .inl hu
    · refine .inr ⟨v, ?_, hs.frame ok.nf (fun b hb => .inl hb) (fun b o hb hn _ => hk b o (.inl hn) hb) fun b hb o ho => kf b o (.inr (.inr (inOwn_of h3 hb))) ho⟩
      rcases hv with ⟨hl, m, hm, hmx⟩ | ⟨hl, c, hc, o, ho, hd⟩
      · exact .inl ⟨hl, m, hm.at' fun o e => kf _ o (.inl rfl) e, hmx⟩
      · exact .inr ⟨hl, c, hc, o, kf c o (.inr (.inl ⟨x, hc⟩)) ho, hd⟩

/-- behind the assignment the frame C of the comprehension's own is let go -/
theorem aft_letGo (ok : B.Ok) {X : Addr → Prop} {env : Env} {adr adr' : List (List Addr)} {h0 h1 h2 h3 : Heap} {ρ ρ' : List Slot} {C : Addr} {m : Str → Option Value} (R : Rel B X env names ρ adr h0) (a : Aft B X env names adr h0 ρ' adr' h2) (hC0 : h0.get? C = none) (hn : h2.Ns C m) (hs : Heap.SameBut C h2 h3) (hown : ¬ inOwn adr' C) :
    Aft B X env names adr h0 ρ' adr' h3 := by
  have hCf : ¬ foot env adr' C := fun hf => by
    rcases hf with rfl | ⟨x, hc⟩ | ho
    · obtain ⟨m', o, es, ep, hg, _⟩ := R.ns; rw [hC0] at hg; cases hg
    · obtain ⟨v, o, hg, _⟩ := R.cells x C hc; rw [hC0] at hg; cases hg
    · exact hown ho
  refine ⟨a.rel.changeC ok (fun b o hb ho => hs.extBut b o (fun e => ?_) ho) (fun b o hb => ?_) (fun b hb => ?_), fun b o hb hf => ?_, a.new⟩
  · subst e
    rcases hb with hb | hb
    · exact nf_ne_ns hn ho hb rfl
    · exact hCf hb
  · exact hs.extBut b o (fun e => by subst e; have := R.hb b o hb; rw [hC0] at this; cases this) (a.rel.hb b o hb)
  · obtain ⟨o, ho⟩ := a.rel.al b hb
    refine ⟨o, hs.extBut b o (fun e => ?_) ho⟩
    subst e
    obtain ⟨o', ho'⟩ := R.al b hb
    rw [hC0] at ho'; cases ho'
  · exact hs.extBut b o (fun e => by subst e; rw [hC0] at hb; cases hb) (a.pres b o hb hf)

theorem comp_assign (ok : B.Ok) {x y : Str} {iy : Nat} {px py pos spos : Pos} {iter elt : Expr} {ifs : List Expr} {scope : Scope} {src : Dl} {t : Db} {e : Dn} (hs : SoundI B sc names n iter src) (ht : SoundQ B (relabelS scope sc) (x :: names) n ifs t) (he : SoundE B (relabelS scope sc) (x :: names) n elt e)
    (c : CompOk sc scope [x] names) {X Z : Addr → Prop} {env : Env} {ρ : List Slot} {ρe : List (Option T)} {adr adr' : List (List Addr)} {s : Shared} {A : Around} {E : Value → Shared → Prop} (eo : EnvOk sc env) (rm : Room n A) (R : Rel B X env names ρ adr s.heap) (Cx0 : Cx B Z env names ρe s.heap) {ys : List T} {sl : Slot} (hd : eComp src t e ρe = some (.list ys))
    (hf : ∀ (env : Env) x, foldedSetIterable iter env x = pure x)
    (hsw : swapsWith (.ListComp elt [⟨.Name x px, iter, ifs, 0⟩] scope pos) (some (.Name y py)) spos.line env = pure true)
    (store : ∀ (D : Addr) (s' : Shared) (Q : Unit → Shared → Prop), OutN B Z s ys (.ref D) s' → (∀ h' tk', Aft B X env names adr s.heap (ρ.set iy sl) (adr.set iy (match sl with | .own _ => [D] | _ => [])) h' → (∀ b o, s'.heap.get? b = some o → ¬ foot env adr b → h'.get? b = some o) → Q () { s with heap := h', toks := tk' }) → wpAny (model B.prog B.w) A (storeName env y (.ref D)) Q E s') :
    wpAny (model B.prog B.w) A (exec (.Assign [.Name y py] (.ListComp elt [⟨.Name x px, iter, ifs, 0⟩] scope pos) spos) env) (After B X env names adr s .next (ρ.set iy sl)) E s := by
  unfold eComp at hd
  obtain ⟨xs, hxs, hd⟩ := Option.bind_eq_some_iff.mp hd
  obtain ⟨ys', hys, hd⟩ := Option.map_eq_some_iff.mp hd
  cases hd
  rw [exec_Assign_Name_used _ _ _ _ hsw]
  refine wpAny_bind (wpAny_standAt (wpAny_bind ?_))
  show wpAny _ A (do let _ ← comprehension (.ListComp elt [⟨.Name x px, iter, ifs, 0⟩] scope pos) scope env _ (newList []) false (eval iter env) (some (assign (.Name y py) env))) _ _ s
  refine wpAny_bind (wpAny_mono (wpAny_comprehension_free (use := some (assign (.Name y py) env)) (Q := fun _ s' => After B X env names adr s .next (ρ.set iy sl) .next s') rfl (hf env) (comp_closure eo c) c.kind c.locs ?_)
    (fun _ s' hq => wpAny_pure (wpAny_pure hq)) fun _ _ e => e)
  refine comp_core ok hs ht he c eo rm Cx0 hxs hys (RR := compPost (model B.prog B.w) A E (some (assign (.Name y py) env)) (fun _ s' => After B X env names adr s .next (ρ.set iy sl) .next s')) ?_
  intro D Ca h' tk m' vs hD hCa hDC hns hpl hre ext
  show wpAny _ A (assign (.Name y py) env (.ref D)) _ E _
  refine wpAny_assign_Name (store D _ _ ⟨⟨h', tk, rfl, ext⟩, D, vs, rfl, hD, hpl, hre⟩ fun h2 tk2 a keep => ?_)
  have hCf : ¬ foot env adr Ca := fun hf => by
    obtain ⟨o, ho⟩ := R.footAlive Ca hf
    rw [hCa] at ho; cases ho
  have hn2 : h2.Ns Ca m' := hns.at' fun o ho => keep Ca o ho hCf
  refine ⟨m', hn2, fun h3 hs3 => ⟨_, h3, tk2, rfl, aft_letGo (h1 := h') ok R a hCa hn2 hs3 fun ho => ?_, trivial⟩⟩
  rcases flatten_set_mem ho with ⟨j, bs, _, hj, hm⟩ | hm
  · exact hCf (.inr (.inr (inOwn_of hj hm)))
  · split at hm
    · exact hDC (List.mem_singleton.mp hm).symm
    · cases hm

theorem swaps_comp {elt : Expr} {gens : List Comprehension} {scope : Scope} {pos py : Pos} {y : Str} {line : Nat} {env : Env} : ∃ b, swapsWith (.ListComp elt gens scope pos) (some (.Name y py)) line env = pure b := ⟨_, rfl⟩

theorem t_setC (ok : B.Ok) {x y : Str} {iy : Nat} {px py pos spos : Pos} {iter elt : Expr} {ifs : List Expr} {scope : Scope} {src : Dl} {t : Db} {e : Dn} (hs : SoundI B sc names n iter src) (ht : SoundQ B (relabelS scope sc) (x :: names) n ifs t) (he : SoundE B (relabelS scope sc) (x :: names) n elt e)
    (hi : names[iy]? = some y := by kernel_rfl) (hc : compOk sc scope [x] names = true := by kernel_rfl) (hf : ∀ (env : Env) x, foldedSetIterable iter env x = pure x := by intro _ _; rfl) :
    SoundS B sc names n (.Assign [.Name y py] (.ListComp elt [⟨.Name x px, iter, ifs, 0⟩] scope pos) spos) (sSet iy (eComp src t e)) := by
  intro X env ρ adr s f ρ' A E eo rm R hd
  obtain ⟨b, hb⟩ := swaps_comp (elt := elt) (gens := [⟨.Name x px, iter, ifs, 0⟩]) (scope := scope) (pos := pos) (py := py) (y := y) (line := spos.line) (env := env)
  have h := s_comp (px := px) (pos := pos) ok hs ht he hc hf
  unfold sSet at hd
  obtain ⟨t1, ht1, hd⟩ := Option.bind_eq_some_iff.mp hd
  have hlist : ∀ ρ t', eComp src t e ρ = some t' → ∃ ys, t' = .list ys := fun ρ t' hd => by
    unfold eComp at hd
    obtain ⟨xs, hxs, hd⟩ := Option.bind_eq_some_iff.mp hd
    obtain ⟨ys', hys, hd⟩ := Option.map_eq_some_iff.mp hd
    exact ⟨ys', hd.symm⟩
  obtain ⟨ys1, rfl⟩ := hlist _ _ ht1
  simp only [flat, Bool.false_eq_true, if_false] at hd
  obtain ⟨t2, ht2, hd⟩ := Option.map_eq_some_iff.mp hd
  cases hd
  obtain ⟨ys, rfl⟩ := hlist _ _ ht2
  cases b with
  | false => exact wpAny_Assign_Name (h.use ok eo rm R.cxc ht2 fun v h' tk e1 C1 r => set_val ok eo R e1 hi r fun h2 tk2 a => ⟨_, h2, tk2, rfl, a, trivial⟩) hb
  | true =>
    refine comp_assign (adr' := adr) (sl := .val (.list ys)) ok hs ht he (compOk_iff hc) eo rm R R.cxc ht2 hf hb fun D s' Q o k => ?_
    have o' := o.out R.exAlive
    obtain ⟨⟨h', tk, rfl, e1⟩, r⟩ := o'
    exact set_val' ok eo R e1 hi r k
end
end Mine

namespace Mine
open PySem PySem.W PyProof.Rows

section
variable {B : Bd} {sc : Scope} {names : List Str} {n : Nat}

/-! ### append, pop, insert, sort -/
end
end Mine

namespace Mine
open PySem PySem.W PyProof.Rows

section
variable {B : Bd} {sc : Scope} {names : List Str} {n : Nat}

/-! x.sort() -/
/-! x.insert(k, y) -/
/-! x.count(y), x.index(y), y in x -/
end
end Mine

namespace Mine
open PySem PySem.W PyProof.Rows

section
variable {B : Bd} {sc : Scope} {names : List Str} {n : Nat}

end
end Mine

namespace Mine
open PySem PySem.W PyProof.Rows

/-! the tree of a sort's questions, for an order without ties -/
section
variable {n : Nat} {lt : Nat → Nat → Bool}
noncomputable abbrev pAsk (n : Nat) (lt : Nat → Nat → Bool) (i j : Nat) (C : Bool → Shared → Prop) (s : Shared) : Prop := i < n ∧ j < n ∧ C (lt i j) s
structure OrdN (n : Nat) (lt : Nat → Nat → Bool) : Prop where
  irr : ∀ i, i < n → lt i i = false
  tr : ∀ i j k, i < n → j < n → k < n → lt i j = true → lt j k = true → lt i k = true
  tot : ∀ i j, i < n → j < n → i ≠ j → lt i j = true ∨ lt j i = true
theorem OrdN.not (O : OrdN n lt) {i j : Nat} (hi : i < n) (hj : j < n) (hne : i ≠ j) (h : lt i j = false) : lt j i = true := by
  rcases O.tot i j hi hj hne with e | e
  · rw [h] at e; cases e
  · exact e
/-- an arrangement of the numbers below n -/
structure Arr (n : Nat) (p : Array Nat) : Prop where
  size : p.size = n
  lt : ∀ i, i < n → p.getD i 0 < n
  inj : ∀ i j, i < n → j < n → p.getD i 0 = p.getD j 0 → i = j
  perm : p.toList.Perm (List.range n)
noncomputable def Asc (lt : Nat → Nat → Bool) (p : Array Nat) (k : Nat) : Prop := ∀ i j, i < j → j < k → lt (p.getD i 0) (p.getD j 0) = true
theorem arr_of_perm {p q : Array Nat} (A : Arr n p) (h : q.Perm p) : Arr n q := by
  have hp : q.toList.Perm (List.range n) := (Array.perm_iff_toList_perm.mp h).trans A.perm
  have hs : q.size = n := by have := hp.length_eq; simpa using this
  have hnd : q.toList.Nodup := hp.nodup_iff.mpr List.nodup_range
  have hg : ∀ i, i < n → q.getD i 0 = q.toList[i]! := fun i hi => by
    have : i < q.size := by omega
    simp [Array.getD, this]
  refine ⟨hs, fun i hi => ?_, fun i j hi hj e => ?_, hp⟩
  · have hi' : i < q.toList.length := by simp [hs]; exact hi
    have hm : q.getD i 0 = q.toList[i] := by simp [Array.getD, show i < q.size by omega]
    rw [hm]
    exact List.mem_range.mp (hp.mem_iff.mp (List.getElem_mem hi'))
  · have hi' : i < q.toList.length := by simp [hs]; exact hi
    have hj' : j < q.toList.length := by simp [hs]; exact hj
    have h1 : q.getD i 0 = q.toList[i] := by simp [Array.getD, show i < q.size by omega]
    have h2 : q.getD j 0 = q.toList[j] := by simp [Array.getD, show j < q.size by omega]
    rw [h1, h2] at e
    exact (List.getElem_inj hnd).mp e
theorem arr_range (n : Nat) : Arr n (List.toArray (List.range n)) := by
  refine ⟨by simp, fun i hi => ?_, fun i j hi hj e => ?_, by simp⟩
  · simp [Array.getD, hi]
  · simpa [Array.getD, hi, hj] using e
theorem getD_of_get? {p q : Array Nat} {i j : Nat} (h : p[i]? = q[j]?) : p.getD i 0 = q.getD j 0 := by
  rw [Array.getD_eq_getD_getElem?, Array.getD_eq_getD_getElem?, h]
theorem asc_snoc (O : OrdN n lt) {p : Array Nat} (A : Arr n p) {k : Nat} (hk : k < n) (h : Asc lt p k) (h2 : 0 < k → lt (p.getD (k - 1) 0) (p.getD k 0) = true) : Asc lt p (k + 1) := by
  intro i j hij hj
  by_cases hjk : j < k
  · exact h i j hij hjk
  · have : j = k := by omega
    subst this
    by_cases hi : i = j - 1
    · subst hi; exact h2 (by omega)
    · exact O.tr _ _ _ (A.lt _ (by omega)) (A.lt _ (by omega)) (A.lt _ hk) (h i (j - 1) (by omega) (by omega)) (h2 (by omega))

theorem asc_ok (O : OrdN n lt) {p : Array Nat} (A : Arr n p) : ∀ (f k : Nat) (s : Shared) (Q : Nat → Shared → Prop), 1 ≤ k → k + f = n → Asc lt p k →
    (∀ m, k ≤ m → m ≤ n → Asc lt p m → (m < n → lt (p.getD m 0) (p.getD (m - 1) 0) = true) → Q m s) → (kas_asc p f k).kasWp (pAsk n lt) Q s
  | 0, k, s, Q, h1, hk, ha, hQ => hQ k (Nat.le_refl _) (by omega) ha (fun h => by omega)
  | f + 1, k, s, Q, h1, hk, ha, hQ => by
    have hkn : k < n := by omega
    refine ⟨A.lt _ hkn, A.lt _ (by omega), ?_⟩
    cases e : lt (p.getD k 0) (p.getD (k - 1) 0) with
    | true => exact hQ k (Nat.le_refl _) (by omega) ha (fun _ => e)
    | false =>
      simp only [Bool.false_eq_true, if_false]
      have hne : p.getD k 0 ≠ p.getD (k - 1) 0 := fun h => by have := A.inj _ _ hkn (by omega) h; omega
      have h2 := O.not (A.lt _ hkn) (A.lt _ (by omega)) hne e
      exact asc_ok O A f (k + 1) s Q (by omega) (by omega) (asc_snoc O A hkn ha fun _ => h2) fun m a b c d => hQ m (by omega) b c d
noncomputable def Desc (lt : Nat → Nat → Bool) (p : Array Nat) (k : Nat) : Prop := ∀ i j, i < j → j < k → lt (p.getD j 0) (p.getD i 0) = true
theorem desc_snoc (O : OrdN n lt) {p : Array Nat} (A : Arr n p) {k : Nat} (hk : k < n) (h : Desc lt p k) (h2 : 0 < k → lt (p.getD k 0) (p.getD (k - 1) 0) = true) : Desc lt p (k + 1) := by
  intro i j hij hj
  by_cases hjk : j < k
  · exact h i j hij hjk
  · have : j = k := by omega
    subst this
    by_cases hi : i = j - 1
    · subst hi; exact h2 (by omega)
    · exact O.tr _ _ _ (A.lt _ hk) (A.lt _ (by omega)) (A.lt _ (by omega)) (h2 (by omega)) (h i (j - 1) (by omega) (by omega))
theorem desc_ok (O : OrdN n lt) {p : Array Nat} (A : Arr n p) : ∀ (f k : Nat) (s : Shared) (Q : Array Nat × Nat × Nat → Shared → Prop), 1 ≤ k → k + f = n → Desc lt p k →
    (∀ m, k ≤ m → m ≤ n → Desc lt p m → Q (p, m, 0) s) → (kas_desc f p k 0).kasWp (pAsk n lt) Q s
  | 0, k, s, Q, h1, hk, ha, hQ => hQ k (Nat.le_refl _) (by omega) ha
  | f + 1, k, s, Q, h1, hk, ha, hQ => by
    have hkn : k < n := by omega
    refine ⟨A.lt _ hkn, A.lt _ (by omega), ?_⟩
    cases e : lt (p.getD k 0) (p.getD (k - 1) 0) with
    | true =>
      simp only [if_true, gt_iff_lt, Nat.lt_irrefl, if_false]
      exact desc_ok O A f (k + 1) s Q (by omega) (by omega) (desc_snoc O A hkn ha fun _ => e) fun m a b c => hQ m (by omega) b c
    | false =>
      simp only [Bool.false_eq_true, if_false]
      have hne : p.getD k 0 ≠ p.getD (k - 1) 0 := fun h => by have := A.inj _ _ hkn (by omega) h; omega
      have h2 := O.not (A.lt _ hkn) (A.lt _ (by omega)) hne e
      refine ⟨A.lt _ (by omega), A.lt _ hkn, ?_⟩
      rw [h2]
      exact hQ k (Nat.le_refl _) (by omega) ha
theorem rev_asc {p : Array Nat} (A : Arr n p) {m : Nat} (hm : m ≤ n) (h : Desc lt p m) : Asc lt (kas_rev p 0 m) m := by
  intro i j hij hj
  have e : ∀ k, k < m → (kas_rev p 0 m).getD k 0 = p.getD (m - 1 - k) 0 := fun k hk => by
    refine getD_of_get? ?_
    rw [kas_rev, getElem?_mirror_all (by rw [A.size]; exact hm), if_pos ⟨Nat.zero_le _, hk⟩]
    congr 1; omega
  rw [e i (by omega), e j hj]
  exact h (m - 1 - j) (m - 1 - i) (by omega) (by omega)
theorem count_ok (O : OrdN n lt) {p : Array Nat} (A : Arr n p) (hn : 1 ≤ n) (s : Shared) (Q : Nat × Array Nat → Shared → Prop) (hQ : ∀ m q, 1 ≤ m → m ≤ n → Arr n q → Asc lt q m → Q (m, q) s) : (kas_count n p).kasWp (pAsk n lt) Q s := by
  unfold kas_count
  rw [KasT.kasWp_bind]
  refine asc_ok O A (n - 1) 1 s _ (Nat.le_refl _) (by omega) (fun i j h1 h2 => by omega) fun m h1 h2 h3 h4 => ?_
  by_cases hmn : m = n
  · subst hmn
    simp only [beq_self_eq_true, if_true]
    exact hQ m p h1 h2 A h3
  · have hb : (m == n) = false := by simpa using hmn
    rw [hb]
    simp only [Bool.false_eq_true, if_false]
    by_cases hm1 : m > 1
    · rw [if_pos hm1]
      refine ⟨A.lt _ (by omega), A.lt _ (by omega), ?_⟩
      rw [h3 0 (m - 1) (by omega) (by omega)]
      exact hQ m p h1 h2 A h3
    · rw [if_neg hm1]
      have : m = 1 := by omega
      subst this
      have hlt := h4 (by omega)
      unfold kas_descPart
      rw [KasT.kasWp_bind]
      have hd2 : Desc lt p 2 := fun i j hi hj => by
        have : i = 0 := by omega
        have : j = 1 := by omega
        subst i j; exact hlt
      refine desc_ok O A (n - (1 + 1)) (1 + 1) s _ (by omega) (by omega) hd2 fun m' g1 g2 g3 => ?_
      simp only [gt_iff_lt, Nat.lt_irrefl, if_false]
      unfold kas_tail3
      rw [KasT.kasWp_bind]
      have A' : Arr n (kas_rev p 0 m') := arr_of_perm A (mirror_perm _ _ _ _)
      exact asc_ok O A' (n - m') m' s _ (by omega) (by omega) (rev_asc A g2 g3) fun m'' f1 f2 f3 f4 => hQ m'' _ (by omega) f2 A' f3
theorem place_ok (O : OrdN n lt) {p : Array Nat} (A : Arr n p) {k : Nat} (hk : k < n) (ha : Asc lt p k) : ∀ (f l r : Nat) (s : Shared) (Q : Nat → Shared → Prop), r - l ≤ f → l ≤ r → r ≤ k →
    (∀ i, i < l → lt (p.getD i 0) (p.getD k 0) = true) → (∀ i, r ≤ i → i < k → lt (p.getD k 0) (p.getD i 0) = true) →
    (∀ m, m ≤ k → (∀ i, i < m → lt (p.getD i 0) (p.getD k 0) = true) → (∀ i, m ≤ i → i < k → lt (p.getD k 0) (p.getD i 0) = true) → Q m s) → (kas_place p k f l r).kasWp (pAsk n lt) Q s
  | 0, l, r, s, Q, hf, hl, hr, h1, h2, hQ => hQ l (by omega) h1 fun i a b => h2 i (by omega) b
  | f + 1, l, r, s, Q, hf, hl, hr, h1, h2, hQ => by
    unfold kas_place
    by_cases h : l ≥ r
    · rw [if_pos h]; exact hQ l (by omega) h1 fun i a b => h2 i (by omega) b
    · rw [if_neg h]
      have hm : (l + r) / 2 < r := by omega
      have hm2 : l ≤ (l + r) / 2 := by omega
      refine ⟨A.lt _ hk, A.lt _ (by omega), ?_⟩
      cases e : lt (p.getD k 0) (p.getD ((l + r) / 2) 0) with
      | true =>
        simp only [if_true]
        refine place_ok O A hk ha f l ((l + r) / 2) s Q (by omega) hm2 (by omega) h1 (fun i a b => ?_) hQ
        by_cases hi : i = (l + r) / 2
        · subst hi; exact e
        · exact O.tr _ _ _ (A.lt _ hk) (A.lt _ (by omega)) (A.lt _ (by omega)) e (ha _ _ (by omega) b)
      | false =>
        simp only [Bool.false_eq_true, if_false]
        have hne : p.getD k 0 ≠ p.getD ((l + r) / 2) 0 := fun h => by have := A.inj _ _ hk (by omega) h; omega
        have h3 := O.not (A.lt _ hk) (A.lt _ (by omega)) hne e
        refine place_ok O A hk ha f ((l + r) / 2 + 1) r s Q (by omega) (by omega) hr (fun i a => ?_) h2 hQ
        by_cases hi : i = (l + r) / 2
        · subst hi; exact h3
        · exact O.tr _ _ _ (A.lt _ (by omega)) (A.lt _ (by omega)) (A.lt _ hk) (ha _ _ (by omega) (by omega)) h3
theorem bin_ok (O : OrdN n lt) : ∀ (f k : Nat) (p : Array Nat) (s : Shared) (Q : Array Nat → Shared → Prop), Arr n p → k + f = n → Asc lt p k → (∀ q, Arr n q → Asc lt q n → Q q s) → (kas_bin f p k).kasWp (pAsk n lt) Q s
  | 0, k, p, s, Q, A, hk, ha, hQ => hQ p A (by rw [show n = k by omega]; exact ha)
  | f + 1, k, p, s, Q, A, hk, ha, hQ => by
    have hkn : k < n := by omega
    unfold kas_bin
    rw [KasT.kasWp_bind]
    refine place_ok O A hkn ha k 0 k s _ (by omega) (Nat.zero_le _) (Nat.le_refl _) (fun i h => by omega) (fun i a b => by omega) fun m hm h1 h2 => ?_
    have A' : Arr n (bubble p k (k - m)) := arr_of_perm A (bubble_perm _ _ _)
    refine bin_ok O f (k + 1) _ s Q A' (by omega) (fun i j hij hj => ?_) hQ
    have e : ∀ x, (bubble p k (k - m)).getD x 0 = if x = m then p.getD k 0 else if m < x ∧ x ≤ k then p.getD (x - 1) 0 else p.getD x 0 := fun x => by
      have h := getElem?_bubble (xs := p) (src := k) (by rw [A.size]; exact hkn) (k - m) (by omega) x
      rw [show k - (k - m) = m by omega] at h
      by_cases c1 : x = m
      · rw [if_pos c1] at h ⊢; exact getD_of_get? h
      · rw [if_neg c1] at h ⊢
        by_cases c2 : m < x ∧ x ≤ k
        · rw [if_pos c2] at h ⊢; exact getD_of_get? h
        · rw [if_neg c2] at h ⊢; exact getD_of_get? h
    rw [e i, e j]
    by_cases i1 : i = m
    · rw [if_pos i1, if_neg (by omega), if_pos (by omega)]
      exact h2 _ (by omega) (by omega)
    · rw [if_neg i1]
      by_cases i2 : m < i ∧ i ≤ k
      · rw [if_pos i2, if_neg (by omega), if_pos (by omega)]
        exact ha _ _ (by omega) (by omega)
      · rw [if_neg i2]
        by_cases j1 : j = m
        · rw [if_pos j1]; exact h1 _ (by omega)
        · rw [if_neg j1]
          by_cases j2 : m < j ∧ j ≤ k
          · rw [if_pos j2]; exact ha _ _ (by omega) (by omega)
          · rw [if_neg j2]; exact ha _ _ hij (by omega)
theorem tree_ok (O : OrdN n lt) (hn : 1 ≤ n) (s : Shared) (Q : Array Nat → Shared → Prop) (hQ : ∀ q, Arr n q → Asc lt q n → Q q s) : (kas_sort n).kasWp (pAsk n lt) Q s := by
  unfold kas_sort
  rw [KasT.kasWp_bind]
  refine count_ok O (arr_range n) hn s _ fun m q h1 h2 A ha => ?_
  by_cases hm : m < n
  · simp only [hm, if_true]
    rw [show max m 1 = m by omega]
    exact bin_ok O (n - m) m q s Q A (by omega) ha hQ
  · simp only [hm, if_false]
    exact hQ q A (by rw [show n = m by omega]; exact ha)
end
end Mine

namespace Mine
open PySem PySem.W PyProof.Rows

/-! pairs in order -/
noncomputable def plt (x y : Int × Int) : Bool := decide (x.1 < y.1) || (x.1 == y.1 && decide (x.2 < y.2))
theorem plt_iff {x y : Int × Int} : plt x y = true ↔ x.1 < y.1 ∨ (x.1 = y.1 ∧ x.2 < y.2) := by simp [plt]
theorem plt_irr (x : Int × Int) : plt x x = false := by cases h : plt x x with
  | false => rfl
  | true => rw [plt_iff] at h; omega
theorem plt_tr {x y z : Int × Int} (h : plt x y = true) (g : plt y z = true) : plt x z = true := by rw [plt_iff] at *; omega
theorem plt_tot {x y : Int × Int} (h : x ≠ y) : plt x y = true ∨ plt y x = true := by
  rw [plt_iff, plt_iff]
  have : ¬ (x.1 = y.1 ∧ x.2 = y.2) := fun e => h (Prod.ext e.1 e.2)
  omega
noncomputable def insP (a : Int × Int) : List (Int × Int) → List (Int × Int)
  | [] => [a]
  | b :: r => if plt a b then a :: b :: r else b :: insP a r
noncomputable def isortP : List (Int × Int) → List (Int × Int)
  | [] => []
  | a :: r => insP a (isortP r)
theorem insP_perm (a : Int × Int) : ∀ (l : List (Int × Int)), (insP a l).Perm (a :: l)
  | [] => List.Perm.refl _
  | b :: r => by
    unfold insP
    split
    · exact List.Perm.refl _
    · exact ((insP_perm a r).cons b).trans (List.Perm.swap a b r)
theorem isortP_perm : ∀ (l : List (Int × Int)), (isortP l).Perm l
  | [] => List.Perm.refl _
  | a :: r => (insP_perm a _).trans ((isortP_perm r).cons a)
noncomputable abbrev ple (x y : Int × Int) : Prop := plt y x = false
theorem ple_of {x y : Int × Int} (h : plt x y = true) : ple x y := by
  cases e : plt y x with
  | false => exact e
  | true => have := plt_tr h e; rw [plt_irr] at this; cases this
theorem ple_iff {x y : Int × Int} : ple x y ↔ x.1 < y.1 ∨ (x.1 = y.1 ∧ x.2 ≤ y.2) := by
  have : ple x y ↔ ¬ plt y x = true := by simp [ple]
  rw [this, plt_iff]; omega
theorem insP_sorted (a : Int × Int) : ∀ {l : List (Int × Int)}, l.Pairwise ple → (insP a l).Pairwise ple
  | [], _ => List.pairwise_singleton _ _
  | b :: r, h => by
    unfold insP
    obtain ⟨h1, h2⟩ := List.pairwise_cons.mp h
    split
    · rename_i hab
      refine List.pairwise_cons.mpr ⟨fun x hx => ?_, h⟩
      rcases List.mem_cons.mp hx with rfl | hx
      · exact ple_of hab
      · have := h1 x hx
        have hab := ple_of hab
        rw [ple_iff] at *; omega
    · rename_i hab
      refine List.pairwise_cons.mpr ⟨fun x hx => ?_, insP_sorted a h2⟩
      rcases List.mem_cons.mp ((insP_perm a r).mem_iff.mp hx) with rfl | hx
      · simpa [ple] using hab
      · exact h1 x hx
theorem isortP_sorted : ∀ (l : List (Int × Int)), (isortP l).Pairwise ple
  | [] => List.Pairwise.nil
  | a :: r => insP_sorted a (isortP_sorted r)
theorem sortedP_uniq {a b : List (Int × Int)} (p : a.Perm b) (ha : a.Pairwise ple) (hb : b.Pairwise ple) : a = b :=
  p.eq_of_pairwise (fun x y _ _ h1 h2 => by rw [ple_iff] at h1 h2; exact Prod.ext (by omega) (by omega)) ha hb

noncomputable def pT (p : Int × Int) : T := .tuple [.int p.1, .int p.2]
noncomputable def pairs? : List T → Option (List (Int × Int))
  | [] => some []
  | .tuple [.int a, .int b] :: r => (pairs? r).map fun l => (a, b) :: l
  | _ :: _ => none
theorem pairs?_eq : ∀ {xs : List T} {ps : List (Int × Int)}, pairs? xs = some ps → xs = ps.map pT
  | [], ps, h => by simp only [pairs?] at h; cases h; rfl
  | .tuple [.int a, .int b] :: r, ps, h => by
    simp only [pairs?] at h
    obtain ⟨l, hl, rfl⟩ := Option.map_eq_some_iff.mp h
    rw [pairs?_eq hl]; rfl
@[simp] theorem pairs?_map (ps : List (Int × Int)) : pairs? (ps.map pT) = some ps := by
  induction ps with
  | nil => rfl
  | cons p ps ih => simp [pairs?, pT, ih]

section
variable {prog : Program} {w : World} {A : Around} {E : Value → Shared → Prop} {s : Shared}
theorem ask_mono {n : Nat} {lt : Nat → Nat → Bool} {κ : SortKind} {vs : List Value} {sf : Shared} (hc : ∀ i j, i < n → j < n → ∀ (C : Bool → Shared → Prop), C (lt i j) sf → wpAny (model prog w) A (keyLt' κ (vs.getD i Value.none) (vs.getD j Value.none)) C (fun _ _ => False) sf) {α : Type} {Q : α → Shared → Prop} :
    ∀ (t : KasT α), t.kasWp (pAsk n lt) (fun a s' => s' = sf → Q a s') sf → t.kasWp (kas_ask prog w A κ vs) Q sf
  | .ret a, h => h rfl
  | .ask i j k, h => by
    obtain ⟨h1, h2, h3⟩ := h
    exact hc i j h1 h2 _ (ask_mono hc (k (lt i j)) h3)
theorem list_sort_tup {a : Addr} {vs : List Value} {n : Nat} {P : PySem.Fin → Shared → Prop} {lt : Nat → Nat → Bool} {κ : SortKind} (ho : s.heap.get? a = some (seqObj "list" vs.toArray n)) (h64 : vs.length < 64) (O : OrdN vs.length lt)
    (hk : ∀ h', (∀ b o, b ≠ a → s.heap.get? b = some o → h'.get? b = some o) → 2 ≤ vs.length → ∀ (Q : SortKind → Shared → Prop), Q κ { s with heap := h' } → wpAny (model prog w) A (keyKind' vs.toArray) Q E { s with heap := h' })
    (hc : ∀ h', (∀ b o, b ≠ a → s.heap.get? b = some o → h'.get? b = some o) → ∀ i j, i < vs.length → j < vs.length → ∀ (C : Bool → Shared → Prop), C (lt i j) { s with heap := h' } → wpAny (model prog w) A (keyLt' κ (vs.getD i Value.none) (vs.getD j Value.none)) C (fun _ _ => False) { s with heap := h' })
    (h : ∀ q, Arr vs.length q → Asc lt q vs.length → P (.done (.ret .none)) { s with heap := sortedHeap s.heap a vs (List.toArray (q.toList.map fun i => vs.getD i Value.none)) }) :
    wpAny (model prog w) A (Builtin.«list.sort» ⟨[.ref a], []⟩) P E s := by
  rw [list_sort_plain]
  have ha : a < s.heap.objs.size := Heap.lt_size ho
  refine wpAny_bind (listItems_at ho rfl ?_)
  refine wpAny_bind (listUpdate_at ho rfl ?_ (by rw [List.size_toArray, sizeLine_eq]; omega) (Nat.zero_le _))
  obtain ⟨e1, ho1⟩ : ∃ e1, (s.heap.update a (Obj.mapSeq fun _ => (#[] : Array Value))).get? a = some (seqObj "list" #[] e1) := ⟨_, get?_update_seq ho fun _ => #[]⟩
  refine wpAny_bind (seqEpoch_at ho1 rfl ?_)
  refine wpAny_bind (wpAny_newTuple ?_ (by show vs.length ≤ _; rw [sizeLine_eq]; omega))
  refine wpAny_bind (wpAny_newList ?_ (Nat.zero_le _))
  refine wpAny_holding ?_
  have ho6 : (((s.heap.update a (Obj.mapSeq fun _ => (#[] : Array Value))).push (seqObj "tuple" vs.toArray 0)).push (seqObj "list" #[] 0)).get? a = some (seqObj "list" #[] e1) :=
    Heap.get?_push_of_some _ (Heap.get?_push_of_some _ ho1)
  have keep : ∀ b o, b ≠ a → s.heap.get? b = some o → (((s.heap.update a (Obj.mapSeq fun _ => (#[] : Array Value))).push (seqObj "tuple" vs.toArray 0)).push (seqObj "list" #[] 0)).get? b = some o := fun b o hb e =>
    Heap.get?_push_of_some _ (Heap.get?_push_of_some _ ((Heap.SameBut.update s.heap a _).extBut b o hb e))
  show wpAny (model prog w) A _ P E { s with heap := ((s.heap.update a (Obj.mapSeq fun _ => (#[] : Array Value))).push (seqObj "tuple" vs.toArray 0)).push (seqObj "list" #[] 0) }
  dsimp only
  by_cases h2 : vs.toArray.size < 2
  · rw [if_pos h2, if_pos h2]
    refine wpAny_bind (wpAny_pure ?_)
    rw [StateT.run_pure]
    refine wpAny_bind (wpAny_pure ?_)
    dsimp only
    refine wpAny_bind (seqEpoch_at ho6 rfl ?_)
    refine wpAny_bind (listUpdate_at ho6 rfl ?_ (hsz2 := by rw [Array.size_map]; show (pairsOf vs).size ≤ _; rw [pairsOf_size, sizeLine_eq]; omega))
    simp only [bne_self_eq_false, Bool.false_eq_true, if_false]
    rw [List.size_toArray] at h2
    have := h (List.toArray (List.range vs.length)) (arr_range _) (fun i j hij hj => by omega)
    have e : List.toArray ((List.toArray (List.range vs.length)).toList.map fun i => vs.getD i Value.none) = Array.map (fun x => x.2) (vs.toArray.zip vs.toArray) := by
      apply Array.toList_inj.mp
      apply List.ext_getElem?
      intro i
      by_cases hi : i < vs.length
      · simp [hi]
      · simp [Nat.le_of_not_lt hi]
    rw [e] at this
    exact wpAny_pure this
  · rw [if_neg h2, if_neg h2]
    rw [List.size_toArray] at h2
    refine wpAny_bind (hk _ keep (by omega) _ ?_)
    have tree := tree_ok O (by omega) { s with heap := ((s.heap.update a (Obj.mapSeq fun _ => (#[] : Array Value))).push (seqObj "tuple" vs.toArray 0)).push (seqObj "list" #[] 0) }
      (fun q s' => s' = { s with heap := ((s.heap.update a (Obj.mapSeq fun _ => (#[] : Array Value))).push (seqObj "tuple" vs.toArray 0)).push (seqObj "list" #[] 0) } → (Arr vs.length q ∧ Asc lt q vs.length ∧ s' = { s with heap := ((s.heap.update a (Obj.mapSeq fun _ => (#[] : Array Value))).push (seqObj "tuple" vs.toArray 0)).push (seqObj "list" #[] 0) }))
      fun q a1 a2 e => ⟨a1, a2, e⟩
    have run := ask_mono (κ := κ) (vs := vs) (hc _ keep) _ tree
    refine wpAny_bind (wpAny_mono (kat_run (Q := fun st' s' => ∃ p : Array Nat, p.size = vs.length ∧ arrOf st' = p.map (kas_item (vs.toArray.zip vs.toArray)) ∧ failedOf st' = none ∧ (Arr vs.length p ∧ Asc lt p vs.length ∧ s' = { s with heap := ((s.heap.update a (Obj.mapSeq fun _ => (#[] : Array Value))).push (seqObj "tuple" vs.toArray 0)).push (seqObj "list" #[] 0) }))
      rfl (by omega) h64 (fun p' st' s' a1 a2 a3 a4 => ⟨p', a1, a2, a3, a4⟩) run) ?_ fun _ _ e => e)
    rintro ⟨⟨⟩, st'⟩ s' ⟨p, hp, har, hf, hA, hAs, rfl⟩
    dsimp only
    have hout := kat_snds (ks := vs) (vs := vs) rfl har
    refine wpAny_bind (seqEpoch_at ho6 rfl ?_)
    refine wpAny_bind (listUpdate_at ho6 rfl ?_ (hsz2 := by rw [hout]; simp only [List.size_toArray, List.length_map, Array.length_toList]; rw [hp, sizeLine_eq]; omega))
    rw [hf]
    simp only [bne_self_eq_false, Bool.false_eq_true, if_false]
    rw [hout]
    exact wpAny_pure (h p hA hAs)
theorem sorted_tup {l : Addr} {vs : List Value} {Q : Value → Shared → Prop} {lt : Nat → Nat → Bool} {κ : SortKind} (hl : s.heap.IsList l vs.toArray) (h64 : vs.length < 64) (O : OrdN vs.length lt)
    (hk : ∀ h', (∀ b o, s.heap.get? b = some o → h'.get? b = some o) → 2 ≤ vs.length → ∀ (Q : SortKind → Shared → Prop) E, Q κ { s with heap := h' } → wpAny (model prog w) A.in1.in1 (keyKind' vs.toArray) Q E { s with heap := h' })
    (hc : ∀ h', (∀ b o, s.heap.get? b = some o → h'.get? b = some o) → ∀ i j, i < vs.length → j < vs.length → ∀ (C : Bool → Shared → Prop), C (lt i j) { s with heap := h' } → wpAny (model prog w) A.in1.in1 (keyLt' κ (vs.getD i Value.none) (vs.getD j Value.none)) C (fun _ _ => False) { s with heap := h' })
    (h : ∀ q, Arr vs.length q → Asc lt q vs.length → Q (.ref (s.heap.objs.size + 1)) { s with heap := sortedAll s.heap vs (List.toArray (q.toList.map fun i => vs.getD i Value.none)) }) :
    wpAny (model prog w) A (call (.builtin "sorted") [.ref l]) Q E s := by
  refine Calls.call_function_entry kind_sorted plain_sorted entry_sorted (args_sorted1 _) ?_
  unfold Builtin.«sorted»
  refine wpAny_bind (m := checkCount "sorted" 1 1 _) (wpAny_pure ?_)
  refine wpAny_bind (collect_list hl ?_ (by rw [sizeLine_eq]; omega))
  refine wpAny_bind (wpAny_newList ?_ (by rw [sizeLine_eq]; omega))
  have hsz : ((s.heap.push (seqObj "list" #[] 0)).update s.heap.objs.size (Obj.mapSeq (· ++ vs.toArray))).objs.size = s.heap.objs.size + 1 := by
    rw [Heap.size_update, size_push']
  have hoL : (((s.heap.push (seqObj "list" #[] 0)).update s.heap.objs.size (Obj.mapSeq (· ++ vs.toArray))).push (seqObj "list" vs.toArray 0)).get? (s.heap.objs.size + 1) = some (seqObj "list" vs.toArray 0) := by
    rw [← hsz]; exact Heap.get?_push_size _ rfl
  have keep : ∀ b o, s.heap.get? b = some o → (((s.heap.push (seqObj "list" #[] 0)).update s.heap.objs.size (Obj.mapSeq (· ++ vs.toArray))).push (seqObj "list" vs.toArray 0)).get? b = some o := fun b o q => by
    have hlt : b < s.heap.objs.size := Heap.lt_size q
    rw [Heap.get?_push_ne _ _ _ (by rw [hsz]; exact Nat.ne_of_lt (Nat.lt_succ_of_lt hlt)), Heap.get?_update_ne _ _ _ _ (Nat.ne_of_lt hlt), Heap.get?_push_ne _ _ _ (Nat.ne_of_lt hlt)]
    exact q
  have keep2 : ∀ h' : Heap, (∀ b o, b ≠ s.heap.objs.size + 1 → (((s.heap.push (seqObj "list" #[] 0)).update s.heap.objs.size (Obj.mapSeq (· ++ vs.toArray))).push (seqObj "list" vs.toArray 0)).get? b = some o → h'.get? b = some o) → ∀ b o, s.heap.get? b = some o → h'.get? b = some o := fun h' kp b o e =>
    kp b o (Nat.ne_of_lt (Nat.lt_succ_of_lt (Heap.lt_size e))) (keep b o e)
  show wpAny _ _ _ _ _ { s with heap := ((s.heap.push (seqObj "list" #[] 0)).update s.heap.objs.size (Obj.mapSeq (· ++ vs.toArray))).push (seqObj "list" vs.toArray 0) }
  rw [hsz]
  refine wpAny_bind (wpAny_holding (wpAny_call_entry slot_list_sort ⟨_, hoL, rfl⟩ entry_list_sort (list_sort_tup (κ := κ) hoL h64 O (fun h' kp h2 Q q => hk h' (keep2 h' kp) h2 Q _ q) (fun h' kp i j hi hj C q => hc h' (keep2 h' kp) i j hi hj C q) fun q a1 a2 => ⟨_, rfl, ?_⟩) (args_list_sort _)))
  exact wpAny_pure ⟨_, rfl, h q a1 a2⟩

theorem looks_int {M : Model} {h : Heap} {i : Int} {t : Tok} : Looks M h (typeOf (.int i t)) (.type "int") := Looks.of_pure rfl
/-- a pair of ints at an address -/
noncomputable def IsPair (h : Heap) (v : Value) (p : Int × Int) : Prop := ∃ a t u, v = .ref a ∧ h.IsTuple a (List.toArray [.int p.1 t, .int p.2 u])
theorem IsPair.ext {h h' : Heap} {v : Value} {p : Int × Int} (k : ∀ b o, h.get? b = some o → h'.get? b = some o) : IsPair h v p → IsPair h' v p
  | ⟨a, t, u, e, o, ho, hc, n, hd⟩ => ⟨a, t, u, e, o, k a o ho, hc, n, hd⟩
theorem pair_lt {x y : Value} {p q : Int × Int} {C : Bool → Shared → Prop} (hx : IsPair s.heap x p) (hy : IsPair s.heap y q) (h : C (plt p q) s) : wpAny (model prog w) A (keyLt' (tuples' true) x y) C E s := by
  obtain ⟨a, t, u, rfl, o, ho, hc, n, hd⟩ := hx
  obtain ⟨b, t', u', rfl, o', ho', hc', n', hd'⟩ := hy
  refine kat_lt ho hd ho' hd' ?_
  show KatLex prog w A true false C [(.int p.1 t, .int q.1 t'), (.int p.2 u, .int q.2 u')] 0 s
  refine kat_cons (wpAny_eqBool_int ?_)
  by_cases e1 : p.1 = q.1
  · rw [e1, beq_self_eq_true]
    refine kat_yes (kat_cons (wpAny_eqBool_int ?_))
    by_cases e2 : p.2 = q.2
    · rw [e2, beq_self_eq_true]
      refine kat_yes (kat_nil ?_)
      have : plt p q = false := by rw [show p = q from Prod.ext e1 e2]; exact plt_irr q
      rw [this] at h; exact h
    · rw [show (p.2 == q.2) = false by simpa using e2]
      refine kat_no (kat_one _ _ (lt_int ?_))
      have : plt p q = decide (p.2 < q.2) := by rw [Bool.eq_iff_iff, plt_iff]; simp [e1]
      rw [this] at h; exact h
  · rw [show (p.1 == q.1) = false by simpa using e1]
    refine kat_no (oneLt_int ?_)
    have : plt p q = decide (p.1 < q.1) := by rw [Bool.eq_iff_iff, plt_iff]; simp [e1]
    rw [this] at h; exact h
theorem pairs_tups {h : Heap} : ∀ {vs : List Value} {ps : List (Int × Int)}, vs.length = ps.length → (∀ (i : Nat) v p, vs[i]? = some v → ps[i]? = some p → IsPair h v p) → ∃ fs, KatTups h vs fs ∧ fs.length = vs.length ∧ ∀ v ∈ fs, ∃ i t, v = .int i t
  | [], [], _, _ => ⟨[], trivial, rfl, fun v hv => by cases hv⟩
  | v :: vs, p :: ps, hl, hp => by
    obtain ⟨fs, h1, h2, h3⟩ := pairs_tups (vs := vs) (ps := ps) (by simpa using hl) fun i v p a b => hp (i + 1) v p (by simpa using a) (by simpa using b)
    obtain ⟨a, t, u, rfl, o, ho, hc, n, hd⟩ := hp 0 v p rfl rfl
    refine ⟨.int p.1 t :: fs, KatTups.cons ho hc hd rfl h1, by simp [h2], fun v hv => ?_⟩
    rcases List.mem_cons.mp hv with rfl | hv
    · exact ⟨_, _, rfl⟩
    · exact h3 v hv
end

section
variable {B : Bd} {sc : Scope} {names : List Str} {n : Nat}
noncomputable def gSortedP : List T → Option T
  | [.list xs] => (pairs? xs).bind fun ps => if ps.Nodup ∧ ps.length < 64 then some (.list ((isortP ps).map pT)) else none
  | _ => none
theorem rep_pair {P : Addr → Obj → Int → Prop} {X : Addr → Prop} {h : Heap} {p : Int × Int} {v : Value} (r : Rep P X h (pT p) v) : IsPair h v p := by
  simp only [pT, Rep, Reps] at r
  obtain ⟨a, vs, rfl, _, ht, _, _, rfl, ⟨t, rfl⟩, _, _, rfl, ⟨u, rfl⟩, rfl⟩ := r
  exact ⟨a, t, u, rfl, ht⟩
theorem sortedP_run (ok : B.Ok) {X : Addr → Prop} {A : Around} {s : Shared} {xs : List T} {v : Value} {t : T} {E : Value → Shared → Prop} (r : Rep B.P X s.heap (.list xs) v) (hd : gSortedP [.list xs] = some t) : ∃ ys, t = .list ys ∧ wpAny (model B.prog B.w) A (call (.builtin "sorted") [v]) (OutN B X s ys) E s := by
  simp only [gSortedP] at hd
  obtain ⟨ps, hps, hd⟩ := Option.bind_eq_some_iff.mp hd
  split at hd
  · rename_i hlt
    cases hd
    obtain ⟨hnd, h64⟩ := hlt
    have hx := pairs?_eq hps
    subst hx
    simp only [Rep] at r
    obtain ⟨a, vs, rfl, _, hp, hr⟩ := r
    have hlen : vs.length = ps.length := by rw [hr.length, List.length_map]
    have hat : ∀ (i : Nat) v p, vs[i]? = some v → ps[i]? = some p → IsPair s.heap v p := fun i v p h1 h2 => by
      obtain ⟨v', e, rv⟩ := hr.get (i := i) (t := pT p) (by rw [List.getElem?_map, h2]; rfl)
      rw [h1] at e; cases e
      exact rep_pair rv
    have hat' : ∀ i, i < vs.length → IsPair s.heap (vs.getD i Value.none) (ps.getD i (0, 0)) := fun i hi => by
      refine hat i _ _ ?_ ?_
      · simp [hi]
      · simp [show i < ps.length by omega]
    obtain ⟨fs, t1, t2, t3⟩ := pairs_tups hlen hat
    have O : OrdN vs.length (fun i j => plt (ps.getD i (0, 0)) (ps.getD j (0, 0))) := by
      refine ⟨fun i _ => plt_irr _, fun i j k _ _ _ => plt_tr, fun i j hi hj hne => plt_tot fun e => hne ?_⟩
      rw [hlen] at hi hj
      have e1 : ps.getD i (0, 0) = ps[i] := by simp [hi]
      have e2 : ps.getD j (0, 0) = ps[j] := by simp [hj]
      rw [e1, e2] at e
      exact (List.getElem_inj hnd).mp e
    refine ⟨_, rfl, sorted_tup (κ := tuples' true) hp.isList (by omega) O (fun h' kp h2 Q E q => ?_) (fun h' kp i j hi hj C q => ?_) fun q a1 a2 => ?_⟩
    · have t1' : KatTups h' vs fs := by
        have : ∀ (vs fs : List Value), KatTups s.heap vs fs → KatTups h' vs fs := by
          intro vs
          induction vs with
          | nil => intro fs h; cases fs with | nil => exact trivial | cons _ _ => exact h.elim
          | cons v vs ih =>
            intro fs h
            cases fs with
            | nil => exact h.elim
            | cons f fs =>
              obtain ⟨⟨a, o, xs, n, e1, e2, e3⟩, h⟩ := h
              exact ⟨⟨a, o, xs, n, e1, kp a o e2, e3⟩, ih fs h⟩
        exact this vs fs t1
      exact kat_kind (s := { s with heap := h' }) (T := .type "int") t1' (by omega) (fun v hv => by obtain ⟨i, t, rfl⟩ := t3 v hv; exact looks_int) (by decide) q
    · exact pair_lt (s := { s with heap := h' }) ((hat' i hi).ext kp) ((hat' j hj).ext kp) q
    · have hout : (q.toList.map fun i => ps.getD i (0, 0)) = isortP ps := by
        refine sortedP_uniq ?_ ?_ (isortP_sorted ps)
        · refine List.Perm.trans ?_ (isortP_perm ps).symm
          have e : (List.range vs.length).map (fun i => ps.getD i (0, 0)) = ps := by
            rw [hlen]
            apply List.ext_getElem?
            intro i
            by_cases hi : i < ps.length
            · simp [hi]
            · simp [Nat.le_of_not_lt hi]
          have := a1.perm.map fun i => ps.getD i (0, 0)
          rw [e] at this
          exact this
        · rw [List.pairwise_map, List.pairwise_iff_getElem]
          intro i j hi hj hij
          have hi' : i < q.size := by simpa using hi
          have hj' : j < q.size := by simpa using hj
          have := a2 i j hij (by rw [← a1.size]; exact hj')
          refine ple_of ?_
          simpa [Array.getD, hi', hj'] using this
      rw [← hout]
      refine ⟨⟨_, s.toks, rfl, fun b o hb => sortedAll_old hb⟩, s.heap.objs.size + 1, q.toList.map fun i => vs.getD i Value.none, rfl, get?_size _ (Nat.le_succ _), ?_, ?_⟩
      · obtain ⟨e, he⟩ := sortedAll_at s.heap vs (List.toArray (q.toList.map fun i => vs.getD i Value.none))
        exact ⟨e, he⟩
      · refine Reps.of_get (by simp) fun i t v h1 h2 => ?_
        simp only [List.getElem?_map, List.map_map] at h1 h2
        obtain ⟨k, hk, rfl⟩ := Option.map_eq_some_iff.mp h1
        rw [hk] at h2
        simp only [Option.map_some, Option.some.injEq] at h2
        subst h2
        have hkn : k < vs.length := List.mem_range.mp (a1.perm.mem_iff.mp (List.mem_of_getElem? hk))
        obtain ⟨v', e, rv⟩ := hr.get (i := k) (t := pT (ps.getD k (0, 0))) (by rw [List.getElem?_map]; simp [show k < ps.length by omega])
        have : vs.getD k Value.none = v' := by rw [List.getD_eq_getElem?_getD, e]; rfl
        rw [this]
        exact rv.ext ok.nf fun b o hb => sortedAll_old hb
  · cases hd
theorem call_sortedP (ok : B.Ok) : CallSound B (.builtin "sorted") gSortedP := by
  intro X A s ts vs t E rm hb al r hd
  match ts, hd, r with
  | [.list xs], hd, r =>
    simp only [Reps] at r
    obtain ⟨v, r', rfl, h1, h2⟩ := r
    subst h2
    obtain ⟨ys, rfl, h⟩ := sortedP_run (A := A) (E := E) ok h1 hd
    exact wpAny_mono h (fun _ _ o => o.out al) fun _ _ z => z
end
end Mine

namespace Mine
open PySem PySem.W PyProof.Rows
open PySem.AutoSeq1 (wpAny_loadPart')
open PySem.MeetsSeq PySem.MeetsSeq2 PySem.MeetsSeq3 PySem.SeqAt

/-! list.__ge__ of lists of ints -/
section
variable {B : Bd} {sc : Scope} {names : List Str} {n : Nat}
/-! x.index(k) -/
end
end Mine

namespace Mine
open PySem PySem.W PyProof.Rows

section
variable {B : Bd} {sc : Scope} {names : List Str} {n : Nat}

/-! ### comprehensions in general: several targets, several loops -/
noncomputable def Fits (B : Bd) (X : Addr → Prop) (h : Heap) (ls : List Str) (os : List (Option T)) (m : Str → Option Value) : Prop :=
  ∀ (i : Nat) (x : Str) (t : T), ls[i]? = some x → os[i]? = some (some t) → ∃ v, m x = some v ∧ Rep B.P X h t v
theorem Fits.frame {X Y : Addr → Prop} {h h' : Heap} {ls : List Str} {os : List (Option T)} {m : Str → Option Value} (ok : B.Ok) (hX : ∀ b, Y b → X b ∨ h.get? b = none) (hk : ∀ b o, h.get? b = some o → NF o → ¬ X b → h'.get? b = some o) (f : Fits B X h ls os m) : Fits B Y h' ls os m :=
  fun i x t h1 h2 => let ⟨v, h3, h4⟩ := f i x t h1 h2; ⟨v, h3, Rep.frame ok.nf hX hk t v h4⟩
theorem comp_view2 {scope : Scope} {env : Env} {ls : List Str} {C : Addr} {X : Addr → Prop} {ρ os : List (Option T)} {h : Heap} {m : Str → Option Value} (eo : EnvOk sc env) (c : CompOk sc scope ls names) (hv : View B X env names ρ h) (hC : h.Ns C m)
    (hlen : os.length = ls.length) (hm : Fits B X h ls os m) : View B X (compEnvC scope (closL env.cells scope.names []) C env) (ls ++ names) (os ++ ρ) h := by
  intro x t hl ha
  have hk : ∀ x, (compEnvC scope (closL env.cells scope.names []) C env).kindOf x = (relabelS scope sc).names.lookup x := fun x => by
    show (relabel scope env).names.lookup x = _
    rw [relabel_eq eo]
  have split : ∀ (ls : List Str) (os : List (Option T)), os.length = ls.length → Fits B X h ls os m → lk (ls ++ names) (os ++ ρ) x = some t → (∃ v, x ∈ ls ∧ m x = some v ∧ Rep B.P X h t v) ∨ (x ∉ ls ∧ lk names ρ x = some t) := by
    intro ls
    induction ls with
    | nil => intro os hlen _ h; cases os with | nil => exact .inr ⟨by simp, h⟩ | cons _ _ => cases hlen
    | cons y ls ih =>
      intro os hlen hm h
      cases os with
      | nil => cases hlen
      | cons u os =>
        simp only [List.cons_append, lk] at h
        split at h
        · rename_i e
          subst e h
          obtain ⟨v, h1, h2⟩ := hm 0 y t rfl rfl
          exact .inl ⟨v, List.mem_cons_self, h1, h2⟩
        · rename_i e
          rcases ih os (by simpa using hlen) (fun i x t h1 h2 => hm (i + 1) x t (by simpa using h1) (by simpa using h2)) h with ⟨v, h1, h2, h3⟩ | ⟨h1, h2⟩
          · exact .inl ⟨v, List.mem_cons_of_mem _ h1, h2, h3⟩
          · exact .inr ⟨by simp [h1, Ne.symm e], h2⟩
  rcases split ls os hlen hm hl with ⟨v, hx, hmx, hr⟩ | ⟨hx, hl⟩
  · refine ⟨v, .inl ⟨?_, m, hC, hmx⟩, hr⟩
    rw [hk, relabelS_names, c.tgt x hx]
  · have hkx := hk x
    rw [relabelS_names] at hkx
    cases q : scope.names.lookup x with
    | none => rw [q] at hkx; rcases ha with ha | ha | ha <;> rw [ha] at hkx <;> cases hkx
    | some k =>
      have hmem := mem_of_lookup q
      rw [q] at hkx
      cases k with
      | cell => exact absurd rfl (c.nocell _ hmem)
      | «local» =>
        rcases c.loc _ hmem rfl with h1 | h1
        · exact absurd h1 hx
        · obtain ⟨i, h2, _⟩ := lk_mem hl
          exact absurd (List.mem_of_getElem? h2) h1
      | free =>
        obtain ⟨hout, _⟩ := c.free _ hmem rfl
        obtain ⟨v, hvar, hr⟩ := hv x t hl (by unfold Acc Env.kindOf; rw [eo.scope]; rcases hout with h | h; exact .inr (.inl h); exact .inr (.inr h))
        refine ⟨v, .inr ⟨?_, ?_⟩, hr⟩
        · rw [hkx]
          simp only
          split
          · exact .inl rfl
          · exact .inr rfl
        · rcases hvar with ⟨hl', _⟩ | ⟨_, a, hc, hcell⟩
          · unfold Env.kindOf at hl'
            rw [eo.scope] at hl'
            rcases hout with h | h <;> rw [h] at hl' <;> cases hl'
          · exact ⟨a, closL_lookup _ _ _ _ c.nodup hc (.inl hmem), hcell⟩
      | _ => simp only at hkx; rcases ha with ha | ha | ha <;> rw [ha] at hkx <;> cases hkx

/-- what does not change while a comprehension runs -/
structure CG (B : Bd) (X X' : Addr → Prop) (env : Env) (names : List Str) (ρ : List (Option T)) (D C : Addr) (h0 : Heap) : Prop where
  hb : Ext B.hb h0
  view : View B X env names ρ h0
  sub : ∀ b, X' b → X b ∨ h0.get? b = none
  xD : X' D
  dD : h0.get? D = none
  dC : h0.get? C = none
  ne : D ≠ C
/-- the comprehension's list D, its frame C, the targets' values os -/
structure CSt (B : Bd) (X' : Addr → Prop) (ls : List Str) (os : List (Option T)) (D C : Addr) (us : List Value) (h0 h : Heap) : Prop where
  al : ∀ a, X' a → ∃ o, h.get? a = some o
  old : Ext h0 h
  acc : h.PlainList D (List.toArray us)
  ns : ∃ m, h.Ns C m ∧ Fits B X' h ls os m
theorem CSt.ext {X' : Addr → Prop} {ls : List Str} {os : List (Option T)} {D C : Addr} {us : List Value} {h0 h h' : Heap} (ok : B.Ok) (S : CSt B X' ls os D C us h0 h) (e : Ext h h') : CSt B X' ls os D C us h0 h' where
  al := alive_ext S.al e
  old := S.old.trans e
  acc := S.acc.at fun o x => e _ o x
  ns := let ⟨m, h1, h2⟩ := S.ns; ⟨m, h1.keeps e, h2.frame ok (fun _ hb => .inl hb) fun b o hb _ _ => e b o hb⟩
theorem Reps.weaken {X' Z : Addr → Prop} {h : Heap} {xs : List T} {vs : List Value} (ok : B.Ok) (r : Reps B.P X' h xs vs) (hZ : ∀ a, Z a → X' a) : Reps B.P Z h xs vs := r.frame ok.nf (fun _ hb => .inl (hZ _ hb)) (fun b o hb _ _ => hb) _ _
theorem CSt.cx {X X' : Addr → Prop} {env : Env} {ρ : List (Option T)} {scope : Scope} {ls : List Str} {os : List (Option T)} {D C : Addr} {us : List Value} {h0 h : Heap} (ok : B.Ok) (eo : EnvOk sc env) (c : CompOk sc scope ls names)
    (G : CG B X X' env names ρ D C h0) (S : CSt B X' ls os D C us h0 h) (hl : os.length = ls.length) : Cx B X' (compEnvC scope (closL env.cells scope.names []) C env) (ls ++ names) (os ++ ρ) h := by
  obtain ⟨m, hn, hf⟩ := S.ns
  refine ⟨G.hb.trans S.old, S.al, comp_view2 eo c (fun y u hl ha => ?_) hn hl hf⟩
  obtain ⟨v, hv, hr⟩ := G.view y u hl ha
  exact ⟨v, hv.ext S.old, Rep.frame ok.nf G.sub (fun b o hb _ _ => S.old b o hb) u v hr⟩

noncomputable def BodyOk (B : Bd) (A : Around) (X : Addr → Prop) (env : Env) (names : List Str) (ρ : List (Option T)) (ls : List Str) (D C : Addr) (h0 : Heap) (body : Sem Unit) (bd : List (Option T) → Option (List T)) : Prop :=
  ∀ (X' : Addr → Prop) (s : Shared) (os : List (Option T)) (us : List Value) (zs : List T) (E : Value → Shared → Prop), CG B X X' env names ρ D C h0 → CSt B X' ls os D C us h0 s.heap → os.length = ls.length → bd os = some zs → us.length + zs.length ≤ 1000 →
    wpAny (model B.prog B.w) A body (fun _ s' => ∃ h' tk ws, s' = { s with heap := h', toks := tk } ∧ CSt B X' ls os D C (us ++ ws) h0 h' ∧ Reps B.P X' h' zs ws ∧ ∀ b o, s.heap.get? b = some o → b ≠ D → b ≠ C → h'.get? b = some o) E s
noncomputable def BindOk (B : Bd) (A : Around) (ls : List Str) (C : Addr) (cenv : Env) (target : Expr) (I : Addr) (St : Nat → Heap → Prop) (up : T → List (Option T) → Option (List (Option T))) : Prop :=
  ∀ (X' : Addr → Prop) (s : Shared) (i : Nat) (os os' : List (Option T)) (m : Str → Option Value) (t : T) (v : Value) (E : Value → Shared → Prop) (Q : Unit → Shared → Prop), s.heap.Ns C m → Fits B X' s.heap ls os m → Rep B.P X' s.heap t v → St i s.heap → os.length = ls.length → up t os = some os' →
    (∀ h' tk m', h'.Ns C m' → Fits B X' h' ls os' m' → (∀ b o, b ≠ C → s.heap.get? b = some o → h'.get? b = some o) → Q () { s with heap := h', toks := tk }) → wpAny (model B.prog B.w) A (letOwnedTupleGo target (.ref I) v) (fun _ s' => wpAny (model B.prog B.w) A (assign target cenv v) Q E s') E s
noncomputable def MonoUp (up : T → List (Option T) → Option (List (Option T))) : Prop := ∀ t os os', up t os = some os' → os'.length = os.length ∧ ∀ (i : Nat) u, os[i]? = some (some u) → os'[i]? = some (some u)

noncomputable def loopD (up : T → List (Option T) → Option (List (Option T))) (t : List (Option T) → Option Bool) (bd : List (Option T) → Option (List T)) (os : List (Option T)) : List T → Option (List T)
  | [] => some []
  | x :: xs => (up x os).bind fun os' => (t os').bind fun b => if b then (bd os').bind fun zs => (loopD up t bd os xs).map fun r => zs ++ r else loopD up t bd os xs

/-- one loop of a comprehension -/
theorem comp_turns {prog : Program} {w : World} {A : Around} {R : Result → Shared → Prop} {s : Shared} {e : Expr} {g : Nat} {target : Expr} {ifs : List Expr} {it acc : Value} {env : Env} {body : Sem Unit} {p : Pos} (I : Nat → Shared → Prop)
    (heq : compTurn e g it acc env = (do
      standAt p
      match ← pyNext it with
      | none => pure (.done .next)
      | some v =>
        letOwnedTupleGo target it v
        assign target env v
        let mut ok := true
        for c in ifs do
          if ok then ok ← isTrue c env (eval c env)
        if ok then body
        again (.compLoop e g it acc env)))
    (hfr : (Code.compLoop e g it acc env).isFrame = false) (hq : (Code.compLoop e g it acc env).quiet = true) (hun : A.under (Code.compLoop e g it acc env) = A)
    (turn : ∀ n s, I n s → wpAny (model prog w) A (pyNext it) (fun r s₁ => match r with
      | none => R (.ok .next) s₁
      | some v => wpAny (model prog w) A (letOwnedTupleGo target it v) (fun _ s₁' => wpAny (model prog w) A (assign target env v) (fun _ s₂ =>
          wpAny (model prog w) A (forIn ifs true fun c r => if r = true then do let ok ← isTrue c env (eval c env); pure (ForInStep.yield ok) else pure (ForInStep.yield r)) (fun ok s₃ =>
            if ok = true then wpAny (model prog w) A body (fun _ s₅ => ∃ m, m < n ∧ I m s₅) (notedBy (model prog w) A env fun e s' => R (.error e) s') s₃
            else ∃ m, m < n ∧ I m s₃) (notedBy (model prog w) A env fun e s' => R (.error e) s') s₂) (notedBy (model prog w) A env fun e s' => R (.error e) s') s₁') (notedBy (model prog w) A env fun e s' => R (.error e) s') s₁) (notedBy (model prog w) A env fun e s' => R (.error e) s') s)
    (n : Nat) (h : I n s) :
    codeAny (model prog w) A (.compLoop e g it acc env) R s := by
  refine codeAny_loop hq I (fun n s hI => ?_) n h
  have hden : (model prog w).den (.compLoop e g it acc env) = (compTurn e g it acc env).onRaise (fun x => do noteFrame x env; theTreesLotGoes x) := by
    show (if (Code.compLoop e g it acc env).isFrame then _ else _) = _
    rw [hfr]; rfl
  rw [hden, hun]
  refine wpAny_noted ?_
  rw [heq]
  refine wpAny_bind (wpAny_standAt (wpAny_bind (wpAny_mono (turn n s hI) (fun r s₁ h₁ => ?_) fun _ _ h' => h')))
  cases r with
  | none => exact wpAny_pure h₁
  | some v =>
    refine wpAny_bind (wpAny_mono h₁ (fun _ s₁' h₁' => ?_) fun _ _ h' => h')
    refine wpAny_bind (wpAny_mono h₁' (fun _ s₂ h₂ => wpAny_bind (wpAny_mono h₂ (fun ok s₃ h₃ => ?_) fun _ _ h' => h')) fun _ _ h' => h')
    cases ok with
    | false => exact wpAny_pure ⟨rfl, h₃⟩
    | true => exact wpAny_bind (wpAny_mono h₃ (fun _ s₅ h₅ => wpAny_pure ⟨rfl, h₅⟩) fun _ _ h' => h')

theorem loopG (ok : B.Ok) {e : Expr} {g : Nat} {target : Expr} {ifs : List Expr} {body : Sem Unit} {p : Pos} {scope : Scope} {env : Env} {A : Around} {X Y : Addr → Prop} {ρ os : List (Option T)} {ls : List Str} {I D C : Addr} {fp wr : List Addr} {P : Nat → Value → Prop} {St : Nat → Heap → Prop} {h0 hs h2 hB : Heap} {xs zs : List T} {us : List Value} {tk : Nat}
    {up : T → List (Option T) → Option (List (Option T))} {t : Db} {bd : List (Option T) → Option (List T)} {R : Result → Shared → Prop} {s : Shared}
    (heq : compTurn e g (.ref I) (.ref D) (compEnvC scope (closL env.cells scope.names []) C env) = (do
      standAt p
      match ← pyNext (.ref I) with
      | none => pure (.done .next)
      | some v =>
        letOwnedTupleGo target (.ref I) v
        assign target (compEnvC scope (closL env.cells scope.names []) C env) v
        let mut ok := true
        for c in ifs do
          if ok then ok ← isTrue c (compEnvC scope (closL env.cells scope.names []) C env) (eval c (compEnvC scope (closL env.cells scope.names []) C env))
        if ok then body
        again (.compLoop e g (.ref I) (.ref D) (compEnvC scope (closL env.cells scope.names []) C env))))
    (hfr : (Code.compLoop e g (.ref I) (.ref D) (compEnvC scope (closL env.cells scope.names []) C env)).isFrame = false) (hq : (Code.compLoop e g (.ref I) (.ref D) (compEnvC scope (closL env.cells scope.names []) C env)).quiet = true) (hun : A.under (Code.compLoop e g (.ref I) (.ref D) (compEnvC scope (closL env.cells scope.names []) C env)) = A)
    (eo : EnvOk sc env) (c : CompOk sc scope ls names) (rm : Room n A) (G : CG B X (fun a => Y a ∨ a ∈ wr ∨ a = D) env names ρ D C h0) (ht : SoundQ B (relabelS scope sc) (ls ++ names) n ifs t)
    (hbody : BodyOk B A X env names ρ ls D C h0 body bd) (hbind : BindOk B A ls C (compEnvC scope (closL env.cells scope.names []) C env) target I St up) (hup : MonoUp up)
    (it : Iter B Y A xs I fp wr P St hs h2) (e2 : Ext h2 hB) (hfp : ∀ b ∈ fp, b ≠ D ∧ b ≠ C) (hwr : ∀ b ∈ wr, h0.get? b = none) (hD : Y D ∨ h2.get? D = none) (hYw : ∀ a, Y a → a ∉ wr)
    (hst : St 0 hB) (S : CSt B (fun a => Y a ∨ a ∈ wr ∨ a = D) ls os D C us h0 hB) (hl : os.length = ls.length) (hz : loopD up (fun os => t (os ++ ρ)) bd os xs = some zs) (hsz : us.length + zs.length ≤ 1000)
    (fin : ∀ h' tk' ws, CSt B (fun a => Y a ∨ a = D) ls os D C (us ++ ws) h0 h' → Reps B.P (fun a => Y a ∨ a = D) h' zs ws → (∀ b o, hB.get? b = some o → b ∉ wr → b ≠ D → b ≠ C → h'.get? b = some o) → R (.ok .next) { s with heap := h', toks := tk' }) :
    codeAny (model B.prog B.w) A (.compLoop e g (.ref I) (.ref D) (compEnvC scope (closL env.cells scope.names []) C env)) R { s with heap := hB, toks := tk } := by
  have hwD : ∀ b ∈ wr, b ≠ D ∧ b ≠ C := fun b hb => hfp b (it.walks.sub b hb)
  refine comp_turns (fun k s' => ∃ i h' tk ws done rest, s' = { s with heap := h', toks := tk } ∧ i ≤ xs.length ∧ k = xs.length + 1 - i ∧ St i h' ∧ CSt B (fun a => Y a ∨ a ∈ wr ∨ a = D) ls os D C (us ++ ws) h0 h' ∧ Reps B.P (fun a => Y a ∨ a ∈ wr ∨ a = D) h' done ws ∧
      loopD up (fun os => t (os ++ ρ)) bd os (xs.drop i) = some rest ∧ zs = done ++ rest ∧ (∀ b o, hB.get? b = some o → b ∉ wr → b ≠ D → b ≠ C → h'.get? b = some o)) heq hfr hq hun ?_ (xs.length + 1)
    ⟨0, hB, tk, [], [], zs, rfl, Nat.zero_le _, rfl, hst, by simpa using S, by simp only [Reps], by simpa using hz, rfl, fun b o hb _ _ _ => hb⟩
  rintro k s' ⟨i, h', tk', ws, done, rest, rfl, hile, rfl, st, S', hre, hrest, hzd, keep⟩
  by_cases hlt : i < xs.length
  · obtain ⟨xi, hxi⟩ : ∃ xi, xs[i]? = some xi := ⟨xs[i], List.getElem?_eq_getElem hlt⟩
    have hdrop : xs.drop i = xi :: xs.drop (i + 1) := by
      rw [List.drop_eq_getElem_cons hlt]
      have := List.getElem?_eq_getElem hlt
      rw [hxi] at this
      rw [Option.some.inj this]
    rw [hdrop] at hrest
    unfold loopD at hrest
    obtain ⟨os', hos', hrest⟩ := Option.bind_eq_some_iff.mp hrest
    obtain ⟨b, hb, hrest⟩ := Option.bind_eq_some_iff.mp hrest
    obtain ⟨hlo, hmono⟩ := hup _ _ _ hos'
    refine it.walks.item i _ _ _ hlt st fun v h3 tk3 hP st3 hk3 => ?_
    have hk3' : ∀ b o, b ∉ wr → h'.get? b = some o → h3.get? b = some o := fun b o hb e' => hk3 b o hb e'
    have hre3 : Reps B.P (fun a => Y a ∨ a ∈ wr ∨ a = D) h3 done ws := hre.frame ok.nf (fun _ hb => .inl hb) (fun b o hb _ hx => hk3' b o (fun hw => hx (.inr (.inl hw))) hb) _ _
    have S3 : CSt B (fun a => Y a ∨ a ∈ wr ∨ a = D) ls os D C (us ++ ws) h0 h3 := by
      refine ⟨fun a ha => ?_, fun b o hb => ?_, S'.acc.at fun o e' => hk3' _ o (fun hw => (hwD _ hw).1 rfl) e', ?_⟩
      · by_cases hw : a ∈ wr
        · exact it.wal (i + 1) h3 st3 a hw
        · obtain ⟨o, ho⟩ := S'.al a ha
          exact ⟨o, hk3' a o hw ho⟩
      · exact hk3' b o (fun hw => by rw [hwr b hw] at hb; cases hb) (S'.old b o hb)
      · obtain ⟨m, h1, h2⟩ := S'.ns
        exact ⟨m, h1.at' fun o e' => hk3' _ o (fun hw => (hwD _ hw).2 rfl) e', h2.frame ok (fun _ hb => .inl hb) fun b o hb _ hx => hk3' b o (fun hw => hx (.inr (.inl hw))) hb⟩
    have keep3 : ∀ b o, hB.get? b = some o → b ∉ wr → b ≠ D → b ≠ C → h3.get? b = some o := fun b o hb hw h1 h2 => hk3' b o hw (keep b o hb hw h1 h2)
    obtain ⟨ti, hti, hri⟩ := it.held i v hP hlt
    have hti' : ti = xi := by rw [hxi] at hti; exact (Option.some.inj hti).symm
    subst hti'
    obtain ⟨mB, hnB, _⟩ := S.ns
    have hri3 : Rep B.P (fun a => Y a ∨ a ∈ wr ∨ a = D) h3 ti v := Rep.frame ok.nf (fun b hb => by
      rcases hb with hb | hb | rfl
      · exact .inl (.inl hb)
      · exact .inl (.inr hb)
      · exact hD.imp .inl id) (fun b o hb hn hx => keep3 b o (e2 b o hb) (fun hw => hx (.inr hw)) (fun e' => by
        subst e'
        rcases hD with hD | hD
        · exact hx (.inl hD)
        · rw [hD] at hb; cases hb) (nf_ne_ns hnB (e2 b o hb) hn)) ti v hri
    obtain ⟨m3, hn3, hf3⟩ := S3.ns
    refine hbind _ { s with heap := h3, toks := tk3 } (i + 1) os os' m3 ti v _ _ hn3 hf3 hri3 st3 hl hos' fun h4 tk4 m4 hn4 hf4 hk4 => ?_
    have st4 : St (i + 1) h4 := it.walks.frame _ _ _ st3 fun b hb o e' => hk4 b o (hfp b hb).2 e'
    have S4 : CSt B (fun a => Y a ∨ a ∈ wr ∨ a = D) ls os' D C (us ++ ws) h0 h4 := by
      refine ⟨fun a ha => ?_, fun b o hb => hk4 b o (fun e' => by subst e'; rw [G.dC] at hb; cases hb) (S3.old b o hb), S3.acc.at fun o e' => hk4 _ o G.ne e', m4, hn4, hf4⟩
      obtain ⟨o, ho⟩ := S3.al a ha
      by_cases hC : a = C
      · subst hC
        obtain ⟨o', es, ep, hg, _⟩ := hn4
        exact ⟨o', hg⟩
      · exact ⟨o, hk4 a o hC ho⟩
    have hre4 : Reps B.P (fun a => Y a ∨ a ∈ wr ∨ a = D) h4 done ws := hre3.frame ok.nf (fun _ hb => .inl hb) (fun b o hb hn hx => hk4 b o (nf_ne_ns hn3 hb hn) hb) _ _
    have hl' : os'.length = ls.length := by rw [hlo, hl]
    have ceo : EnvOk (relabelS scope sc) (compEnvC scope (closL env.cells scope.names []) C env) := comp_envOk eo c
    refine wpAny_mono (ht _ _ _ { s with heap := h4, toks := tk4 } b A _ ceo rm (S4.cx ok eo c G hl') hb) (fun bv s5 q => ?_) fun _ _ z => z
    obtain ⟨rfl, h5, tk5, rfl, e5⟩ := q
    have S5 := S4.ext ok e5
    have st5 : St (i + 1) h5 := it.walks.frame _ _ _ st4 fun b _ o e' => e5 b o e'
    have hre5 := hre4.ext ok.nf e5
    have keep5 : ∀ b o, hB.get? b = some o → b ∉ wr → b ≠ D → b ≠ C → h5.get? b = some o := fun b o hb hw h1 h2 => e5 b o (hk4 b o h2 (keep3 b o hb hw h1 h2))
    have back : ∀ {us' : List Value} {h'' : Heap}, CSt B (fun a => Y a ∨ a ∈ wr ∨ a = D) ls os' D C us' h0 h'' → CSt B (fun a => Y a ∨ a ∈ wr ∨ a = D) ls os D C us' h0 h'' := fun S => by
      obtain ⟨m, h1, h2⟩ := S.ns
      exact ⟨S.al, S.old, S.acc, m, h1, fun j x u g1 g2 => h2 j x u g1 (hmono j u g2)⟩
    cases bv with
    | false =>
      simp only [Bool.false_eq_true, if_false] at hrest ⊢
      exact ⟨xs.length + 1 - (i + 1), by omega, i + 1, h5, tk5, ws, done, rest, rfl, hlt, rfl, st5, back S5, hre5, hrest, hzd, keep5⟩
    | true =>
      simp only [if_true] at hrest ⊢
      obtain ⟨ys, hys, hrest⟩ := Option.bind_eq_some_iff.mp hrest
      obtain ⟨rest', hrest', rfl⟩ := Option.map_eq_some_iff.mp hrest
      have hwl := hre.length
      refine wpAny_mono (hbody _ { s with heap := h5, toks := tk5 } os' (us ++ ws) ys _ G S5 hl' hys (by rw [hzd] at hsz; simp only [List.length_append] at hsz ⊢; omega)) (fun _ s7 q => ?_) fun _ _ z => z
      obtain ⟨h7, tk7, ws', rfl, S7, hr7, keep7⟩ := q
      obtain ⟨m5, hn5, _⟩ := S5.ns
      refine ⟨xs.length + 1 - (i + 1), by omega, i + 1, h7, tk7, ws ++ ws', done ++ ys, rest', rfl, hlt, rfl, it.walks.frame _ _ _ st5 fun b hb o e' => keep7 b o e' (hfp b hb).1 (hfp b hb).2, by rw [← List.append_assoc]; exact back S7, ?_, hrest', by rw [hzd]; simp, fun b o hb hw h1 h2 => keep7 b o (keep5 b o hb hw h1 h2) h1 h2⟩
      exact Reps.append (hre5.frame ok.nf (fun _ hb => .inl hb) (fun b o hb hn hx => keep7 b o hb (fun e' => hx (.inr (.inr e'))) (nf_ne_ns hn5 hb hn)) _ _) hr7
  · have hin : i = xs.length := by omega
    subst hin
    refine it.walks.done _ _ _ st fun h3 tk3 hk3 => ?_
    rw [List.drop_length] at hrest
    simp only [loopD] at hrest
    cases hrest
    rw [List.append_nil] at hzd
    subst hzd
    have hk3' : ∀ b o, b ∉ wr → h'.get? b = some o → h3.get? b = some o := fun b o hb e' => hk3 b o hb e'
    have sub : ∀ a, (Y a ∨ a = D) → Y a ∨ a ∈ wr ∨ a = D := fun a ha => ha.imp id .inr
    have notw : ∀ a, (Y a ∨ a = D) → a ∉ wr := fun a ha hw => by
      rcases ha with ha | rfl
      · exact hYw a ha hw
      · exact (hwD _ hw).1 rfl
    have hk4 : ∀ b o, h'.get? b = some o → NF o → ¬ (Y b ∨ b ∈ wr ∨ b = D) → h3.get? b = some o := fun b o hb _ hx => hk3' b o (fun hw => hx (.inr (.inl hw))) hb
    refine fin h3 tk3 ws ⟨fun a ha => ?_, fun b o hb => hk3' b o (fun hw => by rw [hwr b hw] at hb; cases hb) (S'.old b o hb), S'.acc.at fun o e' => hk3' _ o (fun hw => (hwD _ hw).1 rfl) e', ?_⟩ (hre.frame ok.nf (fun _ hb => .inl (sub _ hb)) hk4 _ _) fun b o hb hw h1 h2 => hk3' b o hw (keep b o hb hw h1 h2)
    · obtain ⟨o, ho⟩ := S'.al a (sub a ha)
      exact ⟨o, hk3' a o (notw a ha) ho⟩
    · obtain ⟨m, h1, h2⟩ := S'.ns
      exact ⟨m, h1.at' fun o e' => hk3' _ o (fun hw => (hwD _ hw).2 rfl) e', h2.frame ok (fun _ hb => .inl (sub _ hb)) hk4⟩

/-! the innermost step -/
theorem body_elt (ok : B.Ok) {A : Around} {X : Addr → Prop} {env : Env} {ρ : List (Option T)} {ls : List Str} {D C : Addr} {h0 : Heap} {scope : Scope} {elt : Expr} {e : Dn} (eo : EnvOk sc env) (c : CompOk sc scope ls names) (rm : Room n A) (he : SoundE B (relabelS scope sc) (ls ++ names) n elt e) :
    BodyOk B A X env names ρ ls D C h0 (do let _ ← call (.builtin "list.append") [.ref D, ← eval elt (compEnvC scope (closL env.cells scope.names []) C env)]) (fun os => (e (os ++ ρ)).map fun y => [y]) := by
  intro X' s os us zs E G S hl hb hsz
  obtain ⟨y, hy, rfl⟩ := Option.map_eq_some_iff.mp hb
  have ceo : EnvOk (relabelS scope sc) (compEnvC scope (closL env.cells scope.names []) C env) := comp_envOk eo c
  refine wpAny_bind (he.use ok ceo rm (S.cx ok eo c G hl) hy fun w h6 tk6 e6 C6 r6 => ?_)
  have S6 := S.ext ok e6
  simp only [List.length_singleton] at hsz
  refine wpAny_bind (wpAny_list_append_plain (s := { s with heap := h6, toks := tk6 }) S6.acc (fun h7 hpl7 hs7 => ?_) (by rw [List.size_toArray]; exact Nat.le_trans (show us.length ≤ 1000 by omega) (by decide)))
  have hpl7' : h7.PlainList D (List.toArray (us ++ [w])) := by simpa using hpl7
  have upX : ∀ b o, h6.get? b = some o → NF o → ¬ X' b → h7.get? b = some o := fun b o hb _ hx => hs7.extBut b o (fun h => hx (h ▸ G.xD)) hb
  refine wpAny_pure ⟨h7, tk6, [w], rfl, ⟨fun a ha => ?_, fun b o hb => hs7.extBut b o (fun h => by subst h; rw [G.dD] at hb; cases hb) (S6.old b o hb), hpl7', ?_⟩, Reps.one (Rep.frame ok.nf (fun _ hb => .inl hb) upX y w r6), fun b o hb h1 _ => hs7.extBut b o h1 (e6 b o hb)⟩
  · by_cases hD : a = D
    · subst hD
      obtain ⟨nn, hp⟩ := hpl7
      exact ⟨_, hp⟩
    · obtain ⟨o, ho⟩ := S6.al a ha
      exact ⟨o, hs7.extBut a o hD ho⟩
  · obtain ⟨m, h1, h2⟩ := S6.ns
    exact ⟨m, h1.sameBut hs7 (Ne.symm G.ne), h2.frame ok (fun _ hb => .inl hb) upX⟩

/-! the targets -/
noncomputable def upN (i : Nat) : T → List (Option T) → Option (List (Option T)) := fun t os => match os[i]? with | some none => some (os.set i (some t)) | _ => none
/-- a pair of names -/
noncomputable def upP : T → List (Option T) → Option (List (Option T)) := fun t os => match t, os with | .tuple [a, b], [none, none] => some [some a, some b] | _, _ => none
theorem upP_mono : MonoUp upP := by
  intro t os os' h
  unfold upP at h
  split at h
  · cases h
    exact ⟨rfl, fun i u hi => by match i, hi with | 0, hi => simp at hi | 1, hi => simp at hi | i + 2, hi => simp at hi⟩
  · cases h
theorem bind_pair (ok : B.Ok) {A : Around} {C I : Addr} {cenv : Env} {x y : Str} {px py tp : Pos} {tk : Nat} {St : Nat → Heap → Prop} (hh : A.handled = none) (hxy : x ≠ y) (hlx : cenv.kindOf x = some .local) (hly : cenv.kindOf y = some .local) (hC : cenv.locals = C) (hk : cenv.scope.kind = .function) (hli : ∀ i h, St i h → ∃ l j, h.IsListIter I l j) :
    BindOk B A [x, y] C cenv (.Tuple [.Name x px, .Name y py] tk tp) I St upP := by
  intro X' s j os os' m t v E Q hn hf hr st hl hup k
  unfold upP at hup
  split at hup
  · rename_i a b
    cases hup
    simp only [Rep] at hr
    obtain ⟨ta, vs, rfl, _, htup, hrs⟩ := hr
    simp only [Reps] at hrs
    obtain ⟨v1, _, rfl, r1, v2, _, rfl, r2, rfl⟩ := hrs
    obtain ⟨l, i, hli⟩ := hli _ _ st
    refine wpAny_letOwnedTupleGo_listiter hli ?_
    subst hC
    have hsk : (cenv.scope.kind == .class || (cenv.scope.kind == .module && cenv.locals != cenv.globals)) = false := by rw [hk]; rfl
    refine wpAny_assign_Tuple hh htup rfl rfl fun h2 he2 => ?_
    have e2 : Ext s.heap h2 := fun b o hb => he2 b o (Nat.ne_of_lt (Heap.lt_size hb)) hb
    refine wpAny_assignInOrder_more (wpAny_assign_Name (wpAny_storeName_local hlx (hn.keeps e2) (fun h3 hn3 hs3 => ?_) hsk))
    refine wpAny_assignInOrder_more (wpAny_assign_Name (wpAny_storeName_local hly hn3 (fun h4 hn4 hs4 => ?_) hsk))
    refine wpAny_assignInOrder_none (k h4 _ _ hn4 (fun a y' u h1 h2 => ?_) fun b o hb e => hs4.extBut b o hb (hs3.extBut b o hb (e2 b o e)))
    have upX : ∀ b o, s.heap.get? b = some o → NF o → ¬ X' b → h4.get? b = some o := fun b o hb hnf _ => hs4.extBut b o (nf_ne_ns hn hb hnf) (hs3.extBut b o (nf_ne_ns hn hb hnf) (e2 b o hb))
    match a, h1, h2 with
    | 0, h1, h2 =>
      simp at h1 h2
      subst h1 h2
      exact ⟨v1, by simp [hxy], Rep.frame ok.nf (fun _ hb => .inl hb) upX _ _ r1⟩
    | 1, h1, h2 =>
      simp at h1 h2
      subst h1 h2
      exact ⟨v2, by simp, Rep.frame ok.nf (fun _ hb => .inl hb) upX _ _ r2⟩
    | a + 2, h1, h2 => simp at h1
  · cases hup
end
end Mine

namespace Mine
open PySem PySem.W PyProof.Rows

section
variable {B : Bd} {sc : Scope} {names : List Str} {n : Nat}

noncomputable def SoundK (K : Addr → (Nat → Heap → Prop) → Prop) (B : Bd) (sc : Scope) (names : List Str) (n : Nat) (e : Expr) (d : Dl) : Prop :=
  ∀ (X : Addr → Prop) (env : Env) (ρ : List (Option T)) (s : Shared) (xs : List T) (A : Around) (E : Value → Shared → Prop), EnvOk sc env → Room n A → Cx B X env names ρ s.heap → d ρ = some xs →
    xs.length ≤ 1000 ∧ wpAny (model B.prog B.w) A (eval e env) (fun xv s₁ => wpAny (model B.prog B.w) A (pyIter xv) (fun it s₂ => (∃ h' tk, s₂ = { s with heap := h', toks := tk } ∧ Ext s.heap h') ∧
      ∃ I fp wr P St, it = .ref I ∧ Iter B X A xs I fp wr P St s.heap s₂.heap ∧ K I St) E s₁) E s
noncomputable def listK (I : Addr) (St : Nat → Heap → Prop) : Prop := ∀ i h, St i h → ∃ l j, h.IsListIter I l j
theorem k_list (ok : B.Ok) {e : Expr} {a : Dn} (h : SoundE B sc names n e a) : SoundK listK B sc names n e (itL a) := by
  intro X env ρ s xs A E eo rm C hd
  unfold itL at hd
  obtain ⟨x, hxv, hd⟩ := Option.bind_eq_some_iff.mp hd
  match x, hd, hxv with
  | .list ys, hd, hxv =>
    simp only at hd
    split at hd
    · rename_i hlen
      cases hd
      refine ⟨hlen, h.use ok eo rm C hxv fun v h1 tk1 e1 C1 r1 => ?_⟩
      simp only [Rep] at r1
      obtain ⟨l, vs, rfl, hX, hl, rv⟩ := r1
      have hlt : l < h1.objs.size := by obtain ⟨o, ho⟩ := hl; exact Heap.lt_size ho
      have hsz : vs.toArray.size = xs.length := by rw [List.size_toArray, rv.length]
      refine wpAny_pyIter_list (s := { s with heap := h1, toks := tk1 }) hl.isList ⟨⟨_, tk1, rfl, e1.trans (Ext.push _ _)⟩, h1.objs.size, [h1.objs.size, l], [h1.objs.size], (fun i v => vs.toArray[i]? = some v), (fun i h => h.IsListIter h1.objs.size l i ∧ h.IsList l vs.toArray), rfl, ?_, fun i h hs => ⟨_, _, hs.1⟩⟩
      have W := Walks.list (prog := B.prog) (w := B.w) (A := A) rm.handled h1.objs.size l (Nat.ne_of_lt hlt) vs.toArray
      rw [hsz] at W
      refine ⟨W, ⟨⟨_, Heap.get?_push_size _ rfl, rfl, rfl⟩, hl.isList.push _⟩, fun i v hP hi => ?_, fun b hb => ?_, fun b hb => ?_, fun i h' hst b hb => ?_, fun b hb => ?_⟩
      · have hP' : vs[i]? = some v := by simpa using hP
        obtain ⟨t, ht, hr⟩ := rv.get' hP'
        refine ⟨t, ht, Rep.frame ok.nf (fun b hb => hb.elim .inl fun hm => .inr ?_) (fun b o e _ _ => Heap.get?_push_of_some _ e) t v hr⟩
        rw [List.mem_singleton.mp hm]
        exact get?_size _ (Nat.le_refl _)
      · rcases List.mem_cons.mp hb with rfl | hb
        · exact .inl List.mem_cons_self
        · right
          rw [List.mem_singleton.mp hb]
          obtain ⟨o, ho, hc, n, hd⟩ := hl.isList
          exact ⟨o, Heap.get?_push_of_some _ ho, NF.seq hd, hX⟩
      · rw [List.mem_singleton.mp hb]
        cases q : s.heap.get? h1.objs.size with
        | none => rfl
        | some o => exact absurd (Heap.lt_size (e1 _ _ q)) (Nat.lt_irrefl _)
      · rw [List.mem_singleton.mp hb]
        obtain ⟨⟨o, ho, _⟩, _⟩ := hst
        exact ⟨o, ho⟩
      · show b < (h1.push _).objs.size
        rw [Heap.size_push]
        rcases List.mem_cons.mp hb with rfl | hb
        · exact Nat.lt_succ_self _
        · rw [List.mem_singleton.mp hb]; exact Nat.lt_succ_of_lt hlt
    · cases hd

/-- what a comprehension's run comes to -/
noncomputable def CompSound (B : Bd) (sc : Scope) (names : List Str) (n : Nat) (elt iter : Expr) (gens : List Comprehension) (scope : Scope) (pos : Pos) (d : Dl) : Prop :=
  ∀ (X : Addr → Prop) (env : Env) (ρ : List (Option T)) (s : Shared) (A : Around) (E : Value → Shared → Prop) (ys : List T) (RR : Value → Addr → Result → Shared → Prop), EnvOk sc env → Room n A → Cx B X env names ρ s.heap → d ρ = some ys → CompEnd B X s ys RR →
    wpAny (model B.prog B.w) A (eval iter env) (fun xv s₁ => wpAny (model B.prog B.w) A (pyIter xv) (fun it s₂ => wpAny (model B.prog B.w) A (newList []) (fun acc s₃ =>
      wpAny (model B.prog B.w) A (newFunctionEnv scope env.globals (closL env.cells scope.names []) [] env.qual none .none (some env)) (fun cenv s₄ =>
        codeAny (model B.prog B.w) A (.compStart (.ListComp elt gens scope pos) 0 it acc { cenv with scope := relabel scope env }) (RR acc cenv.locals) s₄) E s₃) E s₂) E s₁) E s

noncomputable def nones (ls : List Str) : List (Option T) := ls.map fun _ => none
theorem nones_get {ls : List Str} {i : Nat} {t : T} (h : (nones ls)[i]? = some (some t)) : False := by
  unfold nones at h
  rw [List.getElem?_map] at h
  obtain ⟨a, _, h⟩ := Option.map_eq_some_iff.mp h
  cases h

theorem comp_gen (ok : B.Ok) {K : Addr → (Nat → Heap → Prop) → Prop} {target iter elt : Expr} {ifs : List Expr} {gs : List Comprehension} {scope : Scope} {pos : Pos} {ls : List Str} {src : Dl} {t : Db} {up : T → List (Option T) → Option (List (Option T))} {bd : List (Option T) → List (Option T) → Option (List T)} {body : Value → Env → Sem Unit}
    (heq : ∀ it acc env, compTurn (.ListComp elt (⟨target, iter, ifs, 0⟩ :: gs) scope pos) 0 it acc env = (do
      standAt iter.pos
      match ← pyNext it with
      | none => pure (.done .next)
      | some v =>
        letOwnedTupleGo target it v
        assign target env v
        let mut ok := true
        for c in ifs do
          if ok then ok ← isTrue c env (eval c env)
        if ok then body acc env
        again (.compLoop (.ListComp elt (⟨target, iter, ifs, 0⟩ :: gs) scope pos) 0 it acc env)))
    (hs : SoundK K B sc names n iter src) (ht : SoundQ B (relabelS scope sc) (ls ++ names) n ifs t) (c : CompOk sc scope ls names)
    (hbody : ∀ A X env ρ D C h0, EnvOk sc env → Room n A → BodyOk B A X env names ρ ls D C h0 (body (.ref D) (compEnvC scope (closL env.cells scope.names []) C env)) (bd ρ))
    (hbind : ∀ A C cenv I St, A.handled = none → EnvOk (relabelS scope sc) cenv → cenv.locals = C → K I St → BindOk B A ls C cenv target I St up) (hup : MonoUp up) :
    CompSound B sc names n elt iter (⟨target, iter, ifs, 0⟩ :: gs) scope pos (fun ρ => (src ρ).bind fun xs => (loopD up (fun os => t (os ++ ρ)) (bd ρ) (nones ls) xs).bind fun zs => if zs.length ≤ 1000 then some zs else none) := by
  intro X env ρ s A E ys RR eo rm Cx0 hd hRR
  obtain ⟨xs, hxs, hd⟩ := Option.bind_eq_some_iff.mp hd
  obtain ⟨zs, hzs, hd⟩ := Option.bind_eq_some_iff.mp hd
  split at hd
  · rename_i hzl
    cases hd
    obtain ⟨hlen, hit⟩ := hs X env ρ s xs A E eo rm Cx0 hxs
    refine wpAny_mono hit (fun xv s₁ h₁ => wpAny_mono h₁ (fun it s₂ h₂ => ?_) fun _ _ z => z) fun _ _ z => z
    obtain ⟨⟨h2, tk2, rfl, e2⟩, I, fp, wr, P, St, rfl, it, hK⟩ := h₂
    refine wpAny_newObj_type (wpAny_newFunctionEnv c.nocell (by intro y hy; simp at hy) (fun h₁ hns₁ hsb₁ => ?_) c.kind)
    dsimp only at hns₁ hsb₁ ⊢
    generalize hH2 : h2.push { cls := .type "list", dict := none, data := .seq ([] : List Value).toArray } = H2 at hns₁ hsb₁ ⊢
    generalize hDe : h2.objs.size = D at *
    have hC : H2.objs.size = D + 1 := by rw [← hH2, Heap.size_push, hDe]
    generalize hCe : H2.objs.size = C at *
    subst hC
    have hDC : D ≠ D + 1 := Nat.ne_of_lt (Nat.lt_succ_self _)
    have neC : ∀ b : Nat, b < D → b ≠ D + 1 := fun b h e => by omega
    have neD : ∀ b : Nat, b < D → b ≠ D := fun b h e => by omega
    have dead2 : ∀ b, D ≤ b → h2.get? b = none := fun b hb => get?_size _ (by rw [hDe]; exact hb)
    have dead0 : ∀ b, D ≤ b → s.heap.get? b = none := fun b hb => by
      cases q : s.heap.get? b with
      | none => rfl
      | some o => have := e2 b o q; rw [dead2 b hb] at this; cases this
    have live : ∀ b o, h2.get? b = some o → b < D := fun b o hb => by rw [← hDe]; exact Heap.lt_size hb
    have old : ∀ b o, h2.get? b = some o → h₁.get? b = some o := fun b o hb => hsb₁.extBut b o (neC b (live b o hb)) (Heap.get?_push_of_some _ (hH2 ▸ Heap.get?_push_of_some _ hb))
    have hacc : h₁.PlainList D #[] := ⟨0, hsb₁.extBut _ _ hDC (Heap.get?_push_of_some _ (by rw [← hH2, ← hDe]; exact Heap.get?_push_size _ rfl))⟩
    have hfpD : ∀ b ∈ fp, b < D := fun b hb => by have := it.fpal b hb; rw [← hDe]; exact this
    have hwD : ∀ b ∈ wr, b < D := fun b hb => hfpD b (it.walks.sub b hb)
    have hYw : ∀ a, X a → a ∉ wr := fun a ha hw => by
      obtain ⟨o, ho⟩ := Cx0.al a ha
      rw [it.fresh a hw] at ho; cases ho
    have G : CG B X (fun a => X a ∨ a ∈ wr ∨ a = D) env names ρ D (D + 1) s.heap := by
      refine ⟨Cx0.hb, Cx0.view, fun b hb => ?_, .inr (.inr rfl), dead0 D (Nat.le_refl _), dead0 _ (Nat.le_succ _), hDC⟩
      rcases hb with hb | hb | rfl
      · exact .inl hb
      · exact .inr (it.fresh b hb)
      · exact .inr (dead0 b (Nat.le_refl _))
    have hst : St 0 h₁ := it.walks.frame _ _ _ it.st fun b _ o hb => old b o hb
    have S : CSt B (fun a => X a ∨ a ∈ wr ∨ a = D) ls (nones ls) D (D + 1) [] s.heap h₁ := by
      refine ⟨fun a ha => ?_, fun b o hb => old b o (e2 b o hb), hacc, _, hns₁, fun i x t _ h => (nones_get h).elim⟩
      rcases ha with ha | ha | rfl
      · obtain ⟨o, ho⟩ := Cx0.al a ha
        exact ⟨o, old a o (e2 a o ho)⟩
      · exact it.wal 0 h₁ hst a ha
      · obtain ⟨_, ho⟩ := hacc
        exact ⟨_, ho⟩
    have loop : ∀ s₃ : Shared, s₃ = { s with heap := h₁, toks := tk2 + ([] : List (Str × Value)).length } →
        codeAny (model B.prog B.w) A (.compLoop (.ListComp elt (⟨target, iter, ifs, 0⟩ :: gs) scope pos) 0 (.ref I) (.ref D) (compEnvC scope (closL env.cells scope.names []) (D + 1) env)) (RR (.ref D) (D + 1)) s₃ := by
      rintro s₃ rfl
      refine loopG (s := s) (us := []) ok (heq _ _ _) rfl rfl rfl eo c rm G ht (hbody A X env ρ D (D + 1) s.heap eo rm) (hbind A (D + 1) _ I St rm.handled (comp_envOk eo c) rfl hK) hup it (fun b o hb => old b o hb) (fun b hb => ⟨neD b (hfpD b hb), neC b (hfpD b hb)⟩) it.fresh (.inr (dead2 D (Nat.le_refl _))) hYw hst S (by simp [nones]) hzs (by simpa using hzl) fun h' tk' ws S' hr' keep => ?_
      obtain ⟨m', hn', _⟩ := S'.ns
      exact hRR D (D + 1) h' tk' m' ws (dead0 D (Nat.le_refl _)) (dead0 _ (Nat.le_succ _)) hDC hn' (by simpa using S'.acc) (Reps.weaken ok hr' fun a ha => .inl ha) S'.old
    exact codeAny_compStart_list (loop _ rfl) (it.walks.self 0 _ _ _ hst (loop _ rfl))
  · cases hd
end
end Mine

namespace Mine
open PySem PySem.W PyProof.Rows

section
variable {B : Bd} {sc : Scope} {names : List Str} {n : Nat}

end
end Mine

namespace Mine
open PySem PySem.W PyProof.Rows

section
variable {B : Bd} {sc : Scope} {names : List Str} {n : Nat}

noncomputable def one (e : Dn) (ρ os : List (Option T)) : Option (List T) := (e (os ++ ρ)).map fun y => [y]
noncomputable def short (zs : List T) : Option (List T) := if zs.length ≤ 1000 then some zs else none
/-- [e for x, y in src if t] -/
noncomputable def dPair (src : Dl) (t : Db) (e : Dn) : Dl := fun ρ => (src ρ).bind fun xs => (loopD upP (fun os => t (os ++ ρ)) (one e ρ) [none, none] xs).bind short
theorem kind_tgt {scope : Scope} {ls : List Str} {x : Str} {cenv : Env} (c : CompOk sc scope ls names) (ceo : EnvOk (relabelS scope sc) cenv) (hx : x ∈ ls) : cenv.kindOf x = some .local := by
  unfold Env.kindOf
  rw [ceo.scope, relabelS_names, c.tgt x hx]
theorem g_pair (ok : B.Ok) {x y : Str} {px py tp pos : Pos} {k : Nat} {iter elt : Expr} {ifs : List Expr} {scope : Scope} {src : Dl} {t : Db} {e : Dn} (hs : SoundK listK B sc names n iter src) (ht : SoundQ B (relabelS scope sc) (x :: y :: names) n ifs t) (he : SoundE B (relabelS scope sc) (x :: y :: names) n elt e)
    (hc : compOk sc scope [x, y] names = true := by kernel_rfl) (hxy : x ≠ y := by decide) :
    CompSound B sc names n elt iter [⟨.Tuple [.Name x px, .Name y py] k tp, iter, ifs, 0⟩] scope pos (dPair src t e) :=
  comp_gen (K := listK) (ls := [x, y]) (bd := fun ρ => one e ρ) (body := fun acc env => do let _ ← call (.builtin "list.append") [acc, ← eval elt env]) ok (fun _ _ _ => rfl) hs ht (compOk_iff hc)
    (fun A X env ρ D C h0 eo rm => body_elt ok eo (compOk_iff hc) rm he)
    (fun A C cenv I St hh ceo hC hK => bind_pair ok hh hxy (kind_tgt (compOk_iff hc) ceo (by simp)) (kind_tgt (compOk_iff hc) ceo (by simp)) hC (by rw [ceo.scope]; exact ceo.kind) hK) upP_mono
noncomputable def eCompG (d : Dl) : Dn := fun ρ => (d ρ).map T.list
theorem f_compG (ok : B.Ok) {target iter elt : Expr} {ifs : List Expr} {gs : List Comprehension} {scope : Scope} {pos : Pos} {ls : List Str} {d : Dl} (h : CompSound B sc names n elt iter (⟨target, iter, ifs, 0⟩ :: gs) scope pos d) (c : CompOk sc scope ls names) (hf : ∀ (env : Env) x, foldedSetIterable iter env x = pure x) :
    SoundF B sc names n (.ListComp elt (⟨target, iter, ifs, 0⟩ :: gs) scope pos) (eCompG d) := by
  intro X env ρ s ys A E eo rm C hd
  unfold eCompG at hd
  obtain ⟨ys', hys, hd⟩ := Option.map_eq_some_iff.mp hd
  cases hd
  rw [eval_ListComp]
  refine wpAny_comprehension_free (use := none) rfl (hf env) (comp_closure eo c) c.kind c.locs
    (h X env ρ s A E ys (compPost (model B.prog B.w) A E none (OutN B X s ys)) eo rm C hys fun D Ca h' tk m' vs hD hCa hDC hns hpl hre ext => ⟨m', hns, fun h'' hs'' => ?_⟩)
  refine ⟨⟨h'', tk, rfl, fun b o hb => hs''.extBut b o (fun e => by subst e; rw [hCa] at hb; cases hb) (ext b o hb)⟩, D, vs, rfl, hD, hpl.extBut hs''.extBut hDC, hre.frame ok.nf (fun _ hb => .inl hb) (fun b o hb hn _ => hs''.extBut b o (nf_ne_ns hns hb hn) hb) _ _⟩
theorem eCompG_list {d : Dl} {ρ : List (Option T)} {t : T} (h : eCompG d ρ = some t) : ∃ ys, t = .list ys := by
  obtain ⟨ys', hys, hd⟩ := Option.map_eq_some_iff.mp h
  exact ⟨ys', hd.symm⟩
theorem s_compG (ok : B.Ok) {target iter elt : Expr} {ifs : List Expr} {gs : List Comprehension} {scope : Scope} {pos : Pos} {ls : List Str} {d : Dl} (h : CompSound B sc names n elt iter (⟨target, iter, ifs, 0⟩ :: gs) scope pos d) (c : CompOk sc scope ls names) (hf : ∀ (env : Env) x, foldedSetIterable iter env x = pure x) :
    SoundE B sc names n (.ListComp elt (⟨target, iter, ifs, 0⟩ :: gs) scope pos) (eCompG d) := (f_compG ok h c hf).sound fun ρ t hd => eCompG_list hd

theorem comp_assignG (ok : B.Ok) {y : Str} {iy : Nat} {py pos spos : Pos} {target iter elt : Expr} {ifs : List Expr} {gs : List Comprehension} {scope : Scope} {ls : List Str} {d : Dl} (hcs : CompSound B sc names n elt iter (⟨target, iter, ifs, 0⟩ :: gs) scope pos d)
    (c : CompOk sc scope ls names) {X Z : Addr → Prop} {env : Env} {ρ : List Slot} {ρe : List (Option T)} {adr adr' : List (List Addr)} {s : Shared} {A : Around} {E : Value → Shared → Prop} (eo : EnvOk sc env) (rm : Room n A) (R : Rel B X env names ρ adr s.heap) (Cx0 : Cx B Z env names ρe s.heap) {ys : List T} {sl : Slot} (hd : d ρe = some ys)
    (hf : ∀ (env : Env) x, foldedSetIterable iter env x = pure x)
    (hsw : swapsWith (.ListComp elt (⟨target, iter, ifs, 0⟩ :: gs) scope pos) (some (.Name y py)) spos.line env = pure true)
    (store : ∀ (D : Addr) (s' : Shared) (Q : Unit → Shared → Prop), OutN B Z s ys (.ref D) s' → (∀ h' tk', Aft B X env names adr s.heap (ρ.set iy sl) (adr.set iy (match sl with | .own _ => [D] | _ => [])) h' → (∀ b o, s'.heap.get? b = some o → ¬ foot env adr b → h'.get? b = some o) → Q () { s with heap := h', toks := tk' }) → wpAny (model B.prog B.w) A (storeName env y (.ref D)) Q E s') :
    wpAny (model B.prog B.w) A (exec (.Assign [.Name y py] (.ListComp elt (⟨target, iter, ifs, 0⟩ :: gs) scope pos) spos) env) (After B X env names adr s .next (ρ.set iy sl)) E s := by
  rw [exec_Assign_Name_used _ _ _ _ hsw]
  refine wpAny_bind (wpAny_standAt (wpAny_bind ?_))
  show wpAny _ A (do let _ ← comprehension (.ListComp elt (⟨target, iter, ifs, 0⟩ :: gs) scope pos) scope env _ (newList []) false (eval iter env) (some (assign (.Name y py) env))) _ _ s
  refine wpAny_bind (wpAny_mono (wpAny_comprehension_free (use := some (assign (.Name y py) env)) (Q := fun _ s' => After B X env names adr s .next (ρ.set iy sl) .next s') rfl (hf env) (comp_closure eo c) c.kind c.locs ?_)
    (fun _ s' hq => wpAny_pure (wpAny_pure hq)) fun _ _ e => e)
  refine hcs Z env ρe s A E ys (compPost (model B.prog B.w) A E (some (assign (.Name y py) env)) (fun _ s' => After B X env names adr s .next (ρ.set iy sl) .next s')) eo rm Cx0 hd ?_
  intro D Ca h' tk m' vs hD hCa hDC hns hpl hre ext
  show wpAny _ A (assign (.Name y py) env (.ref D)) _ E _
  refine wpAny_assign_Name (store D _ _ ⟨⟨h', tk, rfl, ext⟩, D, vs, rfl, hD, hpl, hre⟩ fun h2 tk2 a keep => ?_)
  have hCf : ¬ foot env adr Ca := fun hf => by
    obtain ⟨o, ho⟩ := R.footAlive Ca hf
    rw [hCa] at ho; cases ho
  have hn2 : h2.Ns Ca m' := hns.at' fun o ho => keep Ca o ho hCf
  refine ⟨m', hn2, fun h3 hs3 => ⟨_, h3, tk2, rfl, aft_letGo (h1 := h') ok R a hCa hn2 hs3 fun ho => ?_, trivial⟩⟩
  rcases flatten_set_mem ho with ⟨j, bs, _, hj, hm⟩ | hm
  · exact hCf (.inr (.inr (inOwn_of hj hm)))
  · split at hm
    · exact hDC (List.mem_singleton.mp hm).symm
    · cases hm
theorem t_setG (ok : B.Ok) {y : Str} {iy : Nat} {py pos spos : Pos} {target iter elt : Expr} {ifs : List Expr} {gs : List Comprehension} {scope : Scope} {d : Dl} (ls : List Str) (hcs : CompSound B sc names n elt iter (⟨target, iter, ifs, 0⟩ :: gs) scope pos d)
    (hi : names[iy]? = some y := by kernel_rfl) (hc : compOk sc scope ls names = true := by kernel_rfl) (hf : ∀ (env : Env) x, foldedSetIterable iter env x = pure x := by intro _ _; rfl) :
    SoundS B sc names n (.Assign [.Name y py] (.ListComp elt (⟨target, iter, ifs, 0⟩ :: gs) scope pos) spos) (sSet iy (eCompG d)) := by
  intro X env ρ adr s f ρ' A E eo rm R hd
  obtain ⟨b, hb⟩ := swaps_comp (elt := elt) (gens := ⟨target, iter, ifs, 0⟩ :: gs) (scope := scope) (pos := pos) (py := py) (y := y) (line := spos.line) (env := env)
  have h := s_compG ok hcs (compOk_iff hc) hf
  unfold sSet at hd
  obtain ⟨t1, ht1, hd⟩ := Option.bind_eq_some_iff.mp hd
  obtain ⟨ys1, rfl⟩ := eCompG_list ht1
  simp only [flat, Bool.false_eq_true, if_false] at hd
  obtain ⟨t2, ht2, hd⟩ := Option.map_eq_some_iff.mp hd
  cases hd
  obtain ⟨ys, rfl⟩ := eCompG_list ht2
  cases b with
  | false => exact wpAny_Assign_Name (h.use ok eo rm R.cxc ht2 fun v h' tk e1 C1 r => set_val ok eo R e1 hi r fun h2 tk2 a => ⟨_, h2, tk2, rfl, a, trivial⟩) hb
  | true =>
    have hd2 : d (ρ.map Slot.cl) = some ys := by
      obtain ⟨ys', h1, h2⟩ := Option.map_eq_some_iff.mp ht2
      cases h2; exact h1
    refine comp_assignG (adr' := adr) (sl := .val (.list ys)) ok hcs (compOk_iff hc) eo rm R R.cxc hd2 hf hb fun D s' Q o k => ?_
    have o' := o.out R.exAlive
    obtain ⟨⟨h', tk, rfl, e1⟩, r⟩ := o'
    exact set_val' ok eo R e1 hi r k
end
end Mine

namespace Mine
open PySem PySem.W PyProof.Rows
section
variable {B : Bd} {sc : Scope} {names : List Str} {n : Nat}
end
end Mine

namespace Mine
open PySem PySem.W PyProof.Rows

section
variable {B : Bd} {sc : Scope} {names : List Str} {n : Nat}
end
end Mine

namespace Mine
open PySem PySem.W PyProof.Rows

theorem Inner.length {P : Addr → Obj → Int → Prop} {Y : Addr → Prop} {h : Heap} : ∀ {xss : List (List T)} {bs : List Addr}, Inner P Y h xss bs → bs.length = xss.length
  | [], bs, e => by simp only [Inner] at e; subst e; rfl
  | xs :: r, bs, e => by
    simp only [Inner] at e
    obtain ⟨b, bs', vs, rfl, _, _, hi⟩ := e
    simp [Inner.length hi]
theorem Inner.get {P : Addr → Obj → Int → Prop} {Y : Addr → Prop} {h : Heap} : ∀ {xss : List (List T)} {bs : List Addr}, Inner P Y h xss bs → ∀ {q : Nat} {xs : List T}, xss[q]? = some xs → ∃ b vs, bs[q]? = some b ∧ h.PlainList b (List.toArray vs) ∧ Reps P Y h xs vs
  | [], bs, e, q, xs, hq => by simp at hq
  | ys :: r, bs, e, q, xs, hq => by
    simp only [Inner] at e
    obtain ⟨b, bs', vs, rfl, hp, hr, hi⟩ := e
    cases q with
    | zero => simp at hq; subst hq; exact ⟨b, vs, rfl, hp, hr⟩
    | succ q => simpa using Inner.get hi (by simpa using hq)
theorem Inner.put {P : Addr → Obj → Int → Prop} {Y : Addr → Prop} {h h' : Heap} (hnf : ∀ a o n, P a o n → NF o) (hk : ∀ b o, h.get? b = some o → NF o → ¬ Y b → h'.get? b = some o) {b : Addr} {xs' : List T} {vs' : List Value} (hp : h'.PlainList b (List.toArray vs')) (hr : Reps P Y h' xs' vs') :
    ∀ {xss : List (List T)} {bs : List Addr} {q : Nat}, bs.Nodup → bs[q]? = some b → (∀ c ∈ bs, c ≠ b → ∀ o, h.get? c = some o → h'.get? c = some o) → Inner P Y h xss bs → Inner P Y h' (xss.set q xs') bs
  | [], bs, q, _, hq, _, e => by simp only [Inner] at e; subst e; simp at hq
  | ys :: r, bs, q, hnd, hq, hc, e => by
    simp only [Inner] at e
    obtain ⟨c, bs', vs, rfl, hpc, hrc, hi⟩ := e
    obtain ⟨n1, n2⟩ := List.nodup_cons.mp hnd
    cases q with
    | zero =>
      simp at hq
      subst hq
      simp only [List.set_cons_zero, Inner]
      refine ⟨c, bs', vs', rfl, hp, hr, hi.frame hnf (fun _ hb => .inl hb) hk fun d hd o ho => hc d (List.mem_cons_of_mem _ hd) (fun e => n1 (e ▸ hd)) o ho⟩
    | succ q =>
      have hq' : bs'[q]? = some b := by simpa using hq
      simp only [List.set_cons_succ, Inner]
      exact ⟨c, bs', vs, rfl, hpc.at fun o e => hc c List.mem_cons_self (fun e' => n1 (e' ▸ List.mem_of_getElem? hq')) o e, hrc.frame hnf (fun _ hb => .inl hb) hk _ _, Inner.put hnf hk hp hr n2 hq' (fun d hd => hc d (List.mem_cons_of_mem _ hd)) hi⟩
theorem Inner.snoc {P : Addr → Obj → Int → Prop} {Y : Addr → Prop} {h : Heap} {b : Addr} {xs : List T} {vs : List Value} (hp : h.PlainList b (List.toArray vs)) (hr : Reps P Y h xs vs) : ∀ {xss : List (List T)} {bs : List Addr}, Inner P Y h xss bs → Inner P Y h (xss ++ [xs]) (bs ++ [b])
  | [], bs, e => by
    simp only [Inner] at e; subst e
    simp only [List.nil_append, Inner]
    exact ⟨b, [], vs, rfl, hp, hr, rfl⟩
  | ys :: r, bs, e => by
    simp only [Inner] at e
    obtain ⟨c, bs', us, rfl, hpc, hrc, hi⟩ := e
    simp only [List.cons_append, Inner]
    exact ⟨c, bs' ++ [b], us, rfl, hpc, hrc, Inner.snoc hp hr hi⟩

section
variable {B : Bd} {sc : Scope} {names : List Str} {n : Nat}
theorem Rel.ownAt2 {X : Addr → Prop} {env : Env} {adr : List (List Addr)} {h : Heap} {ρ : List Slot} (R : Rel B X env names ρ adr h) {i : Nat} {x : Str} {xss : List (List T)} (hi : names[i]? = some x) (hr : ρ[i]? = some (.own2 xss)) :
    ∃ a bs, adr[i]? = some (a :: bs) ∧ VarIs env h x (.ref a) ∧ h.PlainList a (List.toArray (bs.map Value.ref)) ∧ Inner B.P (Ex X adr) h xss bs := by
  have hlt : i < adr.length := by rw [R.lenA]; exact (List.getElem?_eq_some_iff.mp hi).1
  have h3 : adr[i]? = some adr[i] := List.getElem?_eq_getElem hlt
  rcases R.slots i x _ _ hi hr h3 with ⟨h, _⟩ | ⟨v, hv, a, bs, has, rfl, hp, hrep⟩
  · cases h
  · exact ⟨a, bs, by rw [h3, has], hv, hp, hrep⟩
theorem nodup_at {adr : List (List Addr)} (h : adr.flatten.Nodup) {i : Nat} {as : List Addr} (hi : adr[i]? = some as) : as.Nodup := by
  induction adr generalizing i with
  | nil => simp at hi
  | cons l adr ih =>
    rw [List.flatten_cons] at h
    obtain ⟨h1, h2, _⟩ := List.nodup_append.mp h
    cases i with
    | zero => simp at hi; subst hi; exact h1
    | succ i => exact ih h2 (by simpa using hi)
/-- one of the inner lists has changed -/
theorem Rel.mut2 (ok : B.Ok) {X : Addr → Prop} {env : Env} {adr : List (List Addr)} {h h' : Heap} {ρ : List Slot} (R : Rel B X env names ρ adr h) {i : Nat} {x : Str} {a b : Addr} {bs : List Addr} {xss : List (List T)} {q : Nat} {xs' : List T} {vs' : List Value} (hi : names[i]? = some x) (hr : ρ[i]? = some (.own2 xss)) (ha : adr[i]? = some (a :: bs)) (hq : bs[q]? = some b)
    (hk : ∀ c o, c ≠ b → h.get? c = some o → h'.get? c = some o) (hp : h'.PlainList b (List.toArray vs')) (hf : ∀ Y h, Reps B.P Y h xs' vs') : Aft B X env names adr h (ρ.set i (.own2 (xss.set q xs'))) adr h' := by
  have hbm : b ∈ bs := List.mem_of_getElem? hq
  have hin : inOwn adr b := inOwn_of ha (List.mem_cons_of_mem _ hbm)
  obtain ⟨items, m0, hpa⟩ := R.ownPlain hin
  have hfa : foot env adr b := .inr (.inr hin)
  have hnd := nodup_at R.dis ha
  obtain ⟨n1, n2⟩ := List.nodup_cons.mp hnd
  have kL : ∀ o, h.get? env.locals = some o → h'.get? env.locals = some o := fun o ho => hk _ o (fun e => by obtain ⟨m, hm⟩ := R.ns; exact nf_ne_ns hm hpa (NF.seq rfl) e.symm) ho
  have kC : ∀ x c, env.cells.lookup x = some c → ∀ o, h.get? c = some o → h'.get? c = some o := fun x c hc o ho => hk _ o (fun e => by obtain ⟨v, hv⟩ := R.cells x c hc; exact nf_ne_cell hv hpa (NF.seq rfl) e.symm) ho
  have kV : ∀ y u, VarIs env h y u → VarIs env h' y u := fun y u hu => by
    rcases hu with ⟨hl, m, hm, hmx⟩ | ⟨hl, c, hc, o, ho, hd⟩
    · exact .inl ⟨hl, m, hm.at' kL, hmx⟩
    · exact .inr ⟨hl, c, hc, o, kC y c hc o ho, hd⟩
  have kX : ∀ c o, h.get? c = some o → NF o → ¬ Ex X adr c → h'.get? c = some o := fun c o hc _ hx => hk c o (fun e => hx (.inr (e ▸ hin))) hc
  refine ⟨⟨fun c o hc => hk c o (fun e => by subst e; rw [R.boff c hfa] at hc; cases hc) (R.hb c o hc), fun c hc => ?_, R.xoff, R.boff, ?_, fun y c hc => ?_, R.apart, R.kinds, R.nodup, by rw [List.length_set]; exact R.len, R.lenA, fun j y sl as h1 h2 h3 => ?_, R.dis⟩, fun c o hc hf' => hk c o (fun e => hf' (e ▸ hfa)) hc, fun c hc => .inl hc⟩
  · obtain ⟨o, ho⟩ := R.al c hc
    exact ⟨o, hk c o (fun e => R.xoff c hc (e ▸ hfa)) ho⟩
  · obtain ⟨m, hm⟩ := R.ns
    exact ⟨m, hm.at' kL⟩
  · obtain ⟨v, o, ho, hd⟩ := R.cells y c hc
    exact ⟨v, o, kC y c hc o ho, hd⟩
  · rw [List.getElem?_set] at h2
    by_cases hij : i = j
    · subst hij
      rw [if_pos rfl] at h2
      split at h2
      · cases h2
        have hy : x = y := by rw [hi] at h1; exact Option.some.inj h1
        subst hy
        have hasq : as = a :: bs := by rw [ha] at h3; exact (Option.some.inj h3).symm
        subst hasq
        obtain ⟨a', bs', ha', hv, hpl, hin2⟩ := R.ownAt2 hi hr
        rw [ha] at ha'
        cases ha'
        refine .inr ⟨_, kV _ _ hv, a, bs, rfl, rfl, hpl.at fun o e => hk _ o (fun e' => n1 (e' ▸ hbm)) e, Inner.put ok.nf kX hp (hf _ _) n2 hq (fun c _ hne o ho => hk c o hne ho) hin2⟩
      · cases h2
    · rw [if_neg hij] at h2
      rcases R.slots j y sl as h1 h2 h3 with hu | ⟨u, hu, hs⟩
      · exact .inl hu
      · refine .inr ⟨u, kV _ _ hu, hs.frame ok.nf (fun _ hb => .inl hb) kX fun c hc o ho => hk c o (fun e => ?_) ho⟩
        subst e
        exact dis_slots R.dis hij ha h3 (List.mem_cons_of_mem _ hbm) hc
/-- a new inner list b has been laid behind -/
theorem Rel.app2 (ok : B.Ok) {X : Addr → Prop} {env : Env} {adr : List (List Addr)} {h0 h h' : Heap} {ρ : List Slot} (R : Rel B X env names ρ adr h0) (e1 : Ext h0 h) {i : Nat} {x : Str} {a b : Addr} {bs : List Addr} {xss : List (List T)} {xs' : List T} {vs' : List Value} (hi : names[i]? = some x) (hr : ρ[i]? = some (.own2 xss)) (ha : adr[i]? = some (a :: bs))
    (hb0 : h0.get? b = none) (hpb : h.PlainList b (List.toArray vs')) (hf : ∀ Y h, Reps B.P Y h xs' vs') (hk : ∀ c o, c ≠ a → h.get? c = some o → h'.get? c = some o) (hp : h'.PlainList a (List.toArray ((bs ++ [b]).map Value.ref))) :
    Aft B X env names adr h0 (ρ.set i (.own2 (xss ++ [xs']))) (adr.set i (a :: (bs ++ [b]))) h' := by
  have Rh := R.ext ok e1
  have hin : inOwn adr a := inOwn_of ha List.mem_cons_self
  have hfa : foot env adr a := .inr (.inr hin)
  obtain ⟨items, m0, hpa⟩ := R.ownPlain hin
  have hpa' := e1 _ _ hpa
  have hnd := nodup_at R.dis ha
  obtain ⟨n1, n2⟩ := List.nodup_cons.mp hnd
  have bnot : ∀ c, (∃ o, h0.get? c = some o) → c ≠ b := fun c ⟨o, ho⟩ e => by rw [e, hb0] at ho; cases ho
  have balive : ∀ c ∈ bs, ∃ o, h0.get? c = some o := fun c hc => by
    obtain ⟨_, _, q⟩ := R.ownPlain (inOwn_of ha (List.mem_cons_of_mem _ hc)); exact ⟨_, q⟩
  have hba : b ≠ a := fun e => by rw [e, hpa] at hb0; cases hb0
  have kk : ∀ c o, c ≠ a → h0.get? c = some o → h'.get? c = some o := fun c o hc ho => hk c o hc (e1 c o ho)
  have mem : ∀ c, inOwn (adr.set i (a :: (bs ++ [b]))) c → inOwn adr c ∨ c = b := fun c hc => by
    rcases flatten_set_mem hc with ⟨j, as, _, hj, hm⟩ | hm
    · exact .inl (inOwn_of hj hm)
    · rcases List.mem_cons.mp hm with rfl | hm
      · exact .inl hin
      · rcases List.mem_append.mp hm with hm | hm
        · exact .inl (inOwn_of ha (List.mem_cons_of_mem _ hm))
        · exact .inr (List.mem_singleton.mp hm)
  have hex : ∀ c, Ex X (adr.set i (a :: (bs ++ [b]))) c → Ex X adr c ∨ h0.get? c = none := fun c hc => by
    rcases hc with hc | hc
    · exact .inl (.inl hc)
    · rcases mem c hc with h1 | rfl
      · exact .inl (.inr h1)
      · exact .inr hb0
  have hfo : ∀ c, foot env (adr.set i (a :: (bs ++ [b]))) c → foot env adr c ∨ c = b := fun c hc => by
    rcases hc with hc | hc | hc
    · exact .inl (.inl hc)
    · exact .inl (.inr (.inl hc))
    · rcases mem c hc with h1 | h1
      · exact .inl (.inr (.inr h1))
      · exact .inr h1
  have kL : ∀ o, h0.get? env.locals = some o → h'.get? env.locals = some o := fun o ho => kk _ o (fun e => by obtain ⟨m, hm⟩ := R.ns; exact nf_ne_ns hm hpa (NF.seq rfl) e.symm) ho
  have kC : ∀ x c, env.cells.lookup x = some c → ∀ o, h0.get? c = some o → h'.get? c = some o := fun x c hc o ho => kk _ o (fun e => by obtain ⟨v, hv⟩ := R.cells x c hc; exact nf_ne_cell hv hpa (NF.seq rfl) e.symm) ho
  have kV : ∀ y u, VarIs env h0 y u → VarIs env h' y u := fun y u hu => by
    rcases hu with ⟨hl, m, hm, hmx⟩ | ⟨hl, c, hc, o, ho, hd⟩
    · exact .inl ⟨hl, m, hm.at' kL, hmx⟩
    · exact .inr ⟨hl, c, hc, o, kC y c hc o ho, hd⟩
  have kX : ∀ c o, h0.get? c = some o → NF o → ¬ Ex X adr c → h'.get? c = some o := fun c o hc _ hx => kk c o (fun e => hx (.inr (e ▸ hin))) hc
  refine ⟨⟨fun c o hc => kk c o (fun e => by subst e; rw [R.boff c hfa] at hc; cases hc) (R.hb c o hc), fun c hc => ?_, fun c hc hf' => ?_, fun c hc => ?_, ?_, fun y c hc => ?_, R.apart, R.kinds, R.nodup, by rw [List.length_set]; exact R.len, by rw [List.length_set]; exact R.lenA, fun j y sl as h1 h2 h3 => ?_, ?_⟩, fun c o hc hf' => kk c o (fun e => hf' (e ▸ hfa)) hc, fun c hc => ?_⟩
  · obtain ⟨o, ho⟩ := R.al c hc
    exact ⟨o, kk c o (fun e => R.xoff c hc (e ▸ hfa)) ho⟩
  · rcases hfo c hf' with h1 | rfl
    · exact R.xoff c hc h1
    · obtain ⟨o, ho⟩ := R.al c hc; rw [hb0] at ho; cases ho
  · rcases hfo c hc with h1 | rfl
    · exact R.boff c h1
    · cases q : B.hb.get? c with
      | none => rfl
      | some o => have := R.hb c o q; rw [hb0] at this; cases this
  · obtain ⟨m, hm⟩ := R.ns
    exact ⟨m, hm.at' kL⟩
  · obtain ⟨v, o, ho, hd⟩ := R.cells y c hc
    exact ⟨v, o, kC y c hc o ho, hd⟩
  · rw [List.getElem?_set] at h2 h3
    by_cases hij : i = j
    · subst hij
      rw [if_pos rfl] at h2 h3
      split at h2
      · cases h2
        split at h3
        · cases h3
          have hy : x = y := by rw [hi] at h1; exact Option.some.inj h1
          subst hy
          obtain ⟨a', bs', ha', hv, hpl, hin2⟩ := R.ownAt2 hi hr
          rw [ha] at ha'
          cases ha'
          refine .inr ⟨_, kV _ _ hv, a, bs ++ [b], rfl, rfl, hp, ?_⟩
          refine Inner.snoc (hpb.at fun o e => hk _ o hba e) (hf _ _) ?_
          exact hin2.frame ok.nf hex kX fun c hc o ho => kk c o (fun e => n1 (e ▸ hc)) ho
        · cases h3
      · cases h2
    · rw [if_neg hij] at h2 h3
      rcases R.slots j y sl as h1 h2 h3 with hu | ⟨u, hu, hs⟩
      · exact .inl hu
      · refine .inr ⟨u, kV _ _ hu, hs.frame ok.nf hex kX fun c hc o ho => kk c o (fun e => ?_) ho⟩
        subst e
        exact dis_slots R.dis hij ha h3 List.mem_cons_self hc
  · refine nodup_set R.dis ?_ fun c hc j as hj hg hm => ?_
    · refine List.nodup_cons.mpr ⟨fun hm => ?_, List.nodup_append.mpr ⟨n2, by simp, fun c hc d hd e => ?_⟩⟩
      · rcases List.mem_append.mp hm with hm | hm
        · exact n1 hm
        · exact hba (List.mem_singleton.mp hm).symm
      · rw [List.mem_singleton.mp hd] at e
        exact bnot c (balive c hc) e
    · rcases List.mem_cons.mp hc with rfl | hc
      · exact dis_slots R.dis (Ne.symm hj) ha hg List.mem_cons_self hm
      · rcases List.mem_append.mp hc with hc | hc
        · exact dis_slots R.dis (Ne.symm hj) ha hg (List.mem_cons_of_mem _ hc) hm
        · obtain ⟨_, _, q⟩ := R.ownPlain (inOwn_of hg hm)
          rw [List.mem_singleton.mp hc, hb0] at q; cases q
  · rcases mem c hc with h1 | rfl
    · exact .inl h1
    · exact .inr hb0
end
end Mine

namespace Mine
open PySem PySem.W PyProof.Rows

section
variable {B : Bd} {sc : Scope} {names : List Str} {n : Nat}

/-- x = [[..]] -/
noncomputable def sNew21 (i : Nat) (d : Dl) : Ds := fun ρ => (d (ρ.map Slot.rd)).bind fun xs => if xs.all flat && decide (xs.length ≤ 1000) then some (.next, ρ.set i (.own2 [xs])) else none
theorem t_new21 (ok : B.Ok) {x : Str} {i : Nat} {p lp lp1 pos : Pos} {es : List Expr} {d : Dl} (hl : SoundL B sc names n es d) (hi : names[i]? = some x := by kernel_rfl)
    (hst : ∀ env : Env, starEach [Expr.List es lp1] env = (false, eval (.List es lp1) env) :: starEach [] env := by intro _; rfl)
    (hs : ∀ env : Env, swapsWith (.List [.List es lp1] lp) (some (.Name x p)) pos.line env = pure false := by intro _; rfl) : SoundS B sc names n (.Assign [.Name x p] (.List [.List es lp1] lp) pos) (sNew21 i d) := by
  intro X env ρ adr s f ρ' A E eo rm R hd
  unfold sNew21 at hd
  obtain ⟨xs, hxs, hd⟩ := Option.bind_eq_some_iff.mp hd
  split at hd
  · rename_i hfl
    simp only [Bool.and_eq_true, decide_eq_true_eq] at hfl
    cases hd
    refine wpAny_Assign_Name (List_ (spliced_more ?_ (hst env))) (hs env)
    refine List_ (wpAny_mono (hl X env _ s xs lp1 A _ eo rm (R.cx ok) hxs) (fun vs s' q => ?_) fun _ _ z => z)
    obtain ⟨⟨h2, tk2, rfl, e2⟩, r2⟩ := q
    refine wp_newList (by rw [r2.length]; exact hfl.2) (spliced_none (wp_newList (by simp) ?_))
    have hb : ((h2.push { cls := .type "list", data := .seq vs.toArray }).push { cls := .type "list", data := .seq #[Value.ref h2.objs.size] }).PlainList h2.objs.size vs.toArray := ⟨0, Heap.get?_push_of_some _ (Heap.get?_push_size _ rfl)⟩
    have hsz : (h2.push { cls := .type "list", data := .seq vs.toArray }).objs.size = h2.objs.size + 1 := Heap.size_push ..
    have ha : ((h2.push { cls := .type "list", data := .seq vs.toArray }).push { cls := .type "list", data := .seq #[Value.ref h2.objs.size] }).PlainList (h2.push { cls := .type "list", data := .seq vs.toArray }).objs.size (List.toArray ([h2.objs.size].map Value.ref)) := ⟨0, Heap.get?_push_size _ rfl⟩
    have dead : ∀ b, h2.objs.size ≤ b → s.heap.get? b = none := fun b hb => by
      cases q : s.heap.get? b with
      | none => rfl
      | some o => exact absurd (Heap.lt_size (e2 _ _ q)) (Nat.not_lt.mpr hb)
    refine store_ok (s := s) (sl := .own2 [xs]) (as := [(h2.push { cls := .type "list", data := .seq vs.toArray }).objs.size, h2.objs.size]) ok eo R (fun b o hb' => Heap.get?_push_of_some _ (Heap.get?_push_of_some _ (e2 b o hb'))) hi ?_ (fun b hb' => ?_) ?_ fun h3 tk3 a3 => ⟨_, h3, tk3, rfl, a3, trivial⟩
    · refine ⟨_, [h2.objs.size], rfl, rfl, ha, ?_⟩
      simp only [Inner]
      exact ⟨_, [], vs, rfl, hb, flats_rep hfl.1 r2, rfl⟩
    · simp only [List.mem_cons, List.not_mem_nil, or_false] at hb'
      rcases hb' with rfl | rfl
      · exact dead _ (by rw [hsz]; exact Nat.le_succ _)
      · exact dead _ (Nat.le_refl _)
    · rw [hsz]
      simp
  · cases hd
/-- x.append([..]) -/
noncomputable def sApp2 (i : Nat) (d : Dl) : Ds := fun ρ => match ρ[i]? with
  | some (.own2 xss) => (d (ρ.map Slot.rd)).bind fun xs => if xs.all flat && decide (xs.length ≤ 1000) && decide (xss.length ≤ 1000) then some (.next, ρ.set i (.own2 (xss ++ [xs]))) else none
  | _ => none
theorem t_app2 (ok : B.Ok) {x : Str} {i : Nat} {px apos pos spos lp : Pos} {es : List Expr} {d : Dl} (hl : SoundL B sc names n es d) (hi : names[i]? = some x := by kernel_rfl)
    (hd1 : (x == ("__debug__" : Str)) = false := by kernel_rfl) (hcd : (x == ("__classdict__" : Str)) = false := by kernel_rfl)
    (hst : ∀ env : Env, starEach [Expr.List es lp] env = (false, eval (.List es lp) env) :: starEach [] env := by intro _; rfl)
    (hp : ∀ env : Env, (backTo pos (starEach [] env)).any (·.1) = false := by intro _; rfl)
    (he : ∀ env : Env, ∃ pl, eval (.Call (.Attribute (.Name x px) "append" apos) [.List es lp] [] pos) env = (do
      let ov ← eval (.Name x px) env
      standAt apos.atName
      let (f, first) ← holding [ov] (getMethod ov "append" pl)
      callWith pos f first (backTo pos (starEach [.List es lp] env)) []) := by intro _; exact ⟨_, rfl⟩)
    (hs : ∀ env : Env, swapsWith (.Call (.Attribute (.Name x px) "append" apos) [.List es lp] [] pos) none spos.line env = pure false := by intro _; rfl) :
    SoundS B sc names n (.Expr (.Call (.Attribute (.Name x px) "append" apos) [.List es lp] [] pos) spos) (sApp2 i d) := by
  intro X env ρ adr s f ρ' A E eo rm R hd
  unfold sApp2 at hd
  split at hd
  · rename_i xss hxss
    obtain ⟨xs, hxs, hd⟩ := Option.bind_eq_some_iff.mp hd
    split at hd
    · rename_i hfl
      simp only [Bool.and_eq_true, decide_eq_true_eq] at hfl
      cases hd
      refine wpAny_Expr_any ?_ (by unfold interactive; rw [eo.scope, eo.kind]; rfl) (hs env)
      obtain ⟨pl, hpl⟩ := he env
      obtain ⟨a, bs, haa, hva, hpa, hra⟩ := R.ownAt2 hi hxss
      refine MethodCall_ (pl := pl) (wpAny_Name (hva.load (by rw [eo.scope]; exact eo.kind) hcd ?_) hd1) hpl
      have hpb := hpa
      obtain ⟨nn, hob⟩ := hpb
      refine getMethod_list_of PySem.F.slot_list_append PySem.F.type_list_append hpa.isList ⟨_, hob, rfl⟩ ?_
      refine callWith_method1 (spliced_more ?_ (hst env)) (hst env) (hp env)
      refine List_ (wpAny_mono (hl X env _ s xs lp A E eo rm (R.cx ok) hxs) (fun vs s' q => ?_) fun _ _ z => z)
      obtain ⟨⟨h2, tk2, rfl, e2⟩, r2⟩ := q
      refine wp_newList (by rw [r2.length]; exact hfl.1.2) (spliced_none ?_)
      have hal : a < h2.objs.size := Heap.lt_size (e2 _ _ hob)
      have e3 : Ext s.heap (h2.push { cls := .type "list", data := .seq vs.toArray }) := fun b o hb => Heap.get?_push_of_some _ (e2 b o hb)
      have hpa3 : (h2.push { cls := .type "list", data := .seq vs.toArray }).PlainList a (List.toArray (bs.map Value.ref)) := hpa.at fun o e => e3 _ o e
      refine wpAny_list_append_plain (s := { s with heap := h2.push { cls := .type "list", data := .seq vs.toArray }, toks := tk2 }) hpa3 (fun h4 hp4 hs4 => ?_) (by rw [List.size_toArray, List.length_map, hra.length]; exact Nat.le_trans hfl.2 (by decide))
      have hb0 : s.heap.get? h2.objs.size = none := by
        cases q : s.heap.get? h2.objs.size with
        | none => rfl
        | some o => exact absurd (Heap.lt_size (e2 _ _ q)) (Nat.lt_irrefl _)
      have a4 := R.app2 ok e3 hi hxss haa (b := h2.objs.size) (xs' := xs) (vs' := vs) hb0 ⟨0, Heap.get?_push_size _ rfl⟩ (fun Y h => flats_rep hfl.1.1 r2) (fun c o hc e => hs4.extBut c o hc e) (by simpa using hp4)
      exact ⟨_, h4, tk2, rfl, a4, trivial⟩
    · cases hd
  · cases hd
/-- x[k], a list of the frame's own -/
theorem eval_inner (ok : B.Ok) {x : Str} {i : Nat} {px sp : Pos} {ke : Expr} {k : Dn} (hk : SoundE B sc names n ke k) (hi : names[i]? = some x) (hd1 : (x == ("__debug__" : Str)) = false) (hcd : (x == ("__classdict__" : Str)) = false)
    (hs : ∀ o i : Value, subscripted ke false o i = operate [o, i] (getItem o i)) {X : Addr → Prop} {env : Env} {ρ : List Slot} {adr : List (List Addr)} {s : Shared} {A : Around} {E : Value → Shared → Prop} {xss : List (List T)} {kk : Int} {q : Nat} {Q : Value → Shared → Prop}
    (eo : EnvOk sc env) (rm : Room n A) (R : Rel B X env names ρ adr s.heap) (hr : ρ[i]? = some (.own2 xss)) (hkv : k (ρ.map Slot.rd) = some (.int kk)) (hq : idx xss.length kk = some q) (hlen : xss.length ≤ 1000)
    (kont : ∀ a bs b h' tk, Ext s.heap h' → adr[i]? = some (a :: bs) → bs[q]? = some b → Q (.ref b) { s with heap := h', toks := tk }) : wpAny (model B.prog B.w) A (eval (.Subscript (.Name x px) ke sp) env) Q E s := by
  obtain ⟨a, bs, haa, hva, hpa, hra⟩ := R.ownAt2 hi hr
  have hbl := hra.length
  have hql : q < xss.length := by
    unfold idx at hq
    split at hq
    · split at hq
      · cases hq; omega
      · cases hq
    · split at hq
      · cases hq; omega
      · cases hq
  obtain ⟨b, hb⟩ : ∃ b, bs[q]? = some b := ⟨bs[q]'(by omega), List.getElem?_eq_getElem _⟩
  refine Subscript_ (wpAny_Name (hva.load (by rw [eo.scope]; exact eo.kind) hcd ?_) hd1)
  refine hk.use ok eo rm (R.cx ok) hkv fun v h2 tk2 e2 C2 r2 => ?_
  simp only [Rep] at r2
  obtain ⟨tk, rfl⟩ := r2
  have hpa2 : h2.PlainList a (List.toArray (bs.map Value.ref)) := hpa.at fun o e => e2 _ o e
  have hget : (bs.map Value.ref)[q]? = some (.ref b) := by rw [List.getElem?_map, hb]; rfl
  refine tail_list (s := { s with heap := h2, toks := tk2 }) hpa2.isList.typeIs ?_ (hs _ _)
  unfold idx at hq
  split at hq
  · rename_i h0
    split at hq
    · rename_i h1
      cases hq
      exact wpAny_getItem_list hpa2.isList h0 (by omega) (by simpa using hget) (kont a bs b h2 tk2 e2 haa hb)
    · cases hq
  · rename_i h0
    split at hq
    · rename_i h1
      cases hq
      refine wpAny_getItem_list_neg hpa2.isList (by omega) (by rw [List.size_toArray, List.length_map, hbl]; exact h1) (by omega) ?_ (kont a bs b h2 tk2 e2 haa hb)
      rw [List.size_toArray, List.length_map, hbl]
      simpa using hget
    · cases hq
/-- x[k].append(e) -/
noncomputable def sAppAt (i : Nat) (k d : Dn) : Ds := fun ρ => match ρ[i]? with
  | some (.own2 xss) => (k (ρ.map Slot.rd)).bind fun kv => (d (ρ.map Slot.rd)).bind fun t => match kv with
    | .int kk => if flat t && decide (xss.length ≤ 1000) then (idx xss.length kk).bind fun q => (xss[q]?).bind fun xs => if xs.all flat && decide (xs.length ≤ 1000) then some (.next, ρ.set i (.own2 (xss.set q (xs ++ [t])))) else none else none
    | _ => none
  | _ => none
/-- x[k][j] = e -/
noncomputable def sPut2 (i : Nat) (k j d : Dn) : Ds := fun ρ => match ρ[i]? with
  | some (.own2 xss) => (d (ρ.map Slot.rd)).bind fun t => (k (ρ.map Slot.rd)).bind fun kv => (j (ρ.map Slot.rd)).bind fun jv => match kv, jv with
    | .int kk, .int jj => if flat t && decide (xss.length ≤ 1000) then (idx xss.length kk).bind fun q => (xss[q]?).bind fun xs => if xs.all flat && decide (xs.length ≤ 1000) && decide (0 ≤ jj) && decide (jj < xs.length) then some (.next, ρ.set i (.own2 (xss.set q (xs.set jj.toNat t)))) else none else none
    | _, _ => none
  | _ => none
theorem t_put2 (ok : B.Ok) {x : Str} {i : Nat} {px sp sp2 pos : Pos} {ke je e : Expr} {k j d : Dn} (hk : SoundE B sc names n ke k) (hj : SoundE B sc names n je j) (h : SoundE B sc names n e d) (hi : names[i]? = some x := by kernel_rfl)
    (hd1 : (x == ("__debug__" : Str)) = false := by kernel_rfl) (hcd : (x == ("__classdict__" : Str)) = false := by kernel_rfl)
    (hsub : ∀ o i : Value, subscripted ke false o i = operate [o, i] (getItem o i) := by intro _ _; with_unfolding_all rfl)
    (hs : ∀ env : Env, swapsWith e (some (.Subscript (.Subscript (.Name x px) ke sp) je sp2)) pos.line env = pure false := by intro _; rfl) :
    SoundS B sc names n (.Assign [.Subscript (.Subscript (.Name x px) ke sp) je sp2] e pos) (sPut2 i k j d) := by
  intro X env ρ adr s f ρ' A E eo rm R hd
  unfold sPut2 at hd
  split at hd
  · rename_i xss hxss
    obtain ⟨t, ht, hd⟩ := Option.bind_eq_some_iff.mp hd
    obtain ⟨kv, hkv, hd⟩ := Option.bind_eq_some_iff.mp hd
    obtain ⟨jv, hjv, hd⟩ := Option.bind_eq_some_iff.mp hd
    split at hd
    · rename_i kk jj _
      split at hd
      · rename_i hfl
        simp only [Bool.and_eq_true, decide_eq_true_eq] at hfl
        obtain ⟨q, hq, hd⟩ := Option.bind_eq_some_iff.mp hd
        obtain ⟨xs, hxs, hd⟩ := Option.bind_eq_some_iff.mp hd
        split at hd
        · rename_i hfx
          simp only [Bool.and_eq_true, decide_eq_true_eq] at hfx
          cases hd
          refine wpAny_Assign_Subscript (h.use ok eo rm (R.cx ok) ht fun v h0 tk0 e0 C0 r0 => ?_) (hs env)
          have R0 := R.ext ok e0
          refine eval_inner (s := { s with heap := h0, toks := tk0 }) ok hk hi hd1 hcd hsub eo rm R0 hxss hkv hq hfl.2 fun a bs b h1 tk1 e1 haa hb => ?_
          have R1 := R0.ext ok e1
          refine hj.use (s := { s with heap := h1, toks := tk1 }) ok eo rm (R1.cx ok) hjv fun u h2 tk2 e2 C2 r2 => ?_
          simp only [Rep] at r2
          obtain ⟨tkj, rfl⟩ := r2
          have R2 := R1.ext ok e2
          obtain ⟨a', bs', haa', hva', hpa', hra'⟩ := R2.ownAt2 hi hxss
          rw [haa] at haa'
          cases haa'
          obtain ⟨b', vs, hb', hpb, hrb⟩ := hra'.get hxs
          rw [hb] at hb'
          cases hb'
          have hvl := hrb.length
          refine setItem_plain (s := { s with heap := h2, toks := tk2 }) hpb hfx.1.2 (by omega) (by rw [hvl]; exact hfx.2) fun h3 hp3 hs3 => ?_
          have a3 := R2.mut2 ok hi hxss haa hb (xs' := xs.set jj.toNat t) (vs' := vs.set jj.toNat v) (fun c o hc e => hs3.extBut c o hc e) hp3 (fun Y h => reps_set _ (flats_rep hfx.1.1.1 hrb) (flat_rep hfl.1 r0))
          exact ⟨adr, h3, tk2, rfl, (Aft.refl R2 ((e0.trans e1).trans e2)).trans a3, trivial⟩
        · cases hd
      · cases hd
    · cases hd
  · cases hd

/-! a made list whose members hold no list: nothing of the frame's own is reached -/
end
end Mine

namespace Mine
open PySem PySem.W PyProof.Rows

/-- unfold denotations -/

noncomputable def irng (a b : Int) : List Int := (List.range (b - a).toNat).map fun (i : Nat) => a + i
theorem rng_ints (a b : Int) : rng a b = (irng a b).map T.int := by simp [rng, irng]
theorem mem_irng {a b x : Int} : x ∈ irng a b ↔ a ≤ x ∧ x < b := by
  simp only [irng, List.mem_map, List.mem_range]
  constructor
  · rintro ⟨i, hi, rfl⟩; omega
  · intro h; exact ⟨(x - a).toNat, by omega, by omega⟩
@[simp] theorem irng_length (a b : Int) : (irng a b).length = (b - a).toNat := by simp [irng]
theorem irng_get {a b : Int} {j : Nat} (h : j < (b - a).toNat) : (irng a b)[j]? = some (a + j) := by simp [irng, h]
theorem compL_eq {t : T → Option Bool} {e : T → Option T} {p : T → Bool} {f : T → T} : ∀ {xs : List T}, (∀ x ∈ xs, t x = some (p x)) → (∀ x ∈ xs, p x = true → e x = some (f x)) → compL t e xs = some ((xs.filter p).map f)
  | [], _, _ => rfl
  | x :: xs, h, g => by
    have ih := compL_eq (xs := xs) (fun y hy => h y (List.mem_cons_of_mem _ hy)) (fun y hy => g y (List.mem_cons_of_mem _ hy))
    unfold compL
    rw [h x List.mem_cons_self]
    simp only [Option.bind_some]
    cases hp : p x with
    | true => simp [g x List.mem_cons_self hp, ih, hp]
    | false => simp [ih, hp]
theorem compL_ints {t : T → Option Bool} {e : T → Option T} {p : Int → Bool} {f : Int → Int} : ∀ {ns : List Int}, (∀ x ∈ ns, t (.int x) = some (p x)) → (∀ x ∈ ns, p x = true → e (.int x) = some (.int (f x))) → compL t e (ns.map T.int) = some (((ns.filter p).map f).map T.int)
  | [], _, _ => rfl
  | x :: xs, h, g => by
    have ih := compL_ints (ns := xs) (fun y hy => h y (List.mem_cons_of_mem _ hy)) (fun y hy => g y (List.mem_cons_of_mem _ hy))
    rw [List.map_cons]
    unfold compL
    rw [h x List.mem_cons_self]
    simp only [Option.bind_some]
    cases hp : p x with
    | true => simp [g x List.mem_cons_self hp, ih, hp]
    | false => simp [ih, hp]
theorem eComp_ints {src : Dl} {t : Db} {e : Dn} {ρ : List (Option T)} {ns : List Int} {p : Int → Bool} {f : Int → Int} (hs : src ρ = some (ns.map T.int)) (ht : ∀ x ∈ ns, t (some (.int x) :: ρ) = some (p x)) (he : ∀ x ∈ ns, p x = true → e (some (.int x) :: ρ) = some (.int (f x))) :
    eComp src t e ρ = some (.list (((ns.filter p).map f).map T.int)) := by
  have := compL_ints (t := fun u => t (some u :: ρ)) (e := fun u => e (some u :: ρ)) (p := p) (f := f) ht he
  simp only [eComp, hs, Option.bind_some, this, Option.map_some]
theorem eComp_map {src : Dl} {e : Dn} {ρ : List (Option T)} {ns : List Int} {f : Int → Int} (hs : src ρ = some (ns.map T.int)) (he : ∀ x ∈ ns, e (some (.int x) :: ρ) = some (.int (f x))) :
    eComp src cTrue e ρ = some (.list ((ns.map f).map T.int)) := by
  have := eComp_ints (t := cTrue) (p := fun _ => true) (f := f) hs (fun _ _ => rfl) (fun x hx _ => he x hx)
  rwa [List.filter_eq_self.mpr (fun _ _ => rfl)] at this
theorem gItem_ints_neg {ns : List Int} {j : Nat} (hl : ns.length ≤ 1000) (hj : 0 < j) (hj2 : j ≤ ns.length) : gItem (.list (ns.map T.int)) (.int (-(j : Int))) = some (.int (ns[ns.length - j]'(by omega))) := by
  simp only [gItem, List.length_map, hl, if_true, idx]
  rw [if_neg (by omega), if_pos (by omega)]
  simp only [Option.bind_some, List.getElem?_map]
  rw [show (-(j : Int) + (ns.length : Int)).toNat = ns.length - j by omega, List.getElem?_eq_getElem (by omega)]
  rfl
theorem itR1_eq {a : Dn} {ρ : List (Option T)} {k : Int} (h : a ρ = some (.int k)) (h1 : -1000000 ≤ k) (h2 : k ≤ 1000) : itR1 a ρ = some ((irng 0 k).map T.int) := by
  have hf : fits k = true := by rw [fits_iff]; omega
  simp [itR1, h, hf, h2, rng_ints]
theorem itR2_eq {a b : Dn} {ρ : List (Option T)} {j k : Int} (h : a ρ = some (.int j)) (g : b ρ = some (.int k)) (h1 : -1000000 ≤ j ∧ j ≤ 1000000) (h2 : -1000000 ≤ k ∧ k ≤ 1000000) (h3 : k - j ≤ 1000) : itR2 a b ρ = some ((irng j k).map T.int) := by
  have hf : fits k = true := by rw [fits_iff]; omega
  have hg : fits j = true := by rw [fits_iff]; omega
  simp [itR2, h, g, hf, hg, h3, rng_ints]
theorem itL_eq {a : Dn} {ρ : List (Option T)} {xs : List T} (h : a ρ = some (.list xs)) (hl : xs.length ≤ 1000) : itL a ρ = some xs := by simp [itL, h, hl]
/-- numbers = heaps + [..] -/
theorem plus_ints {d : Dn} {l : Dl} {ρ : List (Option T)} {hs ks : List Int} (h : d ρ = some (.list (hs.map T.int))) (g : l ρ = some (ks.map T.int)) (hl : hs.length + ks.length ≤ 1000) : bin fAdd d (eList l) ρ = some (.list ((hs ++ ks).map T.int)) := by
  have : ks.length ≤ 1000 := by omega
  simp [bin, h, eList, g, this, fAdd, hl]
end Mine

namespace Mine
open PySem PySem.W PyProof.Rows

/-! sums -/
theorem cmp_of {f : T → T → Option Bool} {a b : Dn} {ρ : List (Option T)} {x y : T} {z : Bool} (ha : a ρ = some x) (hb : b ρ = some y) (h : f x y = some z) : cmp f a b ρ = some z := by simp only [cmp, ha, hb, Option.bind_some, h]
theorem bin_of {f : T → T → Option T} {a b : Dn} {ρ : List (Option T)} {x y z : T} (ha : a ρ = some x) (hb : b ρ = some y) (h : f x y = some z) : bin f a b ρ = some z := by simp only [bin, ha, hb, Option.bind_some, h]
theorem eSub_of {a b : Dn} {ρ : List (Option T)} {x y z : T} (ha : a ρ = some x) (hb : b ρ = some y) (h : gItem x y = some z) : eSub a b ρ = some z := by simp only [eSub, ha, hb, Option.bind_some, h]
theorem eCall_of {g : List T → Option T} {a : Dl} {ρ : List (Option T)} {xs : List T} {z : T} (ha : a ρ = some xs) (h : g xs = some z) : eCall g a ρ = some z := by simp only [eCall, ha, Option.bind_some, h]
theorem lCons_of {a : Dn} {b : Dl} {ρ : List (Option T)} {x : T} {xs : List T} (ha : a ρ = some x) (hb : b ρ = some xs) : lCons a b ρ = some (x :: xs) := by simp only [lCons, ha, hb, Option.bind_some, Option.map_some]
theorem nm_of {i : Nat} {ρ : List (Option T)} {x : T} (h : ρ[i]? = some (some x)) : nm i ρ = some x := by simp only [nm, h, Option.join_some]
theorem cVal_of {a : Dn} {ρ : List (Option T)} {b : Bool} (h : a ρ = some (.bool b)) : cVal a ρ = some b := by simp only [cVal, h, Option.bind_some]
end Mine

namespace Mine
open PySem PySem.W PyProof.Rows

theorem sWhile_more {c : Db} {b : Ds} {k : Nat} {ρ ρ1 : List Slot} (hc : c (ρ.map Slot.rd) = some true) (hb : b ρ = some (.next, ρ1)) : sWhileN c b (k + 1) ρ = sWhileN c b k ρ1 := by
  simp only [sWhileN, hc, Option.bind_some, if_true, hb]
theorem sWhile_stop {c : Db} {b : Ds} {k : Nat} {ρ : List Slot} (hc : c (ρ.map Slot.rd) = some false) : sWhileN c b (k + 1) ρ = some (.next, ρ) := by
  simp only [sWhileN, hc, Option.bind_some, Bool.false_eq_true, if_false]
end Mine

namespace Mine
open PySem

/-! a tree that takes the numbers 0, 1, .. one by one, by the order of r, alike ones as they come -/
section
variable (r : Nat → Int)
noncomputable abbrev tlt (a b : Nat) : Prop := r a < r b ∨ (r a = r b ∧ a < b)
noncomputable def anc (x k : Nat) : Prop := ∀ j, j < x → (tlt r j x ↔ tlt r j k)
noncomputable def qual (x k : Nat) (s : Bool) : Bool := decide (x < k) && (List.range x).all (fun j => decide (tlt r j x) == decide (tlt r j k)) && (decide (tlt r k x) == s)
noncomputable def child (p x : Nat) (s : Bool) : Option Nat := (List.range p).find? fun k => qual r x k s
theorem qual_iff {x k : Nat} {s : Bool} : qual r x k s = true ↔ x < k ∧ anc r x k ∧ decide (tlt r k x) = s := by
  simp only [qual, Bool.and_eq_true, decide_eq_true_eq, List.all_eq_true, List.mem_range, beq_iff_eq, anc, decide_eq_decide, and_assoc]
theorem child_some {p x y : Nat} {s : Bool} (h : child r p x s = some y) : y < p ∧ qual r x y s = true ∧ ∀ k, k < y → qual r x k s = false := by
  unfold child at h
  rw [List.find?_range_eq_some] at h
  obtain ⟨h1, h2, h3⟩ := h
  exact ⟨List.mem_range.mp h2, h1, fun k hk => by simpa using h3 k hk⟩
theorem child_none {p x : Nat} {s : Bool} : child r p x s = none ↔ ∀ k, k < p → qual r x k s = false := by
  unfold child
  rw [List.find?_eq_none]
  simp
theorem child_succ (p x : Nat) (s : Bool) : child r (p + 1) x s = (child r p x s).or (if qual r x p s then some p else none) := by
  unfold child
  rw [List.range_succ, List.find?_append]
  congr 1
  cases h : qual r x p s <;> simp [h]
variable {r}
theorem tlt_trans {a b c : Nat} (h : tlt r a b) (g : tlt r b c) : tlt r a c := by unfold tlt at *; omega
theorem tlt_irr {a : Nat} : ¬ tlt r a a := by unfold tlt; omega
theorem tlt_tri (a b : Nat) : tlt r a b ∨ a = b ∨ tlt r b a := by unfold tlt; omega
theorem tlt_as {a b : Nat} (h : tlt r a b) : ¬ tlt r b a := by unfold tlt at *; omega
theorem not_tlt {a b : Nat} (h : ¬ tlt r a b) (hn : a ≠ b) : tlt r b a := (tlt_tri a b).resolve_left h |>.resolve_left hn
/-- one step down -/
theorem anc_step {p x y : Nat} {s : Bool} (ha : anc r x p) (hs : decide (tlt r p x) = s) (hc : child r p x s = some y) (hxp : x < p) : anc r y p := by
  obtain ⟨hy, hq, hmin⟩ := child_some r hc
  obtain ⟨hxy, hay, hsy⟩ := (qual_iff r).mp hq
  have hside : tlt r y x ↔ tlt r p x := by rw [← decide_eq_decide, hsy, hs]
  intro k hk
  rcases Nat.lt_trichotomy k x with h | h | h
  · rw [← hay k h, ha k h]
  · subst h
    constructor
    · intro h1; exact not_tlt (fun h2 => tlt_as h1 (hside.mpr h2)) (by omega)
    · intro h1; exact not_tlt (fun h2 => tlt_as h1 (hside.mp h2)) (by omega)
  · have hkq := hmin k hk
    have hkq : ¬ (x < k ∧ anc r x k ∧ decide (tlt r k x) = s) := fun h2 => by rw [(qual_iff r).mpr h2] at hkq; cases hkq
    by_cases hks : decide (tlt r k x) = s
    · -- separated from x by some j
      have hna : ¬ anc r x k := fun h2 => hkq ⟨h, h2, hks⟩
      unfold anc at hna
      obtain ⟨j, hj⟩ := Classical.not_forall.mp hna
      obtain ⟨hjx, hj⟩ := Classical.not_imp.mp hj
      have hjk : j ≠ k := by omega
      have hjx' : j ≠ x := by omega
      by_cases h1 : tlt r j x
      · have h2 : ¬ tlt r j k := fun h2 => hj ⟨fun _ => h2, fun _ => h1⟩
        have h3 := not_tlt h2 hjk
        exact ⟨fun _ => tlt_trans h3 ((ha j hjx).mp h1), fun _ => tlt_trans h3 ((hay j hjx).mp h1)⟩
      · have h2 : tlt r j k := Classical.byContradiction fun h2 => hj ⟨fun q => absurd q h1, fun q => absurd q h2⟩
        have h3 : ¬ tlt r j y := fun q => h1 ((hay j hjx).mpr q)
        have h4 : ¬ tlt r j p := fun q => h1 ((ha j hjx).mpr q)
        exact ⟨fun q => absurd (tlt_trans h2 q) h3, fun q => absurd (tlt_trans h2 q) h4⟩
    · -- on the other side of x
      by_cases h1 : tlt r k x
      · have hp : ¬ tlt r p x := fun q => hks (by rw [← hs, decide_eq_decide]; exact ⟨fun _ => q, fun _ => h1⟩)
        have hy' : ¬ tlt r y x := fun q => hp (hside.mp q)
        exact ⟨fun _ => tlt_trans h1 (not_tlt hp (by omega)), fun _ => tlt_trans h1 (not_tlt hy' (by omega))⟩
      · have hp : tlt r p x := Classical.byContradiction fun q => hks (by rw [← hs, decide_eq_decide]; exact ⟨fun z => absurd z h1, fun z => absurd z q⟩)
        have hy' : tlt r y x := hside.mpr hp
        exact ⟨fun q => absurd (tlt_trans q hy') h1, fun q => absurd (tlt_trans q hp) h1⟩
/-- where the way down ends on the right -/
theorem stop_right {p x : Nat} (ha : anc r x p) (hs : ¬ tlt r p x) (hc : child r p x false = none) (hxp : x < p) :
    (∀ k, k < p → tlt r k p → k = x ∨ tlt r k x) ∧ ∀ q, q < p → tlt r p q → (∀ j, j < p → tlt r p j → j = q ∨ tlt r q j) → q < x := by
  have hn := (child_none r).mp hc
  have hxp' : tlt r x p := not_tlt hs (by omega)
  have key : ∀ k, x < k → k < p → tlt r x k → ¬ anc r x k := fun k h1 h2 h3 h4 => by
    have := hn k h2
    rw [(qual_iff r).mpr ⟨h1, h4, decide_eq_false (tlt_as h3)⟩] at this
    cases this
  refine ⟨fun k hk hkp => ?_, fun q hq hpq hmin => ?_⟩
  · rcases tlt_tri (r := r) k x with h | h | h
    · exact .inr h
    · exact .inl h
    · exfalso
      rcases Nat.lt_trichotomy k x with h1 | h1 | h1
      · exact tlt_as h ((ha k h1).mpr hkp)
      · exact tlt_irr (h1 ▸ h)
      · exact key k h1 hk h fun j hj => ⟨fun h2 => tlt_trans h2 h, fun h2 => (ha j hj).mpr (tlt_trans h2 hkp)⟩
  · rcases Nat.lt_trichotomy q x with h1 | h1 | h1
    · exact h1
    · exact absurd (h1 ▸ hpq) hs
    · exfalso
      refine key q h1 hq (tlt_trans hxp' hpq) fun j hj => ⟨fun h2 => tlt_trans h2 (tlt_trans hxp' hpq), fun h2 => (ha j hj).mpr ?_⟩
      refine not_tlt (fun h3 => ?_) (by omega)
      rcases hmin j (by omega) h3 with h4 | h4
      · exact tlt_irr (h4 ▸ h2)
      · exact tlt_as h2 h4
/-- where the way down ends on the left -/
theorem stop_left {p x : Nat} (ha : anc r x p) (hs : tlt r p x) (hc : child r p x true = none) (hxp : x < p) :
    (∀ k, k < p → tlt r p k → k = x ∨ tlt r x k) ∧ ∀ q, q < p → tlt r q p → (∀ j, j < p → tlt r j p → j = q ∨ tlt r j q) → q < x := by
  have hn := (child_none r).mp hc
  have key : ∀ k, x < k → k < p → tlt r k x → ¬ anc r x k := fun k h1 h2 h3 h4 => by
    have := hn k h2
    rw [(qual_iff r).mpr ⟨h1, h4, decide_eq_true h3⟩] at this
    cases this
  refine ⟨fun k hk hkp => ?_, fun q hq hpq hmin => ?_⟩
  · rcases tlt_tri (r := r) k x with h | h | h
    · exfalso
      rcases Nat.lt_trichotomy k x with h1 | h1 | h1
      · exact tlt_as hkp ((ha k h1).mp h)
      · exact tlt_irr (h1 ▸ h)
      · refine key k h1 hk h fun j hj => ⟨fun h2 => tlt_trans ((ha j hj).mp h2) hkp, fun h2 => tlt_trans h2 h⟩
    · exact .inl h
    · exact .inr h
  · rcases Nat.lt_trichotomy q x with h1 | h1 | h1
    · exact h1
    · exact absurd hs (tlt_as (h1 ▸ hpq))
    · exfalso
      refine key q h1 hq (tlt_trans hpq hs) fun j hj => ⟨fun h2 => ?_, fun h2 => tlt_trans h2 (tlt_trans hpq hs)⟩
      have h3 := (ha j hj).mp h2
      rcases hmin j (by omega) h3 with h4 | h4
      · omega
      · exact h4
/-- the place is the only one that changes -/
theorem place_only {p x y : Nat} {s s' : Bool} (ha : anc r x p) (hs : decide (tlt r p x) = s) (hc : child r p x s = none) (hxp : x < p) (hyp : y < p) :
    child r (p + 1) y s' = if y = x ∧ s' = s then some p else child r p y s' := by
  rw [child_succ]
  by_cases h : y = x ∧ s' = s
  · obtain ⟨rfl, rfl⟩ := h
    rw [hc, (qual_iff r).mpr ⟨hxp, ha, hs⟩]
    simp
  · rw [if_neg h]
    cases hq : child r p y s' with
    | some z => rfl
    | none =>
      rw [if_neg ?_]
      · rfl
      · intro hqq
        obtain ⟨_, hb, hs2⟩ := (qual_iff r).mp hqq
        rcases Nat.lt_trichotomy y x with h1 | h1 | h1
        · have := (child_none r).mp hq x hxp
          rw [(qual_iff r).mpr ⟨h1, fun j hj => by rw [hb j hj, ha j (by omega)], ?_⟩] at this
          · cases this
          · rw [← hs2, decide_eq_decide]
            have := ha y h1
            constructor
            · intro q; exact not_tlt (fun z => tlt_as q (this.mpr z)) (by omega)
            · intro q; exact not_tlt (fun z => tlt_as q (this.mp z)) (by omega)
        · subst h1
          exact h ⟨rfl, by rw [← hs2, hs]⟩
        · have := (child_none r).mp hc y hyp
          rw [(qual_iff r).mpr ⟨h1, fun j hj => by rw [ha j hj, hb j (by omega)], ?_⟩] at this
          · cases this
          · rw [← hs, decide_eq_decide]
            have := hb x h1
            constructor
            · intro q; exact not_tlt (fun z => tlt_as q (this.mpr z)) (by omega)
            · intro q; exact not_tlt (fun z => tlt_as q (this.mp z)) (by omega)
theorem child_new (p : Nat) (s : Bool) : child r (p + 1) p s = none := by
  rw [child_none]
  intro k hk
  cases h : qual r p k s with
  | false => rfl
  | true => have := ((qual_iff r).mp h).1; omega

/-! the earlier ones in order -/
variable (r) in
noncomputable def rowP (p : Nat) : List (Int × Int) := (List.range p).map fun k => (r k, (k : Int))
variable (r) in
noncomputable def aheadL (p : Nat) : List Int := ((isortP (rowP r p)).filter fun q => decide (q.1 ≤ r p)).map (·.2)
variable (r) in
noncomputable def behindL (p : Nat) : List Int := ((isortP (rowP r p)).filter fun q => decide (r p < q.1)).map (·.2)
theorem rowP_nodup (p : Nat) : (rowP r p).Nodup := by
  unfold rowP List.Nodup
  rw [List.pairwise_map]
  refine List.nodup_range.imp fun {a b} h e => ?_
  have := (Prod.mk.inj e).2
  omega
theorem rowP_length (p : Nat) : (isortP (rowP r p)).length = p := by rw [(isortP_perm _).length_eq]; simp [rowP]
theorem mem_row {p : Nat} {q : Int × Int} : q ∈ isortP (rowP r p) ↔ ∃ k, k < p ∧ q = (r k, (k : Int)) := by
  rw [(isortP_perm _).mem_iff]
  simp only [rowP, List.mem_map, List.mem_range]
  constructor
  · rintro ⟨k, hk, rfl⟩; exact ⟨k, hk, rfl⟩
  · rintro ⟨k, hk, rfl⟩; exact ⟨k, hk, rfl⟩
theorem last_max {l : List (Int × Int)} {e : Int × Int} (hl : l.Pairwise ple) (he : e ∈ l) (hm : ∀ q ∈ l, q = e ∨ plt q e = true) : l.getLast? = some e := by
  rcases List.eq_nil_or_concat l with rfl | ⟨i, m, rfl⟩
  · cases he
  · rw [List.concat_eq_append] at *
    rw [List.getLast?_append]
    simp only [List.getLast?_singleton, Option.some_or, Option.some.injEq]
    rcases hm m (by simp) with h | h
    · exact h
    · exfalso
      rcases List.mem_append.mp he with h1 | h1
      · have := (List.pairwise_append.mp hl).2.2 e h1 m (by simp)
        simp only [ple, h] at this
        cases this
      · rw [List.mem_singleton.mp h1, plt_irr] at h; cases h
theorem head_min {l : List (Int × Int)} {e : Int × Int} (hl : l.Pairwise ple) (he : e ∈ l) (hm : ∀ q ∈ l, q = e ∨ plt e q = true) : l.head? = some e := by
  cases l with
  | nil => cases he
  | cons m t =>
    simp only [List.head?_cons, Option.some.injEq]
    rcases hm m List.mem_cons_self with h | h
    · exact h
    · exfalso
      rcases List.mem_cons.mp he with h1 | h1
      · rw [h1, plt_irr] at h; cases h
      · have := (List.pairwise_cons.mp hl).1 e h1
        simp only [ple, h] at this
        cases this
theorem plt_row {a b : Nat} : plt (r a, (a : Int)) (r b, (b : Int)) = true ↔ tlt r a b := by rw [plt_iff]; unfold tlt; simp
theorem mem_ahead {p : Nat} {q : Int × Int} : q ∈ (isortP (rowP r p)).filter (fun q => decide (q.1 ≤ r p)) ↔ ∃ k, k < p ∧ tlt r k p ∧ q = (r k, (k : Int)) := by
  rw [List.mem_filter, mem_row]
  constructor
  · rintro ⟨⟨k, hk, rfl⟩, h⟩
    simp only [decide_eq_true_eq] at h
    exact ⟨k, hk, by unfold tlt; omega, rfl⟩
  · rintro ⟨k, hk, h, rfl⟩
    exact ⟨⟨k, hk, rfl⟩, by unfold tlt at h; simp only [decide_eq_true_eq]; omega⟩
theorem mem_behind {p : Nat} {q : Int × Int} : q ∈ (isortP (rowP r p)).filter (fun q => decide (r p < q.1)) ↔ ∃ k, k < p ∧ tlt r p k ∧ q = (r k, (k : Int)) := by
  rw [List.mem_filter, mem_row]
  constructor
  · rintro ⟨⟨k, hk, rfl⟩, h⟩
    simp only [decide_eq_true_eq] at h
    exact ⟨k, hk, by unfold tlt; omega, rfl⟩
  · rintro ⟨k, hk, h, rfl⟩
    exact ⟨⟨k, hk, rfl⟩, by unfold tlt at h; simp only [decide_eq_true_eq]; omega⟩
theorem ahead_last {p x : Nat} (hx : x < p) (hxp : tlt r x p) (hm : ∀ k, k < p → tlt r k p → k = x ∨ tlt r k x) : (aheadL r p).getLast? = some (x : Int) := by
  unfold aheadL
  rw [List.getLast?_map, last_max (e := (r x, (x : Int))) ((isortP_sorted _).filter _) (mem_ahead.mpr ⟨x, hx, hxp, rfl⟩) ?_]
  · rfl
  · intro q hq
    obtain ⟨k, hk, hkp, rfl⟩ := mem_ahead.mp hq
    rcases hm k hk hkp with rfl | h
    · exact .inl rfl
    · exact .inr (plt_row.mpr h)
theorem behind_head {p x : Nat} (hx : x < p) (hxp : tlt r p x) (hm : ∀ k, k < p → tlt r p k → k = x ∨ tlt r x k) : (behindL r p).head? = some (x : Int) := by
  unfold behindL
  rw [List.head?_map, head_min (e := (r x, (x : Int))) ((isortP_sorted _).filter _) (mem_behind.mpr ⟨x, hx, hxp, rfl⟩) ?_]
  · rfl
  · intro q hq
    obtain ⟨k, hk, hkp, rfl⟩ := mem_behind.mp hq
    rcases hm k hk hkp with rfl | h
    · exact .inl rfl
    · exact .inr (plt_row.mpr h)
/-- the least of those behind, if there is one -/
theorem behind_some {p : Nat} (hne : behindL r p ≠ []) : ∃ q, q < p ∧ tlt r p q ∧ (behindL r p).head? = some (q : Int) ∧ ∀ j, j < p → tlt r p j → j = q ∨ tlt r q j := by
  have hs := (isortP_sorted (rowP r p)).filter (fun q => decide (r p < q.1))
  unfold behindL at hne ⊢
  cases hl : (isortP (rowP r p)).filter (fun q => decide (r p < q.1)) with
  | nil => rw [hl] at hne; simp at hne
  | cons m t =>
    have hmem : m ∈ (isortP (rowP r p)).filter (fun q => decide (r p < q.1)) := by rw [hl]; exact List.mem_cons_self
    obtain ⟨q, hq, hpq, rfl⟩ := mem_behind.mp hmem
    refine ⟨q, hq, hpq, by simp, fun j hj hpj => ?_⟩
    have hjm : (r j, (j : Int)) ∈ (isortP (rowP r p)).filter (fun q => decide (r p < q.1)) := mem_behind.mpr ⟨j, hj, hpj, rfl⟩
    rw [hl] at hjm hs
    rcases List.mem_cons.mp hjm with h | h
    · exact .inl (by have := (Prod.mk.inj h).2; omega)
    · have h1 := (List.pairwise_cons.mp hs).1 _ h
      by_cases e : j = q
      · exact .inl e
      · refine .inr (not_tlt (fun h2 => ?_) e)
        have h2 := plt_row.mpr h2
        simp only [ple] at h1
        rw [h1] at h2
        cases h2
/-- the greatest of those ahead, if there is one -/
theorem ahead_some {p : Nat} (hne : aheadL r p ≠ []) : ∃ q, q < p ∧ tlt r q p ∧ (aheadL r p).getLast? = some (q : Int) ∧ ∀ j, j < p → tlt r j p → j = q ∨ tlt r j q := by
  have hs := (isortP_sorted (rowP r p)).filter (fun q => decide (q.1 ≤ r p))
  unfold aheadL at hne ⊢
  rcases List.eq_nil_or_concat ((isortP (rowP r p)).filter (fun q => decide (q.1 ≤ r p))) with hl | ⟨i, m, hl⟩
  · rw [hl] at hne; simp at hne
  · rw [List.concat_eq_append] at hl
    have hmem : m ∈ (isortP (rowP r p)).filter (fun q => decide (q.1 ≤ r p)) := by rw [hl]; simp
    obtain ⟨q, hq, hpq, rfl⟩ := mem_ahead.mp hmem
    refine ⟨q, hq, hpq, by rw [hl]; simp, fun j hj hpj => ?_⟩
    have hjm : (r j, (j : Int)) ∈ (isortP (rowP r p)).filter (fun q => decide (q.1 ≤ r p)) := mem_ahead.mpr ⟨j, hj, hpj, rfl⟩
    rw [hl] at hjm hs
    rcases List.mem_append.mp hjm with h | h
    · have h1 := (List.pairwise_append.mp hs).2.2 _ h _ (List.mem_singleton.mpr rfl)
      by_cases e : j = q
      · exact .inl e
      · refine .inr (not_tlt (fun h2 => ?_) (Ne.symm e))
        have h2 := plt_row.mpr h2
        simp only [ple] at h1
        rw [h1] at h2
        cases h2
    · exact .inl (by have := (Prod.mk.inj (List.mem_singleton.mp h)).2; omega)
/-- the place that is due -/
theorem due_right {p x : Nat} (ha : anc r x p) (hs : decide (tlt r p x) = false) (hc : child r p x false = none) (hxp : x < p) :
    (aheadL r p).getLast? = some (x : Int) ∧ (behindL r p = [] ∨ ∃ q : Nat, (behindL r p).head? = some (q : Int) ∧ q < x) := by
  have hs := of_decide_eq_false hs
  obtain ⟨h1, h2⟩ := stop_right ha hs hc hxp
  refine ⟨ahead_last hxp (not_tlt hs (by omega)) h1, ?_⟩
  by_cases hb : behindL r p = []
  · exact .inl hb
  · obtain ⟨q, hq, hpq, hh, hm⟩ := behind_some hb
    exact .inr ⟨q, hh, h2 q hq hpq hm⟩
theorem due_left {p x : Nat} (ha : anc r x p) (hs : decide (tlt r p x) = true) (hc : child r p x true = none) (hxp : x < p) :
    (behindL r p).head? = some (x : Int) ∧ (aheadL r p = [] ∨ ∃ q : Nat, (aheadL r p).getLast? = some (q : Int) ∧ q < x) := by
  have hs := of_decide_eq_true hs
  obtain ⟨h1, h2⟩ := stop_left ha hs hc hxp
  refine ⟨behind_head hxp hs h1, ?_⟩
  by_cases hb : aheadL r p = []
  · exact .inl hb
  · obtain ⟨q, hq, hpq, hh, hm⟩ := ahead_some hb
    exact .inr ⟨q, hh, h2 q hq hpq hm⟩
end
end Mine

set_option maxRecDepth 100000
namespace Mine
open PySem PySem.W PyProof.Rows

/-! ### dicts that are namespaces, entry by entry -/
noncomputable abbrev Ent := Tok × Str × Value
noncomputable def hashOf (P : Params) (x : Str) : Int := if x.cps.isEmpty then 0 else reduceHash (P.strHash x.cps)
noncomputable def entOf (P : Params) (x : Ent) : DictEntry := ⟨hashOf P x.2.1, .str x.2.1 x.1, x.2.2⟩
noncomputable def ents (P : Params) (l : List Ent) : Array DictEntry := (l.map (entOf P)).toArray
noncomputable def look (l : List Ent) (x : Str) : Option Value := (l.find? fun e => e.2.1 == x).map (·.2.2)
noncomputable def put (l : List Ent) (t : Tok) (x : Str) (v : Value) : List Ent := match l.findIdx? (fun e => e.2.1 == x) with
  | some i => l.modify i fun e => (e.1, e.2.1, v)
  | none => l ++ [(t, x, v)]

theorem strKeys_ents (P : Params) (l : List Ent) : StrKeys (ents P l) := by
  intro e he
  simp only [ents, List.mem_toArray, List.mem_map] at he
  obtain ⟨a, _, rfl⟩ := he
  exact ⟨_, _, rfl⟩
theorem nsFind_ents (P : Params) (l : List Ent) (x : Str) : nsFind (ents P l) x = look l x := by
  simp only [nsFind, findBy, ents, look, List.find?_toArray, List.find?_map, Option.map_map]
  rfl
theorem ns_ents {h : Heap} {a : Addr} {o : Obj} {P : Params} {l : List Ent} {ep : Nat} (ho : h.get? a = some o) (hd : o.data = .dict (ents P l) ep) : h.Ns a (look l) :=
  ⟨o, _, ep, ho, hd, strKeys_ents P l, nsFind_ents P l⟩
theorem findIdx_ents (P : Params) (l : List Ent) (x : Str) : (ents P l).findIdx? (fun e => e.key.isStr x) = l.findIdx? fun e => e.2.1 == x := by
  simp only [ents, List.findIdx?_toArray, List.findIdx?_map]
  rfl
theorem map_mod {α β : Type} (f : α → β) (g' : α → α) (g : β → β) (hg : ∀ a, g (f a) = f (g' a)) : ∀ (i : Nat) (l : List α), (l.modify i g').map f = (l.map f).modify i g
  | _, [] => by simp
  | 0, a :: l => by simp [hg]
  | i + 1, a :: l => by simp [map_mod f g' g hg i l]
theorem ents_put (P : Params) (l : List Ent) (t : Tok) (x : Str) (v : Value) (c : Value) (dd : Option Addr) (ep : Nat) (sl : Array (Option Value)) :
    Obj.putName x (hashOf P x) (.str x t) v ⟨c, dd, .dict (ents P l) ep, sl⟩ = ⟨c, dd, .dict (ents P (put l t x v)) (ep + if (look l x).isSome then 0 else 1), sl⟩ := by
  rw [Obj.putName_eq]
  simp only [Obj.putNameByArray, findIdx_ents, put, look]
  cases hi : l.findIdx? (fun e => e.2.1 == x) with
  | some i =>
    have hf : (l.find? fun e => e.2.1 == x).isSome = true := by
      rw [List.find?_isSome]
      have := List.findIdx?_eq_some_iff_findIdx_eq.mp hi
      obtain ⟨hlt, hx⟩ := this
      exact ⟨l[i], List.getElem_mem _, by have := List.findIdx_getElem (p := fun e : Ent => e.2.1 == x) (xs := l) (w := by rw [hx]; exact hlt); simpa [hx] using this⟩
    simp only [Option.isSome_map, hf, if_true, Nat.add_zero, ents]
    congr 2
    simp only [List.modify_toArray]
    congr 1
    exact (map_mod (entOf P) (fun e : Ent => (e.1, e.2.1, v)) (fun e : DictEntry => { e with val := v }) (fun _ => rfl) i l).symm
  | none =>
    have hf : (l.find? fun e => e.2.1 == x) = none := by
      rw [List.find?_eq_none]
      intro e he
      simpa using List.findIdx?_eq_none_iff.mp hi e he
    simp only [hf, Option.map_none, Option.isSome_none, Bool.false_eq_true, if_false, ents]
    simp only [List.push_toArray, List.map_append, List.map_cons, List.map_nil]
    rfl

noncomputable def dropEnt (l : List Ent) (x : Str) : List Ent := match l.findIdx? (fun e => e.2.1 == x) with
  | some i => l.eraseIdx i
  | none => l
theorem map_erase {α β : Type} (f : α → β) : ∀ (i : Nat) (l : List α), (l.eraseIdx i).map f = (l.map f).eraseIdx i
  | _, [] => by simp
  | 0, a :: l => by simp
  | i + 1, a :: l => by simp [map_erase f i l]
theorem ents_drop (P : Params) (l : List Ent) (x : Str) (c : Value) (dd : Option Addr) (ep : Nat) (sl : Array (Option Value)) (hx : (look l x).isSome = true) :
    Obj.dropName x ⟨c, dd, .dict (ents P l) ep, sl⟩ = ⟨c, dd, .dict (ents P (dropEnt l x)) (ep + 1), sl⟩ := by
  rw [Obj.dropName_eq]
  simp only [Obj.dropNameByArray, findIdx_ents, dropEnt]
  cases hi : l.findIdx? (fun e => e.2.1 == x) with
  | some i =>
    simp only [ents]
    congr 2
    have hlt : i < l.length := (List.findIdx?_eq_some_iff_findIdx_eq.mp hi).1
    rw [Array.eraseIdxIfInBounds, dif_pos (by simpa using hlt)]
    simp only [List.eraseIdx_toArray]
    rw [map_erase]
  | none =>
    exfalso
    simp only [look, Option.isSome_map] at hx
    obtain ⟨e, he, hp⟩ := List.find?_isSome.mp hx
    have := List.findIdx?_eq_none_iff.mp hi e he
    simp [hp] at this

section
variable {M : Model} {A : Around} {E : Value → Shared → Prop} {h : Heap} {g : Array GenState} {d : Drawn} {t : Nat} {os : OsState}

theorem op_get {a : Addr} {P : Params} {l : List Ent} {c : Value} {dd : Option Addr} {ep : Nat} {sl : Array (Option Value)} {x : Str} {Q : Option Value → Shared → Prop}
    (ho : h.get? a = some ⟨c, dd, .dict (ents P l) ep, sl⟩) (hq : Q (look l x) ⟨h, g, d, t, os⟩) : wpAny M A (nsGet a x) Q E ⟨h, g, d, t, os⟩ := wpAny_nsGet (ns_ents ho rfl) hq
theorem op_set {a : Addr} {l : List Ent} {c : Value} {dd : Option Addr} {ep : Nat} {sl : Array (Option Value)} {x : Str} {v : Value} {Q : Unit → Shared → Prop}
    (ho : h.get? a = some ⟨c, dd, .dict (ents M.w.params l) ep, sl⟩)
    (hq : ∀ h' ep', Heap.SameBut a h h' → h'.get? a = some ⟨c, dd, .dict (ents M.w.params (put l t x v)) ep', sl⟩ → Q () ⟨h', g, d, t + 1, os⟩) : wpAny M A (nsSet a x v) Q E ⟨h, g, d, t, os⟩ := by
  unfold nsSet
  refine wpAny_bind ?_
  unfold strHash
  refine wpAny_bind (wpAny_askSetting (wpAny_pure (wpAny_bind (wpAny_mkText (wpAny_bind (wpAny_loadPart ho ?_))))))
  dsimp only
  have hno : aRefKeyMayBeTheName x (ents M.w.params l) = false := by
    rw [aRefKeyMayBeTheName_eq]
    simp only [aRefKeyMayBeTheNameByArray]
    have : (ents M.w.params l).any (·.refKey) = false := by
      rw [Array.any_eq_false']; intro e he; obtain ⟨n, t, h⟩ := strKeys_ents _ _ e he; simp [DictEntry.refKey, h]
    rw [this, Bool.and_false]
  rw [hno]
  simp only [Bool.false_eq_true, if_false]
  refine wpAny_updatePart ho ?_
  refine hq _ (ep + if (look l x).isSome then 0 else 1) (Heap.SameBut.update ..) ?_
  rw [Heap.get?_update_self _ ho (by show (Obj.putName x (hashOf M.w.params x) (.str x t) v _).isFreed = false; rw [ents_put]; rfl)]
  exact congrArg some (ents_put M.w.params l t x v c dd ep sl)
theorem op_setV {a : Addr} {l : List Ent} {c : Value} {dd : Option Addr} {ep : Nat} {sl : Array (Option Value)} {x : Str} {v : Value} {Q : Unit → Shared → Prop}
    (ho : h.get? a = some ⟨c, dd, .dict (ents M.w.params l) ep, sl⟩) (hz : l.length ≤ sizeLine)
    (hq : ∀ h' ep', Heap.SameBut a h h' → h'.get? a = some ⟨c, dd, .dict (ents M.w.params (put l t x v)) ep', sl⟩ → Q () ⟨h', g, d, t + 1, os⟩) : wpAny M A (nsSetByValue a x v) Q E ⟨h, g, d, t, os⟩ := by
  unfold nsSetByValue
  refine wpAny_bind (wpAny_loadPart ho ?_)
  dsimp only
  have : ¬ ((ents M.w.params l).size > sizeLine) := by simp [ents]; omega
  have e : (decide ((ents M.w.params l).size > sizeLine) && noSuchName x (ents M.w.params l)) = false := by simp [this]
  rw [e]
  simp only [Bool.false_eq_true, if_false]
  exact op_set ho hq
theorem op_del {a : Addr} {l : List Ent} {P : Params} {c : Value} {dd : Option Addr} {ep : Nat} {sl : Array (Option Value)} {x : Str} {Q : Bool → Shared → Prop}
    (ho : h.get? a = some ⟨c, dd, .dict (ents P l) ep, sl⟩) (hx : (look l x).isSome = true)
    (hq : ∀ h' ep', Heap.SameBut a h h' → h'.get? a = some ⟨c, dd, .dict (ents P (dropEnt l x)) ep', sl⟩ → Q true ⟨h', g, d, t, os⟩) : wpAny M A (nsDel a x) Q E ⟨h, g, d, t, os⟩ := by
  unfold nsDel
  refine wpAny_bind (wpAny_loadPart ho (wpAny_bind ?_))
  rw [nsHas_eq]
  have : (ents P l).any (fun e => e.key.isStr x) = true := by
    simp only [look, Option.isSome_map] at hx
    obtain ⟨e, he, hp⟩ := List.find?_isSome.mp hx
    rw [Array.any_eq_true']
    exact ⟨entOf P e, by simp only [ents, List.mem_toArray]; exact List.mem_map_of_mem he, hp⟩
  simp only [nsHasByArray, this, if_true]
  refine wpAny_pure ?_
  simp only [if_true]
  refine wpAny_bind (wpAny_updatePart ho (wpAny_pure ?_))
  refine hq _ (ep + 1) (Heap.SameBut.update ..) ?_
  rw [Heap.get?_update_self _ ho (by rw [ents_drop _ _ _ _ _ _ _ hx]; rfl)]
  exact congrArg some (ents_drop P l x c dd ep sl hx)
theorem op_slot {a : Addr} {o : Obj} {i : Nat} {v : Option Value} {Q : Unit → Shared → Prop} (ho : h.get? a = some o) (hf : o.isFreed = false) (hi : i < 100)
    (hq : ∀ h', Heap.SameBut a h h' → h'.get? a = some { o with slots := (o.slots ++ Array.replicate (i + 1 - o.slots.size) none).setIfInBounds i v } → Q () ⟨h', g, d, t, os⟩) : wpAny M A (setSlotAt a i v) Q E ⟨h, g, d, t, os⟩ := by
  unfold setSlotAt
  rw [if_neg (by have : sizeLine > 100 := (by decide +kernel); omega)]
  refine wpAny_updatePart ho (hq _ (Heap.SameBut.update ..) ?_)
  obtain ⟨c, dd, dt, sl⟩ := o
  exact Heap.get?_update_self _ ho (by cases dt <;> first | rfl | cases hf)
theorem op_cls {a : Addr} {c : Value} {dd : Option Addr} {cd : ClassData} {sl : Array (Option Value)} {f : ClassData → ClassData} {Q : Unit → Shared → Prop} (ho : h.get? a = some ⟨c, dd, .cls cd, sl⟩) (hp : (Data.cls (f cd)).pastItsLine = none)
    (hq : ∀ h', Heap.SameBut a h h' → h'.get? a = some ⟨c, dd, .cls (f cd), sl⟩ → Q () ⟨h', g, d, t, os⟩) : wpAny M A (updateCls a f) Q E ⟨h, g, d, t, os⟩ := by
  unfold updateCls
  refine wpAny_bind (wpAny_load ho ?_)
  dsimp only
  have hg : (h.update a (Obj.mapCls f)).get? a = some ⟨c, dd, .cls (f cd), sl⟩ := Heap.get?_update_self _ ho rfl
  refine wpAny_bind (wpAny_update ho (wpAny_lookBehind (o := ⟨c, dd, .cls (f cd), sl⟩) hg hp ?_))
  exact hq _ (Heap.SameBut.update ..) hg
end
end Mine

set_option maxRecDepth 100000
set_option maxHeartbeats 1000000
namespace Mine
open PySem PySem.W PyProof.Rows

noncomputable abbrev dictO (es : Array DictEntry) (ep : Nat) : Obj := { cls := .type "dict", data := .dict es ep }

theorem k_isType_obj : isType (.type "object") = pure true := rfl
theorem k_typeOf_obj : typeOf (.type "object") = pure (.type "type") := by kernel_rfl
theorem k_sub_tt : isSubtype (.type "type") (.type "type") = pure true := by kernel_rfl
theorem k_turned : Builtin.notOverATurnedClass [.type "object"] = pure () := by kernel_rfl
theorem k_ext : Builtin.extendedBase [.type "object"] = pure (.type "object") := by kernel_rfl
theorem k_best : Builtin.Slots.bestBase [.type "object"] = pure (.type "object") := by kernel_rfl
theorem k_names : Builtin.Slots.slotNamesOf (.type "object") = pure [] := by kernel_rfl
theorem k_gd : Builtin.Slots.givesDict (.type "object") = pure false := by kernel_rfl
theorem k_gw : Builtin.Slots.givesWeak (.type "object") = pure false := by kernel_rfl
theorem k_vs : Builtin.Slots.varSize (.type "object") = pure false := by kernel_rfl
theorem k_hook : Builtin.mroHook? (.type "type") = pure none := by kernel_rfl
theorem k_lin : Builtin.linearize [.type "object"] mroOf = pure [.type "object"] := by kernel_rfl
theorem k_made : Bind.madeBy (.type "object") = pure (some "object.__new__") := by kernel_rfl
theorem k_note (a : Addr) : Builtin.noteSubclassOfBuiltin "object" a = pure () := by kernel_rfl
theorem k_dictIter : typeLookup (.type "dict") "__iter__" = pure (some (.builtin "dict.__iter__")) := by kernel_rfl

theorem find_ents (P : Params) (l : List Ent) (x : Str) : (ents P l).find? (fun e => e.key.isStr x) = (l.find? fun e => e.2.1 == x).map (entOf P) := by
  simp only [ents, List.find?_toArray, List.find?_map]
  rfl
theorem any_ents (P : Params) (l : List Ent) (x : Str) : (ents P l).any (fun e => e.key.isStr x) = l.any fun e => e.2.1 == x := by
  simp only [ents, List.any_toArray, List.any_map]
  rfl

section
variable {prog : Program} {w : World} {A : Around} {E : Value → Shared → Prop} {h : Heap} {g : Array GenState} {d : Drawn} {t : Nat} {os : OsState}

theorem op_read {P : Params} {l : List Ent} {t3 ts : Tok} {sl : Addr} {e1 : Nat} {Q : Builtin.Slots.Plan → Shared → Prop}
    (hl : (l.find? fun e => e.2.1 == ("__slots__" : Str)) = some (t3, ("__slots__" : Str), Value.ref sl)) (hno : (l.any fun e => e.2.1 == ("obj" : Str)) = false)
    (hsl : h.get? sl = some { cls := .type "list", data := .seq #[.str "obj" ts] e1 })
    (hq : ∀ h', Ext h h' → Q { names := ["obj"], dict := false, weak := false, inherited := [] } ⟨h', g, d, t, os⟩) :
    wpAny (model prog w) A (Builtin.Slots.read "K" [.type "object"] (ents P l)) Q E ⟨h, g, d, t, os⟩ := by
  unfold Builtin.Slots.read
  refine wpAny_bind (wpAny_of_eq k_best (wpAny_bind (wpAny_of_eq k_names (wpAny_bind (wpAny_of_eq k_gd (wpAny_bind (wpAny_of_eq k_gw (wpAny_bind (wpAny_of_eq k_vs ?_)))))))))
  simp only [find_ents, hl, Option.map_some]
  refine wpAny_bind (wpAny_rule (wpAny_bind ?_))
  show wpAny _ _ (asStr? (.ref sl)) _ _ _
  unfold asStr?
  refine wpAny_bind (wpAny_load hsl (wpAny_pure ?_))
  rw [if_neg (by simp)]
  refine wpAny_bind ?_
  refine wpAny_collect_seq sl (.inl rfl) hsl rfl rfl fun h' hk => ?_
  have hno' : (ents P l).any (fun e => e.key.isStr ("obj" : Str)) = false := by rw [any_ents]; exact hno
  have hv := k_vs
  have hm : Builtin.Slots.mangle "K" "obj" = "obj" := by kernel_rfl
  have hid : Builtin.Slots.isIdentifier "obj" = some true := by kernel_rfl
  repeat (first | wp_step | rw [hid] | rw [hm])
  exact hq h' hk
end

section
variable {M : Model} {A : Around} {E : Value → Shared → Prop} {s : Shared}
theorem st_set {a : Addr} {x : Str} {v : Value} {Q : Unit → Shared → Prop} (h : wpAny M A (nsSet a x v) Q E s) : wpAny M A (nsSet a x v) Q E s := h
theorem st_setV {a : Addr} {x : Str} {v : Value} {Q : Unit → Shared → Prop} (h : wpAny M A (nsSetByValue a x v) Q E s) : wpAny M A (nsSetByValue a x v) Q E s := h
theorem st_del {a : Addr} {x : Str} {Q : Bool → Shared → Prop} (h : wpAny M A (nsDel a x) Q E s) : wpAny M A (nsDel a x) Q E s := h
theorem st_get {a : Addr} {x : Str} {Q : Option Value → Shared → Prop} (h : wpAny M A (nsGet a x) Q E s) : wpAny M A (nsGet a x) Q E s := h
theorem st_slot {a : Addr} {i : Nat} {v : Option Value} {Q : Unit → Shared → Prop} (h : wpAny M A (setSlotAt a i v) Q E s) : wpAny M A (setSlotAt a i v) Q E s := h
theorem st_cls {a : Addr} {f : ClassData → ClassData} {Q : Unit → Shared → Prop} (h : wpAny M A (updateCls a f) Q E s) : wpAny M A (updateCls a f) Q E s := h
theorem st_read {x : Str} {l : List Value} {es : Array DictEntry} {Q : Builtin.Slots.Plan → Shared → Prop} (h : wpAny M A (Builtin.Slots.read x l es) Q E s) : wpAny M A (Builtin.Slots.read x l es) Q E s := h
theorem st_install {v : Value} {a : Addr} {l : List Value} {p : Builtin.Slots.Plan} {Q : Unit → Shared → Prop} (h : wpAny M A (Builtin.Slots.install v a l p) Q E s) : wpAny M A (Builtin.Slots.install v a l p) Q E s := h
theorem st_refresh {a : Addr} {Q : Unit → Shared → Prop} (h : wpAny M A (Bind.refreshMaker a) Q E s) : wpAny M A (Bind.refreshMaker a) Q E s := h
theorem st_entries {a : Addr} {p : Option Value} {Q : Array DictEntry → Shared → Prop} (h : wpAny M A (dictEntries a p) Q E s) : wpAny M A (dictEntries a p) Q E s := h
theorem st_attr {v : Value} {x : Str} {b : Bool} {Q : Value → Shared → Prop} (h : wpAny M A (getAttr v x b) Q E s) : wpAny M A (getAttr v x b) Q E s := h
theorem st_attr? {v : Value} {x : Str} {Q : Option Value → Shared → Prop} (h : wpAny M A (getAttr? v x) Q E s) : wpAny M A (getAttr? v x) Q E s := h
theorem st_call {f : Value} {as : List Value} {kw : List (Str × Value)} {Q : Value → Shared → Prop} (h : wpAny M A (call f as kw) Q E s) : wpAny M A (call f as kw) Q E s := h
theorem st_try {α : Type} {m : Sem α} {k : Value → Sem α} {Q : α → Shared → Prop} (h : wpAny M A (tryCatch m k) Q E s) : wpAny M A (tryCatch m k) Q E s := h
end
/-- the heap keeps what it has, but at S -/
noncomputable def KB (S : List Addr) (h h' : Heap) : Prop := ∀ b o, b ∉ S → h.get? b = some o → h'.get? b = some o
theorem KB.refl (S : List Addr) (h : Heap) : KB S h h := fun _ _ _ e => e
theorem KB.trans {S : List Addr} {a b c : Heap} (x : KB S a b) (y : KB S b c) : KB S a c := fun p o hp e => y p o hp (x p o hp e)
theorem KB.of_ext {S : List Addr} {a b : Heap} (x : Ext a b) : KB S a b := fun p o _ e => x p o e
theorem KB.of_same {S : List Addr} {x : Addr} {a b : Heap} (y : Heap.SameBut x a b) (hx : x ∈ S) : KB S a b := fun p o hp e => (y.2 p (fun q => hp (q ▸ hx))).trans e
theorem KB.mono {S T : List Addr} {a b : Heap} (x : KB S a b) (h : ∀ p ∈ S, p ∈ T) : KB T a b := fun p o hp e => x p o (fun q => hp (h p q)) e
theorem same_get {x : Addr} {a b : Heap} {p : Addr} {o : Obj} (y : Heap.SameBut x a b) (e : a.get? p = some o) (hp : p ≠ x) : b.get? p = some o := (y.2 p hp).trans e

section
variable {prog : Program} {w : World} {A : Around} {E : Value → Shared → Prop} {h : Heap} {g : Array GenState} {d : Drawn} {t : Nat} {os : OsState}
noncomputable abbrev memO (n : Str) (tk : Tok) (C : Addr) (i : Nat) : Obj := { cls := .type "member_descriptor", data := .fields #[.str n tk, .ref C, .builtin "proto.slot", .builtin "proto.slot#set", rawInt i] }
theorem op_install {l : List Ent} {C ns : Addr} {cd : ClassData} {sl : Array (Option Value)} {ep : Nat} {Q : Unit → Shared → Prop}
    (hns : h.get? ns = some (dictO (ents w.params l) ep)) (hC : h.get? C = some ⟨.type "type", none, .cls cd, sl⟩) (hno : look l "obj" = none) (hz : l.length ≤ 100) (hp : (Data.cls { cd with hasDict := false, slotNames := ["obj"] }).pastItsLine = none)
    (hq : ∀ h' dA td tk ep' t', KB [C, ns] h h' → h'.get? dA = some (memO "obj" td C 0) → h'.get? ns = some (dictO (ents w.params (put l tk "obj" (.ref dA))) ep') → h'.get? C = some ⟨.type "type", none, .cls { cd with hasDict := false, slotNames := ["obj"] }, sl⟩ →
      h.get? dA = none → Q () ⟨h', g, d, t', os⟩) :
    wpAny (model prog w) A (Builtin.Slots.install (.ref C) ns [.type "object"] { names := ["obj"], dict := false, weak := false, inherited := [] }) Q E ⟨h, g, d, t, os⟩ := by
  have hne : ns ≠ C := fun e => by subst e; exact absurd (congrArg Obj.data (Option.some.inj (hns.symm.trans hC))) (by simp)
  unfold Builtin.Slots.install
  dsimp only
  have hgd := k_gd
  have hsz : l.length ≤ sizeLine := by have : sizeLine > 100 := (by decide +kernel); omega
  repeat (first | (with_reducible refine op_get hns ?_; rw [hno]) | ((fail_if_success (with_reducible refine st_setV ?_)); wp_step))
  refine op_setV (M := model prog w) (l := l) (c := .type "dict") (dd := none) (ep := ep) (sl := #[]) (Heap.get?_push_of_some _ hns) hsz fun h1 ep1 hs1 hn1 => ?_
  have hC1 : h1.get? C = some ⟨.type "type", none, .cls cd, sl⟩ := same_get hs1 (Heap.get?_push_of_some _ hC) hne.symm
  have hd1 : h1.get? h.objs.size = some (memO "obj" t C 0) := same_get hs1 (Heap.get?_push_size _ rfl) (Nat.ne_of_gt (Heap.lt_size hns))
  repeat ((fail_if_success (with_reducible refine st_cls ?_)); wp_step)
  refine op_cls hC1 hp fun h2 hs2 hc2 => ?_
  exact hq h2 h.objs.size t (t + 1) ep1 _ (((KB.of_ext (Ext.push h _)).trans (KB.of_same hs1 (by simp))).trans (KB.of_same hs2 (by simp))) (same_get hs2 hd1 (Nat.ne_of_gt (Heap.lt_size hC))) (same_get hs2 hn1 hne) hc2 (Heap.get?_none_of_le (Nat.le_refl _))
end
end Mine

set_option maxRecDepth 100000
set_option maxHeartbeats 1000000
namespace Mine
open PySem PySem.W PyProof.Rows

theorem k_super_can : ((Manifest.find? "super").bind fun x => List.findSome? (fun t => (Manifest.find? t).bind fun b =>
    if b.noNew = true then some true else if (b.attrs.any fun x => x.fst == "__new__") = true then some false else none) x.mro).getD false = false := by decide +kernel
theorem k_super_args (a b : Addr) : (match Manifest.signature? "type.super" with | some sig => Bind.checkArgs "type.super" sig ⟨[.ref a, .ref b], []⟩ | none => pure ()) = pure () := by kernel_rfl
theorem k_super_mro : mroOf (.type "super") = pure [.type "super", .type "object"] := by kernel_rfl
theorem k_super_made : Bind.madeBy (.type "super") = pure (some "super.__new__") := by kernel_rfl
theorem k_super_sub : isSubtype (.type "super") (.type "super") = pure true := by kernel_rfl
theorem k_super_entry : entryFor table "super.__new__" = some Builtin.«super.__new__» := entryFor_of_tree (by kernel_rfl)
theorem k_super_new (rest : List Value) : checkBuiltinCall "super.__new__" ⟨.type "super" :: rest, []⟩ = pure () := by kernel_rfl
theorem k_super_init : typeLookup (.type "super") "__init__" = pure (some (.builtin "super.__init__")) := by kernel_rfl
theorem k_super_ientry : entryFor table "super.__init__" = some Builtin.«super.__init__» := entryFor_of_tree (by kernel_rfl)
theorem k_super_ga : typeLookup (.type "super") "__getattribute__" = pure (some (.builtin "super.__getattribute__")) := by kernel_rfl
theorem k_super_gentry : entryFor table "super.__getattribute__" = some Builtin.«super.__getattribute__» := entryFor_of_tree (by kernel_rfl)
theorem k_super_slot : PySem.Slot "super" "__init__" "super.__init__" := .of k_super_init (owner := "super") (n := "__init__") (by decide +kernel) (by decide +kernel) (by decide +kernel) (.inl (by decide +kernel)) k_super_sub
theorem k_super_gslot : PySem.Slot "super" "__getattribute__" "super.__getattribute__" := .of k_super_ga (owner := "super") (n := "__getattribute__") (by decide +kernel) (by decide +kernel) (by decide +kernel) (.inl (by decide +kernel)) k_super_sub
theorem k_super_iargs (a b c : Addr) : argsOk "super.__init__" ⟨[.ref a, .ref b, .ref c], []⟩ := by kernel_rfl
theorem k_super_gargs (a : Addr) (x : Str) (t : Tok) : argsOk "super.__getattribute__" ⟨[.ref a, .str x t], []⟩ := by kernel_rfl
theorem k_own_isub : classOwn (.type "object") "__init_subclass__" = pure (some (.builtin "object.__init_subclass__")) := by kernel_rfl
theorem k_isub_ty : typeOf (.builtin "object.__init_subclass__") = pure (.type "classmethod_descriptor") := by kernel_rfl
theorem k_cmd_get : typeLookup (.type "classmethod_descriptor") "__get__" = pure (some (.builtin "classmethod_descriptor.__get__")) := by kernel_rfl
end Mine

set_option maxRecDepth 100000
set_option maxHeartbeats 1000000
namespace Mine
open PySem PySem.W PyProof.Rows
section
variable {prog : Program} {w : World} {A : Around} {E : Value → Shared → Prop} {h : Heap} {g : Array GenState} {d : Drawn} {t : Nat} {os : OsState}

/-- a class over object -/
noncomputable abbrev kObj (cd : ClassData) (sl : Array (Option Value)) : Obj := ⟨.type "type", none, .cls cd, sl⟩
theorem c_isType {M : Model} {C : Addr} {cd : ClassData} {sl : Array (Option Value)} {Q : Bool → Shared → Prop} (hC : h.get? C = some (kObj cd sl)) (hq : Q true ⟨h, g, d, t, os⟩) : wpAny M A (isType (.ref C)) Q E ⟨h, g, d, t, os⟩ := by
  unfold isType loadHead
  exact wpAny_bind (wpAny_loadPart hC (wpAny_pure hq))
theorem c_mro {M : Model} {C : Addr} {cd : ClassData} {sl : Array (Option Value)} {Q : List Value → Shared → Prop} (hC : h.get? C = some (kObj cd sl)) (hq : Q cd.mro ⟨h, g, d, t, os⟩) : wpAny M A (mroOf (.ref C)) Q E ⟨h, g, d, t, os⟩ := by
  unfold mroOf classData
  exact wpAny_bind (wpAny_bind (wpAny_load hC (wpAny_pure (wpAny_pure hq))))
theorem c_sub {M : Model} {C : Addr} {cd : ClassData} {sl : Array (Option Value)} {b : Value} {Q : Bool → Shared → Prop} (hC : h.get? C = some (kObj cd sl)) (hm : cd.mro = [.ref C, .type "object"]) (hq : Q ([Value.ref C, .type "object"].contains b) ⟨h, g, d, t, os⟩) : wpAny M A (isSubtype (.ref C) b) Q E ⟨h, g, d, t, os⟩ := by
  unfold isSubtype
  refine wpAny_bind (c_mro hC ?_)
  rw [hm]
  exact wpAny_pure hq
theorem c_own {M : Model} {C : Addr} {cd : ClassData} {sl : Array (Option Value)} {m : Str → Option Value} {x : Str} {Q : Option Value → Shared → Prop} (hC : h.get? C = some (kObj cd sl)) (hn : h.Ns cd.ns m) (hq : Q (m x) ⟨h, g, d, t, os⟩) : wpAny M A (classOwn (.ref C) x) Q E ⟨h, g, d, t, os⟩ := by
  unfold classOwn classData
  exact wpAny_bind (wpAny_bind (wpAny_load hC (wpAny_pure (wpAny_nsGet hn hq))))
theorem c_lookup {M : Model} {C : Addr} {cd : ClassData} {sl : Array (Option Value)} {m : Str → Option Value} {x : Str} {y : Option Value} {Q : Option Value → Shared → Prop} (hC : h.get? C = some (kObj cd sl)) (hm : cd.mro = [.ref C, .type "object"]) (hn : h.Ns cd.ns m)
    (ho : classOwn (.type "object") x = pure y) (hq : Q ((m x).or y) ⟨h, g, d, t, os⟩) : wpAny M A (typeLookup (.ref C) x) Q E ⟨h, g, d, t, os⟩ := by
  rw [typeLookup_eq]
  refine wpAny_bind (c_mro hC ?_)
  rw [hm, lookupAlong_cons]
  refine wpAny_bind (c_own hC hn ?_)
  cases hv : m x with
  | some v => rw [hv] at hq; exact wpAny_pure hq
  | none =>
    rw [hv] at hq
    dsimp only
    rw [lookupAlong_cons, ho]
    refine wpAny_bind (wpAny_pure ?_)
    cases y with
    | some v => exact wpAny_pure hq
    | none => exact wpAny_pure hq

theorem c_checkSuper {M : Model} {C : Addr} {cd : ClassData} {sl : Array (Option Value)} {Q : Unit → Shared → Prop} (hC : h.get? C = some (kObj cd sl)) (hq : Q () ⟨h, g, d, t, os⟩) : wpAny M A (checkTypeCall "super" ⟨[.ref C, .ref C], []⟩) Q E ⟨h, g, d, t, os⟩ := by
  have e : checkTypeCall "super" ⟨[.ref C, .ref C], []⟩ = (do
    if !(← isType (.ref C)) then rule "super.call.not-a-type"; raiseError "TypeError" s!"super() argument 1 must be a type, not {← typeNameOf (.ref C)}"
    match Manifest.signature? "type.super" with | some sig => Bind.checkArgs "type.super" sig ⟨[.ref C, .ref C], []⟩ | none => pure ()) := rfl
  rw [e]
  refine wpAny_bind (c_isType hC ?_)
  simp only [Bool.not_true, Bool.false_eq_true, if_false]
  exact wpAny_of_eq (k_super_args C C) hq

theorem st_inst {M : Model} {s : Shared} {v u : Value} {Q : Bool → Shared → Prop} (h : wpAny M A (isInstance v u) Q E s) : wpAny M A (isInstance v u) Q E s := h
theorem st_spec {M : Model} {s : Shared} {v : Value} {x : Str} {l : List Value} {kw : List (Str × Value)} {Q : Option Value → Shared → Prop} (h : wpAny M A (callSpecial? v x l kw) Q E s) : wpAny M A (callSpecial? v x l kw) Q E s := h
theorem c_opaque {M : Model} {C : Addr} {Q : Option Str → Shared → Prop} (hst : h.Ns cStatics (fun _ => none)) (hq : Q none ⟨h, g, d, t, os⟩) : wpAny M A (opaqueClassAbove (.ref C)) Q E ⟨h, g, d, t, os⟩ := by
  unfold opaqueClassAbove anyOpaqueLoaded
  repeat (first | with_reducible refine wpAny_nsGet hst ?_ | wp_step)
  exact hq
noncomputable abbrev supO (a b c : Value) : Obj := { cls := .type "super", data := .fields #[a, b, c] }
theorem c_super {C : Addr} {cd : ClassData} {sl : Array (Option Value)} {Q : Value → Shared → Prop} (hC : h.get? C = some (kObj cd sl)) (hm : cd.mro = [.ref C, .type "object"])
    (hq : ∀ h' S, Ext h h' → h'.get? S = some (supO (.ref C) (.ref C) (.ref C)) → Q (.ref S) ⟨h', g, d, t, os⟩) : wpAny (model prog w) A (call (.type "super") [.ref C, .ref C]) Q E ⟨h, g, d, t, os⟩ := by
  refine wpAny_call (codeAny_of_tree ?_)
  show wpAny _ _ (again (.builtin "type.__call__" ⟨[.type "super", .ref C, .ref C], []⟩)) _ _ _
  refine wpAny_pure ⟨Code.quiet_builtin _ (by decide +kernel), codeAny_builtin entry_typeCall ?_⟩
  have hcan := k_super_can
  have hmro := k_super_mro
  have hmade := k_super_made
  have hnt : (Value.type "super" == Value.type "type") = false := rfl
  repeat (first | with_reducible refine c_checkSuper hC ?_ | wp_step)
  refine codeAny_call_builtin_code (Code.quiet_builtin _ (by decide +kernel)) (wpAny_of_eq (k_super_new _) ?_)
  refine codeAny_builtin k_super_entry ?_
  unfold Builtin.«super.__new__»
  repeat ((fail_if_success (with_reducible refine wpAny_bind (st_inst ?_))); wp_step)
  have hget : (h.push (supO .none .none .none)).get? h.objs.size = some (supO .none .none .none) := Heap.get?_push_size _ rfl
  have hC1 : (h.push (supO .none .none .none)).get? C = some (kObj cd sl) := Heap.get?_push_of_some _ hC
  have hTs : (⟨h.push (supO .none .none .none), g, d, t, os⟩ : Shared).TypeIs (.ref h.objs.size) "super" := ⟨_, hget, rfl⟩
  refine wpAny_bind (wpAny_isInstance hTs k_super_sub ?_)
  wp_step
  refine wpAny_bind (wpAny_holding (wpAny_callSpecial?_slot hTs k_super_slot (wpAny_call (codeAny_call_builtin k_super_slot.plain k_super_ientry (k_super_slot.check _ _ _ _ _ _ _ _ hTs (k_super_iargs _ _ _) ?_)))))
  have hcon : [Value.ref C, .type "object"].contains (Value.ref C) = true := by simp
  unfold Builtin.«super.__init__»
  repeat (first | with_reducible refine c_isType hC1 ?_ | (with_reducible refine c_sub hC1 hm ?_; rw [hcon]) | wp_step)
  refine hq _ h.objs.size (fun b o e => ?_) (Heap.get?_update_self _ (Heap.get?_update_self _ (Heap.get?_update_self _ (Heap.get?_push_size _ rfl) rfl) rfl) rfl)
  have hb : h.objs.size ≠ b := Nat.ne_of_gt (Heap.lt_size e)
  rw [Heap.get?_update_other _ _ hb, Heap.get?_update_other _ _ hb, Heap.get?_update_other _ _ hb]
  exact Heap.get?_push_of_some _ e
end
end Mine

set_option maxRecDepth 100000
set_option maxHeartbeats 1000000
namespace Mine
open PySem PySem.W PyProof.Rows
theorem k_cmd_check (C : Addr) : checkBuiltinCall "classmethod_descriptor.__get__" ⟨[.builtin "object.__init_subclass__", .none, .ref C], []⟩ = pure () := by kernel_rfl
theorem k_cmd_entry : entryFor table "classmethod_descriptor.__get__" = some Builtin.«classmethod_descriptor.__get__» := entryFor_of_tree (by kernel_rfl)
theorem k_sub_tm : isSubtype (.type "type") (.type "module") = pure false := by kernel_rfl
theorem k_varargs : Manifest.varargsMethods.contains "object.__init_subclass__" = false := by decide +kernel
theorem k_isub_entry : entryFor table "object.__init_subclass__" = some Builtin.«object.__init_subclass__» := entryFor_of_tree (by kernel_rfl)
section
variable {prog : Program} {w : World} {A : Around} {E : Value → Shared → Prop} {h : Heap} {g : Array GenState} {d : Drawn} {t : Nat} {os : OsState}
noncomputable abbrev bfmO (id : String) (self : Value) : Obj := { cls := .type "builtin_function_or_method", data := .fields #[.builtin id, self] }
theorem sup_0 {M : Model} {S : Addr} {a b c : Value} {Q : Value → Shared → Prop} (hS : h.get? S = some (supO a b c)) (hq : Q a ⟨h, g, d, t, os⟩) : wpAny M A (field (.ref S) 0) Q E ⟨h, g, d, t, os⟩ := wpAny_field hS rfl rfl hq
theorem sup_1 {M : Model} {S : Addr} {a b c : Value} {Q : Value → Shared → Prop} (hS : h.get? S = some (supO a b c)) (hq : Q b ⟨h, g, d, t, os⟩) : wpAny M A (field (.ref S) 1) Q E ⟨h, g, d, t, os⟩ := wpAny_field hS rfl rfl hq
theorem sup_2 {M : Model} {S : Addr} {a b c : Value} {Q : Value → Shared → Prop} (hS : h.get? S = some (supO a b c)) (hq : Q c ⟨h, g, d, t, os⟩) : wpAny M A (field (.ref S) 2) Q E ⟨h, g, d, t, os⟩ := wpAny_field hS rfl rfl hq
theorem c_supGet {C S : Addr} {cd : ClassData} {sl : Array (Option Value)} {Q : Value → Shared → Prop} (hC : h.get? C = some (kObj cd sl)) (hm : cd.mro = [.ref C, .type "object"]) (hS : h.get? S = some (supO (.ref C) (.ref C) (.ref C))) (hst : h.Ns cStatics (fun _ => none))
    (hq : ∀ h' F t', Ext h h' → h'.get? F = some (bfmO "object.__init_subclass__" (.ref C)) → Q (.ref F) ⟨h', g, d, t', os⟩) : wpAny (model prog w) A (getAttr (.ref S) "__init_subclass__") Q E ⟨h, g, d, t, os⟩ := by
  have f1 := k_super_ga
  have f2 := k_super_gslot.bind (.ref S)
  have hT : (⟨h, g, d, t + 1, os⟩ : Shared).TypeIs (.ref S) "super" := ⟨_, hS, rfl⟩
  unfold getAttr
  refine wpAny_bind (wpAny_mkText ?_)
  unfold getAttrBy
  refine wpAny_holding (wpAny_bind (wpAny_typeOf hT (wpAny_bind (wpAny_of_eq f1 ?_))))
  dsimp only
  rw [if_neg (by decide)]
  unfold getAttrByItsOwn hookBefore
  rw [if_neg (by decide)]
  refine wpAny_bind (wpAny_pure (wpAny_bind (wpAny_attempt (wpAny_holding ?_))))
  unfold callGetattribute boundAndCalled
  rw [if_neg (by decide)]
  refine wpAny_bind (wpAny_of_eq f2 ?_)
  refine wpAny_call (codeAny_call_builtin k_super_gslot.plain k_super_gentry (k_super_gslot.check _ _ _ _ _ _ _ _ hT (k_super_gargs _ _ _) ?_))
  unfold Builtin.«super.__getattribute__»
  have hdw : List.drop 1 (List.dropWhile (fun x => x != Value.ref C) [Value.ref C, Value.type "object"]) = [Value.type "object"] := by simp
  have g1 := k_own_isub
  have g2 := k_isub_ty
  have g3 := k_cmd_get
  repeat (first | with_reducible refine sup_0 hS ?_ | with_reducible refine sup_1 hS ?_ | with_reducible refine sup_2 hS ?_ | with_reducible refine c_opaque hst ?_ | with_reducible refine c_isType hC ?_ | (with_reducible refine c_mro hC ?_; rw [hm]; simp only [hdw, beq_self_eq_true, if_true]) | ((fail_if_success (with_reducible refine st_call ?_)); wp_step))
  refine wpAny_call (codeAny_call_builtin (by decide +kernel) k_cmd_entry (wpAny_of_eq (k_cmd_check C) ?_))
  unfold Builtin.«classmethod_descriptor.__get__»
  have hcon : [Value.ref C, .type "object"].contains (Value.type "object") = true := by simp
  have hic : ".".intercalate ("object.__init_subclass__".cutAt '.').dropLast = "object" := by decide +kernel
  repeat (first | with_reducible refine c_isType hC ?_ | (with_reducible refine c_sub hC hm ?_; rw [hic, hcon]) | wp_step)
  exact hq _ _ _ (Ext.push h _) (Heap.get?_push_size _ rfl)
theorem c_supCall {C F : Addr} {cd : ClassData} {sl : Array (Option Value)} {Q : Value → Shared → Prop} (hC : h.get? C = some (kObj cd sl)) (hm : cd.mro = [.ref C, .type "object"]) (hF : h.get? F = some (bfmO "object.__init_subclass__" (.ref C))) (hqn : cd.qualname = "cmp_to_key.<locals>.K")
    (hq : Q .none ⟨h, g, d, t, os⟩) : wpAny (model prog w) A (call (.ref F) []) Q E ⟨h, g, d, t, os⟩ := by
  refine wpAny_call (codeAny_of_tree ?_)
  show wpAny _ _ (callAny (.ref F) ⟨[], []⟩) _ _ _
  unfold callAny
  have ktm := k_sub_tm
  have hstar : decide (((toString cd.qualname.toString ++ toString "." ++ toString (Bind.lastOf "object.__init_subclass__")) != "*") = true) = true := by rw [hqn]; kernel_rfl
  have kva := k_varargs
  repeat (first | with_reducible refine c_isType hC ?_ | with_reducible refine wpAny_of_eq k_sub_tm ?_ | ((with_reducible apply wpAny_ite_true); focus (exact hstar; done)) | wp_step)
  refine ⟨Code.quiet_builtin _ (by decide +kernel), codeAny_builtin k_isub_entry ?_⟩
  unfold Builtin.«object.__init_subclass__»
  repeat wp_step
  exact hq
end
end Mine

set_option maxRecDepth 100000
set_option maxHeartbeats 4000000
namespace Mine
open PySem PySem.W PyProof.Rows

section
variable {prog : Program} {w : World} {A : Around} {E : Value → Shared → Prop} {h : Heap} {g : Array GenState} {d : Drawn} {t : Nat} {os : OsState}
theorem c_turned {M : Model} {l : List Value} {s : Shared} {Q : Unit → Shared → Prop} (hl : l = [.type "object"]) (hq : Q () s) : wpAny M A (Builtin.notOverATurnedClass l) Q E s := by subst hl; exact wpAny_of_eq k_turned hq
theorem c_ext {M : Model} {l : List Value} {s : Shared} {Q : Value → Shared → Prop} (hl : l = [.type "object"]) (hq : Q (.type "object") s) : wpAny M A (Builtin.extendedBase l) Q E s := by subst hl; exact wpAny_of_eq k_ext hq

/-- the entries of K's body -/
noncomputable abbrev bodyL (tk : Fin 12 → Tok) (mo qn fl sl f1 f2 f3 f4 f5 f6 st : Value) : List Ent :=
  [(tk 0, "__module__", mo), (tk 1, "__qualname__", qn), (tk 2, "__firstlineno__", fl), (tk 3, "__slots__", sl), (tk 4, "__init__", f1), (tk 5, "__lt__", f2), (tk 6, "__gt__", f3), (tk 7, "__eq__", f4), (tk 8, "__le__", f5), (tk 9, "__ge__", f6), (tk 10, "__hash__", .none), (tk 11, "__static_attributes__", st)]

noncomputable abbrev bodyL2 (tk : _root_.Fin 12 → Tok) (mo fl sl f1 f2 f3 f4 f5 f6 st : Value) : List Ent :=
  [(tk 0, "__module__", mo), (tk 2, "__firstlineno__", fl), (tk 3, "__slots__", sl), (tk 4, "__init__", f1), (tk 5, "__lt__", f2), (tk 6, "__gt__", f3), (tk 7, "__eq__", f4), (tk 8, "__le__", f5), (tk 9, "__ge__", f6), (tk 10, "__hash__", .none), (tk 11, "__static_attributes__", st)]
noncomputable abbrev objE (tk : Tok) (dA : Addr) : List Ent := [(tk, "obj", .ref dA)]
noncomputable abbrev docE (tk : Tok) : List Ent := [(tk, "__doc__", .none)]
theorem c_read {P : Params} {l : List Ent} {bl : List Value} {t3 ts : Tok} {sl : Addr} {e1 : Nat} {Q : Builtin.Slots.Plan → Shared → Prop} (hbl : bl = [.type "object"])
    (hl : (l.find? fun e => e.2.1 == ("__slots__" : Str)) = some (t3, ("__slots__" : Str), Value.ref sl)) (hno : (l.any fun e => e.2.1 == ("obj" : Str)) = false)
    (hsl : h.get? sl = some { cls := .type "list", data := .seq #[.str "obj" ts] e1 })
    (hq : ∀ h', Ext h h' → Q { names := ["obj"], dict := false, weak := false, inherited := [] } ⟨h', g, d, t, os⟩) :
    wpAny (model prog w) A (Builtin.Slots.read "K" bl (ents P l)) Q E ⟨h, g, d, t, os⟩ := by subst hbl; exact op_read hl hno hsl hq
theorem ext_made {h h2 h3 : Heap} {o : Obj} (x : Ext h h2) (hs : Heap.SameBut h2.objs.size (h2.push o) h3) : Ext h h3 := fun b o' e => same_get hs (Heap.get?_push_of_some _ (x b o' e)) (Nat.ne_of_lt (Heap.lt_size (x b o' e)))
theorem ext_same {h h2 h3 : Heap} {n : Addr} (x : Ext h h2) (hs : Heap.SameBut n h2 h3) (hn : h.get? n = none) : Ext h h3 := fun b o' e => same_get hs (x b o' e) (fun q => by rw [q, hn] at e; cases e)
theorem c_lin {M : Model} {l : List Value} {s : Shared} {Q : List Value → Shared → Prop} (hl : l = [.type "object"]) (hq : Q [.type "object"] s) : wpAny M A (Builtin.linearize l mroOf) Q E s := by subst hl; exact wpAny_of_eq k_lin hq
theorem k_own_new : classOwn (.type "object") "__new__" = pure (some (.builtin "object.__new__")) := by kernel_rfl
theorem k_new_ends : "object.__new__".endsWith ".__new__" = true := by decide +kernel
theorem c_refresh {M : Model} {C : Addr} {cd : ClassData} {k0 k1 k2 k3 : Option Value} {m : Str → Option Value} {Q : Unit → Shared → Prop} (hC : h.get? C = some (kObj cd #[k0, k1, k2, k3, some (.builtin "object.__new__")])) (hm : cd.mro = [.ref C, .type "object"]) (hn : h.Ns cd.ns m) (hno : m "__new__" = none)
    (hq : Q () ⟨h, g, d, t, os⟩) : wpAny M A (Bind.refreshMaker C) Q E ⟨h, g, d, t, os⟩ := by
  unfold Bind.refreshMaker slotAt
  refine wpAny_bind (wpAny_bind (wpAny_loadPart hC (wpAny_pure ?_)))
  rw [if_neg (by simp)]
  refine wpAny_bind (c_lookup hC hm hn k_own_new ?_)
  rw [hno]
  dsimp only [Option.or]
  rw [k_new_ends]
  exact wpAny_pure hq
theorem c_install {l : List Ent} {bl : List Value} {C ns : Addr} {cd : ClassData} {sl : Array (Option Value)} {ep : Nat} {Q : Unit → Shared → Prop} (hbl : bl = [.type "object"])
    (hns : h.get? ns = some (dictO (ents w.params l) ep)) (hC : h.get? C = some ⟨.type "type", none, .cls cd, sl⟩) (hno : look l "obj" = none) (hz : l.length ≤ 100) (hp : (Data.cls { cd with hasDict := false, slotNames := ["obj"] }).pastItsLine = none)
    (hq : ∀ h' dA td tk ep' t', KB [C, ns] h h' → h'.get? dA = some (memO "obj" td C 0) → h'.get? ns = some (dictO (ents w.params (put l tk "obj" (.ref dA))) ep') → h'.get? C = some ⟨.type "type", none, .cls { cd with hasDict := false, slotNames := ["obj"] }, sl⟩ →
      h.get? dA = none → Q () ⟨h', g, d, t', os⟩) :
    wpAny (model prog w) A (Builtin.Slots.install (.ref C) ns bl { names := ["obj"], dict := false, weak := false, inherited := [] }) Q E ⟨h, g, d, t, os⟩ := by
  subst hbl; exact op_install hns hC hno hz hp hq
noncomputable abbrev cdK (C N : Addr) (qual : Str) : ClassData := { name := "K", bases := [.type "object"], mro := [.ref C, .type "object"], ns := N, qualname := qual, hasDict := false, slotNames := ["obj"] }
noncomputable def QuietV (s : Shared) (v : Value) : Prop := (∀ k, Builtin.heldUnderItsOwnName k v = false) ∧ ∃ T, s.TypeIs v T ∧ typeLookup (.type T) "__set_name__" = pure none
theorem quiet_str {s : Shared} {x : Str} {t : Tok} : QuietV s (.str x t) := ⟨fun _ => rfl, "str", rfl, by kernel_rfl⟩
theorem quiet_int {s : Shared} {x : Int} {t : Tok} : QuietV s (.int x t) := ⟨fun _ => rfl, "int", rfl, by kernel_rfl⟩
theorem quiet_none {s : Shared} : QuietV s .none := ⟨fun _ => rfl, "NoneType", rfl, by kernel_rfl⟩
theorem k_sn_list : typeLookup (.type "list") "__set_name__" = pure none := by kernel_rfl
theorem k_sn_fun : typeLookup (.type "function") "__set_name__" = pure none := by kernel_rfl
theorem k_sn_tup : typeLookup (.type "tuple") "__set_name__" = pure none := by kernel_rfl
theorem k_sn_mem : typeLookup (.type "member_descriptor") "__set_name__" = pure none := by kernel_rfl
theorem quiet_ref {s : Shared} {a : Addr} {o : Obj} {T : String} (ho : s.heap.get? a = some o) (hc : o.cls = .type T) (hn : typeLookup (.type T) "__set_name__" = pure none) : QuietV s (.ref a) := ⟨fun _ => rfl, T, ⟨o, ho, hc⟩, hn⟩
theorem forIn_pass {P : Params} {β : Type} (b : β) (f : DictEntry → β → Sem (ForInStep β)) : ∀ (l : List Ent), (∀ x ∈ l, f (entOf P x) b = pure (.yield b)) → forIn (ents P l) b f = pure b := by
  intro l hl
  unfold ents
  rw [List.forIn_toArray]
  induction l with
  | nil => rfl
  | cons x l ih =>
    rw [List.map_cons, List.forIn_cons, hl x List.mem_cons_self]
    simp only [pure_bind]
    exact ih fun y hy => hl y (List.mem_cons_of_mem _ hy)
theorem wp_forIn_pass {M : Model} {P : Params} {s : Shared} {β : Type} {b : β} {f : DictEntry → β → Sem (ForInStep β)} {Q : β → Shared → Prop} {l : List Ent}
    (hl : ∀ x ∈ l, ∀ Q' : ForInStep β → Shared → Prop, Q' (.yield b) s → wpAny M A (f (entOf P x) b) Q' E s) (hq : Q b s) : wpAny M A (forIn (ents P l) b f) Q E s := by
  unfold ents
  rw [List.forIn_toArray]
  induction l with
  | nil => exact wpAny_pure hq
  | cons x l ih =>
    rw [List.map_cons, List.forIn_cons]
    refine wpAny_bind (hl x List.mem_cons_self _ ?_)
    exact ih fun y hy => hl y (List.mem_cons_of_mem _ hy)
theorem type_new_K {tk : _root_.Fin 12 → Tok} {mo : Str} {fl : Int} {tmo tfl tq tn ts : Tok} {sl nsA bA f1 f2 f3 f4 f5 f6 st : Addr} {ep e1 e2 : Nat} {qual : Str} {Q : PySem.Fin → Shared → Prop}
    (hfs : ∀ f ∈ [f1, f2, f3, f4, f5, f6], ∃ o, h.get? f = some o ∧ o.cls = .type "function") (hstt : ∃ o, h.get? st = some o ∧ o.cls = .type "tuple")
    (hns : h.get? nsA = some (dictO (ents w.params (bodyL tk (.str mo tmo) (.str qual tq) (.int fl tfl) (.ref sl) (.ref f1) (.ref f2) (.ref f3) (.ref f4) (.ref f5) (.ref f6) (.ref st))) ep))
    (hsl : h.get? sl = some { cls := .type "list", data := .seq #[.str "obj" ts] e1 }) (hb : h.get? bA = some { cls := .type "tuple", data := .seq #[.type "object"] e2 }) (hst : h.Ns cStatics (fun _ => none)) (hsm : (nsA == sysModules) = false)
    (hqual : qual = "cmp_to_key.<locals>.K")
    (hq : ∀ h' C N dA td tk9 t9 ep' t', Ext h h' → h.get? C = none → h.get? N = none → h'.get? C = some (kObj (cdK C N qual) #[some (.ref bA), none, some (.str "K" tn), some (.str qual tq), some (.builtin "object.__new__"), some (.bool false)]) →
      h'.get? N = some (dictO (ents w.params (bodyL2 tk (.str mo tmo) (.int fl tfl) (.ref sl) (.ref f1) (.ref f2) (.ref f3) (.ref f4) (.ref f5) (.ref f6) (.ref st) ++ objE tk9 dA ++ docE t9)) ep') →
      h'.get? dA = some (memO "obj" td C 0) → Q (.done (.ret (.ref C))) ⟨h', g, d, t', os⟩) :
    wpAny (model prog w) A (Builtin.«type.__new__» ⟨[.type "type", .str "K" tn, .ref bA, .ref nsA], []⟩) Q E ⟨h, g, d, t, os⟩ := by
  have c1 := k_isType_obj
  have c2 := k_typeOf_obj
  have c3 := k_sub_tt
  have hT : (⟨h, g, d, t, os⟩ : Shared).TypeIs (.ref bA) "tuple" := ⟨_, hb, rfl⟩
  have hD : (⟨h, g, d, t, os⟩ : Shared).TypeIs (.ref nsA) "dict" := ⟨_, hns, rfl⟩
  have s1 : isSubtype (.type "tuple") (.type "tuple") = pure true := by kernel_rfl
  have s2 : isSubtype (.type "dict") (.type "dict") = pure true := by kernel_rfl
  have s3 := k_dictIter
  unfold Builtin.«type.__new__»
  repeat (first | ((with_reducible refine c_turned ?hl ?_); (case hl => rfl)) | ((with_reducible refine c_ext ?hl ?_); (case hl => rfl)) | ((fail_if_success (with_reducible refine wpAny_bind (wpAny_holding (st_read ?_)))); wp_step))
  have hbases : (if ((some #[Value.type "object"]).getD #[]).toList.isEmpty = true then [Value.type "object"] else ((some #[Value.type "object"]).getD #[]).toList) = [Value.type "object"] := rfl
  refine wpAny_bind (wpAny_holding (c_read rfl (t3 := tk 3) (sl := sl) (ts := ts) (e1 := e1) (by kernel_rfl) (by kernel_rfl) hsl fun h1 x1 => ?_))
  have hes : (ents w.params (bodyL tk (.str mo tmo) (.str qual tq) (.int fl tfl) (.ref sl) (.ref f1) (.ref f2) (.ref f3) (.ref f4) (.ref f5) (.ref f6) (.ref st))).size = 12 := by kernel_rfl
  refine wpAny_bind (wpAny_newObj_type ?_ (by show (ents w.params (bodyL tk (.str mo tmo) (.str qual tq) (.int fl tfl) (.ref sl) (.ref f1) (.ref f2) (.ref f3) (.ref f4) (.ref f5) (.ref f6) (.ref st))).size ≤ sizeLine + 1; rw [hes]; decide +kernel))
  have hN : (h1.push (dictO (ents w.params (bodyL tk (.str mo tmo) (.str qual tq) (.int fl tfl) (.ref sl) (.ref f1) (.ref f2) (.ref f3) (.ref f4) (.ref f5) (.ref f6) (.ref st))) 0)).get? h1.objs.size = some (dictO (ents w.params (bodyL tk (.str mo tmo) (.str qual tq) (.int fl tfl) (.ref sl) (.ref f1) (.ref f2) (.ref f3) (.ref f4) (.ref f5) (.ref f6) (.ref st))) 0) := Heap.get?_push_size _ rfl
  have a1 : ((ents w.params (bodyL tk (.str mo tmo) (.str qual tq) (.int fl tfl) (.ref sl) (.ref f1) (.ref f2) (.ref f3) (.ref f4) (.ref f5) (.ref f6) (.ref st))).any fun x => x.key.isStr ("__module__" : Str)) = true := by rw [any_ents]; kernel_rfl
  have a2 : ((ents w.params (bodyL tk (.str mo tmo) (.str qual tq) (.int fl tfl) (.ref sl) (.ref f1) (.ref f2) (.ref f3) (.ref f4) (.ref f5) (.ref f6) (.ref st))).any fun x => x.key.isStr ("__del__" : Str)) = false := by rw [any_ents]; kernel_rfl
  have hmod : decide ((!((ents w.params (bodyL tk (.str mo tmo) (.str qual tq) (.int fl tfl) (.ref sl) (.ref f1) (.ref f2) (.ref f3) (.ref f4) (.ref f5) (.ref f6) (.ref st))).any fun x => x.key.isStr ("__module__" : Str))) = true) = false := by rw [a1]; rfl
  have z1 : decide (((Str.ofString "K").cps.any fun c => decide (55296 ≤ c) && decide (c ≤ 57343)) = true) = false := by decide +kernel
  have z2 : decide ((Str.ofString "K").cps.contains 0 = true) = false := by decide +kernel
  have b1 : look (bodyL tk (.str mo tmo) (.str qual tq) (.int fl tfl) (.ref sl) (.ref f1) (.ref f2) (.ref f3) (.ref f4) (.ref f5) (.ref f6) (.ref st)) "__qualname__" = some (.str qual tq) := by kernel_rfl
  have b2 : look (bodyL tk (.str mo tmo) (.str qual tq) (.int fl tfl) (.ref sl) (.ref f1) (.ref f2) (.ref f3) (.ref f4) (.ref f5) (.ref f6) (.ref st)) "__doc__" = none := by kernel_rfl
  generalize hh2 : h1.push (dictO (ents w.params (bodyL tk (.str mo tmo) (.str qual tq) (.int fl tfl) (.ref sl) (.ref f1) (.ref f2) (.ref f3) (.ref f4) (.ref f5) (.ref f6) (.ref st))) 0) = h2 at hN
  have x2 : Ext h h2 := by rw [← hh2]; exact x1.trans (Ext.push _ _)
  repeat (first | (with_reducible refine op_get hN ?_; first | rw [b1] | rw [b2]) | ((with_reducible apply wpAny_ite_false); focus (with_reducible first | exact hmod | exact z1 | exact z2)) | ((fail_if_success (with_reducible refine st_slot ?_)); wp_step))
  have hNn : h.get? h1.objs.size = none := by
    cases q : h.get? h1.objs.size with
    | none => rfl
    | some o => exact absurd (Heap.lt_size (x1 _ _ q)) (Nat.lt_irrefl _)
  have hnn : h.get? h2.objs.size = none := by
    cases q : h.get? h2.objs.size with
    | none => rfl
    | some o => exact absurd (Heap.lt_size (x2 _ _ q)) (Nat.lt_irrefl _)
  have hNC : h1.objs.size ≠ h2.objs.size := Nat.ne_of_lt (Heap.lt_size hN)
  let cd0 : ClassData := { name := "K", bases := [.type "object"], mro := [], ns := h1.objs.size, qualname := qual }
  refine op_slot (o := kObj cd0 #[]) (Heap.get?_push_size _ rfl) rfl (by decide) fun h3 hs3 hc3 => ?_
  have x3 := ext_made x2 hs3
  have hN3 := same_get hs3 (Heap.get?_push_of_some _ hN) hNC
  repeat ((fail_if_success (with_reducible refine st_slot ?_)); wp_step)
  refine op_slot hc3 rfl (by decide) fun h4 hs4 hc4 => ?_
  have x4 := ext_same x3 hs4 hnn
  have hN4 := same_get hs4 hN3 hNC
  repeat ((fail_if_success (with_reducible refine st_slot ?_)); wp_step)
  refine op_slot hc4 rfl (by decide) fun h5 hs5 hc5 => ?_
  have x5 := ext_same x4 hs5 hnn
  have hN5 := same_get hs5 hN4 hNC
  have hc5' : h5.get? h2.objs.size = some (kObj cd0 #[some (.ref bA), none, some (.str "K" tn), some (.str qual tq)]) := hc5.trans (congrArg some (by kernel_rfl))
  repeat ((fail_if_success (with_reducible refine st_del ?_)); wp_step)
  refine op_del hN5 (by rw [b1]; rfl) fun h6 ep6 hs6 hN6 => ?_
  have x6 := ext_same x5 hs6 hNn
  have hC6 := same_get hs6 hc5' hNC.symm
  have edrop : dropEnt (bodyL tk (.str mo tmo) (.str qual tq) (.int fl tfl) (.ref sl) (.ref f1) (.ref f2) (.ref f3) (.ref f4) (.ref f5) (.ref f6) (.ref st)) "__qualname__" = bodyL2 tk (.str mo tmo) (.int fl tfl) (.ref sl) (.ref f1) (.ref f2) (.ref f3) (.ref f4) (.ref f5) (.ref f6) (.ref st) := by kernel_rfl
  rw [edrop] at hN6
  have l1 : look (bodyL2 tk (.str mo tmo) (.int fl tfl) (.ref sl) (.ref f1) (.ref f2) (.ref f3) (.ref f4) (.ref f5) (.ref f6) (.ref st)) "__new__" = none := by kernel_rfl
  have l2 : look (bodyL2 tk (.str mo tmo) (.int fl tfl) (.ref sl) (.ref f1) (.ref f2) (.ref f3) (.ref f4) (.ref f5) (.ref f6) (.ref st)) "__init_subclass__" = none := by kernel_rfl
  have l3 : look (bodyL2 tk (.str mo tmo) (.int fl tfl) (.ref sl) (.ref f1) (.ref f2) (.ref f3) (.ref f4) (.ref f5) (.ref f6) (.ref st)) "__class_getitem__" = none := by kernel_rfl
  have l4 : look (bodyL2 tk (.str mo tmo) (.int fl tfl) (.ref sl) (.ref f1) (.ref f2) (.ref f3) (.ref f4) (.ref f5) (.ref f6) (.ref st)) "__classcell__" = none := by kernel_rfl
  have l5 : look (bodyL2 tk (.str mo tmo) (.int fl tfl) (.ref sl) (.ref f1) (.ref f2) (.ref f3) (.ref f4) (.ref f5) (.ref f6) (.ref st)) "__classdictcell__" = none := by kernel_rfl
  repeat (first | (with_reducible refine op_get hN6 ?_; first | rw [l1] | rw [l2] | rw [l3] | rw [l4] | rw [l5]) | (with_reducible refine wpAny_of_eq k_hook ?_) | ((with_reducible refine c_lin ?hl ?_); (case hl => rfl)) | ((fail_if_success (with_reducible refine st_cls ?_)); wp_step))
  have hfil : List.filter (fun x => x != Value.ref h2.objs.size) [Value.ref h2.objs.size, Value.type "object"] = [Value.type "object"] := by simp
  rw [hfil]
  refine wpAny_of_eq (a := false) (by kernel_rfl) ?_
  let cd1 : ClassData := { name := "K", bases := [.type "object"], mro := [.ref h2.objs.size, .type "object"], ns := h1.objs.size, qualname := qual }
  refine wpAny_bind (op_cls hC6 (by kernel_rfl) fun h7 hs7 hc7 => ?_)
  have hc7' : h7.get? h2.objs.size = some (kObj cd1 #[some (.ref bA), none, some (.str "K" tn), some (.str qual tq)]) := hc7.trans (congrArg some (by kernel_rfl))
  have x7 := ext_same x6 hs7 hnn
  have hN7 := same_get hs7 hN6 hNC
  refine wpAny_bind (wpAny_of_eq k_made (wpAny_bind (op_slot hc7' rfl (by decide) fun h8 hs8 hc8 => ?_)))
  have hc8' : h8.get? h2.objs.size = some (kObj cd1 #[some (.ref bA), none, some (.str "K" tn), some (.str qual tq), some (.builtin "object.__new__")]) := hc8.trans (congrArg some (by kernel_rfl))
  have x8 := ext_same x7 hs8 hnn
  have hN8 := same_get hs8 hN7 hNC
  refine wpAny_bind (c_refresh hc8' rfl (ns_ents hN8 rfl) l1 ?_)
  refine wpAny_bind (c_install (by rfl) hN8 hc8' (by kernel_rfl) (by show 11 ≤ 100; decide) (by kernel_rfl) fun h9 dA td tk9 ep9 t9 kb9 hd9 hN9 hC9 hdn => ?_)
  let cd2 : ClassData := { name := "K", bases := [.type "object"], mro := [.ref h2.objs.size, .type "object"], ns := h1.objs.size, qualname := qual, hasDict := false, slotNames := ["obj"] }
  have x9 : Ext h h9 := fun b o e => kb9 b o (fun q => by
    rcases List.mem_cons.mp q with rfl | q
    · rw [hnn] at e; cases e
    · rw [List.mem_singleton.mp q, hNn] at e; cases e) (x8 b o e)
  refine wpAny_bind (wpAny_of_eq k_gw (wpAny_bind (op_slot hC9 rfl (by decide) fun h10 hs10 hc10 => ?_)))
  have hC10 : h10.get? h2.objs.size = some (kObj cd2 #[some (.ref bA), none, some (.str "K" tn), some (.str qual tq), some (.builtin "object.__new__"), some (.bool false)]) := hc10.trans (congrArg some (by kernel_rfl))
  have x10 := ext_same x9 hs10 hnn
  have hN10 := same_get hs10 hN9 hNC
  have hdC : dA ≠ h2.objs.size := fun q => by rw [q, hc8'] at hdn; cases hdn
  have hdN : dA ≠ h1.objs.size := fun q => by rw [q, hN8] at hdn; cases hdn
  have hd10 := same_get hs10 hd9 hdC
  have e10 : put (bodyL2 tk (.str mo tmo) (.int fl tfl) (.ref sl) (.ref f1) (.ref f2) (.ref f3) (.ref f4) (.ref f5) (.ref f6) (.ref st)) tk9 "obj" (.ref dA) = bodyL2 tk (.str mo tmo) (.int fl tfl) (.ref sl) (.ref f1) (.ref f2) (.ref f3) (.ref f4) (.ref f5) (.ref f6) (.ref st) ++ objE tk9 dA := by kernel_rfl
  rw [e10] at hN10
  have m1 : look (bodyL2 tk (.str mo tmo) (.int fl tfl) (.ref sl) (.ref f1) (.ref f2) (.ref f3) (.ref f4) (.ref f5) (.ref f6) (.ref st) ++ objE tk9 dA) "__doc__" = none := by kernel_rfl
  have m2 : look (bodyL2 tk (.str mo tmo) (.int fl tfl) (.ref sl) (.ref f1) (.ref f2) (.ref f3) (.ref f4) (.ref f5) (.ref f6) (.ref st) ++ objE tk9 dA) "__dict__" = none := by kernel_rfl
  repeat (first | (with_reducible refine op_get hN10 ?_; first | rw [m1] | rw [m2]) | ((fail_if_success (with_reducible refine st_set ?_)); wp_step))
  refine op_set (M := model prog w) hN10 fun h11 ep11 hs11 hn11 => ?_
  have e11 : put (bodyL2 tk (.str mo tmo) (.int fl tfl) (.ref sl) (.ref f1) (.ref f2) (.ref f3) (.ref f4) (.ref f5) (.ref f6) (.ref st) ++ objE tk9 dA) t9 "__doc__" .none = bodyL2 tk (.str mo tmo) (.int fl tfl) (.ref sl) (.ref f1) (.ref f2) (.ref f3) (.ref f4) (.ref f5) (.ref f6) (.ref st) ++ objE tk9 dA ++ docE t9 := by kernel_rfl
  rw [e11] at hn11
  have x11 := ext_same x10 hs11 hNn
  have hC11 := same_get hs11 hC10 hNC.symm
  have hd11 := same_get hs11 hd10 hdN
  have n1 : look (bodyL2 tk (.str mo tmo) (.int fl tfl) (.ref sl) (.ref f1) (.ref f2) (.ref f3) (.ref f4) (.ref f5) (.ref f6) (.ref st) ++ objE tk9 dA ++ docE t9) "__eq__" = some (.ref f4) := by kernel_rfl
  have n2 : look (bodyL2 tk (.str mo tmo) (.int fl tfl) (.ref sl) (.ref f1) (.ref f2) (.ref f3) (.ref f4) (.ref f5) (.ref f6) (.ref st) ++ objE tk9 dA ++ docE t9) "__hash__" = some .none := by kernel_rfl
  have hbases : (if ((some #[Value.type "object"]).getD #[]).toList.isEmpty = true then [Value.type "object"] else ((some #[Value.type "object"]).getD #[]).toList) = [Value.type "object"] := rfl
  have kn := k_note h2.objs.size
  repeat (first | (with_reducible refine op_get hn11 ?_; first | rw [n1] | rw [n2]) | ((fail_if_success (with_reducible refine wpAny_bind (st_try ?_))); (fail_if_success (with_reducible refine wpAny_bind (wpAny_tryCatch ?_))); wp_step))
  have hC12 : h11.get? h2.objs.size = some (kObj cd2 #[some (.ref bA), none, some (.str "K" tn), some (.str qual tq), some (.builtin "object.__new__"), some (.bool false)]) := hC11
  have hst11 : h11.Ns cStatics (fun _ => none) := hst.keeps x11
  refine wpAny_bind (wpAny_tryCatch (wpAny_holding ?_))
  refine wpAny_bind (wpAny_dictEntries hn11 rfl (wpAny_bind ?_))
  refine wpAny_of_eq (forIn_pass _ _ _ (fun x _ => rfl)) ?_
  rw [if_neg (by simp)]
  refine wpAny_bind (wpAny_dictEntries hn11 rfl (wpAny_bind ?_))
  refine wp_forIn_pass (fun x hx Q' hQ' => ?_) ?_
  · have hqv : QuietV ⟨h11, g, d, t9 + 1, os⟩ x.2.2 := by
      have fn : ∀ f ∈ [f1, f2, f3, f4, f5, f6], QuietV ⟨h11, g, d, t9 + 1, os⟩ (.ref f) := fun f hf => let ⟨o, ho, hc⟩ := hfs f hf; quiet_ref (x11 _ _ ho) hc k_sn_fun
      obtain ⟨ot, hot, hct⟩ := hstt
      rcases List.mem_append.mp hx with hx | hx
      · rcases List.mem_append.mp hx with hx | hx
        · simp only [bodyL2, List.mem_cons, List.not_mem_nil, or_false] at hx
          rcases hx with rfl | rfl | rfl | rfl | rfl | rfl | rfl | rfl | rfl | rfl | rfl
          · exact quiet_str
          · exact quiet_int
          · exact quiet_ref (x11 _ _ hsl) rfl k_sn_list
          · exact fn f1 (by simp)
          · exact fn f2 (by simp)
          · exact fn f3 (by simp)
          · exact fn f4 (by simp)
          · exact fn f5 (by simp)
          · exact fn f6 (by simp)
          · exact quiet_none
          · exact quiet_ref (x11 _ _ hot) hct k_sn_tup
        · rw [List.mem_singleton.mp hx]; exact quiet_ref hd11 rfl k_sn_mem
      · rw [List.mem_singleton.mp hx]; exact quiet_none
    obtain ⟨q1, T, q2, q3⟩ := hqv
    have e1 : Builtin.laidUnderItsOwnName (entOf (model prog w).w.params x).key (entOf (model prog w).w.params x).val = false := q1 _
    rw [if_neg (by rw [e1]; simp)]
    refine wpAny_bind (wpAny_specialOf q2 q3 ?_)
    exact wpAny_pure hQ'
  · refine wpAny_bind (c_super hC12 rfl fun h12 S x12 hS => ?_)
    refine wpAny_bind (wpAny_holding (c_supGet (x12 _ _ hC12) rfl hS (hst11.keeps x12) fun h13 F t13 x13 hF => ?_))
    refine wpAny_bind (c_supCall (x13 _ _ (x12 _ _ hC12)) rfl hF hqual ?_)
    refine wpAny_pure (wpAny_pure ?_)
    exact hq h13 h2.objs.size h1.objs.size dA td tk9 t9 ep11 t13 (x11.trans (x12.trans x13)) hnn hNn (x13 _ _ (x12 _ _ hC12)) (x13 _ _ (x12 _ _ hn11)) (x13 _ _ (x12 _ _ hd11))
end
end Mine

set_option maxRecDepth 100000
set_option maxHeartbeats 4000000
namespace Mine
open PySem PySem.W PyProof.Rows
theorem k_type_can : ((Manifest.find? "type").bind fun x => List.findSome? (fun t => (Manifest.find? t).bind fun b =>
    if b.noNew = true then some true else if (b.attrs.any fun x => x.fst == "__new__") = true then some false else none) x.mro).getD false = false := by decide +kernel
theorem k_type_chk (a : Value) (b c : Addr) : checkTypeCall "type" ⟨[a, .ref b, .ref c], []⟩ = pure () := by kernel_rfl
theorem k_type_mro : mroOf (.type "type") = pure [.type "type", .type "object"] := by kernel_rfl
theorem k_type_made : Bind.madeBy (.type "type") = pure (some "type.__new__") := by kernel_rfl
theorem k_type_new (x : Str) (t : Tok) (b c : Addr) : checkBuiltinCall "type.__new__" ⟨[.type "type", .str x t, .ref b, .ref c], []⟩ = pure () := by kernel_rfl
theorem k_type_nentry : entryFor table "type.__new__" = some Builtin.«type.__new__» := entryFor_of_tree (by kernel_rfl)
theorem k_type_init : typeLookup (.type "type") "__init__" = pure (some (.builtin "type.__init__")) := by kernel_rfl
theorem k_type_ientry : entryFor table "type.__init__" = some Builtin.«type.__init__» := entryFor_of_tree (by kernel_rfl)
theorem k_type_islot : PySem.Slot "type" "__init__" "type.__init__" := .of k_type_init (owner := "type") (n := "__init__") (by decide +kernel) (by decide +kernel) (by decide +kernel) (.inl (by decide +kernel)) k_sub_tt
theorem k_type_iargs (C : Addr) (x : Str) (t : Tok) (b c : Addr) : argsOk "type.__init__" ⟨[.ref C, .str x t, .ref b, .ref c], []⟩ := by kernel_rfl
section
variable {prog : Program} {w : World} {A : Around} {E : Value → Shared → Prop} {h : Heap} {g : Array GenState} {d : Drawn} {t : Nat} {os : OsState}
/-- what the making of K leaves -/
structure MadeK (P : Params) (h h' : Heap) (C N dA : Addr) (qual mo : Str) (f1 f2 f3 f4 f5 f6 : Addr) : Prop where
  ext : Ext h h'
  newC : h.get? C = none
  newN : h.get? N = none
  cls : ∃ k0 k1 k2 k3 k5, h'.get? C = some (kObj (cdK C N qual) #[k0, k1, k2, k3, some (.builtin "object.__new__"), k5])
  ns : ∃ tk tmo fl tfl sl st tk9 t9 ep, h'.get? N = some (dictO (ents P (bodyL2 tk (.str mo tmo) (.int fl tfl) (.ref sl) (.ref f1) (.ref f2) (.ref f3) (.ref f4) (.ref f5) (.ref f6) (.ref st) ++ objE tk9 dA ++ docE t9)) ep)
  mem : ∃ td, h'.get? dA = some (memO "obj" td C 0)

theorem call_type_K {tk : _root_.Fin 12 → Tok} {mo : Str} {fl : Int} {tmo tfl tq tn ts : Tok} {sl nsA bA f1 f2 f3 f4 f5 f6 st : Addr} {ep e1 e2 : Nat} {qual : Str} {Q : Value → Shared → Prop}
    (hfs : ∀ f ∈ [f1, f2, f3, f4, f5, f6], ∃ o, h.get? f = some o ∧ o.cls = .type "function") (hstt : ∃ o, h.get? st = some o ∧ o.cls = .type "tuple")
    (hns : h.get? nsA = some (dictO (ents w.params (bodyL tk (.str mo tmo) (.str qual tq) (.int fl tfl) (.ref sl) (.ref f1) (.ref f2) (.ref f3) (.ref f4) (.ref f5) (.ref f6) (.ref st))) ep))
    (hsl : h.get? sl = some { cls := .type "list", data := .seq #[.str "obj" ts] e1 }) (hb : h.get? bA = some { cls := .type "tuple", data := .seq #[.type "object"] e2 }) (hst : h.Ns cStatics (fun _ => none)) (hsm : (nsA == sysModules) = false)
    (hqual : qual = "cmp_to_key.<locals>.K")
    (hq : ∀ h' C N dA t', MadeK w.params h h' C N dA qual mo f1 f2 f3 f4 f5 f6 → Q (.ref C) ⟨h', g, d, t', os⟩) :
    wpAny (model prog w) A (call (.type "type") [.str "K" tn, .ref bA, .ref nsA]) Q E ⟨h, g, d, t, os⟩ := by
  refine wpAny_call (codeAny_of_tree ?_)
  show wpAny _ _ (again (.builtin "type.__call__" ⟨[.type "type", .str "K" tn, .ref bA, .ref nsA], []⟩)) _ _ _
  refine wpAny_pure ⟨Code.quiet_builtin _ (by decide +kernel), codeAny_builtin entry_typeCall ?_⟩
  have hcan := k_type_can
  have hmro := k_type_mro
  have hmade := k_type_made
  have hck := k_type_chk (.str "K" tn) bA nsA
  repeat wp_step
  refine codeAny_call_builtin (by decide +kernel) k_type_nentry (wpAny_of_eq (k_type_new _ _ _ _) ?_)
  refine type_new_K hfs hstt hns hsl hb hst hsm hqual fun h' C N dA td tk9 t9 ep' t' x nC nN hC hN hd => ?_
  have hT : (⟨h', g, d, t', os⟩ : Shared).TypeIs (.ref C) "type" := ⟨_, hC, rfl⟩
  refine wpAny_bind (wpAny_isInstance hT k_sub_tt ?_)
  wp_step
  refine wpAny_bind (wpAny_holding (wpAny_callSpecial?_slot hT k_type_islot (wpAny_call (codeAny_call_builtin k_type_islot.plain k_type_ientry (k_type_islot.check _ _ _ _ _ _ _ _ hT (k_type_iargs _ _ _ _ _) ?_)))))
  unfold Builtin.«type.__init__»
  repeat wp_step
  exact hq h' C N dA t' ⟨x, nC, nN, ⟨_, _, _, _, _, hC⟩, ⟨_, _, _, _, _, _, _, _, _, hN⟩, ⟨_, hd⟩⟩
end
end Mine

set_option maxRecDepth 100000
set_option maxHeartbeats 4000000
namespace Mine
open PySem PySem.W PyProof.Rows PySem.Calls
section
variable {M : Model} {A : Around} {E : Value → Shared → Prop} {h : Heap} {g : Array GenState} {d : Drawn} {t : Nat} {os : OsState}
theorem localSet_ents {env : Env} {l : List Ent} {ep : Nat} {x : Str} {v : Value} {Q : Unit → Shared → Prop} (hN : h.get? env.locals = some (dictO (ents M.w.params l) ep))
    (hq : ∀ h' ep', Heap.SameBut env.locals h h' → h'.get? env.locals = some (dictO (ents M.w.params (put l t x v)) ep') → Q () ⟨h', g, d, t + 1, os⟩) : wpAny M A (localSet env x v) Q E ⟨h, g, d, t, os⟩ := by
  unfold localSet
  refine wpAny_bind (wpAny_load hN ?_)
  rw [if_pos (by rfl)]
  exact op_set hN hq

/-- the class body's run so far -/
structure CBody (P : Params) (hB h : Heap) (nsA Pt : Addr) (l : List Ent) (ps : Array Value) : Prop where
  keep : KB [nsA, Pt] hB h
  ns : ∃ ep, h.get? nsA = some (dictO (ents P l) ep)
  tab : h.get? Pt = some (tabObj ps)
  trip : TriplesOk ps.toList
theorem CBody.ne {P : Params} {hB h : Heap} {nsA Pt : Addr} {l : List Ent} {ps : Array Value} (c : CBody P hB h nsA Pt l ps) : nsA ≠ Pt := fun e => by
  obtain ⟨ep, q⟩ := c.ns
  rw [e, c.tab] at q
  exact absurd (congrArg Obj.cls (Option.some.inj q)) (by simp)

/-- x = a value that is made without heap -/
theorem cls_put {hB : Heap} {env : Env} {Pt : Addr} {l : List Ent} {ps : Array Value} {x : Str} {v : Value} {Q : Unit → Shared → Prop} (c : CBody M.w.params hB h env.locals Pt l ps) (hs : storeName env x v = localSet env x v)
    (hq : ∀ h', CBody M.w.params hB h' env.locals Pt (put l t x v) ps → Heap.SameBut env.locals h h' → Q () ⟨h', g, d, t + 1, os⟩) : wpAny M A (storeName env x v) Q E ⟨h, g, d, t, os⟩ := by
  rw [hs]
  obtain ⟨ep, hN⟩ := c.ns
  refine localSet_ents hN fun h' ep' hs' hn' => hq h' ⟨c.keep.trans (KB.of_same hs' (by simp)), ⟨ep', hn'⟩, same_get hs' c.tab c.ne.symm, c.trip⟩ hs'
theorem cls_str {hB : Heap} {env : Env} {Pt : Addr} {l : List Ent} {ps : Array Value} {x z : Str} {k : Nat} {p p2 pos : Pos} {Q : Flow → Shared → Prop} (c : CBody M.w.params hB h env.locals Pt l ps) (hs : ∀ v, storeName env x v = localSet env x v)
    (hq : ∀ h', CBody M.w.params hB h' env.locals Pt (put l (t + 1) x (.str z t)) ps → Heap.SameBut env.locals h h' → Q .next ⟨h', g, d, t + 2, os⟩)
    (hw : ∀ env : Env, swapsWith (.Constant (.str z) k p2) (some (.Name x p)) pos.line env = pure false := by intro _; rfl) : wpAny M A (exec (.Assign [.Name x p] (.Constant (.str z) k p2) pos) env) Q E ⟨h, g, d, t, os⟩ := by
  refine wpAny_Assign_Name ?_ (hw env)
  show wpAny _ _ (mkText z) _ _ _
  refine wpAny_mkText (cls_put c (hs _) fun h' c' s' => hq h' c' s')
theorem cls_none {hB : Heap} {env : Env} {Pt : Addr} {l : List Ent} {ps : Array Value} {x : Str} {k : Nat} {p p2 pos : Pos} {Q : Flow → Shared → Prop} (c : CBody M.w.params hB h env.locals Pt l ps) (hs : ∀ v, storeName env x v = localSet env x v)
    (hq : ∀ h', CBody M.w.params hB h' env.locals Pt (put l t x .none) ps → Heap.SameBut env.locals h h' → Q .next ⟨h', g, d, t + 1, os⟩)
    (hw : ∀ env : Env, swapsWith (.Constant .none k p2) (some (.Name x p)) pos.line env = pure false := by intro _; rfl) : wpAny M A (exec (.Assign [.Name x p] (.Constant .none k p2) pos) env) Q E ⟨h, g, d, t, os⟩ := by
  refine wpAny_Assign_Name ?_ (hw env)
  show wpAny _ _ (pure Value.none) _ _ _
  refine wpAny_pure (cls_put c (hs _) fun h' c' s' => hq h' c' s')
theorem ev_list1 {env : Env} {z : Str} {k : Nat} {p2 p3 : Pos} {Q : Value → Shared → Prop} (hq : Q (.ref h.objs.size) ⟨h.push { cls := .type "list", data := .seq #[.str z t] 0 }, g, d, t + 1, os⟩) :
    wpAny M A (eval (.List [.Constant (.str z) k p2] p3) env) Q E ⟨h, g, d, t, os⟩ := by
  show wpAny _ _ (do standAt p3; newList (← spliced (backTo p3 (starEach [.Constant (.str z) k p2] env)))) _ _ _
  refine wpAny_bind (wpAny_standAt (wpAny_bind ?_))
  repeat wp_step
  exact hq
/-- a list of one str -/
theorem cls_list {hB : Heap} {env : Env} {Pt : Addr} {l : List Ent} {ps : Array Value} {x z : Str} {k : Nat} {p p2 p3 pos : Pos} {Q : Flow → Shared → Prop} (c : CBody M.w.params hB h env.locals Pt l ps) (hs : ∀ v, storeName env x v = localSet env x v)
    (hq : ∀ h' sl, CBody M.w.params hB h' env.locals Pt (put l (t + 1) x (.ref sl)) ps → h'.get? sl = some { cls := .type "list", data := .seq #[.str z t] 0 } → sl ≠ env.locals → sl ≠ Pt → hB.get? sl = none → KB [env.locals, Pt] h h' → Q .next ⟨h', g, d, t + 2, os⟩)
    (hw : ∀ env : Env, swapsWith (.List [.Constant (.str z) k p2] p3) (some (.Name x p)) pos.line env = pure false := by intro _; rfl) : wpAny M A (exec (.Assign [.Name x p] (.List [.Constant (.str z) k p2] p3) pos) env) Q E ⟨h, g, d, t, os⟩ := by
  refine wpAny_Assign_Name ?_ (hw env)
  obtain ⟨ep, hN⟩ := c.ns
  refine ev_list1 ?_
  have c1 : CBody M.w.params hB (h.push { cls := .type "list", data := .seq #[.str z t] 0 }) env.locals Pt l ps := ⟨c.keep.trans (KB.of_ext (Ext.push _ _)), ⟨ep, Heap.get?_push_of_some _ hN⟩, Heap.get?_push_of_some _ c.tab, c.trip⟩
  have hl : h.objs.size ≠ env.locals := Nat.ne_of_gt (Heap.lt_size hN)
  have hp : h.objs.size ≠ Pt := Nat.ne_of_gt (Heap.lt_size c.tab)
  refine cls_put c1 (hs _) fun h2 c2 s2 => hq h2 h.objs.size c2 (same_get s2 (Heap.get?_push_size _ rfl) hl) hl hp ?_ ((KB.of_ext (Ext.push _ _)).trans (KB.of_same s2 (by simp)))
  cases q : hB.get? h.objs.size with
  | none => rfl
  | some o => exact absurd (Heap.lt_size (c.keep _ _ (by simp [hl, hp]) q)) (Nat.lt_irrefl _)
/-- a def in the class's body -/
theorem cls_def {hB : Heap} {env : Env} {c0 Pt : Addr} {l : List Ent} {ps : Array Value} {name : Str} {params : Arguments} {body : List Stmt} {scope : Scope} {pos : Pos} {clos : List (Str × Addr)} {mg : Str → Option Value} {Q : Flow → Shared → Prop} (c : CBody M.w.params hB h env.locals Pt l ps)
    (hd0 : params.defaults = []) (hk0 : params.kw_defaults = []) (ha : annTrees params none env = []) (hs : ∀ v, storeName env name v = localSet env name v) (hcl : closureFor scope env = pure clos) (hge : env.globals = mainGlobals) (hcode : env.code = .ref c0)
    (hg : h.Ns mainGlobals mg) (C : CodeHd h c0 Pt) (hnf : codeAmong pos ps.toList = none) (hgP : mainGlobals ≠ Pt) (hb : h.BuiltinsAt mg Pt)
    (hq : ∀ h' f c' ctv doc t' tk, CBody M.w.params hB h' env.locals Pt (put l tk name (.ref f)) (ps ++ #[rawInt pos.line, rawInt pos.col, .ref c']) → KB [env.locals, Pt] h h' →
      h'.get? f = some (fnMade name (qualnameIn env name name) params body scope clos doc ((mg "__name__").getD .none) c' ctv) → h'.CodeRec (.ref c') (qualnameIn env name name) → h.get? f = none → h.get? c' = none → Q .next ⟨h', g, d, t', os⟩) :
    wpAny M A (exec (.FunctionDef name params body [] none [] scope none name pos) env) Q E ⟨h, g, d, t, os⟩ := by
  refine nestDef_K hd0 hk0 ha ?_
  refine makeFunction_K (mg := mg) hcl hge hg hcode C c.tab c.trip hnf hgP hb fun c' ctv doc h1 tk hx hge1 hlt hrec htb => ?_
  have hLP := c.ne
  obtain ⟨ep, hN⟩ := c.ns
  have hN1 : h1.get? env.locals = some (dictO (ents M.w.params l) ep) := hx _ _ hLP hN
  have kb1 : KB [env.locals, Pt] h (h1.push (fnMade name (qualnameIn env name name) params body scope clos doc ((mg "__name__").getD .none) c' ctv)) := fun b o hb e => Heap.get?_push_of_some _ (hx b o (fun q => hb (by rw [q]; simp)) e)
  have c1 : CBody M.w.params hB (h1.push (fnMade name (qualnameIn env name name) params body scope clos doc ((mg "__name__").getD .none) c' ctv)) env.locals Pt l (ps ++ #[rawInt pos.line, rawInt pos.col, .ref c']) :=
    ⟨c.keep.trans kb1, ⟨ep, Heap.get?_push_of_some _ hN1⟩, Heap.get?_push_of_some _ htb, by rw [Array.toList_append]; exact TriplesOk_snoc _ _ _ _ c.trip⟩
  have hfn : h.get? h1.objs.size = none := by
    cases q : h.get? h1.objs.size with
    | none => rfl
    | some o =>
      exfalso
      by_cases hp : h1.objs.size = Pt
      · exact absurd (Heap.lt_size htb) (by rw [hp]; exact Nat.lt_irrefl _)
      · exact absurd (Heap.lt_size (hx _ _ hp q)) (Nat.lt_irrefl _)
  have hfl : h1.objs.size ≠ env.locals := Nat.ne_of_gt (Heap.lt_size hN1)
  refine cls_put c1 (hs _) fun h2 c2 s2 => ?_
  refine hq h2 h1.objs.size c' ctv doc _ tk c2 (kb1.trans (KB.of_same s2 (by simp))) (same_get s2 (Heap.get?_push_size _ rfl) hfl) ?_ hfn (Heap.get?_none_of_le hge1)
  obtain ⟨cc, oc, vs, tt, e1, e2, e3, e4⟩ := hrec
  exact ⟨cc, oc, vs, tt, e1, same_get s2 (Heap.get?_push_of_some _ e2) (fun q => by rw [q, hN1] at e2; cases e2; cases e3), e3, e4⟩
end
end Mine

set_option maxRecDepth 100000
set_option maxHeartbeats 4000000
namespace Mine
open PySem PySem.W PyProof.Rows PySem.Calls

/-- what a def in the class's body leans on -/
structure CEnv (h : Heap) (nsA Pt c0 : Addr) (mg : Str → Option Value) : Prop where
  g : h.Ns mainGlobals mg
  code : CodeHd h c0 Pt
  blt : h.BuiltinsAt mg Pt
  gP : mainGlobals ≠ Pt
  gN : mainGlobals ≠ nsA
  cN : c0 ≠ nsA
  bN : ∀ bm, mg "__builtins__" = some (.ref bm) → bm ≠ nsA
theorem codeHd_kb {h h' : Heap} {nsA Pt c0 : Addr} (x : CodeHd h c0 Pt) (hc : c0 ≠ nsA) (k : KB [nsA, Pt] h h') : CodeHd h' c0 Pt := by
  unfold CodeHd at *
  obtain ⟨o, vs, file, tf, flags, tg, inF, text, tt, e, r1, r2, r3, r4, r5, r6, r7, r8, hne⟩ := x
  exact ⟨o, vs, file, tf, flags, tg, inF, text, tt, k _ _ (by simp [hc, hne]) e, r1, r2, r3, r4, r5, r6, r7, r8, hne⟩
theorem CEnv.kb {h h' : Heap} {nsA Pt c0 : Addr} {mg : Str → Option Value} (c : CEnv h nsA Pt c0 mg) (k : KB [nsA, Pt] h h') : CEnv h' nsA Pt c0 mg := by
  obtain ⟨⟨o, es, ep, e, r⟩, cd, ⟨bm, ob, e1, e2, e3, e4, e5, r'⟩, gP, gN, cN, bN⟩ := c
  exact ⟨⟨o, es, ep, k _ _ (by simp [gP, gN]) e, r⟩, codeHd_kb cd cN k, ⟨bm, ob, e1, e2, e3, e4, k _ _ (by simp [bN bm e1, e4]) e5, r'⟩, gP, gN, cN, bN⟩

/-- a def of the class's body -/
structure MDef where
  name : Str
  params : Arguments
  body : List Stmt
  scope : Scope
  pos : Pos
noncomputable def MDef.stmt (m : MDef) : Stmt := .FunctionDef m.name m.params m.body [] none [] m.scope none m.name m.pos
structure MDef.Ok (m : MDef) (env : Env) (clos : List (Str × Addr)) : Prop where
  d : m.params.defaults = []
  k : m.params.kw_defaults = []
  a : annTrees m.params none env = []
  s : ∀ v, storeName env m.name v = localSet env m.name v
  cl : closureFor m.scope env = pure clos
/-- the function that a def has left -/
noncomputable def MDef.At (m : MDef) (env : Env) (clos : List (Str × Addr)) (pm : Value) (h : Heap) (f : Addr) : Prop :=
  ∃ doc c' ctv, h.get? f = some (fnMade m.name (qualnameIn env m.name m.name) m.params m.body m.scope clos doc pm c' ctv) ∧ h.CodeRec (.ref c') (qualnameIn env m.name m.name)
theorem trip_str {l : List Value} {x : Str} {t : Tok} (h : TriplesOk l) (e : l[1]? = some (.str x t)) : False := by
  unfold TriplesOk at h
  split at h
  · simp at e
  · simp at e
  · exact h
theorem MDef.At.kb {m : MDef} {env : Env} {clos : List (Str × Addr)} {pm : Value} {h h' : Heap} {f nsA Pt : Addr} {l : List Ent} {P : Params} {ep : Nat} {ps : Array Value} (x : m.At env clos pm h f) (hN : h.get? nsA = some (dictO (ents P l) ep)) (hP : h.get? Pt = some (tabObj ps)) (ht : TriplesOk ps.toList) (k : KB [nsA, Pt] h h') : m.At env clos pm h' f := by
  obtain ⟨doc, c', ctv, e, cc, oc, vs, tt, q1, q2, q3, q4⟩ := x
  refine ⟨doc, c', ctv, k _ _ (fun q => ?_) e, cc, oc, vs, tt, q1, k _ _ (fun q => ?_) q2, q3, q4⟩
  · rcases List.mem_cons.mp q with q | q
    · rw [q, hN] at e; exact absurd (congrArg Obj.data (Option.some.inj e)) (by simp)
    · rw [List.mem_singleton.mp q, hP] at e; exact absurd (congrArg Obj.cls (Option.some.inj e)) (by simp)
  · rcases List.mem_cons.mp q with q | q
    · rw [q, hN] at q2; cases q2; cases q3
    · rw [List.mem_singleton.mp q, hP] at q2
      cases q2; cases q3
      exact trip_str ht (by rw [Array.getElem?_toList]; exact q4)

section
variable {M : Model} {A : Around} {E : Value → Shared → Prop} {h : Heap} {g : Array GenState} {d : Drawn} {t : Nat} {os : OsState}
theorem cls_step {hB : Heap} {env : Env} {c0 Pt : Addr} {l : List Ent} {ps : Array Value} {m : MDef} {clos : List (Str × Addr)} {mg : Str → Option Value} {Q : Flow → Shared → Prop} (c : CBody M.w.params hB h env.locals Pt l ps) (ce : CEnv h env.locals Pt c0 mg) (mo : m.Ok env clos)
    (hge : env.globals = mainGlobals) (hcode : env.code = .ref c0) (hnf : codeAmong m.pos ps.toList = none)
    (hq : ∀ h' f c' t' tk, CBody M.w.params hB h' env.locals Pt (put l tk m.name (.ref f)) (ps ++ #[rawInt m.pos.line, rawInt m.pos.col, .ref c']) → KB [env.locals, Pt] h h' → CEnv h' env.locals Pt c0 mg →
      m.At env clos ((mg "__name__").getD .none) h' f → Q .next ⟨h', g, d, t', os⟩) :
    wpAny M A (exec m.stmt env) Q E ⟨h, g, d, t, os⟩ :=
  cls_def c mo.d mo.k mo.a mo.s mo.cl hge hcode ce.g ce.code hnf ce.gP ce.blt fun h' f c' ctv doc t' tk c1 k1 hf hr _ _ => hq h' f c' t' tk c1 k1 (ce.kb k1) ⟨doc, c', ctv, hf, hr⟩
end
end Mine

set_option maxRecDepth 100000
set_option maxHeartbeats 4000000
namespace Mine
open PySem PySem.W PyProof.Rows PySem.Calls

noncomputable def kStmt : Stmt := (bodyOf PySem.Challenge.pw_dm0117_12 "cmp_to_key").headD default
noncomputable def kBody : List Stmt := match kStmt with | .ClassDef _ _ _ b _ _ _ _ _ _ _ => b | _ => []
noncomputable def kScope : Scope := match kStmt with | .ClassDef _ _ _ _ _ _ sc _ _ _ _ => sc | _ => default
noncomputable def kPos : Pos := match kStmt with | .ClassDef _ _ _ _ _ _ _ _ _ _ p => p | _ => default
noncomputable def kDef (i : Nat) : MDef := match kBody[i]? with | some (.FunctionDef n a b _ _ _ sc _ _ pos) => ⟨n, a, b, sc, pos⟩ | _ => ⟨"", default, [], default, default⟩
noncomputable def asgPos (i : Nat) : Pos × Pos × Pos × Pos := match kBody[i]? with
  | some (.Assign [.Name _ p] (.Constant _ _ p2) q) => (p, p2, q, default)
  | some (.Assign [.Name _ p] (.List [.Constant _ _ p2] p3) q) => (p, p2, q, p3)
  | _ => default
theorem kBody_eq : kBody = [.Assign [.Name "__module__" (asgPos 0).1] (.Constant (.str "cpy313.functools") 0 (asgPos 0).2.1) (asgPos 0).2.2.1, .Assign [.Name "__slots__" (asgPos 1).1] (.List [.Constant (.str "obj") 0 (asgPos 1).2.1] (asgPos 1).2.2.2) (asgPos 1).2.2.1,
  (kDef 2).stmt, (kDef 3).stmt, (kDef 4).stmt, (kDef 5).stmt, (kDef 6).stmt, (kDef 7).stmt, .Assign [.Name "__hash__" (asgPos 8).1] (.Constant .none 0 (asgPos 8).2.1) (asgPos 8).2.2.1] := by kernel_rfl
theorem kScope_kind : kScope.kind = .class := by kernel_rfl
theorem store_cls {env : Env} {x : Str} (hsc : env.scope = kScope) (hx : kScope.names.lookup x = some .local) (v : Value) : storeName env x v = localSet env x v := by
  have hk : env.kindOf x = some .local := by unfold Env.kindOf; rw [hsc]; exact hx
  have hc : env.scope.kind = .class := by rw [hsc]; exact kScope_kind
  unfold storeName
  rw [hk]
  simp only [hc]
  rfl
theorem k_names_eq : (kDef 2).name = "__init__" ∧ (kDef 3).name = "__lt__" ∧ (kDef 4).name = "__gt__" ∧ (kDef 5).name = "__eq__" ∧ (kDef 6).name = "__le__" ∧ (kDef 7).name = "__ge__" := by
  refine ⟨?_, ?_, ?_, ?_, ?_, ?_⟩ <;> kernel_rfl
theorem kDef_ok0 {env : Env} (hsc : env.scope = kScope) : (kDef 2).Ok env [] where
  d := by kernel_rfl
  k := by kernel_rfl
  a := by kernel_rfl
  s := store_cls hsc (by kernel_rfl)
  cl := by kernel_rfl
theorem kDef_ok {env : Env} {ca : Addr} (hsc : env.scope = kScope) (hce : env.cells = [(("mycmp" : Str), ca)]) (i : Nat) (hi : i ∈ [3, 4, 5, 6, 7]) : (kDef i).Ok env [(("mycmp" : Str), ca)] := by
  obtain ⟨sc, lo, gl, ce, qu, fn, co, fr, bu⟩ := env
  simp only at hsc hce
  subst hsc; subst hce
  simp only [List.mem_cons, List.not_mem_nil, or_false] at hi
  rcases hi with rfl | rfl | rfl | rfl | rfl
  all_goals exact ⟨by kernel_rfl, by kernel_rfl, by kernel_rfl, store_cls rfl (by kernel_rfl), by kernel_rfl⟩
end Mine

set_option maxRecDepth 100000
set_option maxHeartbeats 1000000
namespace Mine
open PySem PySem.W PyProof.Rows PySem.Calls

theorem codeAmong_other {p : Pos} {q : Pos} {c : Value} (hne : ((q.line : Int) == p.line && (q.col : Int) == p.col) = false) : ∀ (l : List Value), TriplesOk l → codeAmong p l = none → codeAmong p (l ++ [rawInt q.line, rawInt q.col, c]) = none := by
  intro l h hn
  fun_induction TriplesOk l with
  | case1 => simp only [List.nil_append, rawInt, codeAmong, hne, Bool.false_eq_true, if_false]
  | case2 a t b u x rest ih =>
    simp only [List.cons_append, codeAmong] at hn ⊢
    split at hn
    · cases hn
    · rename_i hb
      rw [if_neg hb]
      exact ih h hn
  | case3 => cases h

noncomputable def posNe (q p : Pos) : Bool := !((q.line : Int) == p.line && (q.col : Int) == p.col)

/-- the class body's run, with the places of the defs to come -/
structure CB (P : Params) (hB h : Heap) (nsA Pt : Addr) (l : List Ent) (pend : List Pos) : Prop where
  ex : ∃ ps, CBody P hB h nsA Pt l ps ∧ ∀ p ∈ pend, codeAmong p ps.toList = none
theorem CB.cast {P : Params} {hB h : Heap} {nsA Pt : Addr} {l l' : List Ent} {ps : List Pos} (c : CB P hB h nsA Pt l ps) (e : l = l') : CB P hB h nsA Pt l' ps := e ▸ c

noncomputable def resL (ms : List (MDef × List (Str × Addr))) (rs : List (Tok × Addr)) : List Ent := List.zipWith (fun m r => (r.1, m.1.name, Value.ref r.2)) ms rs

theorem put_new {l : List Ent} {t : Tok} {x : Str} {v : Value} (h : ∀ e ∈ l, (e.2.1 == x) = false) : put l t x v = l ++ [(t, x, v)] := by
  unfold put
  have : l.findIdx? (fun e => e.2.1 == x) = none := List.findIdx?_eq_none_iff.mpr h
  rw [this]

section
variable {M : Model} {A : Around} {E : Value → Shared → Prop}
theorem cls_defs {hB : Heap} {env : Env} {c0 Pt : Addr} {mg : Str → Option Value} {Q : Flow → Shared → Prop} {g : Array GenState} {d : Drawn} {os : OsState} {rest : List Stmt} (hge : env.globals = mainGlobals) (hcode : env.code = .ref c0) :
    ∀ (ms : List (MDef × List (Str × Addr))) (l : List Ent) (h : Heap) (t : Nat), CB M.w.params hB h env.locals Pt l (ms.map (·.1.pos)) → CEnv h env.locals Pt c0 mg → (∀ m ∈ ms, m.1.Ok env m.2) →
      (∀ m ∈ ms, ∀ e ∈ l, (e.2.1 == m.1.name) = false) → ms.Pairwise (fun a b => (a.1.name == b.1.name) = false ∧ posNe a.1.pos b.1.pos = true) →
      (∀ h' (rs : List (Tok × Addr)) t', rs.length = ms.length → CB M.w.params hB h' env.locals Pt (l ++ resL ms rs) [] → KB [env.locals, Pt] h h' → CEnv h' env.locals Pt c0 mg →
        (∀ (i : Nat) m r, ms[i]? = some m → rs[i]? = some r → m.1.At env m.2 ((mg "__name__").getD .none) h' r.2) → wpAny M A (execs rest env) Q E ⟨h', g, d, t', os⟩) →
      wpAny M A (execs (ms.map (·.1.stmt) ++ rest) env) Q E ⟨h, g, d, t, os⟩ := by
  intro ms
  induction ms with
  | nil =>
    intro l h t c ce _ _ _ hq
    exact hq h [] t rfl (by simpa [resL] using c) (KB.refl _ _) ce (fun i m r e => by simp at e)
  | cons m ms ih =>
    intro l h t c ce hok hl hpw hq
    obtain ⟨ps, cb, hps⟩ := c.ex
    obtain ⟨hp1, hp2⟩ := List.pairwise_cons.mp hpw
    refine wpAny_execs_cons (cls_step cb ce (hok m List.mem_cons_self) hge hcode (hps _ List.mem_cons_self) fun h1 f c1 t1 tk b1 k1 ce1 a1 => ?_)
    have epl : put l tk m.1.name (.ref f) = l ++ [(tk, m.1.name, .ref f)] := put_new (hl m List.mem_cons_self)
    rw [epl] at b1
    have C1 : CB M.w.params hB h1 env.locals Pt (l ++ [(tk, m.1.name, .ref f)]) (ms.map (·.1.pos)) := ⟨_, b1, fun p hp => by
      obtain ⟨m', hm', rfl⟩ := List.mem_map.mp hp
      rw [Array.toList_append]
      refine codeAmong_other ?_ _ cb.trip (hps _ (List.mem_cons_of_mem _ (List.mem_map_of_mem (f := fun x : MDef × List (Str × Addr) => x.1.pos) hm')))
      have := (hp1 m' hm').2
      simpa only [posNe, Bool.not_eq_true'] using this⟩
    refine ih (l ++ [(tk, m.1.name, .ref f)]) h1 t1 C1 ce1 (fun m' hm' => hok m' (List.mem_cons_of_mem _ hm')) (fun m' hm' e he => ?_) hp2 fun h' rs t' hlen C' k' ce' ha => ?_
    · rcases List.mem_append.mp he with he | he
      · exact hl m' (List.mem_cons_of_mem _ hm') e he
      · rw [List.mem_singleton.mp he]; exact (hp1 m' hm').1
    · refine hq h' ((tk, f) :: rs) t' (by simp [hlen]) (C'.cast (by simp [resL])) (k1.trans k') ce' fun i mm r hi hr => ?_
      cases i with
      | zero =>
        simp only [List.getElem?_cons_zero, Option.some.injEq] at hi hr
        subst hi; subst hr
        obtain ⟨ep1, hN1⟩ := b1.ns
        exact a1.kb hN1 b1.tab b1.trip k'
      | succ i =>
        simp only [List.getElem?_cons_succ] at hi hr
        exact ha i mm r hi hr
end
end Mine

set_option maxRecDepth 100000
set_option maxHeartbeats 1000000
namespace Mine
open PySem PySem.W PyProof.Rows PySem.Calls

noncomputable abbrev headL (t0 t1 t2 : Tok) (v0 qn fl : Value) : List Ent := [(t0, "__module__", v0), (t1, "__qualname__", qn), (t2, "__firstlineno__", fl)]
noncomputable abbrev kMs (ca : Addr) : List (MDef × List (Str × Addr)) := [(kDef 2, []), (kDef 3, [(("mycmp" : Str), ca)]), (kDef 4, [(("mycmp" : Str), ca)]), (kDef 5, [(("mycmp" : Str), ca)]), (kDef 6, [(("mycmp" : Str), ca)]), (kDef 7, [(("mycmp" : Str), ca)])]
theorem kMs_apart (ca : Addr) : (kMs ca).Pairwise (fun a b => (a.1.name == b.1.name) = false ∧ posNe a.1.pos b.1.pos = true) := by
  have h : ([kDef 2, kDef 3, kDef 4, kDef 5, kDef 6, kDef 7] : List MDef).Pairwise (fun a b => (a.name == b.name) = false ∧ posNe a.pos b.pos = true) := by decide +kernel
  have e : (kMs ca).map (·.1) = [kDef 2, kDef 3, kDef 4, kDef 5, kDef 6, kDef 7] := rfl
  rw [← e, List.pairwise_map] at h
  exact h
noncomputable def kPast : List Str := ["__module__", "__qualname__", "__firstlineno__", "__slots__"]
theorem kMs_new (ca : Addr) : ∀ m ∈ kMs ca, ∀ x ∈ kPast, (x == m.1.name) = false := by
  have h : ∀ m ∈ ([kDef 2, kDef 3, kDef 4, kDef 5, kDef 6, kDef 7] : List MDef), ∀ x ∈ kPast, (x == m.name) = false := by decide +kernel
  intro m hm
  exact h m.1 (by have := List.mem_map_of_mem (f := fun x : MDef × List (Str × Addr) => x.1) hm; exact this)
/-- the entries that K's body leaves -/
noncomputable abbrev runL (t0 t1 t2 t3 t10 : Tok) (r1 r2 r3 r4 r5 r6 : Tok × Addr) (mo qn fl sl : Value) : List Ent :=
  [(t0, "__module__", mo), (t1, "__qualname__", qn), (t2, "__firstlineno__", fl), (t3, "__slots__", sl), (r1.1, "__init__", .ref r1.2), (r2.1, "__lt__", .ref r2.2), (r3.1, "__gt__", .ref r3.2), (r4.1, "__eq__", .ref r4.2), (r5.1, "__le__", .ref r5.2), (r6.1, "__ge__", .ref r6.2), (t10, "__hash__", .none)]
theorem len6 {α : Type} {l : List α} (h : l.length = 6) : ∃ a b c d e f, l = [a, b, c, d, e, f] := by
  rcases l with _ | ⟨a, _ | ⟨b, _ | ⟨c, _ | ⟨d, _ | ⟨e, _ | ⟨f, _ | ⟨g, l⟩⟩⟩⟩⟩⟩⟩ <;> simp at h
  exact ⟨a, b, c, d, e, f, rfl⟩
theorem resL_k (ca : Addr) (r1 r2 r3 r4 r5 r6 : Tok × Addr) : resL (kMs ca) [r1, r2, r3, r4, r5, r6] = ([(r1.1, "__init__", .ref r1.2), (r2.1, "__lt__", .ref r2.2), (r3.1, "__gt__", .ref r3.2), (r4.1, "__eq__", .ref r4.2), (r5.1, "__le__", .ref r5.2), (r6.1, "__ge__", .ref r6.2)] : List Ent) := by
  obtain ⟨e1, e2, e3, e4, e5, e6⟩ := k_names_eq
  simp only [resL, List.zipWith, e1, e2, e3, e4, e5, e6]
section
variable {M : Model} {A : Around} {E : Value → Shared → Prop} {h : Heap} {g : Array GenState} {d : Drawn} {t : Nat} {os : OsState}
theorem cls_run {hB : Heap} {env : Env} {c0 Pt ca : Addr} {t0 t1 t2 : Tok} {v0 qn fl : Value} {mg : Str → Option Value} {Q : Flow → Shared → Prop} (hsc : env.scope = kScope) (hce : env.cells = [(("mycmp" : Str), ca)])
    (hge : env.globals = mainGlobals) (hcode : env.code = .ref c0) (c : CBody M.w.params hB h env.locals Pt (headL t0 t1 t2 v0 qn fl) #[]) (ce : CEnv h env.locals Pt c0 mg)
    (hq : ∀ h' t3 t10 tmo ts sl r1 r2 r3 r4 r5 r6 t', CB M.w.params hB h' env.locals Pt (runL t0 t1 t2 t3 t10 r1 r2 r3 r4 r5 r6 (.str "cpy313.functools" tmo) qn fl (.ref sl)) [] →
      CEnv h' env.locals Pt c0 mg → KB [env.locals, Pt] h h' → h'.get? sl = some { cls := .type "list", data := .seq #[.str "obj" ts] 0 } →
      (kDef 2).At env [] ((mg "__name__").getD .none) h' r1.2 → (kDef 3).At env [(("mycmp" : Str), ca)] ((mg "__name__").getD .none) h' r2.2 →
      (kDef 4).At env [(("mycmp" : Str), ca)] ((mg "__name__").getD .none) h' r3.2 → (kDef 5).At env [(("mycmp" : Str), ca)] ((mg "__name__").getD .none) h' r4.2 →
      (kDef 6).At env [(("mycmp" : Str), ca)] ((mg "__name__").getD .none) h' r5.2 → (kDef 7).At env [(("mycmp" : Str), ca)] ((mg "__name__").getD .none) h' r6.2 →
      Q .next ⟨h', g, d, t', os⟩) :
    wpAny M A (execs kBody env) Q E ⟨h, g, d, t, os⟩ := by
  have hbody : kBody = .Assign [.Name "__module__" (asgPos 0).1] (.Constant (.str "cpy313.functools") 0 (asgPos 0).2.1) (asgPos 0).2.2.1 :: .Assign [.Name "__slots__" (asgPos 1).1] (.List [.Constant (.str "obj") 0 (asgPos 1).2.1] (asgPos 1).2.2.2) (asgPos 1).2.2.1 ::
    ((kMs ca).map (·.1.stmt) ++ [.Assign [.Name "__hash__" (asgPos 8).1] (.Constant .none 0 (asgPos 8).2.1) (asgPos 8).2.2.1]) := kBody_eq
  rw [hbody]
  refine wpAny_execs_cons (cls_str c (store_cls hsc (by kernel_rfl)) (fun h1 c1 s1 => ?_))
  have k1 : KB [env.locals, Pt] h h1 := KB.of_same s1 (by simp)
  have ce1 := ce.kb k1
  have e1 : put (headL t0 t1 t2 v0 qn fl) (t + 1) "__module__" (.str "cpy313.functools" t) = headL t0 t1 t2 (.str "cpy313.functools" t) qn fl := by kernel_rfl
  rw [e1] at c1
  refine wpAny_execs_cons (cls_list c1 (store_cls hsc (by kernel_rfl)) (fun h2 sl c2 hsl hsl1 hsl2 hsl3 k2 => ?_))
  have ce2 := ce1.kb k2
  have e2 : put (headL t0 t1 t2 (.str "cpy313.functools" t) qn fl) (t + 2 + 1) "__slots__" (.ref sl) = ([(t0, "__module__", .str "cpy313.functools" t), (t1, "__qualname__", qn), (t2, "__firstlineno__", fl), (t + 2 + 1, "__slots__", .ref sl)] : List Ent) := by kernel_rfl
  rw [e2] at c2
  refine cls_defs hge hcode (kMs ca) _ h2 _ ⟨#[], c2, fun p _ => rfl⟩ ce2 ?_ ?_ (kMs_apart ca) fun h3 rs t3 hlen C3 k3 ce3 ha => ?_
  · intro m hm
    simp only [kMs, List.mem_cons, List.not_mem_nil, or_false] at hm
    rcases hm with rfl | rfl | rfl | rfl | rfl | rfl
    · exact kDef_ok0 hsc
    · exact kDef_ok hsc hce 3 (by simp)
    · exact kDef_ok hsc hce 4 (by simp)
    · exact kDef_ok hsc hce 5 (by simp)
    · exact kDef_ok hsc hce 6 (by simp)
    · exact kDef_ok hsc hce 7 (by simp)
  · intro m hm e he
    refine kMs_new ca m hm e.2.1 ?_
    simp only [List.mem_cons, List.not_mem_nil, or_false] at he
    rcases he with rfl | rfl | rfl | rfl <;> simp [kPast]
  · obtain ⟨r1, r2, r3, r4, r5, r6, rfl⟩ := len6 hlen
    · rw [resL_k] at C3
      obtain ⟨ps, cb, _⟩ := C3.ex
      refine wpAny_execs_cons (cls_none cb (store_cls hsc (by kernel_rfl)) (fun h4 c4 s4 => ?_))
      have k4 : KB [env.locals, Pt] h3 h4 := KB.of_same s4 (by simp)
      have e4 : put (([(t0, "__module__", .str "cpy313.functools" t), (t1, "__qualname__", qn), (t2, "__firstlineno__", fl), (t + 2 + 1, "__slots__", .ref sl)] : List Ent) ++ ([(r1.1, "__init__", .ref r1.2), (r2.1, "__lt__", .ref r2.2), (r3.1, "__gt__", .ref r3.2), (r4.1, "__eq__", .ref r4.2), (r5.1, "__le__", .ref r5.2), (r6.1, "__ge__", .ref r6.2)] : List Ent)) t3 "__hash__" .none
        = runL t0 t1 t2 (t + 2 + 1) t3 r1 r2 r3 r4 r5 r6 (.str "cpy313.functools" t) qn fl (.ref sl) := by kernel_rfl
      rw [e4] at c4
      refine wpAny_execs_nil ?_
      obtain ⟨ep3, hN3⟩ := cb.ns
      have kk : ∀ {m : MDef} {cl : List (Str × Addr)} {f : Addr}, m.At env cl ((mg "__name__").getD .none) h3 f → m.At env cl ((mg "__name__").getD .none) h4 f := fun a => a.kb hN3 cb.tab cb.trip k4
      refine hq h4 (t + 2 + 1) t3 t (t + 2) sl r1 r2 r3 r4 r5 r6 _ ⟨ps, c4, fun p hp => by cases hp⟩ (ce3.kb k4) (k1.trans (k2.trans (k3.trans k4))) (k4 _ _ (by simp [hsl1, hsl2]) (k3 _ _ (by simp [hsl1, hsl2]) hsl)) (kk (ha 0 _ _ rfl rfl)) (kk (ha 1 _ _ rfl rfl)) (kk (ha 2 _ _ rfl rfl)) (kk (ha 3 _ _ rfl rfl)) (kk (ha 4 _ _ rfl rfl)) (kk (ha 5 _ _ rfl rfl))
end
end Mine

set_option maxRecDepth 100000
set_option maxHeartbeats 1000000
namespace Mine
open PySem PySem.W PyProof.Rows PySem.Calls
theorem k_typeOf_type : typeOf (.type "type") = pure (.type "type") := by kernel_rfl
theorem k_ga_type : typeLookup (.type "type") "__getattribute__" = pure (some (.builtin "type.__getattribute__")) := by kernel_rfl
theorem k_opq_type : opaqueClassAbove (.type "type") = pure none := by kernel_rfl
theorem k_prep_find : findCls [] (.type "type") (.type "type") "__prepare__" = some (.get (.builtin "classmethod_descriptor.__get__") (.builtin "type.__prepare__") .none (.type "type")) := by kernel_rfl
theorem k_prep_get : checkBuiltinCall "classmethod_descriptor.__get__" ⟨[.builtin "type.__prepare__", .none, .type "type"], []⟩ = pure () := by kernel_rfl
theorem k_prep_entry : entryFor table "type.__prepare__" = some Builtin.«type.__prepare__» := entryFor_of_tree (by kernel_rfl)
theorem k_ga_chk (x : Str) (t : Tok) : checkBuiltinCall "type.__getattribute__" ⟨[.type "type", .str x t], []⟩ = pure () := by kernel_rfl
theorem k_prep_bound (tn : Tok) (bA : Addr) : checkBoundCall "type.__prepare__" ⟨[.type "type", .str "K" tn, .ref bA], []⟩ = pure () := by kernel_rfl
theorem k_prep_run : Builtin.«classmethod_descriptor.__get__» ⟨[.builtin "type.__prepare__", .none, .type "type"], []⟩ = (do ret (← newFields "builtin_function_or_method" [.builtin "type.__prepare__", .type "type"])) := by kernel_rfl
theorem in_nil {h : Heap} : Frag.In [] h := fun a o e => by cases e
section
variable {prog : Program} {w : World} {A : Around} {E : Value → Shared → Prop} {h : Heap} {g : Array GenState} {d : Drawn} {t : Nat} {os : OsState}
theorem prep_attr {Q : Option Value → Shared → Prop} (hq : ∀ F, (h.push (bfmO "type.__prepare__" (.type "type"))).get? F = some (bfmO "type.__prepare__" (.type "type")) → Q (some (.ref F)) ⟨h.push (bfmO "type.__prepare__" (.type "type")), g, d, t + 1, os⟩) : wpAny (model prog w) A (getAttr? (.type "type") "__prepare__") Q E ⟨h, g, d, t, os⟩ := by
  unfold getAttr? getAttrBy?
  refine wpAny_bind (wpAny_mkText (wpAny_bind (wpAny_attempt ?_)))
  unfold getAttrBy
  refine wpAny_holding (wpAny_bind (wpAny_of_eq k_typeOf_type (wpAny_bind (wpAny_of_eq k_ga_type ?_))))
  dsimp only
  rw [if_neg (by decide)]
  unfold getAttrByItsOwn hookBefore
  rw [if_neg (by decide)]
  refine wpAny_bind (wpAny_pure (wpAny_bind (wpAny_attempt (wpAny_holding ?_))))
  unfold callGetattribute boundAndCalled
  rw [if_neg (by decide), KF.slot_tga.bind]
  refine wpAny_bind (wpAny_pure ?_)
  show wpAny _ _ (call (.builtin "type.__getattribute__") [.type "type", .str "__prepare__" t]) _ _ _
  refine wpAny_call (codeAny_call_builtin KF.slot_tga.plain KF.entry_tga ?_)
  refine wpAny_of_eq (k_ga_chk _ _) ?_
  have LO : Looks (model prog w) (⟨h, g, d, t + 1, os⟩ : Shared).heap (opaqueClassAbove (.type "type")) none := Looks.of_pure k_opq_type
  have LT : Looks (model prog w) (⟨h, g, d, t + 1, os⟩ : Shared).heap (typeOf (.type "type")) (.type "type") := Looks.of_pure k_typeOf_type
  refine tga_run (s := ⟨h, g, d, t + 1, os⟩) (K := []) (c := .type "type") (mc := .type "type") (name := "__prepare__") (r := .get (.builtin "classmethod_descriptor.__get__") (.builtin "type.__prepare__") .none (.type "type")) in_nil LO LT k_prep_find ?_
  unfold CFound.run
  refine wpAny_bind (wpAny_holding (wpAny_call (codeAny_call_builtin (by decide +kernel) k_cmd_entry (wpAny_of_eq k_prep_get ?_))))
  rw [k_prep_run]
  repeat wp_step
  exact hq _ (Heap.get?_push_size _ rfl)
theorem prep_call {F bA : Addr} {tn : Tok} {Q : Value → Shared → Prop} (hF : h.get? F = some (bfmO "type.__prepare__" (.type "type"))) (hq : Q (.ref h.objs.size) ⟨h.push (dictO #[] 0), g, d, t, os⟩) : wpAny (model prog w) A (call (.ref F) [.str "K" tn, .ref bA] []) Q E ⟨h, g, d, t, os⟩ := by
  refine wpAny_call (codeAny_of_tree ?_)
  show wpAny _ _ (callAny (.ref F) ⟨[.str "K" tn, .ref bA], []⟩) _ _ _
  unfold callAny
  refine wpAny_bind (wpAny_load hF ?_)
  refine wpAny_ite_true rfl ?_
  refine wpAny_ite_true rfl ?_
  refine wpAny_bind (wpAny_of_eq (k_prep_bound tn bA) (wpAny_pure ?_))
  refine ⟨Code.quiet_builtin _ (by decide +kernel), codeAny_builtin k_prep_entry ?_⟩
  unfold Builtin.«type.__prepare__»
  repeat wp_step
  exact hq
end
end Mine

set_option maxRecDepth 100000
set_option maxHeartbeats 1000000
namespace Mine
open PySem PySem.W PyProof.Rows PySem.Calls
noncomputable def kStat : List Str := match kStmt with | .ClassDef _ _ _ _ _ _ _ _ _ st _ => st | _ => []
noncomputable def kPos1 : Pos := match kStmt with | .ClassDef _ [.Name _ p] _ _ _ _ _ _ _ _ _ => p | _ => default
theorem kStmt_eq : kStmt = .ClassDef "K" [.Name "object" kPos1] [] kBody [] [] kScope none "K" kStat kPos := by kernel_rfl
theorem k_dict_item : typeLookup (.type "dict") "__getitem__" = pure (some (.builtin "dict.__getitem__")) := by kernel_rfl
theorem kScope_class : kScope.names.lookup ("__class__" : Str) = none := by kernel_rfl
theorem kScope_dict : kScope.names.lookup ("__classdict__" : Str) = none := by kernel_rfl
theorem store_own {env : Env} {x : Str} (hsc : env.scope = kScope) (hx : kScope.names.lookup x = none) (ho : compilersOwnNames.contains x = true) (v : Value) : storeName env x v = localSet env x v := by
  have hk : env.kindOf x = none := by unfold Env.kindOf; rw [hsc]; exact hx
  have hc : env.scope.kind = .class := by rw [hsc]; exact kScope_kind
  have hb : (env.blockKind == .function) = false := by unfold Env.blockKind; rw [hc]; rfl
  unfold storeName
  rw [hk]
  simp only [hc, hb, ho]
  rfl
section
variable {prog : Program} {w : World} {A : Around} {E : Value → Shared → Prop} {h : Heap} {g : Array GenState} {d : Drawn} {t : Nat} {os : OsState}
theorem class_code {M : Model} {env : Env} {c P : Addr} {ps : Array Value} {pos : Pos} {fl : Nat} {name qual : Str} {scope : Scope} {Q : Value → Shared → Prop}
    (hcode : env.code = .ref c) (C : CodeHd h c P) (hP : h.get? P = some (tabObj ps)) (ht : TriplesOk ps.toList) (hnf : codeAmong pos ps.toList = none)
    (hq : ∀ c' P' h' t', KB [P] h h' → h.get? c' = none → h.get? P' = none → CodeHd h' c' P' → h'.get? P' = some (tabObj #[]) → h'.get? P = some (tabObj (ps ++ #[rawInt pos.line, rawInt pos.col, .ref c'])) → Q (.ref c') ⟨h', g, d, t', os⟩) :
    wpAny M A (classCode env pos fl name qual scope) Q E ⟨h, g, d, t, os⟩ := by
  have hok := C.code hP ht
  obtain ⟨o, vs, file, tf, flags, tg, inF, text, tt, op, ho, hd, h11, h18, h7, h9, h10, hop, hpd, htr, hne⟩ := hok
  unfold classCode codeAt
  rw [hcode, if_neg (show ¬ ((Value.ref c == Value.none) = true) from Bool.false_ne_true)]
  refine wpAny_bind (wpAny_fieldsOf ho hd ?_)
  rw [h11]
  refine wpAny_bind (wpAny_fieldsOf hP rfl ?_)
  rw [hnf, h18, h7, h9, h10]
  refine wpAny_bind (wpAny_newCodeX fun c' P' h' tk hk hc' hP' hcode' htab' hrec' => ?_)
  have hP1 := hk _ _ hP
  refine wpAny_bind (wpAny_updateFieldsOfTheText hP1 rfl ?_)
  have hget : (h'.update P (Obj.mapFields fun vs => if (codeAmong pos vs.toList).isSome = true then vs else vs ++ #[rawInt pos.line, rawInt pos.col, .ref c'])).get? P = some (tabObj (ps ++ #[rawInt pos.line, rawInt pos.col, .ref c'])) := by
    rw [Heap.get?_update_self _ hP1 rfl]
    simp only [Obj.mapFields, hnf, Option.isSome_none, Bool.false_eq_true, if_false]
  have hsame := Heap.SameBut.update h' P (Obj.mapFields fun vs => if (codeAmong pos vs.toList).isSome = true then vs else vs ++ #[rawInt pos.line, rawInt pos.col, .ref c'])
  refine wpAny_bind (wpAny_fieldsOf hget rfl ?_)
  rw [show (ps ++ #[rawInt pos.line, rawInt pos.col, Value.ref c']).toList = ps.toList ++ [rawInt pos.line, rawInt pos.col, .ref c'] by simp, codeAmong_snoc _ ht hnf]
  have hlt := Heap.lt_size hP
  have hPc : c' ≠ P := Nat.ne_of_gt (Nat.lt_of_lt_of_le hlt hc')
  have hPP : P' ≠ P := Nat.ne_of_gt (Nat.lt_of_lt_of_le hlt hP')
  have C1 : CodeHd h' c' P' := CodeHd.of hcode' htab'
  refine wpAny_pure (hq c' P' _ _ (fun b o hb e => same_get hsame (hk _ _ e) (fun q => hb (by rw [q]; simp))) (Heap.get?_none_of_le hc') (Heap.get?_none_of_le hP') ?_ (same_get hsame htab'.2 hPP) hget)
  obtain ⟨o, vs, file, tf, flags, tg, inF, text, tt, e, r⟩ := C1
  exact ⟨o, vs, file, tf, flags, tg, inF, text, tt, same_get hsame e hPc, r⟩

theorem load_own {M : Model} {env : Env} {mg : Str → Option Value} {v : Value} {Q : Value → Shared → Prop} (hsc : env.scope = kScope) (hge : env.globals = mainGlobals) (hN : h.get? env.locals = some (dictO #[] 0)) (hg : h.Ns mainGlobals mg) (hv : mg "__name__" = some v) (hq : Q v ⟨h, g, d, t, os⟩) :
    wpAny M A (loadName env "__name__") Q E ⟨h, g, d, t, os⟩ := by
  have hk : env.kindOf "__name__" = none := by unfold Env.kindOf; rw [hsc]; kernel_rfl
  have hc : env.scope.kind = .class := by rw [hsc]; exact kScope_kind
  have hb : env.blockKind = .class := by unfold Env.blockKind; rw [hc]; rfl
  have ha : (env.scope.kind.isAnnotationScope && env.kindOf "__classdict__" == some .free && ("__name__" : Str) != "__classdict__") = false := by rw [hc]; rfl
  unfold loadName
  rw [ha, hb, hk]
  refine wpAny_ite_false rfl ?_
  refine wpAny_ite_false (by decide +kernel) ?_
  refine wpAny_bind ?_
  unfold localGet
  refine wpAny_bind (wpAny_load hN ?_)
  refine wpAny_ite_true rfl (op_get (P := M.w.params) (l := []) hN ?_)
  exact loadGlobal_global (by rw [hge]; exact hg) hv hq
/-- the function that a def of K's body has left -/
noncomputable def FnIs (m : MDef) (clos : List (Str × Addr)) (h : Heap) (f : Addr) : Prop :=
  ∃ qn doc pm c' ctv, h.get? f = some (fnMade m.name qn m.params m.body m.scope clos doc pm c' ctv) ∧ h.CodeRec (.ref c') qn
theorem FnIs.ext {m : MDef} {clos : List (Str × Addr)} {h h' : Heap} {f : Addr} (x : FnIs m clos h f) (e : Ext h h') : FnIs m clos h' f :=
  let ⟨qn, doc, pm, c', ctv, a, b⟩ := x; ⟨qn, doc, pm, c', ctv, e _ _ a, b.keeps e⟩
theorem MDef.At.is {m : MDef} {env : Env} {clos : List (Str × Addr)} {pm : Value} {h : Heap} {f : Addr} (x : m.At env clos pm h f) : FnIs m clos h f :=
  let ⟨doc, c', ctv, a, b⟩ := x; ⟨_, doc, pm, c', ctv, a, b⟩
theorem MDef.At.fn {m : MDef} {env : Env} {clos : List (Str × Addr)} {pm : Value} {h : Heap} {f : Addr} (x : m.At env clos pm h f) : ∃ o, h.get? f = some o ∧ o.cls = .type "function" :=
  let ⟨doc, c', ctv, a, b⟩ := x; ⟨_, a, rfl⟩
/-- the class K stands at C, its methods close over the cell ca -/
structure KCls (P : Params) (h : Heap) (C ca : Addr) : Prop where
  ex : ∃ N dA f1 f2 f3 f4 f5 f6, (∃ k0 k1 k2 k3 k5, h.get? C = some (kObj (cdK C N "cmp_to_key.<locals>.K") #[k0, k1, k2, k3, some (.builtin "object.__new__"), k5])) ∧
    (∃ tk mo tmo fl tfl sl st tk9 t9 ep, h.get? N = some (dictO (ents P (bodyL2 tk (.str mo tmo) (.int fl tfl) (.ref sl) (.ref f1) (.ref f2) (.ref f3) (.ref f4) (.ref f5) (.ref f6) (.ref st) ++ objE tk9 dA ++ docE t9)) ep)) ∧
    (∃ td, h.get? dA = some (memO "obj" td C 0)) ∧ FnIs (kDef 2) [] h f1 ∧ FnIs (kDef 3) [(("mycmp" : Str), ca)] h f2 ∧ FnIs (kDef 4) [(("mycmp" : Str), ca)] h f3 ∧ FnIs (kDef 5) [(("mycmp" : Str), ca)] h f4 ∧ FnIs (kDef 6) [(("mycmp" : Str), ca)] h f5 ∧ FnIs (kDef 7) [(("mycmp" : Str), ca)] h f6
theorem KCls.ext {P : Params} {h h' : Heap} {C ca : Addr} (x : KCls P h C ca) (e : Ext h h') : KCls P h' C ca := by
  obtain ⟨N, dA, f1, f2, f3, f4, f5, f6, ⟨k0, k1, k2, k3, k5, a⟩, ⟨tk, mo, tmo, fl, tfl, sl, st, tk9, t9, ep, b⟩, ⟨td, c⟩, r1, r2, r3, r4, r5, r6⟩ := x
  exact ⟨N, dA, f1, f2, f3, f4, f5, f6, ⟨k0, k1, k2, k3, k5, e _ _ a⟩, ⟨tk, mo, tmo, fl, tfl, sl, st, tk9, t9, ep, e _ _ b⟩, ⟨td, e _ _ c⟩, r1.ext e, r2.ext e, r3.ext e, r4.ext e, r5.ext e, r6.ext e⟩
theorem kBody_anns : hasAnns kBody = false := by kernel_rfl
theorem kBody_doc : docOf kBody = none := by kernel_rfl
theorem wp_forIn_one {M : Model} {s : Shared} {α β : Type} {v : α} {b : β} {f : α → β → Sem (ForInStep β)} {Q : β → Shared → Prop}
    (hf : wpAny M A (f v b) (fun r s' => match r with | .done x => Q x s' | .yield x => Q x s') E s) : wpAny M A (forIn [v] b f) Q E s := by
  rw [List.forIn_cons]
  refine wpAny_bind (wpAny_mono hf (fun r s' z => ?_) fun _ _ z => z)
  cases r with
  | done x => exact wpAny_pure z
  | yield x => exact wpAny_pure z
theorem cls_tail {cenv : Env} {c0 Pt ca bA : Addr} {mg : Str → Option Value} {v0 : Value} {tn : Tok} {Q : Value → Shared → Prop} (hroom : A.depth < recursionLimit) (hsc : cenv.scope = kScope) (hge : cenv.globals = mainGlobals) (hce : cenv.cells = [(("mycmp" : Str), ca)]) (hcode : cenv.code = .ref c0)
    (hns : h.get? cenv.locals = some (dictO #[] 0)) (ce : CEnv h cenv.locals Pt c0 mg) (hPt : h.get? Pt = some (tabObj #[])) (hst : h.Ns cStatics (fun _ => none)) (hnm : mg "__name__" = some v0) (hl : h.NoLimit) (hsm : (cenv.locals == sysModules) = false) (hnC : cenv.locals ≠ cStatics)
    (hbA : h.get? bA = some { cls := .type "tuple", data := .seq #[.type "object"] 0 })
    (hq : ∀ h' C t', KB [cenv.locals, Pt] h h' → KCls w.params h' C ca → h.get? C = none → Q (.ref C) ⟨h', g, d, t', os⟩) :
    wpAny (model prog w) A (do
      enterFrame
      (do storeName cenv "__module__" (← loadName cenv "__name__")
          storeName cenv "__qualname__" (← mkText "cmp_to_key.<locals>.K")
          mkInt kPos.line >>= fun n => storeName cenv "__firstlineno__" n >>= fun _ => pure () : Sem Unit).onRaise (leavingAround cenv)
      let _ ← run (.body kBody cenv)
      (kStat.mapM mkText >>= fun l => newTextTuple l >>= fun x => storeName cenv "__static_attributes__" x >>= fun _ => pure () : Sem Unit).onRaise (leavingAround cenv)
      call (.type "type") [.str "K" tn, .ref bA, .ref cenv.locals] [] >>= fun cls => pure cls) Q E ⟨h, g, d, t, os⟩ := by
  have P0 : CBody w.params h h cenv.locals Pt [] #[] := ⟨KB.refl _ _, ⟨0, hns⟩, hPt, trivial⟩
  refine wpAny_bind (wpAny_enterFrame hl hroom ?_)
  refine wpAny_bind (wpAny_onRaise ?_)
  refine wpAny_bind (load_own hsc hge hns ce.g hnm ?_)
  refine wpAny_bind (cls_put (M := model prog w) P0 (store_cls hsc (by kernel_rfl) _) fun h1 P1 s1 => ?_)
  refine wpAny_bind (wpAny_mkText ?_)
  refine wpAny_bind (cls_put (M := model prog w) P1 (store_own hsc (by kernel_rfl) (by decide +kernel) _) fun h2 P2 s2 => ?_)
  refine wpAny_bind (wpAny_mkInt' ?_)
  refine wpAny_bind (cls_put (M := model prog w) P2 (store_own hsc (by kernel_rfl) (by decide +kernel) _) fun h3 P3 s3 => wpAny_pure ?_)
  have e3 : put (put (put [] t "__module__" v0) (t + 1 + 1) "__qualname__" (.str "cmp_to_key.<locals>.K" (t + 1))) (t + 1 + 1 + 1 + 1) "__firstlineno__" (.int kPos.line (t + 1 + 1 + 1)) = headL t (t + 1 + 1) (t + 1 + 1 + 1 + 1) v0 (.str "cmp_to_key.<locals>.K" (t + 1)) (.int kPos.line (t + 1 + 1 + 1)) := by kernel_rfl
  replace P3 : CBody w.params h h3 cenv.locals Pt (headL t (t + 1 + 1) (t + 1 + 1 + 1 + 1) v0 (.str "cmp_to_key.<locals>.K" (t + 1)) (.int kPos.line (t + 1 + 1 + 1))) #[] := e3 ▸ P3
  refine wpAny_bind (wpAny_run (codeAny_of_tree ?_))
  show wpAny _ _ (do blockStart kBody cenv; return PySem.Fin.done (← (execs kBody cenv).onRaise (leaving cenv))) _ _ _
  have hnoI : interactive cenv = false := by unfold interactive; rw [hsc, kScope_kind]; rfl
  unfold blockStart
  rw [kBody_anns, hnoI, kBody_doc]
  refine wpAny_bind ?_
  refine wpAny_ite_false rfl (wpAny_ite_false rfl (wpAny_pure ?_))
  refine wpAny_bind (wpAny_onRaise ?_)
  have kb3 : KB [cenv.locals, Pt] h h3 := P3.keep
  refine cls_run (M := model prog w) hsc hce hge hcode P3 (ce.kb kb3) fun h4 t3 t10 tmo ts sl r1 r2 r3 r4 r5 r6 t' C4 ce4 k4 hsl a1 a2 a3 a4 a5 a6 => ?_
  refine wpAny_pure ?_
  show wpAny (model prog w) A _ _ _ _
  obtain ⟨ps, cb4, _⟩ := C4.ex
  refine wpAny_bind (wpAny_onRaise (wpAny_bind (wpAny_mkStrs fun vs => wpAny_bind (wpAny_newTextTuple ?_))))
  obtain ⟨ep4, hN4⟩ := cb4.ns
  have hstN : h4.objs.size ≠ cenv.locals := Nat.ne_of_gt (Heap.lt_size hN4)
  have cb5 : CBody w.params h (h4.push { cls := .type "tuple", data := .seq vs.toArray }) cenv.locals Pt (runL t (t + 1 + 1) (t + 1 + 1 + 1 + 1) t3 t10 r1 r2 r3 r4 r5 r6 (.str "cpy313.functools" tmo) (.str "cmp_to_key.<locals>.K" (t + 1)) (.int kPos.line (t + 1 + 1 + 1)) (.ref sl)) ps :=
    ⟨cb4.keep.trans (KB.of_ext (Ext.push _ _)), ⟨ep4, Heap.get?_push_of_some _ hN4⟩, Heap.get?_push_of_some _ cb4.tab, cb4.trip⟩
  refine wpAny_bind (cls_put (M := model prog w) cb5 (store_own hsc (by kernel_rfl) (by decide +kernel) _) fun h6 P6 s6 => wpAny_pure ?_)
  have k46 : KB [cenv.locals, Pt] h4 h6 := (KB.of_ext (Ext.push _ _)).trans (KB.of_same s6 (by simp))
  have k06 : KB [cenv.locals, Pt] h h6 := P6.keep
  generalize hst5 : h4.objs.size = st at hstN P6 s6
  have hst6 : h6.get? st = some { cls := .type "tuple", data := .seq vs.toArray } := same_get s6 (by rw [← hst5]; exact Heap.get?_push_size _ rfl) hstN
  have e6 : put (runL t (t + 1 + 1) (t + 1 + 1 + 1 + 1) t3 t10 r1 r2 r3 r4 r5 r6 (.str "cpy313.functools" tmo) (.str "cmp_to_key.<locals>.K" (t + 1)) (.int kPos.line (t + 1 + 1 + 1)) (.ref sl)) (t' + kStat.length) "__static_attributes__" (.ref st) =
    bodyL (fun i => ([t, t + 1 + 1, t + 1 + 1 + 1 + 1, t3, r1.1, r2.1, r3.1, r4.1, r5.1, r6.1, t10, t' + kStat.length] : List Tok).getD i.val 0) (.str "cpy313.functools" tmo) (.str "cmp_to_key.<locals>.K" (t + 1)) (.int kPos.line (t + 1 + 1 + 1)) (.ref sl) (.ref r1.2) (.ref r2.2) (.ref r3.2) (.ref r4.2) (.ref r5.2) (.ref r6.2) (.ref st) := by kernel_rfl
  replace P6 : CBody w.params h h6 cenv.locals Pt _ ps := e6 ▸ P6
  obtain ⟨ep6, hN6⟩ := P6.ns
  have b1 := a1.kb hN4 cb4.tab cb4.trip k46
  have b2 := a2.kb hN4 cb4.tab cb4.trip k46
  have b3 := a3.kb hN4 cb4.tab cb4.trip k46
  have b4 := a4.kb hN4 cb4.tab cb4.trip k46
  have b5 := a5.kb hN4 cb4.tab cb4.trip k46
  have b6 := a6.kb hN4 cb4.tab cb4.trip k46
  have hslN : sl ≠ cenv.locals := fun q => by rw [q, hN4] at hsl; exact absurd (congrArg Obj.cls (Option.some.inj hsl)) (by simp)
  have hslP : sl ≠ Pt := fun q => by rw [q, cb4.tab] at hsl; exact absurd (congrArg Obj.cls (Option.some.inj hsl)) (by simp)
  have hbN : bA ≠ cenv.locals := fun q => by rw [q, hns] at hbA; exact absurd (congrArg Obj.cls (Option.some.inj hbA)) (by simp)
  have hbP : bA ≠ Pt := fun q => by rw [q, hPt] at hbA; exact absurd (congrArg Obj.cls (Option.some.inj hbA)) (by simp)
  have hst6' : h6.Ns cStatics (fun _ => none) := by
    obtain ⟨o, es, ep, e, hd, r⟩ := hst
    refine ⟨o, es, ep, k06 _ _ ?_ e, hd, r⟩
    have hcP : cStatics ≠ Pt := fun q => by rw [q, hPt] at e; cases e; cases hd
    simp [hnC.symm, hcP]
  refine wpAny_bind (call_type_K (w := w) (f1 := r1.2) (f2 := r2.2) (f3 := r3.2) (f4 := r4.2) (f5 := r5.2) (f6 := r6.2) (st := st) ?_ ⟨_, hst6, rfl⟩ hN6 (k46 _ _ (by simp [hslN, hslP]) hsl) (k06 _ _ (by simp [hbN, hbP]) hbA) hst6' hsm rfl fun h7 C N dA t7 mk => ?_)
  · intro f hf
    simp only [List.mem_cons, List.not_mem_nil, or_false] at hf
    rcases hf with rfl | rfl | rfl | rfl | rfl | rfl
    · exact b1.fn
    · exact b2.fn
    · exact b3.fn
    · exact b4.fn
    · exact b5.fn
    · exact b6.fn
  · refine wpAny_pure (hq h7 C t7 (k06.trans (KB.of_ext mk.ext)) ⟨N, dA, r1.2, r2.2, r3.2, r4.2, r5.2, r6.2, mk.cls, ?_, mk.mem, b1.is.ext mk.ext, b2.is.ext mk.ext, b3.is.ext mk.ext, b4.is.ext mk.ext, b5.is.ext mk.ext, b6.is.ext mk.ext⟩ ?_)
    · obtain ⟨tk, tmo, fl, tfl, sl, st, tk9, t9, ep, e⟩ := mk.ns
      exact ⟨tk, _, tmo, fl, tfl, sl, st, tk9, t9, ep, e⟩
    · cases q : h.get? C with
      | none => rfl
      | some o =>
        exfalso
        have hn := mk.newC
        by_cases c1 : C = cenv.locals
        · rw [c1, hN6] at hn; cases hn
        · by_cases c2 : C = Pt
          · rw [c2, P6.tab] at hn; cases hn
          · rw [k06 _ _ (by simp [c1, c2]) q] at hn; cases hn
theorem build_K {env : Env} {c P ca : Addr} {ps : Array Value} {mg : Str → Option Value} {v0 : Value} {Q : Value → Shared → Prop}
    (hroom : A.depth < recursionLimit) (hl : h.NoLimit)
    (hge : env.globals = mainGlobals) (hcode : env.code = .ref c) (hcl : closureFor kScope env = pure [(("mycmp" : Str), ca)]) (C : CodeHd h c P) (hP : h.get? P = some (tabObj ps)) (ht : TriplesOk ps.toList) (hnf : codeAmong kPos ps.toList = none)
    (hg : h.Ns mainGlobals mg) (hnm : mg "__name__" = some v0) (hgP : mainGlobals ≠ P) (hb : h.BuiltinsAt mg P) (hst : h.Ns cStatics (fun _ => none))
    (hq : ∀ h' C c' t', KB [P] h h' → h'.get? P = some (tabObj (ps ++ #[rawInt kPos.line, rawInt kPos.col, .ref c'])) → KCls w.params h' C ca → h.get? C = none → Q (.ref C) ⟨h', g, d, t', os⟩) :
    wpAny (model prog w) A (buildClass "K" "cmp_to_key.<locals>.K" [.type "object"] [] kBody kScope kStat kPos.line env kPos none) Q E ⟨h, g, d, t, os⟩ := by
  have c1 := k_isType_obj
  have c2 := k_typeOf_obj
  have c3 := k_sub_tt
  have c4 : isType (.type "type") = pure true := rfl
  unfold buildClass
  refine wpAny_bind (wp_newTuple (by decide) ?_)
  refine wpAny_bind (wp_forIn_one ?_)
  refine wpAny_bind (wpAny_of_eq k_isType_obj ?_)
  refine wpAny_ite_true rfl ?_
  refine wpAny_ite_false (by decide) ?_
  refine wpAny_pure ?_
  refine wpAny_bind (wpAny_of_eq k_typeOf_obj ?_)
  refine wpAny_bind (wpAny_of_eq c4 ?_)
  refine wpAny_ite_true rfl ?_
  refine wpAny_bind (wp_forIn_one ?_)
  refine wpAny_bind (wpAny_of_eq k_typeOf_obj ?_)
  refine wpAny_bind (wpAny_of_eq k_sub_tt ?_)
  refine wpAny_ite_true rfl ?_
  refine wpAny_pure ?_
  refine wpAny_bind (wpAny_mkText ?_)
  refine wpAny_ite_false rfl (wpAny_bind (wpAny_pure ?_))
  refine wpAny_holding ?_
  refine wpAny_bind (prep_attr fun F hF => ?_)
  refine wpAny_bind (prep_call hF ?_)
  generalize hh1 : h.push { cls := .type "tuple", data := .seq [Value.type "object"].toArray } = h1
  have hbA : h1.get? h.objs.size = some { cls := .type "tuple", data := .seq [Value.type "object"].toArray } := by rw [← hh1]; exact Heap.get?_push_size _ rfl
  have x1 : Ext h h1 := by rw [← hh1]; exact Ext.push _ _
  generalize hh2 : h1.push (bfmO "type.__prepare__" (.type "type")) = h2
  have x2 : Ext h1 h2 := by rw [← hh2]; exact Ext.push _ _
  have hnsA : (h2.push (dictO #[] 0)).get? h2.objs.size = some (dictO #[] 0) := Heap.get?_push_size _ rfl
  have x3 : Ext h2 (h2.push (dictO #[] 0)) := Ext.push _ _
  have hnew : h2.get? h2.objs.size = none := Heap.get?_none_of_le (Nat.le_refl _)
  have hbig : cStatics < h2.objs.size := by
    obtain ⟨o, _, _, e, _⟩ := hst
    exact Heap.lt_size ((x1.trans x2) _ _ e)
  generalize h2.push (dictO #[] 0) = h3 at hnsA x3 ⊢
  generalize h2.objs.size = nsA at hnsA hnew hbig ⊢
  have e3 : Ext h h3 := x1.trans (x2.trans x3)
  have hsm : (nsA == sysModules) = false := by
    rw [beq_eq_false_iff_ne]
    exact fun q => absurd hbig (by rw [q]; decide)
  unfold notTheModulesDict
  refine wpAny_bind (wpAny_ite_false (by rw [hsm]; rfl) (wpAny_pure ?_))
  have hTd : (⟨h3, g, d, t + 1 + 1, os⟩ : Shared).TypeIs (.ref nsA) "dict" := ⟨_, hnsA, rfl⟩
  refine wpAny_bind (wpAny_specialOf hTd k_dict_item ?_)
  refine wpAny_ite_false rfl ?_
  refine wpAny_holding ?_
  refine wpAny_ite_false (by rw [kScope_class]; rfl) (wpAny_bind (wpAny_pure ?_))
  refine wpAny_ite_false (by rw [kScope_dict]; rfl) (wpAny_bind (wpAny_pure ?_))
  refine wpAny_bind (class_code hcode (C.keeps e3) (e3 _ _ hP) ht hnf fun c' P' h4 t4 k4 nc nP C4 hP4 hPc4 => ?_)
  have hnP : nsA ≠ P := fun q => by
    have := e3 _ _ hP
    rw [← q, hnsA] at this
    exact absurd (congrArg Obj.cls (Option.some.inj this)) (by simp)
  have hns4 := k4 _ _ (by simp [hnP]) hnsA
  have hg4 : h4.Ns mainGlobals mg := let ⟨o, es, ep, e, r⟩ := hg; ⟨o, es, ep, k4 _ _ (by simp [hgP]) (e3 _ _ e), r⟩
  have hst4 : h4.Ns cStatics (fun _ => none) := let ⟨o, es, ep, e, hd, r⟩ := hst; ⟨o, es, ep, k4 _ _ (by
    intro q
    rw [List.mem_singleton.mp q, hP] at e
    cases e; cases hd) (e3 _ _ e), hd, r⟩
  obtain ⟨bm, ob, b1, b2, b3, b4, b5, b6, b7, b8⟩ := hb
  have b5' := k4 _ _ (by simp [b4]) (e3 _ _ b5)
  refine wpAny_bind (wpAny_builtinsFor (by rw [hge]; exact hg4) b1 b2 b5' b6 b7 b8 ?_)
  unfold newBodyFrame
  refine wpAny_bind (wpAny_bind (wpAny_nsGet (by rw [hge]; exact hg4) (wpAny_alloc ?_)))
  refine wpAny_bind (wpAny_of_eq hcl ?_)
  refine wpAny_holding ?_
  have hl4 : h4.NoLimit := ⟨_, hst4, rfl⟩
  have hbP : h.objs.size ≠ P := Nat.ne_of_gt (Heap.lt_size hP)
  have hbA4 := k4 _ _ (by simp [hbP]) (x3 _ _ (x2 _ _ hbA))
  have x5 : Ext h4 (h4.push { cls := .type "frame", slots := #[some (.ref c'), some (.ref env.globals), some (.ref nsA), none, some ((mg "__name__").getD .none), none, some (.ref builtinsNs)] }) := Ext.push _ _
  refine cls_tail (cenv := { scope := kScope, locals := nsA, globals := env.globals, cells := [(("mycmp" : Str), ca)], qual := Str.ofString "cmp_to_key.<locals>.K" ++ Str.ofString ".", code := .ref c', frame := some h4.objs.size, builtins := builtinsNs }) (Pt := P') (c0 := c') hroom rfl hge rfl rfl (x5 _ _ hns4) ⟨hg4.keeps x5, C4.keeps x5, ⟨bm, ob, b1, b2, b3, ?_, x5 _ _ b5', b6, b7, b8⟩, ?_, ?_, ?_, ?_⟩ (x5 _ _ hP4) (hst4.keeps x5) hnm (hl4.keeps x5) hsm (Nat.ne_of_gt hbig) (tn := t) (bA := h.objs.size) (x5 _ _ hbA4) ?_
  · intro q; rw [← q, e3 _ _ b5] at nP; cases nP
  · intro q; obtain ⟨o, _, _, e, _⟩ := hg; rw [← q, e3 _ _ e] at nP; cases nP
  · intro q; obtain ⟨o, _, _, e, _⟩ := hg; rw [← (show mainGlobals = nsA from q), (x1.trans x2) _ _ e] at hnew; cases hnew
  · intro q; rw [show c' = nsA from q, hnsA] at nc; cases nc
  · intro bm' hbm' q
    rw [b1] at hbm'
    cases hbm'
    rw [← (show bm = nsA from q), (x1.trans x2) _ _ b5] at hnew
    cases hnew
  · intro h' C t' kb kc hC
    have old : ∀ b o, h.get? b = some o → b ≠ nsA ∧ b ≠ P' := fun b o e => ⟨(fun q => by rw [← q, (x1.trans x2) _ _ e] at hnew; cases hnew), (fun q => by rw [← q, e3 _ _ e] at nP; cases nP)⟩
    refine hq h' C c' t' (fun b o hb e => kb _ _ (by simp [(old b o e).1, (old b o e).2]) (x5 _ _ (k4 _ _ hb (e3 _ _ e)))) (kb _ _ (by simp [(old _ _ hP).1, (old _ _ hP).2]) (x5 _ _ hPc4)) kc ?_
    cases q : h.get? C with
    | none => rfl
    | some o =>
      exfalso
      by_cases c1 : C = P
      · rw [c1, x5 _ _ hPc4] at hC; cases hC
      · rw [x5 _ _ (k4 _ _ (by simp [c1]) (e3 _ _ q))] at hC; cases hC
end
end Mine

set_option maxRecDepth 100000
set_option maxHeartbeats 1000000
namespace Mine
open PySem PySem.W PyProof.Rows PySem.Calls
theorem exec_cls (env : Env) (name : Str) (bases : List Expr) (body : List Stmt) (scope : Scope) (ts : Option Scope) (bind : Str) (statics : List Str) (pos : Pos) :
    exec (.ClassDef name bases [] body [] [] scope ts bind statics pos) env = (do
    let decos ← evalAll (evalEach [] env)
    standAt pos
    buildClassGuard env
    let c ← holding decos do
      let a ← evalArgs (.builtin "__build_class__") false (backTo pos (starEach bases env)) (backToKw pos (keywordEach [] env))
      standAt pos
      holding (a.pos ++ a.kw.map (·.2)) (buildClass name (qualnameIn env name bind) a.pos a.kw body scope statics (firstLineOf [] pos) env pos none)
    let c ← decorate (decos.zip (([] : List Expr).map (·.pos))).reverse c
    standAt pos
    bindName env bind c
    pure .next) := rfl
section
variable {prog : Program} {w : World} {A : Around} {E : Value → Shared → Prop} {h : Heap} {g : Array GenState} {d : Drawn} {t : Nat} {os : OsState}
theorem evalArgs_all {M : Model} {s : Shared} {f : Value} {args : List (Bool × Sem Value)} {Q : Args → Shared → Prop}
    (h : wpAny M A (spliced args) (fun vs s' => Q ⟨vs, []⟩ s') E s) : wpAny M A (evalArgs f false args []) Q E s := by
  unfold evalArgs
  show wpAny M A (spliced args >>= fun x => pure (x, none) >>= _) Q E s
  refine wpAny_bind (wpAny_mono h (fun vs s' h' => ?_) fun _ _ x => x)
  refine wpAny_bind (wpAny_pure (wpAny_holding ?_))
  exact wpAny_bind (wpAny_pure (wpAny_bind (wpAny_pure (wpAny_pure h'))))
theorem FnIs.kb {m : MDef} {clos : List (Str × Addr)} {h h' : Heap} {L f : Addr} {mm : Str → Option Value} (x : FnIs m clos h f) (hn : h.Ns L mm) (hs : Heap.SameBut L h h') : FnIs m clos h' f := by
  obtain ⟨qn, doc, pm, c', ctv, a, cc, oc, vs, tt, q1, q2, q3, q4⟩ := x
  obtain ⟨o, es, ep, e, hd, _⟩ := hn
  refine ⟨qn, doc, pm, c', ctv, same_get hs a (fun q => ?_), cc, oc, vs, tt, q1, same_get hs q2 (fun q => ?_), q3, q4⟩
  · rw [q, e] at a; cases a; cases hd
  · rw [q, e] at q2; cases q2; rw [hd] at q3; cases q3
theorem KCls.same {P : Params} {h h' : Heap} {C ca L : Addr} {mm : Str → Option Value} (x : KCls P h C ca) (hn : h.Ns L mm) (hno : mm "__init__" = none) (hs : Heap.SameBut L h h') : KCls P h' C ca := by
  obtain ⟨N, dA, f1, f2, f3, f4, f5, f6, ⟨k0, k1, k2, k3, k5, a⟩, ⟨tk, mo, tmo, fl, tfl, sl, st, tk9, t9, ep, b⟩, ⟨td, c⟩, r1, r2, r3, r4, r5, r6⟩ := x
  have hn' := hn
  obtain ⟨o, es, ep', e, hd, hk, hl⟩ := hn'
  have n1 : C ≠ L := fun q => by rw [q, e] at a; cases a; cases hd
  have n2 : dA ≠ L := fun q => by rw [q, e] at c; cases c; cases hd
  have n3 : N ≠ L := fun q => by
    rw [q, e] at b
    cases b
    cases hd
    have := hl "__init__"
    rw [nsFind_ents, hno] at this
    revert this
    intro x
    exact absurd (x.symm.trans (show look _ _ = some (Value.ref f1) by kernel_rfl)) (by simp)
  exact ⟨N, dA, f1, f2, f3, f4, f5, f6, ⟨k0, k1, k2, k3, k5, same_get hs a n1⟩, ⟨tk, mo, tmo, fl, tfl, sl, st, tk9, t9, ep, same_get hs b n3⟩, ⟨td, same_get hs c n2⟩, r1.kb hn hs, r2.kb hn hs, r3.kb hn hs, r4.kb hn hs, r5.kb hn hs, r6.kb hn hs⟩
theorem exec_K {env : Env} {c P ca : Addr} {ps : Array Value} {mg mb m : Str → Option Value} {v0 : Value} {Q : Flow → Shared → Prop}
    (hroom : A.depth < recursionLimit) (hl : h.NoLimit) (hkd : env.scope.kind = .function) (hko : env.kindOf "object" = some .globalImplicit) (hkK : env.kindOf "K" = some .local) (hqn : qualnameIn env "K" "K" = "cmp_to_key.<locals>.K") (hgb : env.builtins = builtinsNs)
    (hge : env.globals = mainGlobals) (hcode : env.code = .ref c) (hcl : closureFor kScope env = pure [(("mycmp" : Str), ca)]) (C : CodeHd h c P) (hP : h.get? P = some (tabObj ps)) (ht : TriplesOk ps.toList) (hnf : codeAmong kPos ps.toList = none)
    (hg : h.Ns mainGlobals mg) (hnm : mg "__name__" = some v0) (hno : mg "object" = none) (hB : h.Ns builtinsNs mb) (hbo : mb "object" = some (.type "object")) (hbb : mb "__build_class__" = some (.builtin "__build_class__")) (hgP : mainGlobals ≠ P) (hb : h.BuiltinsAt mg P) (hst : h.Ns cStatics (fun _ => none))
    (hL : h.Ns env.locals m) (hmi : m "__init__" = none) (hLP : env.locals ≠ P)
    (hq : ∀ h' C c' t', KB [P, env.locals] h h' → h'.get? P = some (tabObj (ps ++ #[rawInt kPos.line, rawInt kPos.col, .ref c'])) → KCls w.params h' C ca → h.get? C = none → h'.Ns env.locals (fun x => if x = "K" then some (.ref C) else m x) → Q .next ⟨h', g, d, t', os⟩) :
    wpAny (model prog w) A (exec kStmt env) Q E ⟨h, g, d, t, os⟩ := by
  rw [kStmt_eq, exec_cls]
  refine wpAny_bind (wpAny_pure (wpAny_bind (wpAny_standAt (wpAny_bind ?_))))
  unfold buildClassGuard
  refine wpAny_bind (wpAny_nsGet (by rw [hgb]; exact hB) ?_)
  rw [hbb]
  refine wpAny_pure (wpAny_bind (wpAny_holding (wpAny_bind ?_)))
  refine evalArgs_all (spliced_more ?_ rfl)
  have hob : wpAny (model prog w) A (loadName env "object") (fun v s' => v = .type "object" ∧ s' = ⟨h, g, d, t, os⟩) E ⟨h, g, d, t, os⟩ := by
    rw [loadName_read hkd hko]
    exact loadGlobal_builtin (by rw [hge]; exact hg) hno (by rw [hgb]; exact hB) hbo ⟨rfl, rfl⟩
  refine wpAny_Name (wpAny_mono hob (fun v s' z => ?_) fun _ _ z => z)
  obtain ⟨rfl, rfl⟩ := z
  refine spliced_none ?_
  refine wpAny_bind (wpAny_standAt (wpAny_holding ?_))
  rw [hqn]
  refine build_K hroom hl hge hcode hcl C hP ht hnf hg hnm hgP hb hst fun h' C' c' t' kb hP' kc nC => ?_
  have hL' : h'.Ns env.locals m := by
    obtain ⟨o, es, ep, e, r⟩ := hL
    exact ⟨o, es, ep, kb _ _ (by simp [hLP]) e, r⟩
  refine wpAny_bind (wpAny_pure (wpAny_bind (wpAny_standAt (wpAny_bind (wpAny_bindName (wpAny_storeName_local hkK hL' (fun h2 hn2 hs2 => ?_) (by rw [hkd]; rfl)))))))
  refine wpAny_pure (hq h2 C' c' _ ?_ (same_get hs2 hP' hLP.symm) ?_ nC hn2)
  · exact (kb.mono (by simp)).trans (KB.of_same hs2 (by simp))
  · refine kc.same hL' hmi hs2

noncomputable abbrev ckScope : Scope := scopeOf PySem.Challenge.pw_dm0117_12 "cmp_to_key"
noncomputable def ckPos : Pos × Pos := match (bodyOf PySem.Challenge.pw_dm0117_12 "cmp_to_key").getD 1 default with | .Return (some (.Name _ p)) q => (p, q) | _ => default
theorem ck_body : bodyOf PySem.Challenge.pw_dm0117_12 "cmp_to_key" = [kStmt, .Return (some (.Name "K" ckPos.1)) ckPos.2] := by kernel_rfl
theorem ck_kind : ckScope.kind = .function := by kernel_rfl
theorem ck_mycmp : ckScope.names.lookup ("mycmp" : Str) = some .cell := by kernel_rfl
theorem ck_cells (k : Nat) : cellsFrom k ckScope.names [] = [(("mycmp" : Str), k)] := by kernel_rfl
structure CkOk (h : Heap) (fa c : Addr) (o : Obj) (fd : FuncData) : Prop where
  ho : h.get? fa = some o
  hd : o.data = .func fd
  crec : h.CodeRec fd.code fd.qualname
  body : fd.body = .stmts (bodyOf PySem.Challenge.pw_dm0117_12 "cmp_to_key")
  scope : fd.scope = ckScope
  globals : fd.globals = mainGlobals
  builtins : fd.builtins = builtinsNs
  closure : fd.closure = []
  code : fd.code = .ref c
  qual : fd.qualname = "cmp_to_key"
  bind : ∀ v : Value, bindArgs fd ⟨[v], []⟩ = pure [(("mycmp" : Str), v)]
theorem ck_closure {env : Env} {ca : Addr} (h : env.cells = [(("mycmp" : Str), ca)]) : closureFor kScope env = pure [(("mycmp" : Str), ca)] := by
  obtain ⟨sc, lo, gl, ce, qu, fn, co, fr, bu⟩ := env
  simp only at h
  subst h
  kernel_rfl
theorem call_ck {fa c P : Addr} {o : Obj} {fd : FuncData} {v : Value} {mg mb : Str → Option Value} {v0 : Value} {Q : Value → Shared → Prop} (F : CkOk h fa c o fd)
    (hroom : A.depth + 1 < recursionLimit) (hl : h.NoLimit) (C : CodeHd h c P) (hP : h.get? P = some (tabObj #[]))
    (hg : h.Ns mainGlobals mg) (hnm : mg "__name__" = some v0) (hno : mg "object" = none) (hB : h.Ns builtinsNs mb) (hbo : mb "object" = some (.type "object")) (hbb : mb "__build_class__" = some (.builtin "__build_class__")) (hgP : mainGlobals ≠ P) (hb : h.BuiltinsAt mg P) (hst : h.Ns cStatics (fun _ => none))
    (hq : ∀ h' C' ca c' t', KB [P] h h' → h'.get? P = some (tabObj #[rawInt kPos.line, rawInt kPos.col, .ref c']) → KCls w.params h' C' ca → h'.IsCell ca (some v) → h.get? C' = none → h.get? ca = none → Q (.ref C') ⟨h', g, d, t', os⟩) :
    wpAny (model prog w) A (call (.ref fa) [v]) Q E ⟨h, g, d, t, os⟩ := by
  refine wpAny_call (codeAny_call_cells (binds := [(("mycmp" : Str), v)]) (Nat.lt_of_succ_lt hroom) F.ho F.hd hl F.crec F.body (F.bind v) F.closure ?_ ?_ (by rw [F.scope]; kernel_rfl) (by rw [F.scope]; kernel_rfl) (by rw [F.scope]; exact ck_kind))
  · intro x hx
    rw [List.mem_singleton.mp hx, F.scope]
    exact .inr ⟨ck_mycmp, by rw [ck_cells]; rfl⟩
  · intro s1 ic
    obtain ⟨h1, tk1, rfl⟩ := ic.toInCall.same
    have keep : Ext h h1 := ic.toInCall.keep
    generalize hL0 : (⟨h, g, d, t, os⟩ : Shared).heap.objs.size = L at ic ⊢
    have hL : h.objs.size = L := hL0
    generalize henv : callEnvC fd L fa = env at ic ⊢
    have e1 : env.scope = ckScope := by rw [← henv]; exact F.scope
    have e2 : env.locals = L := by rw [← henv]; rfl
    have e3 : env.cells = [(("mycmp" : Str), L + 1)] := by rw [← henv]; show cellsFrom (L + 1) fd.scope.names [] = _; rw [F.scope, ck_cells]
    have e4 : env.globals = mainGlobals := by rw [← henv]; exact F.globals
    have e5 : env.builtins = builtinsNs := by rw [← henv]; exact F.builtins
    have e6 : env.code = .ref c := by rw [← henv]; exact F.code
    have e7 : env.qual = "cmp_to_key.<locals>." := by rw [← henv]; show fd.qualname ++ ".<locals>." = _; rw [F.qual]; kernel_rfl
    have hk : ∀ x, env.kindOf x = ckScope.names.lookup x := fun x => by show env.scope.names.lookup x = _; rw [e1]
    have hqn : qualnameIn env "K" "K" = "cmp_to_key.<locals>.K" := by
      unfold qualnameIn
      rw [hk, if_neg (by decide +kernel), e7]; kernel_rfl
    rw [ck_body]
    have hLn : h.get? L = none := Heap.get?_none_of_le (Nat.le_of_eq hL)
    have hcn : h.get? (L + 1) = none := Heap.get?_none_of_le (by rw [hL]; exact Nat.le_succ _)
    have hLP : L ≠ P := fun q => by rw [q, hP] at hLn; cases hLn
    have hcP : L + 1 ≠ P := fun q => by rw [q, hP] at hcn; cases hcn
    have hcell : h1.IsCell (L + 1) (some v) := by
      have := ic.cell "mycmp" (L + 1) (by rw [e3]; rfl)
      rwa [show bindC env.kindOf [(("mycmp" : Str), v)] (fun _ => none) "mycmp" = some v from bindC_get _ _ _ _ _ (by simp) (by rfl) (by rw [hk, ck_mycmp]; simp)] at this
    refine wpAny_execs_cons (exec_K (ca := L + 1) (c := c) (P := P) (ps := #[]) (by show A.depth + 1 < _; exact hroom) (hl.keeps keep) (by rw [e1]; exact ck_kind) (by rw [hk]; kernel_rfl) (by rw [hk]; kernel_rfl) hqn e5 e4 e6 (ck_closure e3) (C.keeps keep) (keep _ _ hP) trivial rfl (hg.keeps keep) hnm hno (hB.keeps keep) hbo hbb hgP (let ⟨bm, ob, b1, b2, b3, b4, b5, r⟩ := hb; ⟨bm, ob, b1, b2, b3, b4, keep _ _ b5, r⟩) (hst.keeps keep) ic.toInCall.ns ?_ (by rw [e2]; exact hLP) fun h2 C' c' t' kb hP2 kc nC hn2 => ?_)
    · have : ∀ x : Str, x ≠ ("mycmp" : Str) → bindL env.kindOf [(("mycmp" : Str), v)] (fun _ => none) x = none := fun x hx => by
        unfold bindL bindL
        split
        · simp [hx]
        · rfl
      exact this _ (by decide +kernel)
    · refine wpAny_execs_cons (wpAny_Return_some (wpAny_Name (wpAny_loadName_local (v := .ref C') (by rw [e1]; exact ck_kind) (by rw [hk]; kernel_rfl) hn2 (if_pos rfl) ?_)))
      have kb' : KB [P] h h2 := fun b o hb e => kb _ _ (by
        intro q
        rcases List.mem_cons.mp q with q | q
        · exact hb (by rw [q]; simp)
        · rw [List.mem_singleton.mp q, e2, hLn] at e; cases e) (keep _ _ e)
      refine hq h2 C' (L + 1) c' t' kb' hP2 kc ?_ ?_ hcn
      · obtain ⟨oc, ho, hd⟩ := hcell
        exact ⟨oc, kb _ _ (by simp [hcP, e2]) ho, hd⟩
      · cases q : h.get? C' with
        | none => rfl
        | some o => rw [keep _ _ q] at nC; cases nC
end
end Mine

set_option maxRecDepth 100000
set_option maxHeartbeats 1000000
namespace Mine
open PySem PySem.W PyProof.Rows PySem.Calls
/-- what stands of an object that is no variable's -/
noncomputable def Firm (o : Obj) : Prop := (∀ v, o.data ≠ .cell v) ∧ ∀ es ep, o.data = .dict es ep → nsFind es "__init__" ≠ none
theorem Firm.func {o : Obj} {fd} (h : o.data = .func fd) : Firm o := ⟨(fun v e => by rw [h] at e; cases e), fun es ep e => by rw [h] at e; cases e⟩
theorem Firm.fields {o : Obj} {fd} (h : o.data = .fields fd) : Firm o := ⟨(fun v e => by rw [h] at e; cases e), fun es ep e => by rw [h] at e; cases e⟩
theorem Firm.cls {o : Obj} {fd} (h : o.data = .cls fd) : Firm o := ⟨(fun v e => by rw [h] at e; cases e), fun es ep e => by rw [h] at e; cases e⟩
theorem FnIs.frame {m : MDef} {clos : List (Str × Addr)} {h h' : Heap} {f : Addr} (x : FnIs m clos h f) (hk : ∀ b o, h.get? b = some o → Firm o → h'.get? b = some o) : FnIs m clos h' f := by
  obtain ⟨qn, doc, pm, c', ctv, a, cc, oc, vs, tt, q1, q2, q3, q4⟩ := x
  exact ⟨qn, doc, pm, c', ctv, hk _ _ a (Firm.func rfl), cc, oc, vs, tt, q1, hk _ _ q2 (Firm.fields q3), q3, q4⟩
theorem KCls.frame {P : Params} {h h' : Heap} {C ca : Addr} (x : KCls P h C ca) (hk : ∀ b o, h.get? b = some o → Firm o → h'.get? b = some o) : KCls P h' C ca := by
  obtain ⟨N, dA, f1, f2, f3, f4, f5, f6, ⟨k0, k1, k2, k3, k5, a⟩, ⟨tk, mo, tmo, fl, tfl, sl, st, tk9, t9, ep, b⟩, ⟨td, c⟩, r1, r2, r3, r4, r5, r6⟩ := x
  refine ⟨N, dA, f1, f2, f3, f4, f5, f6, ⟨k0, k1, k2, k3, k5, hk _ _ a (Firm.cls rfl)⟩, ⟨tk, mo, tmo, fl, tfl, sl, st, tk9, t9, ep, hk _ _ b ⟨(fun v e => by cases e), fun es ep e => ?_⟩⟩, ⟨td, hk _ _ c (Firm.fields rfl)⟩, r1.frame hk, r2.frame hk, r3.frame hk, r4.frame hk, r5.frame hk, r6.frame hk⟩
  cases e
  rw [nsFind_ents]
  intro x
  exact absurd (x.symm.trans (show look _ _ = some (Value.ref f1) by kernel_rfl)) (by simp)

noncomputable def mkStmt : Stmt := (bodyOf PySem.Challenge.pw_dm0117_12 "law").headD default
noncomputable def lamOf : Arguments × Expr × Scope × Pos := match mkStmt with | .Assign _ (.Call _ [.Lambda a b s p] _ _) _ => (a, b, s, p) | _ => default
noncomputable def mkPos : Pos × Pos × Pos × Pos := match mkStmt with | .Assign [.Name _ p] (.Call (.Name _ q) _ _ r) s => (p, q, r, s) | _ => default
theorem mkStmt_eq : mkStmt = .Assign [.Name "make" mkPos.1] (.Call (.Name "cmp_to_key" mkPos.2.1) [.Lambda lamOf.1 lamOf.2.1 lamOf.2.2.1 lamOf.2.2.2] [] mkPos.2.2.1) mkPos.2.2.2 := by kernel_rfl
noncomputable def LamIs (h : Heap) (f : Addr) : Prop :=
  ∃ qn pm c' ctv, h.get? f = some (kla_obj "<lambda>" qn lamOf.1 lamOf.2.1 lamOf.2.2.1 [] pm c' ctv) ∧ h.CodeRec (.ref c') qn
theorem LamIs.frame {h h' : Heap} {f : Addr} (x : LamIs h f) (hk : ∀ b o, h.get? b = some o → Firm o → h'.get? b = some o) : LamIs h' f := by
  obtain ⟨qn, pm, c', ctv, a, cc, oc, vs, tt, q1, q2, q3, q4⟩ := x
  exact ⟨qn, pm, c', ctv, hk _ _ a (Firm.func rfl), cc, oc, vs, tt, q1, hk _ _ q2 (Firm.fields q3), q3, q4⟩
section
variable {prog : Program} {w : World} {A : Around} {E : Value → Shared → Prop} {h : Heap} {g : Array GenState} {d : Drawn} {t : Nat} {os : OsState}
theorem lam_dflt (env : Env) : defaultsOf lamOf.1 env = ([], []) := by kernel_rfl
theorem lam_clos (env : Env) : closureFor lamOf.2.2.1 env = pure [] := by kernel_rfl
theorem mk_swap (env : Env) : swapsWith (.Call (.Name "cmp_to_key" mkPos.2.1) [.Lambda lamOf.1 lamOf.2.1 lamOf.2.2.1 lamOf.2.2.2] [] mkPos.2.2.1) (some (.Name "make" mkPos.1)) mkPos.2.2.2.line env = pure false := by kernel_rfl
theorem exec_make {env : Env} {fa c P c1 P1 cm : Addr} {o : Obj} {fd : FuncData} {mg mb : Str → Option Value} {v0 : Value} {Q : Flow → Shared → Prop} (F : CkOk h fa c o fd)
    (hkd : env.scope.kind = .function) (hkc : env.kindOf "cmp_to_key" = some .globalImplicit) (hkm : env.kindOf "make" = some .cell) (hcm : env.cells.lookup ("make" : Str) = some cm) (hge : env.globals = mainGlobals) (hcode : env.code = .ref c1)
    (hroom : A.depth + 1 < recursionLimit) (hl : h.NoLimit) (C : CodeHd h c P) (hP : h.get? P = some (tabObj #[])) (C1 : CodeHd h c1 P1) (hP1 : h.get? P1 = some (tabObj #[])) (hPP : P1 ≠ P) (hcell : h.IsCell cm none)
    (hg : h.Ns mainGlobals mg) (hmc : mg "cmp_to_key" = some (.ref fa)) (hnm : mg "__name__" = some v0) (hno : mg "object" = none) (hB : h.Ns builtinsNs mb) (hbo : mb "object" = some (.type "object")) (hbb : mb "__build_class__" = some (.builtin "__build_class__")) (hgP : mainGlobals ≠ P) (hgP1 : mainGlobals ≠ P1) (hb : h.BuiltinsAt mg P) (hb1 : h.BuiltinsAt mg P1) (hst : h.Ns cStatics (fun _ => none))
    (hq : ∀ h' C' ca lam ps ps1 t', KB [P, P1, cm] h h' → h'.get? P = some (tabObj ps) → h'.get? P1 = some (tabObj ps1) → KCls w.params h' C' ca → h'.IsCell ca (some (.ref lam)) → LamIs h' lam → h'.IsCell cm (some (.ref C')) → h.get? C' = none → h.get? ca = none → h.get? lam = none → Q .next ⟨h', g, d, t', os⟩) :
    wpAny (model prog w) A (exec mkStmt env) Q E ⟨h, g, d, t, os⟩ := by
  rw [mkStmt_eq]
  refine wpAny_Assign_Name ?_ (mk_swap env)
  refine Call_ (Calls.Name_function_global hkd hkc (Calls.loadGlobal_global (by rw [hge]; exact hg) hmc ?_) (by kernel_rfl))
  refine callWith_def F.hd (o := o) (spliced_more (kla_eval (lam_dflt env) ?_) rfl) rfl
  refine kla_makeFunction (lam_clos env) hge hg hcode C1 hP1 trivial rfl hgP1 hb1 fun c' ctv h1 tk hx hge1 hlt hrec htb => ?_
  refine spliced_none ?_
  generalize hfo : kla_obj "<lambda>" (env.qual ++ "<lambda>") lamOf.1 lamOf.2.1 lamOf.2.2.1 [] ((mg "__name__").getD .none) c' ctv = fo
  have x1 : Ext h1 (h1.push fo) := Ext.push _ _
  have hlam : (h1.push fo).get? h1.objs.size = some fo := Heap.get?_push_size _ (by rw [← hfo]; rfl)
  have hnl : h1.get? h1.objs.size = none := Heap.get?_none_of_le (Nat.le_refl _)
  generalize h1.objs.size = lam at hlam hnl ⊢
  generalize h1.push fo = h2 at x1 hlam ⊢
  have k2 : KB [P1] h h2 := fun b o hb e => x1 _ _ (hx b o (fun q => hb (by rw [q]; simp)) e)
  have ne1 : ∀ {b : Addr} {o : Obj}, h.get? b = some o → b ≠ P1 → h2.get? b = some o := fun e hb => k2 _ _ (by simp [hb]) e
  have nes : ∀ {b : Addr} {mm : Str → Option Value}, h.Ns b mm → b ≠ P1 := fun hn q => by
    obtain ⟨o, es, ep, e, hd, _⟩ := hn
    rw [q, hP1] at e; cases e; cases hd
  have nsk : ∀ {b : Addr} {mm : Str → Option Value}, h.Ns b mm → h2.Ns b mm := fun hn => by
    have := nes hn
    obtain ⟨o, es, ep, e, r⟩ := hn
    exact ⟨o, es, ep, ne1 e this, r⟩
  have hlam2 : LamIs h2 lam := ⟨_, _, c', ctv, by rw [hlam, ← hfo], hrec.keeps x1⟩
  have hcP1 : ∀ {b : Addr} {o : Obj}, h.get? b = some o → o.cls ≠ .none → h2.get? b = some o := fun e hc => ne1 e (fun q => hc (by rw [q, hP1] at e; cases e; rfl))
  have F2 : CkOk h2 fa c o fd := ⟨ne1 F.ho (fun q => by have := F.ho; rw [q, hP1] at this; have hd := F.hd; cases this; cases hd), F.hd, (by
    obtain ⟨cc, oc, vs, tt, q1, q2, q3, q4⟩ := F.crec
    exact ⟨cc, oc, vs, tt, q1, ne1 q2 (fun q => by rw [q, hP1] at q2; cases q2; cases q3; simp at q4), q3, q4⟩), F.body, F.scope, F.globals, F.builtins, F.closure, F.code, F.qual, F.bind⟩
  have C2 : CodeHd h2 c P := by
    obtain ⟨oc, vs, file, tf, flags, tg, inF, text, tt, e, r1, r⟩ := C
    exact ⟨oc, vs, file, tf, flags, tg, inF, text, tt, hcP1 e (by rw [r1]; simp), r1, r⟩
  have hP2 : h2.get? P = some (tabObj #[]) := ne1 hP hPP.symm
  have hb2 : h2.BuiltinsAt mg P := by
    obtain ⟨bm, ob, b1, b2, b3, b4, b5, r⟩ := hb
    obtain ⟨bm', ob', b1', _, _, b4', _⟩ := hb1
    rw [b1] at b1'
    cases b1'
    exact ⟨bm, ob, b1, b2, b3, b4, ne1 b5 b4', r⟩
  refine ⟨F2.ho, call_ck F2 hroom ⟨_, nsk hst, rfl⟩ C2 hP2 (nsk hg) hnm hno (nsk hB) hbo hbb hgP hb2 (nsk hst) fun h3 C' ca c2 t3 k3 hP3 kc hca nC nca => ?_⟩
  have hlP : lam ≠ P := fun q => by rw [q, hP2] at hlam; rw [← hfo] at hlam; cases hlam
  have k23 : ∀ b o, h2.get? b = some o → Firm o → b ≠ P → h3.get? b = some o := fun b o e _ hb => k3 _ _ (by simp [hb]) e
  have hlam3 : LamIs h3 lam := by
    obtain ⟨qn, pm, c', ctv, a, cc, oc, vs, tt, q1, q2, q3, q4⟩ := hlam2
    exact ⟨qn, pm, c', ctv, k3 _ _ (by simp [hlP]) a, cc, oc, vs, tt, q1, k3 _ _ (fun q => by
      rw [List.mem_singleton.mp q, hP2] at q2; cases q2; cases q3; simp at q4) q2, q3, q4⟩
  have hcP : cm ≠ P := fun q => by obtain ⟨o, e, hd⟩ := hcell; rw [q, hP] at e; cases e; cases hd
  have hcP1' : cm ≠ P1 := fun q => by obtain ⟨o, e, hd⟩ := hcell; rw [q, hP1] at e; cases e; cases hd
  have hcell3 : h3.IsCell cm none := by
    obtain ⟨o, e, hd⟩ := hcell
    exact ⟨o, k3 _ _ (by simp [hcP]) (ne1 e hcP1'), hd⟩
  have hP1_3 : h3.get? P1 = some (tabObj (#[] ++ #[rawInt lamOf.2.2.2.line, rawInt lamOf.2.2.2.col, .ref c'])) := k3 _ _ (by simp [hPP]) (x1 _ _ htb)
  refine wpAny_storeName_cell hkd hkm hcm hcell3 fun h4 hc4 s4 => ?_
  have fr : ∀ b o, h3.get? b = some o → Firm o → h4.get? b = some o := fun b o e f => same_get s4 e (fun q => by
    obtain ⟨o', e', hd⟩ := hcell3
    rw [q, e'] at e; cases e
    exact f.1 _ hd)
  have old : ∀ {b : Addr}, h2.get? b = none → h.get? b = none := fun {b} hb => by
    cases q : h.get? b with
    | none => rfl
    | some o =>
      by_cases hp : b = P1
      · rw [hp, x1 _ _ htb] at hb; cases hb
      · rw [ne1 q hp] at hb; cases hb
  refine hq h4 C' ca lam _ _ _ (fun b o hb e => ?_) (same_get s4 hP3 hcP.symm) (same_get s4 hP1_3 hcP1'.symm) (kc.frame fr) ?_ (hlam3.frame fr) hc4 (old nC) (old nca) ?_
  · simp only [List.mem_cons, List.not_mem_nil, or_false, not_or] at hb
    exact same_get s4 (k3 _ _ (by simp [hb.1]) (ne1 e hb.2.1)) hb.2.2
  · obtain ⟨oc, e, hd⟩ := hca
    refine ⟨oc, same_get s4 e (fun q => ?_), hd⟩
    obtain ⟨o', e', hd'⟩ := hcell
    rw [q, ne1 e' hcP1'] at nca
    cases nca
  · cases q : h.get? lam with
    | none => rfl
    | some o =>
      exfalso
      by_cases hp : lam = P1
      · rw [hp, htb] at hnl; cases hnl
      · rw [hx _ _ hp q] at hnl; cases hnl
end
end Mine

set_option maxRecDepth 100000
set_option maxHeartbeats 1000000
namespace Mine
open PySem PySem.W PyProof.Rows PySem.Calls
/-- what the fragment of the heap with K in it answers -/
structure KFr (K : Frag) (C dA f1 f3 f4 : Addr) : Prop where
  makes : makesIn K C = true
  init : findIn K (.ref C) "__init__" = some (some (.ref f1))
  fn1 : typeIn K (.ref f1) = some (.type "function")
  gt : findIn K (.ref C) "__gt__" = some (some (.ref f3))
  fn3 : typeIn K (.ref f3) = some (.type "function")
  eq : findIn K (.ref C) "__eq__" = some (some (.ref f4))
  fn4 : typeIn K (.ref f4) = some (.type "function")
  sa : findIn K (.ref C) "__setattr__" = some (some (.builtin "object.__setattr__"))
  over : plainOver K C = true
  taker : takerIn K C "obj" = some (some (.ref dA))
  mem : typeIn K (.ref dA) = some (.type "member_descriptor")
  slot : slotIn K dA C = some 0
  obj : findIn K (.ref C) "obj" = some (some (.ref dA))
  ga : findIn K (.ref C) "__getattribute__" = some (some (.builtin "object.__getattribute__"))
  gt0 : findIn K (.ref C) "__getattr__" = some none
  mget : specialIn K (.ref dA) "__get__" = some (some (.builtin "member_descriptor.__get__"))
  takes : takesIn K (.ref dA) = some true
  ne : findIn K (.ref C) "__ne__" = some (some (.builtin "object.__ne__"))
  cls : (clsIn K C).isSome = true
  keep : keepIn K (.ref C) = true
  rd : findCls K (.ref C) (.type "type") "__gt__" = some (.val (.ref f3))
  ty : typeIn K (.ref C) = some (.type "type")
theorem nsIn_ents {K : Frag} {P : Params} {N : Addr} {l : List Ent} {ep : Nat} (hN : K.lookup N = some (dictO (ents P l) ep)) (x : Str) : nsIn K N x = some (look l x) := by
  have e1 : (ents P l).toList.find? (·.key.isStr x) = (l.find? fun e => e.2.1 == x).map (entOf P) := by
    simp only [ents, List.find?_map]; rfl
  have e2 : (ents P l).toList.any (·.refKey) = false := by
    rw [List.any_eq_false]
    intro e he
    obtain ⟨n, t, h⟩ := strKeys_ents P l e (Array.mem_def.mpr he)
    simp [DictEntry.refKey, h]
  unfold nsIn
  rw [hN]
  dsimp only
  rw [e1, e2]
  unfold look
  cases l.find? fun e => e.2.1 == x with
  | none => rfl
  | some e => rfl
theorem kFr_of {K : Frag} {P : Params} {C N dA f1 f2 f3 f4 f5 f6 : Addr} {q : Str} {k0 k1 k2 k3 k5 : Option Value} {tk : _root_.Fin 12 → Tok} {mo : Str} {tmo : Tok} {fl : Int} {tfl : Tok} {sl st : Addr} {tk9 t9 td : Tok} {ep : Nat} {o1 o3 o4 : Obj}
    (hC : K.lookup C = some (kObj (cdK C N q) #[k0, k1, k2, k3, some (.builtin "object.__new__"), k5]))
    (hN : K.lookup N = some (dictO (ents P (bodyL2 tk (.str mo tmo) (.int fl tfl) (.ref sl) (.ref f1) (.ref f2) (.ref f3) (.ref f4) (.ref f5) (.ref f6) (.ref st) ++ objE tk9 dA ++ docE t9)) ep))
    (hD : K.lookup dA = some (memO "obj" td C 0)) (h1 : K.lookup f1 = some o1) (c1 : o1.cls = .type "function") (h3 : K.lookup f3 = some o3) (c3 : o3.cls = .type "function") (h4 : K.lookup f4 = some o4) (c4 : o4.cls = .type "function") : KFr K C dA f1 f3 f4 := by
  have hfi : ∀ x : Str, findIn K (.ref C) x = alongIn K x [.ref C, .type "object"] := fun x => by simp only [findIn, hC]
  have hown : ∀ x : Str, ownIn K x (.ref C) = nsIn K N x := fun x => by simp only [ownIn, hC]
  have fn : ∀ (x : Str) (v : Value), nsIn K N x = some (some v) → findIn K (.ref C) x = some (some v) := fun x v e => by rw [hfi]; unfold alongIn; rw [hown, e]
  have fo : ∀ (x : Str) (r : Option Value), nsIn K N x = some none → fastBuiltinOwn "object" x = r → findIn K (.ref C) x = some r := fun x r e e2 => by
    rw [hfi]; unfold alongIn; rw [hown, e]; dsimp only; simp only [alongIn, ownIn, e2]
    cases r with
    | some v => rfl
    | none => rfl
  have hns : ∀ x : Str, nsIn K N x = some (look (bodyL2 tk (.str mo tmo) (.int fl tfl) (.ref sl) (.ref f1) (.ref f2) (.ref f3) (.ref f4) (.ref f5) (.ref f6) (.ref st) ++ objE tk9 dA ++ docE t9) x) := nsIn_ents hN
  have hcl : clsIn K C = some (cdK C N q) := by unfold clsIn; rw [hC]
  have hobj : findIn K (.ref C) "obj" = some (some (.ref dA)) := fn _ _ (by rw [hns]; kernel_rfl)
  have hmem : typeIn K (.ref dA) = some (.type "member_descriptor") := by simp only [typeIn, hD]; rfl
  have htk : takesIn K (.ref dA) = some true := by
    have : specialIn K (.ref dA) "__set__" = some (some (.builtin "member_descriptor.__set__")) := by unfold specialIn; rw [hmem]; kernel_rfl
    unfold takesIn; rw [this]
  refine ⟨?_, fn _ _ (by rw [hns]; kernel_rfl), by simp only [typeIn, h1, Option.map_some, c1], fn _ _ (by rw [hns]; kernel_rfl), by simp only [typeIn, h3, Option.map_some, c3], fn _ _ (by rw [hns]; kernel_rfl), by simp only [typeIn, h4, Option.map_some, c4],
    fo _ _ (by rw [hns]; kernel_rfl) (by kernel_rfl), ?_, ?_, hmem, ?_, hobj, fo _ _ (by rw [hns]; kernel_rfl) (by kernel_rfl), fo _ _ (by rw [hns]; kernel_rfl) (by kernel_rfl), ?_, htk, fo _ _ (by rw [hns]; kernel_rfl) (by kernel_rfl), by rw [hcl]; rfl, ?_, ?_, by simp only [typeIn, hC]; rfl⟩
  · have s1 : specialIn K (.ref C) "__call__" = some (some (.builtin "type.__call__")) := by
      unfold specialIn; simp only [typeIn, hC, Option.map_some, Option.bind_some]; kernel_rfl
    have s2 : instIn K (.ref C) (.type "type") = some true := by
      unfold instIn; simp only [typeIn, hC, Option.map_some, Option.bind_some]; kernel_rfl
    unfold makesIn
    rw [hC]
    simp [s1, s2]
  · unfold plainOver; rw [hcl]; rfl
  · unfold takerIn; rw [hobj, Option.bind_some]; simp only [htk]; rfl
  · unfold slotIn recIn
    rw [hD, hcl]
    simp [rawInt]
  · unfold specialIn; rw [hmem]; kernel_rfl
  · have s1 : specialIn K (.ref C) "__call__" = some (some (.builtin "type.__call__")) := by
      unfold specialIn; simp only [typeIn, hC, Option.map_some, Option.bind_some]; kernel_rfl
    simp only [keepIn, hC, s1]
    rfl
  · have q1 : findIn K (.type "type") "__gt__" = some (some (.builtin "object.__gt__")) := by kernel_rfl
    have q2 : specialIn K (.builtin "object.__gt__") "__get__" = some (some (.builtin "wrapper_descriptor.__get__")) := by kernel_rfl
    have q3 : takesIn K (.builtin "object.__gt__") = some false := by kernel_rfl
    have q4 : findIn K (.ref C) "__gt__" = some (some (.ref f3)) := fn _ _ (by rw [hns]; kernel_rfl)
    have q5 : typeIn K (.ref f3) = some (.type "function") := by simp only [typeIn, h3, Option.map_some, c3]
    unfold findCls
    rw [q1]
    simp only [Option.bind_some, q2, q3, q4, q5]
    rfl
theorem lookup_of {h : Heap} {a : Addr} {o : Obj} : ∀ {K : Frag}, (∀ p ∈ K, h.get? p.1 = some p.2) → (a, o) ∈ K → K.lookup a = some o
  | [], _, hm => by cases hm
  | (b, x) :: r, hk, hm => by
    rw [List.lookup_cons]
    cases hb : a == b with
    | true =>
      have e1 := hk (b, x) List.mem_cons_self
      have e2 := hk (a, o) hm
      rw [beq_iff_eq.mp hb] at e2
      dsimp only at e1 e2
      rw [e1] at e2
      exact congrArg some (Option.some.inj e2)
    | false =>
      refine lookup_of (fun p hp => hk p (List.mem_cons_of_mem _ hp)) ?_
      rcases List.mem_cons.mp hm with q | q
      · cases q; simp at hb
      · exact q
theorem in_of {h : Heap} {K : Frag} (hk : ∀ p ∈ K, h.get? p.1 = some p.2) : K.In h := fun a o e => hk (a, o) (mem_of_lookupK e)
theorem frag6 {h : Heap} {a1 a2 a3 a4 a5 a6 : Addr} {o1 o2 o3 o4 o5 o6 : Obj} (h1 : h.get? a1 = some o1) (h2 : h.get? a2 = some o2) (h3 : h.get? a3 = some o3) (h4 : h.get? a4 = some o4) (h5 : h.get? a5 = some o5) (h6 : h.get? a6 = some o6) :
    ∃ K : Frag, K.In h ∧ K.lookup a1 = some o1 ∧ K.lookup a2 = some o2 ∧ K.lookup a3 = some o3 ∧ K.lookup a4 = some o4 ∧ K.lookup a5 = some o5 ∧ K.lookup a6 = some o6 := by
  have hk : ∀ p ∈ ([(a1, o1), (a2, o2), (a3, o3), (a4, o4), (a5, o5), (a6, o6)] : Frag), h.get? p.1 = some p.2 := fun p hp => by
    simp only [List.mem_cons, List.not_mem_nil, or_false] at hp
    rcases hp with rfl | rfl | rfl | rfl | rfl | rfl <;> assumption
  exact ⟨_, in_of hk, lookup_of hk (by simp), lookup_of hk (by simp), lookup_of hk (by simp), lookup_of hk (by simp), lookup_of hk (by simp), lookup_of hk (by simp)⟩
theorem KCls.frag {P : Params} {h : Heap} {C ca : Addr} (x : KCls P h C ca) : ∃ K dA f1 f3 f4, Frag.In K h ∧ KFr K C dA f1 f3 f4 ∧ FnIs (kDef 2) [] h f1 ∧ FnIs (kDef 4) [(("mycmp" : Str), ca)] h f3 ∧ FnIs (kDef 5) [(("mycmp" : Str), ca)] h f4 := by
  obtain ⟨N, dA, f1, f2, f3, f4, f5, f6, ⟨k0, k1, k2, k3, k5, a⟩, ⟨tk, mo, tmo, fl, tfl, sl, st, tk9, t9, ep, b⟩, ⟨td, c⟩, r1, r2, r3, r4, r5, r6⟩ := x
  have g1 := r1; have g3 := r3; have g4 := r4
  obtain ⟨_, _, _, _, _, a1, _⟩ := r1
  obtain ⟨_, _, _, _, _, a3, _⟩ := r3
  obtain ⟨_, _, _, _, _, a4, _⟩ := r4
  obtain ⟨K, X, l1, l2, l3, l4, l5, l6⟩ := frag6 a b c a1 a3 a4
  exact ⟨K, dA, f1, f3, f4, X, kFr_of l1 l2 l3 l4 rfl l5 rfl l6 rfl, g1, g3, g4⟩
end Mine

set_option maxRecDepth 100000
set_option maxHeartbeats 1000000
namespace Mine
open PySem PySem.W PyProof.Rows PySem.Calls Builtin Builtin.ObjectAttr Builtin.Getset_descriptor
/-- a key: an instance of K -/
noncomputable abbrev keyO (C dx : Addr) (v : Value) : Obj := { cls := .ref C, dict := some dx, data := .plain, slots := #[some v] }
noncomputable def iniPos : Pos × Pos × Pos × Pos := match (kDef 2).body.getD 0 default with | .Assign [.Attribute (.Name _ p) _ q] (.Name _ r) s => (p, q, r, s) | _ => default
theorem ini_body : (kDef 2).body = [.Assign [.Attribute (.Name "self" iniPos.1) "obj" iniPos.2.1] (.Name "obj" iniPos.2.2.1) iniPos.2.2.2] := by kernel_rfl
section
variable {prog : Program} {w : World} {A : Around} {E : Value → Shared → Prop} {h : Heap} {g : Array GenState} {d : Drawn} {t : Nat} {os : OsState} {K : Frag} {C : Addr}
theorem slot_put {R : Result → Shared → Prop} {x p dx : Addr} {od : Option Obj} {v : Value} (X : K.In h) (I : InstAt h x (instObj C dx) C od) (hp : slotIn K p C = some 0)
    (hq : ∀ h', Heap.SameBut x h h' → h'.get? x = some (keyO C dx v) → R (.ok (.ret .none)) ⟨h', g, d, t, os⟩) :
    codeAny (model prog w) A (.call (.builtin "member_descriptor.__set__") ⟨[.ref p, .ref x, v], []⟩) R ⟨h, g, d, t, os⟩ := by
  obtain ⟨n, tn, owner, behind, tb, dd, sl, cd, ho, hc, hm, hb, hi⟩ := slot_of X hp
  have L0 := I.type (M := model prog w)
  have L1 := looks_mroIn (M := model prog w) X hm
  have L2 : Looks (model prog w) h (Slots.slotNamesOf (.ref C)) cd.slotNames := (looks_clsIn X hc).andThen .now
  have hx := I.at_
  have f0 := looks_field (M := model prog w) ho 0 (v := .str n tn) rfl
  have f1 := looks_field (M := model prog w) ho 1 (v := owner) rfl
  have f3 := looks_field (M := model prog w) ho 3 (v := .builtin "proto.slot#set") rfl
  have f4 := looks_field (M := model prog w) ho 4 (v := .int behind tb) rfl
  refine codeAny_call_builtin KF.slot_mset.plain KF.entry_mset (KF.slot_mset.check _ _ _ _ _ _ _ _ ⟨_, ho, rfl⟩ (KF.args_mset _ _ _) ?_)
  unfold Builtin.«member_descriptor.__set__» descrSet descrStoreThrough descrCheckInstance descrNameAndClass isInstance
  have f5 : Looks (model prog w) h (descrItself (.ref p)) [.ref p] := ((Looks.ld (part := none) ho).andThen .now).andThen (Looks.of_pure (by kernel_rfl))
  repeat lk
  refine ⟨Code.quiet_builtin _ (by decide +kernel), codeAny_builtin KF.entry_slotset ?_⟩
  unfold Builtin.«proto.slot#set» Slots.target
  repeat lk
  rw [if_neg hb, ← hi]
  refine wpAny_pure (wpAny_bind (op_slot hx rfl (by decide) fun h' hs hg => wpAny_pure (hq h' hs ?_)))
  rw [hg]
  rfl
theorem make_call {ca : Addr} {v : Value} {Q : Value → Shared → Prop} (kc : KCls w.params h C ca) (hroom : A.depth + 1 < recursionLimit) (hl : h.NoLimit)
    (hq : ∀ h' x dx t', Ext h h' → h.get? x = none → h'.get? x = some (keyO C dx v) → Q (.ref x) ⟨h', g, d, t', os⟩) :
    wpAny (model prog w) A (call (.ref C) [v]) Q E ⟨h, g, d, t, os⟩ := by
  obtain ⟨K, dA, f1, f3, f4, X, kf, g1, g3, g4⟩ := kc.frag
  refine wpAny_call (make_core (makes_of X kf.makes) (looks_findIn X kf.init) (fun self => bind_fn X self kf.fn1) (.inl rfl) ?_)
  have x1 : Ext h ((h.push emptyDict).push (instObj C h.objs.size)) := (Ext.push _ _).trans (Ext.push _ _)
  have hx : ((h.push emptyDict).push (instObj C h.objs.size)).get? (h.objs.size + 1) = some (instObj C h.objs.size) := by heap_get
  have hd : ((h.push emptyDict).push (instObj C h.objs.size)).get? h.objs.size = some emptyDict := by heap_get
  have hn : h.get? (h.objs.size + 1) = none := Heap.get?_none_of_le (Nat.le_succ _)
  generalize (h.push emptyDict).push (instObj C h.objs.size) = h1 at x1 hx hd ⊢
  generalize h.objs.size + 1 = x at hx hn ⊢
  generalize h.objs.size = dx at hx hd ⊢
  have g1' := g1.ext x1
  obtain ⟨qn, doc, pm, c', ctv, a, hrec⟩ := g1'
  refine codeAny_call_def (binds := [(("self" : Str), .ref x), (("obj" : Str), v)]) (by show A.depth + 1 < _; exact hroom) a rfl (hl.keeps x1) hrec rfl (BindsTo.of_eq (by kernel_rfl)) (show ∀ x ∈ (kDef 2).scope.names, x.2 ≠ .cell by decide +kernel) ?_ (fun h2 hns keep => ?_) (by kernel_rfl) (by kernel_rfl) (by kernel_rfl)
  · intro y hy
    simp only [List.mem_cons, List.not_mem_nil, or_false] at hy
    rcases hy with rfl | rfl
    · show (kDef 2).scope.names.lookup ("self" : Str) = _; kernel_rfl
    · show (kDef 2).scope.names.lookup ("obj" : Str) = _; kernel_rfl
  generalize henv : callEnv _ _ _ = env
  have e1 : env.scope = (kDef 2).scope := by rw [← henv]; rfl
  have e2 : env.locals = h1.objs.size := by rw [← henv]; rfl
  have hk : ∀ x, env.kindOf x = (kDef 2).scope.names.lookup x := fun x => by show env.scope.names.lookup x = _; rw [e1]
  have hkd : env.scope.kind = .function := by rw [e1]; kernel_rfl
  have hns' : h2.Ns env.locals (fun y => ([(("self" : Str), Value.ref x), (("obj" : Str), v)].reverse).lookup y) := by rw [e2]; exact hns
  have keep' : Ext h1 h2 := keep
  rw [ini_body]
  refine wpAny_execs_cons (plainObj_wpAny_Assign_Attribute ?_ (by kernel_rfl))
  refine wpAny_Name (wpAny_loadName_local (v := v) hkd (by rw [hk]; kernel_rfl) hns' (by kernel_rfl) ?_)
  refine wpAny_Name (wpAny_loadName_local (v := .ref x) hkd (by rw [hk]; kernel_rfl) hns' (by kernel_rfl) ?_)
  have X2 : K.In h2 := X.keeps (x1.trans keep')
  have I2 : InstAt h2 x (instObj C dx) C (some emptyDict) := ⟨keep' _ _ hx, rfl, rfl, keep' _ _ hd⟩
  refine set_plain (K := K) (C := C) X2 I2 kf.sa (osa_descr (s := ⟨h2, g, d, _, os⟩) KF.slot_mset X2 I2 kf.over kf.taker kf.mem (slot_put X2 I2 kf.slot fun h3 hs3 hg3 => ?_))
  refine wpAny_execs_nil ⟨rfl, hq h3 x dx _ (fun b o e => ?_) hn hg3⟩
  exact same_get hs3 (keep' _ _ (x1 _ _ e)) (fun q => by rw [q, hn] at e; cases e)
end
end Mine

set_option maxRecDepth 100000
set_option maxHeartbeats 1000000
namespace Mine
open PySem PySem.W PyProof.Rows PySem.Calls Builtin Builtin.ObjectAttr Builtin.Getset_descriptor
noncomputable def lamPos : Pos × Pos × Pos × Pos × Pos × Pos × Pos := match lamOf.2.1 with | .BinOp (.BinOp (.Name _ p) _ (.Constant _ _ q) r) _ (.BinOp (.Name _ s) _ (.Constant _ _ t) u) v => (p, q, r, s, t, u, v) | _ => default
theorem lam_body : lamOf.2.1 = .BinOp (.BinOp (.Name "a" lamPos.1) .Mod (.Constant (.int 5) 0 lamPos.2.1) lamPos.2.2.1) .Sub (.BinOp (.Name "b" lamPos.2.2.2.1) .Mod (.Constant (.int 5) 0 lamPos.2.2.2.2.1) lamPos.2.2.2.2.2.1) lamPos.2.2.2.2.2.2 := by kernel_rfl
section
variable {prog : Program} {w : World} {A : Around} {E : Value → Shared → Prop} {h : Heap} {g : Array GenState} {d : Drawn} {t : Nat} {os : OsState} {K : Frag} {C : Addr}
theorem lam_call {lam : Addr} {i j : Int} {ti tj : Tok} {Q : Value → Shared → Prop} (hl : LamIs h lam) (hn : h.NoLimit) (hroom : A.depth < recursionLimit)
    (hq : ∀ h' tk t', Ext h h' → Q (.int (i.fmod 5 - j.fmod 5) tk) ⟨h', g, d, t', os⟩) : wpAny (model prog w) A (call (.ref lam) [.int i ti, .int j tj]) Q E ⟨h, g, d, t, os⟩ := by
  obtain ⟨qn, pm, c', ctv, a, hrec⟩ := hl
  refine wpAny_call (kla_callFunE hroom a rfl (by kernel_rfl) (by kernel_rfl) rfl hrec ?_)
  have hb : bindArgs (kla_fn "<lambda>" qn lamOf.1 lamOf.2.1 lamOf.2.2.1 [] pm (.ref c') ctv) ⟨[.int i ti, .int j tj], []⟩ = pure [(("a" : Str), .int i ti), (("b" : Str), .int j tj)] := by kernel_rfl
  rw [hb]
  refine wpAny_pure (wpAny_newFunctionEnv (show ∀ x ∈ lamOf.2.2.1.names, x.2 ≠ .cell by decide +kernel) ?_ (fun h1 hns hsb => ⟨hn.fresh _ hsb, ?_⟩) (by kernel_rfl))
  · intro y hy
    simp only [List.mem_cons, List.not_mem_nil, or_false] at hy
    rcases hy with rfl | rfl
    · show lamOf.2.2.1.names.lookup ("a" : Str) = _; kernel_rfl
    · show lamOf.2.2.1.names.lookup ("b" : Str) = _; kernel_rfl
  have keep : Ext h h1 := fun b o e => hsb.extBut b o (Nat.ne_of_lt (Heap.lt_size e)) (Heap.get?_push_of_some _ e)
  generalize henv : newEnv _ _ _ _ _ _ _ _ _ = env
  have e1 : env.scope = lamOf.2.2.1 := by rw [← henv]; rfl
  have e2 : env.locals = h.objs.size := by rw [← henv]; rfl
  have hk : ∀ x, env.kindOf x = lamOf.2.2.1.names.lookup x := fun x => by show env.scope.names.lookup x = _; rw [e1]
  have hkd : env.scope.kind = .function := by rw [e1]; kernel_rfl
  have hns' : h1.Ns env.locals (fun y => ([(("a" : Str), Value.int i ti), (("b" : Str), Value.int j tj)].reverse).lookup y) := by rw [e2]; exact hns
  refine kla_codeExpr ?_
  rw [lam_body]
  refine wpAny_BinOp (wpAny_BinOp (wpAny_Name (wpAny_loadName_local (v := .int i ti) hkd (by rw [hk]; kernel_rfl) hns' (by kernel_rfl) (wpAny_Constant_int (PyProof.Rows.mod_int (by decide) (wpAny_BinOp ?_))))))
  refine wpAny_Name (wpAny_loadName_local (v := .int j tj) hkd (by rw [hk]; kernel_rfl) hns' (by kernel_rfl) (wpAny_Constant_int (PyProof.Rows.mod_int (by decide) (PyProof.Rows.sub_int ?_))))
  exact hq h1 _ _ keep
theorem key_type {M : Model} {x dx : Addr} {v : Value} (hx : h.get? x = some (keyO C dx v)) : Looks M h (typeOf (.ref x)) (.ref C) := (Looks.ld hx).andThen .now
theorem slot_read {R : Result → Shared → Prop} {x p dx : Addr} {v tp : Value} (X : K.In h) (hx : h.get? x = some (keyO C dx v)) (hp : slotIn K p C = some 0) (hq : R (.ok (.ret v)) ⟨h, g, d, t, os⟩) :
    codeAny (model prog w) A (.call (.builtin "member_descriptor.__get__") ⟨[.ref p, .ref x, tp], []⟩) R ⟨h, g, d, t, os⟩ := by
  obtain ⟨n, tn, owner, behind, tb, dd, sl, cd, ho, hc, hm, hb, hi⟩ := slot_of X hp
  have L0 := key_type (M := model prog w) hx
  have L1 := looks_mroIn (M := model prog w) X hm
  have L2 : Looks (model prog w) h (Slots.slotNamesOf (.ref C)) cd.slotNames := (looks_clsIn X hc).andThen .now
  have f0 := looks_field (M := model prog w) ho 0 (v := .str n tn) rfl
  have f1 := looks_field (M := model prog w) ho 1 (v := owner) rfl
  have f2 := looks_field (M := model prog w) ho 2 (v := .builtin "proto.slot") rfl
  have f4 := looks_field (M := model prog w) ho 4 (v := .int behind tb) rfl
  refine codeAny_call_builtin KF.slot_mem.plain KF.entry_mem (KF.slot_mem.check _ _ _ _ _ _ _ _ ⟨_, ho, rfl⟩ (KF.args_mem _ _ _) ?_)
  unfold Builtin.«member_descriptor.__get__» descrGet
  rw [dga_obj]
  refine wpAny_bind (wpAny_pure ?_)
  unfold descrGetter descrCheckInstance descrNameAndClass isInstance
  repeat lk
  refine ⟨Code.quiet_builtin _ (by decide +kernel), codeAny_builtin KF.entry_slot ?_⟩
  unfold Builtin.«proto.slot» Slots.target
  repeat lk
  rw [if_neg hb, ← hi]
  repeat lk
  exact hq
theorem key_get {ca x dx : Addr} {v : Value} {expr : Bool} {Q : Value → Shared → Prop} (kc : KCls w.params h C ca) (hx : h.get? x = some (keyO C dx v)) (hh : handedIn v = true) (hq : Q v ⟨h, g, d, t + 1, os⟩) :
    wpAny (model prog w) A (getAttr (.ref x) "obj" expr) Q E ⟨h, g, d, t, os⟩ := by
  obtain ⟨K, dA, f1, f3, f4, X, kf, g1, g3, g4⟩ := kc.frag
  have L0 := key_type (M := model prog w) hx
  have L1 := looks_findIn (M := model prog w) X kf.ga
  have L2 := looks_findIn (M := model prog w) X kf.gt0
  have L3 : Looks (model prog w) h (find (.ref x) (.ref C) "obj") (.bind (.builtin "member_descriptor.__get__") (.ref dA)) :=
    (looks_findIn X kf.obj).andThen ((show Looks (model prog w) h (getOf (some (.ref dA))) (some (.builtin "member_descriptor.__get__")) from looks_specialIn X kf.mget).andThen
      ((show Looks (model prog w) h (dataDescriptor? (some (.ref dA)) (some (.builtin "member_descriptor.__get__"))) (some (.builtin "member_descriptor.__get__", .ref dA)) from (looks_takesIn X kf.takes).andThen .now).andThen (Looks.tag .now)))
  unfold getAttr getAttrBy
  refine wpAny_bind (wpAny_mkText (wpAny_holding (wpAny_bind (L0.at (wpAny_bind (L1.at ?_))))))
  show wpAny _ _ (getAttrEveryday _ _ _) _ _ _
  refine wpAny_bind (wpAny_onRaise (wpAny_runValue (codeAny_builtin F.plainObj_entry_getattr_hooked ?_)))
  refine wpAny_bind (wpAny_pure (wpAny_bind (L0.at (wpAny_bind (L3.at (wpAny_bind (L2.at ?_)))))))
  show wpAny _ _ (holding [Value.ref dA] (call (.builtin "member_descriptor.__get__") [.ref dA, .ref x, .ref C]) >>= ret) _ _ _
  refine wpAny_bind (wpAny_holding (wpAny_call (slot_read X hx kf.slot ?_)))
  exact wpAny_pure (handed_on hh hq)
end
end Mine

set_option maxRecDepth 100000
set_option maxHeartbeats 1000000
namespace Mine
open PySem PySem.W PyProof.Rows PySem.Calls
noncomputable abbrev cmpBody (op : CmpOp) (p1 p2 p3 p4 p5 p6 p7 p8 p9 : Pos) : List Stmt :=
  [.Return (some (.Compare (.Call (.Name "mycmp" p1) [.Attribute (.Name "self" p2) "obj" p3, .Attribute (.Name "other" p4) "obj" p5] [] p6) [op] [.Constant (.int 0) 0 p7] p8)) p9]
noncomputable def cmpPos (i : Nat) : Pos × Pos × Pos × Pos × Pos × Pos × Pos × Pos × Pos := match (kDef i).body.getD 0 default with
  | .Return (some (.Compare (.Call (.Name _ p1) [.Attribute (.Name _ p2) _ p3, .Attribute (.Name _ p4) _ p5] _ p6) _ [.Constant _ _ p7] p8)) p9 => (p1, p2, p3, p4, p5, p6, p7, p8, p9)
  | _ => default
theorem gt_body : (kDef 4).body = cmpBody .Gt (cmpPos 4).1 (cmpPos 4).2.1 (cmpPos 4).2.2.1 (cmpPos 4).2.2.2.1 (cmpPos 4).2.2.2.2.1 (cmpPos 4).2.2.2.2.2.1 (cmpPos 4).2.2.2.2.2.2.1 (cmpPos 4).2.2.2.2.2.2.2.1 (cmpPos 4).2.2.2.2.2.2.2.2 := by kernel_rfl
theorem eq_body : (kDef 5).body = cmpBody .Eq (cmpPos 5).1 (cmpPos 5).2.1 (cmpPos 5).2.2.1 (cmpPos 5).2.2.2.1 (cmpPos 5).2.2.2.2.1 (cmpPos 5).2.2.2.2.2.1 (cmpPos 5).2.2.2.2.2.2.1 (cmpPos 5).2.2.2.2.2.2.2.1 (cmpPos 5).2.2.2.2.2.2.2.2 := by kernel_rfl
structure CmpDef (m : MDef) (op : CmpOp) : Prop where
  body : ∃ p1 p2 p3 p4 p5 p6 p7 p8 p9, m.body = cmpBody op p1 p2 p3 p4 p5 p6 p7 p8 p9
  bind : ∀ (qn : Str) (clos : List (Str × Addr)) (doc pm cd ctv x y : Value), bindArgs (fnX m.name qn m.params m.body m.scope clos .none .none doc pm none cd ctv) ⟨[x, y], []⟩ = pure [(("self" : Str), x), (("other" : Str), y)]
  cell : ∀ x ∈ m.scope.names, x.2 ≠ .cell
  self : m.scope.names.lookup ("self" : Str) = some .local
  other : m.scope.names.lookup ("other" : Str) = some .local
  free : m.scope.names.lookup ("mycmp" : Str) = some .free
  co : m.scope.isCoroutine = false
  gen : m.scope.isGenerator = false
  kind : m.scope.kind = .function
theorem gt_def : CmpDef (kDef 4) .Gt := ⟨⟨_, _, _, _, _, _, _, _, _, gt_body⟩, fun _ _ _ _ _ _ _ _ => by kernel_rfl, by decide +kernel, by kernel_rfl, by kernel_rfl, by kernel_rfl, by kernel_rfl, by kernel_rfl, by kernel_rfl⟩
theorem eq_def : CmpDef (kDef 5) .Eq := ⟨⟨_, _, _, _, _, _, _, _, _, eq_body⟩, fun _ _ _ _ _ _ _ _ => by kernel_rfl, by decide +kernel, by kernel_rfl, by kernel_rfl, by kernel_rfl, by kernel_rfl, by kernel_rfl, by kernel_rfl⟩
section
variable {prog : Program} {w : World} {A : Around} {E : Value → Shared → Prop} {h : Heap} {g : Array GenState} {d : Drawn} {t : Nat} {os : OsState} {C : Addr}
theorem cmp_call {m : MDef} {op : CmpOp} {f ca lam x y dx dy : Addr} {i j : Int} {ti tj : Tok} {b : Bool} {Q : Value → Shared → Prop} (D : CmpDef m op) (kc : KCls w.params h C ca) (hf : FnIs m [(("mycmp" : Str), ca)] h f) (hca : h.IsCell ca (some (.ref lam))) (hl : LamIs h lam)
    (hx : h.get? x = some (keyO C dx (.int i ti))) (hy : h.get? y = some (keyO C dy (.int j tj))) (hn : h.NoLimit) (hroom : A.depth + 1 < recursionLimit)
    (hop : ∀ (A' : Around) (s : Shared) (E' : Value → Shared → Prop) (Q' : Value → Shared → Prop) (t1 t2 : Tok), Q' (.bool b) s → wpAny (model prog w) A' (compareOp op (.int (i.fmod 5 - j.fmod 5) t1) (.int 0 t2)) Q' E' s)
    (hm : ∀ p, behindInMarks op (.Constant (.int 0) 0 p) = false)
    (hq : ∀ h' t', Ext h h' → Q (.bool b) ⟨h', g, d, t', os⟩) : wpAny (model prog w) A (call (.ref f) [.ref x, .ref y]) Q E ⟨h, g, d, t, os⟩ := by
  obtain ⟨qn, doc, pm, c', ctv, a, hrec⟩ := hf
  refine wpAny_call (codeAny_call_def (binds := [(("self" : Str), .ref x), (("other" : Str), .ref y)]) (Nat.lt_of_succ_lt hroom) a rfl hn hrec rfl (BindsTo.of_eq (D.bind _ _ _ _ _ _ _ _)) D.cell ?_ (fun h2 hns keep => ?_) D.co D.gen D.kind)
  · intro z hz
    simp only [List.mem_cons, List.not_mem_nil, or_false] at hz
    rcases hz with rfl | rfl
    · exact D.self
    · exact D.other
  have keep' : Ext h h2 := keep
  generalize henv : callEnv _ _ _ = env
  have e1 : env.scope = m.scope := by rw [← henv]; rfl
  have e2 : env.locals = h.objs.size := by rw [← henv]; rfl
  have e3 : env.cells = [(("mycmp" : Str), ca)] := by rw [← henv]; rfl
  have hk : ∀ x, env.kindOf x = m.scope.names.lookup x := fun x => by show env.scope.names.lookup x = _; rw [e1]
  have hkd : env.scope.kind = .function := by rw [e1]; exact D.kind
  have hns' : h2.Ns env.locals (fun z => ([(("self" : Str), Value.ref x), (("other" : Str), Value.ref y)].reverse).lookup z) := by rw [e2]; exact hns
  obtain ⟨p1, p2, p3, p4, p5, p6, p7, p8, p9, hb⟩ := D.body
  rw [hb]
  have hl2 : LamIs h2 lam := hl.frame fun b o e _ => keep' _ _ e
  obtain ⟨ql, pl, cl, ctl, al, hrl⟩ := hl2
  refine wpAny_execs_cons (wpAny_Return_some (wpAny_Compare1 (Call_ (wpAny_Name (wpAny_loadName_free hkd (by rw [hk]; exact D.free) (by rw [e3]; rfl) (hca.keeps keep') ?_))) (hm _)))
  refine callWith_def (o := kla_obj "<lambda>" ql lamOf.1 lamOf.2.1 lamOf.2.2.1 [] pl cl ctl) rfl (spliced_more (Attribute_Name_ (wpAny_Name (wpAny_loadName_local (v := .ref x) hkd (by rw [hk]; exact D.self) hns' (by kernel_rfl) (key_get (kc.ext keep') (keep' _ _ hx) rfl ?_)))) rfl) rfl
  refine spliced_more (Attribute_Name_ (wpAny_Name (wpAny_loadName_local (v := .ref y) hkd (by rw [hk]; exact D.other) hns' (by kernel_rfl) (key_get (kc.ext keep') (keep' _ _ hy) rfl (spliced_none ?_))))) rfl
  refine ⟨al, lam_call ⟨ql, pl, cl, ctl, al, hrl⟩ (hn.keeps keep') hroom fun h3 tk t3 x3 => wpAny_Constant_int (hop _ _ _ _ _ _ (hq h3 _ (keep'.trans x3)))⟩
end
end Mine

set_option maxRecDepth 100000
set_option maxHeartbeats 1000000
namespace Mine
open PySem PySem.W PyProof.Rows PySem.Calls
section
variable {prog : Program} {w : World} {A : Around} {E : Value → Shared → Prop} {h : Heap} {g : Array GenState} {d : Drawn} {t : Nat} {os : OsState} {C ca lam x y dx dy : Addr} {i j : Int} {ti tj : Tok}
theorem key_ne {Q : Value → Shared → Prop} (kc : KCls w.params h C ca) (hca : h.IsCell ca (some (.ref lam))) (hl : LamIs h lam) (hx : h.get? x = some (keyO C dx (.int i ti))) (hy : h.get? y = some (keyO C dy (.int j tj))) (hn : h.NoLimit)
    (hroom : A.depth + 1 < recursionLimit) (hu : A.units + 1 < cLine) (hq : ∀ h' t', Ext h h' → Q (.bool (!(i.fmod 5 - j.fmod 5 == 0))) ⟨h', g, d, t', os⟩) : wpAny (model prog w) A (compareOp .NotEq (.ref x) (.ref y)) Q E ⟨h, g, d, t, os⟩ := by
  have kc' := kc
  obtain ⟨N, dA, f1, f2, f3, f4, f5, f6, ⟨k0, k1, k2, k3, k5, a⟩, ⟨tk, mo, tmo, fl, tfl, sl, st, tk9, t9, ep, b⟩, ⟨td, c⟩, r1, r2, r3, r4, r5, r6⟩ := kc
  have r4' := r4
  obtain ⟨qn, doc, pm, c', ctv, a4, hrec⟩ := r4
  have hE : typeLookup (.type "object") "__eq__" = pure (some (.builtin "object.__eq__")) := by kernel_rfl
  have X : h.OwnEqNoNe x C f4 "object" [.type "object"] := ⟨_, _, "K", "cmp_to_key.<locals>.K", N, [.type "object"], false, ["obj"], [], false, none, none, k0, k1, k2, k3, k5, "object.__new__", _, _, hx, rfl, a, ns_ents b rfl, by kernel_rfl, a4, rfl, F.cmp_object.mro, hE, by kernel_rfl⟩
  refine compareOp_ne_ownEq F.cmp_object X hy rfl hu ?_
  exact cmp_call eq_def kc' r4' hca hl hx hy hn hroom (fun A' s E' Q' t1 t2 z => PyProof.Rows.eq_int z) (fun p => by with_unfolding_all rfl) fun h' t' e => ⟨_, rfl, hq h' t' e⟩
theorem type_key {v : Value} {Q : Value → Shared → Prop} (hx : h.get? x = some (keyO C dx v)) (hq : Q (.ref C) ⟨h, g, d, t, os⟩) : wpAny (model prog w) A (call (.type "type") [.ref x]) Q E ⟨h, g, d, t, os⟩ := by
  refine wpAny_call (codeAny_of_tree ?_)
  show wpAny _ _ (callAny (.type "type") _) _ _ _
  refine wpAny_pure ⟨Code.quiet_builtin _ (by decide +kernel), codeAny_builtin F.entry_type_call ?_⟩
  have L0 := key_type (M := model prog w) hx
  unfold Builtin.«type.__call__» shownTypeOf
  repeat lk
  exact hq
theorem key_method {Q : Value × List Value → Shared → Prop} {pl : Sem Bool} (kc : KCls w.params h C ca) (hst : h.Ns cStatics (fun _ => none)) (hq : ∀ f3, FnIs (kDef 4) [(("mycmp" : Str), ca)] h f3 → Q (.ref f3, []) ⟨h, g, d, t + 1, os⟩) :
    wpAny (model prog w) A (getMethod (.ref C) "__gt__" pl) Q E ⟨h, g, d, t, os⟩ := by
  obtain ⟨K, dA, f1, f3, f4, X, kf, g1, g3, g4⟩ := kc.frag
  have hg : findIn K (.type "type") "__getattribute__" = some (some (.builtin "type.__getattribute__")) := type_tga
  refine method_cls (s := ⟨h, g, d, t, os⟩) X (by unfold specialIn; rw [kf.ty]; exact hg) ?_
  have LO : Looks (model prog w) h (opaqueClassAbove (.ref C)) none := fun A Q E s k q => by
    obtain ⟨hh, gg, dd, tt, oss⟩ := s
    exact c_opaque (hst.keeps k) q
  refine cls_open (s := ⟨h, g, d, t, os⟩) X LO (looks_typeIn X kf.ty) hg (looks_hook X (r := none) (by rfl)) (by show subIn K _ _ = _; rfl) kf.rd ?_
  exact wpAny_pure (handed_on rfl (hq f3 g3))
end
end Mine

set_option maxRecDepth 100000
set_option maxHeartbeats 1000000
namespace Mine
open PySem PySem.W PyProof.Rows PySem.Calls

/-- what stands for an opaque value: the class K (5), a key by its number's remainder (0 to 4) -/
noncomputable def kP (C : Addr) : Addr → Obj → Int → Prop := fun a o n => (n = 5 ∧ a = C ∧ ∃ cd sl, o = kObj cd sl) ∨ (n < 5 ∧ ∃ dx m tk, o = keyO C dx (.int m tk) ∧ Int.fmod m 5 = n)
theorem kP_nf {C : Addr} : ∀ a o n, kP C a o n → NF o := by
  rintro a o n (⟨_, _, cd, sl, rfl⟩ | ⟨_, dx, m, tk, rfl, _⟩)
  · exact ⟨(fun es ep e => by cases e), (fun v e => by cases e)⟩
  · exact ⟨(fun es ep e => by cases e), (fun v e => by cases e)⟩
structure KOk (B : Bd) (C ca lam : Addr) : Prop where
  cls : KCls B.w.params B.hb C ca
  cell : B.hb.IsCell ca (some (.ref lam))
  lam : LamIs B.hb lam
  st : B.hb.Ns cStatics (fun _ => none)
  P : B.P = kP C

section
variable {B : Bd} {sc : Scope} {names : List Str} {n : Nat} {C ca lam : Addr}
theorem KOk.key (K : KOk B C ca lam) {X : Addr → Prop} {h : Heap} {k : Int} {v : Value} (r : Rep B.P X h (.opq k) v) (hk : k < 5) : ∃ x dx m tk, v = .ref x ∧ h.get? x = some (keyO C dx (.int m tk)) ∧ Int.fmod m 5 = k := by
  simp only [Rep, K.P] at r
  obtain ⟨a, o, rfl, hx, ho, hp⟩ := r
  rcases hp with ⟨e, _⟩ | ⟨_, dx, m, tk, rfl, e⟩
  · omega
  · exact ⟨a, dx, m, tk, rfl, ho, e⟩
theorem KOk.cl (K : KOk B C ca lam) {X : Addr → Prop} {h : Heap} {v : Value} (r : Rep B.P X h (.opq 5) v) : v = .ref C := by
  simp only [Rep, K.P] at r
  obtain ⟨a, o, rfl, hx, ho, hp⟩ := r
  rcases hp with ⟨_, rfl, _⟩ | ⟨e, _⟩
  · rfl
  · omega
noncomputable def gMake : T → T → Option T
  | .opq k, .int i => if k = 5 then some (.opq (i.fmod 5)) else none
  | _, _ => none
theorem gMake_some {x y t : T} (h : gMake x y = some t) : ∃ i, x = .opq 5 ∧ y = .int i ∧ t = .opq (i.fmod 5) := by
  unfold gMake at h
  split at h
  · split at h
    · rename_i k i hk
      cases h
      exact ⟨i, by rw [hk], rfl, rfl⟩
    · cases h
  · cases h
theorem s_make (ok : B.Ok) (K : KOk B C ca lam) {x : Str} {e : Expr} {p pos : Pos} {a b : Dn} (h0 : SoundE B sc names n (.Name x p) a) (h1 : SoundE B sc names n e b) (hn : 1 ≤ n := by decide)
    (he : ∀ env : Env, starEach [e] env = (false, eval e env) :: starEach [] env := by intro _; rfl) : SoundE B sc names n (.Call (.Name x p) [e] [] pos) (bin gMake a b) := by
  intro X env ρ s t A E eo rm C0 hd
  unfold bin at hd
  obtain ⟨f, hf, hd⟩ := Option.bind_eq_some_iff.mp hd
  obtain ⟨y, hy, hd⟩ := Option.bind_eq_some_iff.mp hd
  obtain ⟨i, rfl, rfl, rfl⟩ := gMake_some hd
  refine Call_ (h0.use ok eo rm C0 hf fun u h1' tk1 e1 C1 r1 => ?_)
  have hu := K.cl r1
  subst hu
  obtain ⟨Kf, dA, f1, f3, f4, X1, kf, _⟩ := (K.cls.ext C1.hb).frag
  refine callWith_K X1 kf.keep (spliced_more (h1.use ok eo rm C1 hy fun v h2 tk2 e2 C2 r2 => spliced_none ?_) (he env)) (he env)
  simp only [Rep] at r2
  obtain ⟨tv, rfl⟩ := r2
  refine ⟨X1.keeps e2, make_call (K.cls.ext C2.hb) (by have := rm.depth; omega) (ok.nolimit.keeps C2.hb) fun h3 x3 dx t3 e3 hn3 hg3 => ?_⟩
  refine Out.to (e1.trans (e2.trans e3)) ?_
  simp only [Rep, K.P]
  exact ⟨x3, _, rfl, (fun hx => by obtain ⟨o, ho⟩ := C2.al _ hx; rw [hn3] at ho; cases ho), hg3, .inr ⟨Int.fmod_lt_of_pos _ (by decide), dx, i, tv, rfl, rfl⟩⟩
noncomputable def dGtK : T → T → T → Option Bool
  | .opq a0, .opq a, .opq b => if a0 < 5 ∧ a < 5 ∧ b < 5 then some (decide (b < a)) else none
  | _, _, _ => none
theorem dGtK_some {x0 x y : T} {z : Bool} (h : dGtK x0 x y = some z) : ∃ k0 k1 k2, x0 = .opq k0 ∧ x = .opq k1 ∧ y = .opq k2 ∧ (k0 < 5 ∧ k1 < 5 ∧ k2 < 5) ∧ z = decide (k2 < k1) := by
  unfold dGtK at h
  split at h
  · split at h
    · rename_i hk
      cases h
      exact ⟨_, _, _, rfl, rfl, rfl, hk, rfl⟩
    · cases h
  · cases h
theorem s_dunK (ok : B.Ok) (K : KOk B C ca lam) {ty : Str} {e0 e1 e2 : Expr} {p0 p1 p2 pos : Pos} {a0 a1 a2 : Dn} (hg : GlobIs B sc ty (.type "type"))
    (h0 : SoundE B sc names n e0 a0) (h1 : SoundE B sc names n e1 a1) (h2 : SoundE B sc names n e2 a2) (hn : 1 ≤ n := by decide)
    (he0 : ∀ env : Env, starEach [e0] env = (false, eval e0 env) :: starEach [] env := by intro _; rfl)
    (he1 : ∀ env : Env, starEach [e1, e2] env = (false, eval e1 env) :: starEach [e2] env := by intro _; rfl)
    (he2 : ∀ env : Env, starEach [e2] env = (false, eval e2 env) :: starEach [] env := by intro _; rfl)
    (hp : ∀ env : Env, (backTo pos (starEach [e2] env)).any (·.1) = false := by intro _; rfl)
    (he : ∀ env : Env, ∃ pl, eval (.Call (.Attribute (.Call (.Name ty p0) [e0] [] p1) "__gt__" p2) [e1, e2] [] pos) env = (do
      let ov ← eval (.Call (.Name ty p0) [e0] [] p1) env
      standAt p2.atName
      let (f, first) ← holding [ov] (getMethod ov "__gt__" pl)
      callWith pos f first (backTo pos (starEach [e1, e2] env)) []) := by intro _; exact ⟨_, rfl⟩) :
    SoundE B sc names n (.Call (.Attribute (.Call (.Name ty p0) [e0] [] p1) "__gt__" p2) [e1, e2] [] pos) (eDun dGtK a0 a1 a2) := by
  intro X env ρ s t A E eo rm C0 hd
  unfold eDun at hd
  obtain ⟨x0, hx0, hd⟩ := Option.bind_eq_some_iff.mp hd
  obtain ⟨x, hx, hd⟩ := Option.bind_eq_some_iff.mp hd
  obtain ⟨y, hy, hd⟩ := Option.bind_eq_some_iff.mp hd
  obtain ⟨z, hz, rfl⟩ := Option.map_eq_some_iff.mp hd
  obtain ⟨k0, k1, k2, rfl, rfl, rfl, hk, rfl⟩ := dGtK_some hz
  obtain ⟨pl, hpl⟩ := he env
  refine MethodCall_ (pl := pl) ?_ hpl
  refine Call_ (glob_name ok hg eo C0.hb ?_)
  refine callWith_type1 (spliced_more (h0.use ok eo rm C0 hx0 fun u0 h1' tk1 e1' C1 r1 => spliced_none ?_) (he0 env)) (he0 env)
  obtain ⟨x0, dx0, m0, t0, rfl, g0, q0⟩ := K.key r1 hk.1
  refine type_key g0 (key_method (K.cls.ext C1.hb) (K.st.keeps C1.hb) fun f3 hf3 => ?_)
  have C1' : Cx B X env names ρ ({ s with heap := h1', toks := tk1 + 1 } : Shared).heap := C1
  obtain ⟨qn, doc, pm, c', ctv, af, hrec⟩ := hf3
  refine callWith_def (o := fnMade (kDef 4).name qn (kDef 4).params (kDef 4).body (kDef 4).scope [(("mycmp" : Str), ca)] doc pm c' ctv) rfl (spliced_more (h1.use ok eo rm C1' hx fun u h2' tk2 e2' C2 r2 => spliced_more (h2.use ok eo rm C2 hy fun v h3' tk3 e3' C3 r3 => spliced_none ?_) (he2 env)) (he1 env)) (he1 env)
  obtain ⟨x1, dx1, m1, t1, rfl, g1, q1⟩ := K.key r2 hk.2.1
  obtain ⟨x2, dx2, m2, t2, rfl, g2, q2⟩ := K.key r3 hk.2.2
  have x13 : Ext h1' h3' := e2'.trans e3'
  refine ⟨x13 _ _ af, ?_⟩
  refine cmp_call (b := decide (k2 < k1)) gt_def (K.cls.ext C3.hb) ⟨qn, doc, pm, c', ctv, x13 _ _ af, hrec.keeps x13⟩ (K.cell.keeps C3.hb) (K.lam.frame fun b o e _ => C3.hb _ _ e) (e3' _ _ g1) g2 (ok.nolimit.keeps C3.hb) (by have := rm.depth; omega) (fun A' s' E' Q' t1 t2 z => PyProof.Rows.gt_int ?_) (fun p => by with_unfolding_all rfl) fun h4 t4 e4 => Out.to (e1'.trans (x13.trans e4)) (rep_bool _)
  have : decide ((0 : Int) < Int.fmod m1 5 - Int.fmod m2 5) = decide (k2 < k1) := by rw [q1, q2]; congr 1; exact propext ⟨fun h => by omega, fun h => by omega⟩
  rw [this]
  exact z
noncomputable def fNeK : T → T → Option Bool
  | .opq a, .opq b => if a < 5 ∧ b < 5 then some (decide (a ≠ b)) else none
  | _, _ => none
theorem fNeK_some {x y : T} {z : Bool} (h : fNeK x y = some z) : ∃ k1 k2, x = .opq k1 ∧ y = .opq k2 ∧ (k1 < 5 ∧ k2 < 5) ∧ z = decide (k1 ≠ k2) := by
  unfold fNeK at h
  split at h
  · split at h
    · rename_i hk
      cases h
      exact ⟨_, _, rfl, rfl, hk, rfl⟩
    · cases h
  · cases h
theorem s_neK (ok : B.Ok) (K : KOk B C ca lam) {l r : Expr} {pos : Pos} {a b : Dn} (hl : SoundE B sc names n l a) (hr : SoundE B sc names n r b) (hn : 1 ≤ n := by decide)
    (hm : behindInMarks .NotEq r = false := by with_unfolding_all rfl) : SoundE B sc names n (.Compare l [.NotEq] [r] pos) (ofB (cmp fNeK a b)) := by
  intro X env ρ s t A E eo rm C0 hd
  unfold ofB cmp at hd
  obtain ⟨c, hd1, rfl⟩ := Option.map_eq_some_iff.mp hd
  clear hd
  have hd := hd1
  obtain ⟨x, hxv, hd⟩ := Option.bind_eq_some_iff.mp hd
  obtain ⟨y, hyv, hd⟩ := Option.bind_eq_some_iff.mp hd
  obtain ⟨k1, k2, rfl, rfl, hk, rfl⟩ := fNeK_some hd
  refine wpAny_Compare1 (hl.use ok eo rm C0 hxv fun u h1 tk1 e1 C1 r1 => hr.use ok eo rm C1 hyv fun v h2 tk2 e2 C2 r2 => ?_) hm
  obtain ⟨x1, dx1, m1, t1, rfl, g1, q1⟩ := K.key r1 hk.1
  obtain ⟨x2, dx2, m2, t2, rfl, g2, q2⟩ := K.key r2 hk.2
  refine key_ne (K.cls.ext C2.hb) (K.cell.keeps C2.hb) (K.lam.frame fun b o e _ => C2.hb _ _ e) (e2 _ _ g1) g2 (ok.nolimit.keeps C2.hb) (by have := rm.depth; omega) (by have := rm.units; omega) fun h3 t3 e3 => ?_
  have : (!(Int.fmod m1 5 - Int.fmod m2 5 == 0)) = decide (k1 ≠ k2) := by
    rw [q1, q2]
    by_cases h : k1 = k2
    · subst h; simp
    · simp [h]; omega
  rw [this]
  exact Out.to (e1.trans (e2.trans e3)) (rep_bool _)
/-- x is not None, of an int or None -/
noncomputable def cIsSome (a : Dn) : Db := fun ρ => (a ρ).bind fun | .none => some false | .int _ => some true | _ => none
theorem c_isSome (ok : B.Ok) {e : Expr} {k : Nat} {p pos : Pos} {a : Dn} (h : SoundE B sc names n e a) (hm : behindInMarks .IsNot (.Constant .none k p) = false := by with_unfolding_all rfl) :
    SoundC B sc names n (.Compare e [.IsNot] [.Constant .none k p] pos) (cIsSome a) := by
  intro X env ρ s c A E eo rm C0 hd
  unfold cIsSome at hd
  obtain ⟨y, hyv, hd⟩ := Option.bind_eq_some_iff.mp hd
  cases y <;> simp only at hd <;> cases hd
  all_goals
    refine wpAny_isTrue_Compare1 (h.use ok eo rm C0 hyv fun u h1 tk1 e1 C1 r1 => ?_) hm
    show wpAny _ _ (pure Value.none) _ _ _
    refine wpAny_pure ?_
    simp only [Rep] at r1
  · subst r1
    exact wpAny_isNot_self rfl (wpAny_truthy_bool ⟨rfl, h1, tk1, rfl, e1⟩)
  · obtain ⟨tv, rfl⟩ := r1
    exact wpAny_isNot_other rfl (fun e => by cases e) (wpAny_truthy_bool ⟨rfl, h1, tk1, rfl, e1⟩)
end
end Mine

namespace Mine
open PySem PySem.W PyProof.Rows
set_option maxRecDepth 100000
-- _lt_from_gt: slots 0 self, 1 other, 2 op_result
noncomputable def N_lt_from_gt : List Str := ["self", "other", "op_result"]
noncomputable def B_lt_from_gt : Ds := (sSeq (sSet 2 (eDun dGtK (nm 0) (nm 0) (nm 1)))
  (sSeq (sIf (cNotImpl (nm 2)) (sSeq (sRet (nm 2))
  sNil) sNil)
  (sSeq (sRet (eAnd (eNot (nm 2)) (ofB (cmp fNeK (nm 0) (nm 1)))))
  sNil)))
noncomputable def D_lt_from_gt : List T → Option T := funD N_lt_from_gt ["self", "other"] B_lt_from_gt
theorem S_lt_from_gt {B : Bd} (ok : B.Ok) {C ca lam : Addr} (hK : KOk B C ca lam) (hg_type : B.mg "type" = none) (hg_NotImplemented : B.mg "NotImplemented" = none) : SoundB B (scopeOf PySem.Challenge.pw_dm0117_12 "_lt_from_gt") N_lt_from_gt 1 (bodyOf PySem.Challenge.pw_dm0117_12 "_lt_from_gt") B_lt_from_gt :=
  (b_cons (t_set ok (s_dunK ok hK (globB hg_type bt_type) (s_name _) (s_name _) (s_name _)))
  (b_cons (t_if ok (c_notImpl ok (s_name _) (globB hg_NotImplemented bt_NotImplemented)) (b_cons (t_ret ok (s_name _))
  b_nil) b_nil)
  (b_cons (t_ret ok (s_and2 ok (s_not ok (s_name _)) (s_neK ok hK (s_name _) (s_name _))))
  b_nil)))
theorem Sh_lt_from_gt : FnShape (scopeOf PySem.Challenge.pw_dm0117_12 "_lt_from_gt") N_lt_from_gt ["self", "other"] := ⟨by kernel_rfl, by kernel_rfl, by kernel_rfl, by decide +kernel, by decide +kernel, by decide +kernel, by decide +kernel, by decide +kernel⟩

-- _law_heaps: slots 0 script, 1 heaps, 2 place
noncomputable def N_law_heaps : List Str := ["script", "heaps", "place"]
noncomputable def L_law_heaps_35 : Ds := (sSeq (sAugAt 1 (· + ·) (bin fMod (nm 2) (kT (.int 10))) (eSub (nm 0) (nm 2)))
  sNil)
noncomputable def B_law_heaps : Ds := (sSeq (sOwn 1 (bin fMul (eList (lCons (kT (.int 0)) lNil)) (eCall gMin (lCons (eCall gLen (lCons (nm 0) lNil)) (lCons (kT (.int 10)) lNil)))))
  (sSeq (sForR 2 (itR1 (eCall gLen (lCons (nm 0) lNil))) L_law_heaps_35)
  (sSeq (sRet (nm 1))
  sNil)))
noncomputable def D_law_heaps : List T → Option T := funD N_law_heaps ["script"] B_law_heaps
theorem S_law_heaps {B : Bd} (ok : B.Ok) {C ca lam : Addr} (hK : KOk B C ca lam) (hg_len : B.mg "len" = none) (hg_min : B.mg "min" = none) (hg_range : B.mg "range" = none) : SoundB B (scopeOf PySem.Challenge.pw_dm0117_12 "_law_heaps") N_law_heaps 0 (bodyOf PySem.Challenge.pw_dm0117_12 "_law_heaps") B_law_heaps :=
  (b_cons (t_own ok (f_mul ok (s_list ok (l_cons ok (s_int _ _ _) l_nil)) (s_callB ok (globB hg_min bt_min) call_min (l_cons ok (s_callB ok (globB hg_len bt_len) call_len (l_cons ok (s_name _) l_nil)) (l_cons ok (s_int _ _ _) l_nil)))))
  (b_cons (t_forR ok (i_range1 ok (globB hg_range bt_range) (s_callB ok (globB hg_len bt_len) call_len (l_cons ok (s_name _) l_nil))) (b_cons (t_augAt ok iop_add (s_bin ok op_mod (s_name _) (s_int _ _ _)) (s_sub ok (s_name _) (s_name _)))
  b_nil))
  (b_cons (t_ret ok (s_name _))
  b_nil)))
theorem Sh_law_heaps : FnShape (scopeOf PySem.Challenge.pw_dm0117_12 "_law_heaps") N_law_heaps ["script"] := ⟨by kernel_rfl, by kernel_rfl, by kernel_rfl, by decide +kernel, by decide +kernel, by decide +kernel, by decide +kernel, by decide +kernel⟩

-- law: slots 0 script, 1 make, 2 numbers, 3 keys, 4 sizes, 5 below, 6 place, 7 node, 8 above, 9 side, 10 earlier, 11 ahead, 12 behind, 13 due
noncomputable def N_law : List Str := ["script", "make", "numbers", "keys", "sizes", "below", "place", "node", "above", "side", "earlier", "ahead", "behind", "due"]
noncomputable def W_law_46 : Ds := (sSeq (sSet 8 (nm 7))
  (sSeq (sSet 9 (eIf (cVal (eCall (D_lt_from_gt) (lCons (eSub (nm 3) (nm 6)) (lCons (eSub (nm 3) (nm 8)) lNil)))) (kT (.int 0)) (kT (.int 1))))
  (sSeq (sSet 7 (eSub (eSub (nm 5) (nm 8)) (nm 9)))
  sNil)))
noncomputable def L_law_44 : Ds := (sSeq (sSet 7 (kT (.int 0)))
  (sSeq (sWhile (cIsSome (nm 7)) W_law_46)
  (sSeq (sPut2 5 (nm 8) (nm 9) (nm 6))
  (sSeq (sApp2 5 (lCons (kT .none) (lCons (kT .none) lNil)))
  (sSeq (sSet 10 (eCall gSortedP (lCons (eComp (itR1 (nm 6)) cTrue (eTuple (lCons (eSub (nm 5) (nm 0)) (lCons (nm 0) lNil)))) lNil)))
  (sSeq (sSet 11 (eCompG (dPair (itL (nm 10)) (cmp fLe (nm 0) (eSub (nm 6) (nm 8))) (nm 1))))
  (sSeq (sSet 12 (eCompG (dPair (itL (nm 10)) (cmp fGt (nm 0) (eSub (nm 6) (nm 8))) (nm 1))))
  (sSeq (sIf (cOr (cmp fEq (nm 12) (eList lNil)) (cAnd (cmp fNe (nm 11) (eList lNil)) (cmp fGt (eSub (nm 11) (eNeg (kT (.int 1)))) (eSub (nm 12) (kT (.int 0)))))) (sSeq (sSet 13 (eTuple (lCons (eSub (nm 11) (eNeg (kT (.int 1)))) (lCons (kT (.int 1)) lNil))))
  sNil) (sSeq (sSet 13 (eTuple (lCons (eSub (nm 12) (kT (.int 0))) (lCons (kT (.int 0)) lNil))))
  sNil))
  (sSeq (sIf (cmp fNe (eTuple (lCons (nm 8) (lCons (nm 9) lNil))) (nm 13)) (sSeq (sRet (kT (.bool false)))
  sNil) sNil)
  sNil)))))))))
noncomputable def B_law : Ds := (sSeq (sSet 2 (bin fAdd (eCall (D_law_heaps) (lCons (nm 0) lNil)) (eList (lCons (kT (.int 6)) (lCons (kT (.int 1)) (lCons (kT (.int 3)) (lCons (kT (.int 1)) lNil)))))))
  (sSeq (sSet 3 (eComp (itL (nm 2)) cTrue (bin gMake (nm 2) (nm 0))))
  (sSeq (sSet 4 (eComp (itL (nm 2)) cTrue (bin fMod (nm 0) (kT (.int 5)))))
  (sSeq (sNew21 5 (lCons (kT .none) (lCons (kT .none) lNil)))
  (sSeq (sForR 6 (itR2 (kT (.int 1)) (eCall gLen (lCons (nm 3) lNil))) L_law_44)
  (sSeq (sRet (kT (.bool true)))
  sNil))))))
theorem S_law {B : Bd} (ok : B.Ok) {C ca lam : Addr} (hK : KOk B C ca lam) (hg_len : B.mg "len" = none) (hg_range : B.mg "range" = none) (hg_sorted : B.mg "sorted" = none) {a_law_heaps : Addr} (hm_law_heaps : B.mg "_law_heaps" = some (.ref a_law_heaps)) (hf_law_heaps : FunSound B a_law_heaps 1 D_law_heaps) {a_lt_from_gt : Addr} (hm_lt_from_gt : B.mg "_lt_from_gt" = some (.ref a_lt_from_gt)) (hf_lt_from_gt : FunSound B a_lt_from_gt 2 D_lt_from_gt) : SoundB B (scopeOf PySem.Challenge.pw_dm0117_12 "law") N_law 2 (bodyOf PySem.Challenge.pw_dm0117_12 "law").tail B_law :=
  (b_cons (t_set ok (s_bin ok (op_add ok) (s_callU ok (globU hm_law_heaps) hf_law_heaps (l_cons ok (s_name _) l_nil)) (s_list ok (l_cons ok (s_int _ _ _) (l_cons ok (s_int _ _ _) (l_cons ok (s_int _ _ _) (l_cons ok (s_int _ _ _) l_nil)))))))
  (b_cons (t_setC ok (i_list ok (s_name _)) q_nil (s_make ok hK (s_name _) (s_name _)))
  (b_cons (t_setC ok (i_list ok (s_name _)) q_nil (s_bin ok op_mod (s_name _) (s_int _ _ _)))
  (b_cons (t_new21 ok (l_cons ok (s_none _ _) (l_cons ok (s_none _ _) l_nil)))
  (b_cons (t_forR ok (i_range2 ok (globB hg_range bt_range) (s_int _ _ _) (s_callB ok (globB hg_len bt_len) call_len (l_cons ok (s_name _) l_nil))) (b_cons (t_set ok (s_int _ _ _))
  (b_cons (t_while ok (c_isSome ok (s_name _)) (b_cons (t_set ok (s_name _))
  (b_cons (t_set ok (s_ifexp ok (c_val ok (s_callU ok (globU hm_lt_from_gt) hf_lt_from_gt (l_cons ok (s_sub ok (s_name _) (s_name _)) (l_cons ok (s_sub ok (s_name _) (s_name _)) l_nil)))) (s_int _ _ _) (s_int _ _ _)))
  (b_cons (t_set ok (s_sub ok (s_sub ok (s_name _) (s_name _)) (s_name _)))
  b_nil))))
  (b_cons (t_put2 ok (s_name _) (s_name _) (s_name _))
  (b_cons (t_app2 ok (l_cons ok (s_none _ _) (l_cons ok (s_none _ _) l_nil)))
  (b_cons (t_set ok (s_callB ok (globB hg_sorted bt_sorted) (call_sortedP ok) (l_cons ok (s_comp ok (SoundR.sound (i_range1 ok (globB hg_range bt_range) (s_name _))) q_nil (s_tuple ok (l_cons ok (s_sub ok (s_name _) (s_name _)) (l_cons ok (s_name _) l_nil)))) l_nil)))
  (b_cons (t_setG ok ["size", "k"] (g_pair ok (k_list ok (s_name _)) (q_one (c_cmp ok cmp_le (s_name _) (s_sub ok (s_name _) (s_name _)))) (s_name _)))
  (b_cons (t_setG ok ["size", "k"] (g_pair ok (k_list ok (s_name _)) (q_one (c_cmp ok cmp_gt (s_name _) (s_sub ok (s_name _) (s_name _)))) (s_name _)))
  (b_cons (t_if ok (c_or2 ok (c_cmp ok cmp_eq (s_name _) (s_list ok l_nil)) (c_and2 ok (c_cmp ok cmp_ne (s_name _) (s_list ok l_nil)) (c_cmp ok cmp_gt (s_sub ok (s_name _) (s_neg ok (s_int _ _ _))) (s_sub ok (s_name _) (s_int _ _ _))))) (b_cons (t_set ok (s_tuple ok (l_cons ok (s_sub ok (s_name _) (s_neg ok (s_int _ _ _))) (l_cons ok (s_int _ _ _) l_nil))))
  b_nil) (b_cons (t_set ok (s_tuple ok (l_cons ok (s_sub ok (s_name _) (s_int _ _ _)) (l_cons ok (s_int _ _ _) l_nil))))
  b_nil))
  (b_cons (t_if ok (c_cmp ok cmp_ne (s_tuple ok (l_cons ok (s_name _) (l_cons ok (s_name _) l_nil))) (s_name _)) (b_cons (t_ret ok (s_bool _ _ _))
  b_nil) b_nil)
  b_nil))))))))))
  (b_cons (t_ret ok (s_bool _ _ _))
  b_nil))))))
theorem Sh_law : FnShape (scopeOf PySem.Challenge.pw_dm0117_12 "law") N_law ["script"] := ⟨by kernel_rfl, by kernel_rfl, by kernel_rfl, by decide +kernel, by decide +kernel, by decide +kernel, by decide +kernel, by decide +kernel⟩


end Mine

namespace Mine
open PySem PySem.W PyProof.Rows
set_option maxRecDepth 100000

theorem lt12 {a b : Int} (ha : a < 5) (hb : b < 5) : D_lt_from_gt [.opq a, .opq b] = some (.bool (decide (a < b))) := by
  have e1 : eDun dGtK (nm 0) (nm 0) (nm 1) (([.val (.opq a), .val (.opq b), .un] : List Slot).map Slot.rd) = some (.bool (decide (b < a))) := by
    simp [eDun, nm, Slot.rd, dGtK, ha, hb]
  refine funD_ret rfl (ρ0 := [.val (.opq a), .val (.opq b), .un]) (by kernel_rfl) ⟨[.val (.opq a), .val (.opq b), .val (.bool (decide (b < a)))], ?_⟩
  refine (sSeq_next (sSet_flat e1 rfl)).trans ((sSeq_next ((sIf_false rfl).trans rfl)).trans (sSeq_ret (sRet_eq ?_)))
  by_cases h : b < a
  · have h2 : ¬ a < b := by omega
    simp [eAnd, eNot, nm, Slot.rd, h, h2]
  · by_cases h3 : a = b
    · subst h3
      simp [eAnd, eNot, nm, Slot.rd, ofB, cmp, fNeK, ha]
    · have h2 : a < b := by omega
      simp [eAnd, eNot, nm, Slot.rd, ofB, cmp, fNeK, ha, hb, h, h2]
      omega

noncomputable def cel : Option Nat → T
  | none => .none
  | some k => .int (k : Nat)
noncomputable def rz (zs : List Int) : Nat → Int := fun k => zs.getD k 0
noncomputable def sd (s : Bool) : Nat := if s then 0 else 1
noncomputable def row12 (r : Nat → Int) (p x : Nat) : List T := [cel (child r p x true), cel (child r p x false)]
noncomputable def tab12 (r : Nat → Int) (p : Nat) : List (List T) := (List.range p).map fun x => row12 r p x
noncomputable abbrev S12 (sc nu : T) (zs : List Int) (tb : List (List T)) (a6 a7 a8 a9 a10 a11 a12 a13 : Slot) : List Slot :=
  [.val sc, .val (.opq 5), .val nu, .val (.list (zs.map T.opq)), .val (.list (zs.map T.int)), .own2 tb, a6, a7, a8, a9, a10, a11, a12, a13]
theorem cel_flat (o : Option Nat) : flat (cel o) = true := by cases o <;> rfl
theorem tab_get {r : Nat → Int} {p x : Nat} (h : x < p) : (tab12 r p)[x]? = some (row12 r p x) := by simp [tab12, h]
theorem row_get (r : Nat → Int) (p x : Nat) (s : Bool) : (row12 r p x)[sd s]? = some (cel (child r p x s)) := by cases s <;> rfl

theorem gItem_nat {xs : List T} {k : Nat} {t : T} (hl : xs.length ≤ 1000) (h : xs[k]? = some t) : gItem (.list xs) (.int (k : Nat)) = some t := by
  have hk : k < xs.length := (List.getElem?_eq_some_iff.mp h).1
  simp only [gItem, hl, if_true, idx]
  rw [if_pos (by omega), if_pos (by omega)]
  simpa using h
section
variable {sc nu : T} {zs : List Int} {p : Nat}
/-- one turn of the way down -/
theorem down12 (hz : ∀ z ∈ zs, z < 5) (hl : zs.length ≤ 14) (hp : p < zs.length) {x : Nat} (hx : x < p) (a8 a9 a10 a11 a12 a13 : Slot) (s : Bool) (hs : decide (tlt (rz zs) p x) = s) :
    W_law_46 (S12 sc nu zs (tab12 (rz zs) p) (.val (.int (p : Nat))) (.val (.int (x : Nat))) a8 a9 a10 a11 a12 a13) =
      some (.next, S12 sc nu zs (tab12 (rz zs) p) (.val (.int (p : Nat))) (.val (cel (child (rz zs) p x s))) (.val (.int (x : Nat))) (.val (.int (sd s : Nat))) a10 a11 a12 a13) := by
  have hx' : x < zs.length := by omega
  have kp : (zs.map T.opq)[p]? = some (.opq zs[p]) := by simp [List.getElem?_eq_getElem hp]
  have kx : (zs.map T.opq)[x]? = some (.opq zs[x]) := by simp [List.getElem?_eq_getElem hx']
  have hlt : decide (zs[p] < zs[x]) = s := by
    rw [← hs, decide_eq_decide]
    simp only [tlt, rz, List.getD_eq_getElem?_getD, List.getElem?_eq_getElem hp, List.getElem?_eq_getElem hx', Option.getD_some]
    omega
  have h5 : eIf (cVal (eCall D_lt_from_gt (lCons (eSub (nm 3) (nm 6)) (lCons (eSub (nm 3) (nm 8)) lNil)))) (kT (.int 0)) (kT (.int 1))
      ((S12 sc nu zs (tab12 (rz zs) p) (.val (.int (p : Nat))) (.val (.int (x : Nat))) (.val (.int (x : Nat))) a9 a10 a11 a12 a13).map Slot.rd) = some (.int (sd s : Nat)) := by
    have c1 : cVal (eCall D_lt_from_gt (lCons (eSub (nm 3) (nm 6)) (lCons (eSub (nm 3) (nm 8)) lNil)))
        ((S12 sc nu zs (tab12 (rz zs) p) (.val (.int (p : Nat))) (.val (.int (x : Nat))) (.val (.int (x : Nat))) a9 a10 a11 a12 a13).map Slot.rd) = some s := by
      refine cVal_of (eCall_of (lCons_of (eSub_of (x := .list (zs.map T.opq)) (y := .int (p : Nat)) rfl rfl (gItem_nat (by simp; omega) kp)) (lCons_of (eSub_of (x := .list (zs.map T.opq)) (y := .int (x : Nat)) rfl rfl (gItem_nat (by simp; omega) kx)) rfl)) ?_)
      rw [lt12 (hz _ (List.getElem_mem _)) (hz _ (List.getElem_mem _)), hlt]
    simp only [eIf, c1, Option.bind_some]
    cases s <;> rfl
  have h6 : eSub (eSub (nm 5) (nm 8)) (nm 9) ((S12 sc nu zs (tab12 (rz zs) p) (.val (.int (p : Nat))) (.val (.int (x : Nat))) (.val (.int (x : Nat))) (.val (.int (sd s : Nat))) a10 a11 a12 a13).map Slot.rd) = some (cel (child (rz zs) p x s)) := by
    refine eSub_of (x := .list (row12 (rz zs) p x)) (y := .int (sd s : Nat)) (eSub_of (x := .list ((tab12 (rz zs) p).map T.list)) (y := .int (x : Nat)) rfl rfl (gItem_nat (by simp [tab12]; omega) ?_)) rfl (gItem_nat (by simp [row12]) (row_get _ _ _ _))
    rw [List.getElem?_map, tab_get hx]; rfl
  exact (sSeq_next (sSet_flat (t := .int (x : Nat)) rfl rfl)).trans ((sSeq_next (sSet_flat h5 rfl)).trans ((sSeq_next (sSet_flat h6 (cel_flat _))).trans rfl))
/-- the way down -/
theorem way12 (hz : ∀ z ∈ zs, z < 5) (hl : zs.length ≤ 14) (hp : p < zs.length) (a10 a11 a12 a13 : Slot) : ∀ (n x fuel : Nat), p - x ≤ n → n + 1 ≤ fuel → x < p → anc (rz zs) x p → ∀ a8 a9 : Slot, ∃ (x' : Nat) (s : Bool), x' < p ∧ anc (rz zs) x' p ∧ decide (tlt (rz zs) p x') = s ∧ child (rz zs) p x' s = none ∧
    sWhileN (cIsSome (nm 7)) W_law_46 fuel (S12 sc nu zs (tab12 (rz zs) p) (.val (.int (p : Nat))) (.val (.int (x : Nat))) a8 a9 a10 a11 a12 a13) =
      some (.next, S12 sc nu zs (tab12 (rz zs) p) (.val (.int (p : Nat))) (.val .none) (.val (.int (x' : Nat))) (.val (.int (sd s : Nat))) a10 a11 a12 a13) := by
  intro n
  induction n with
  | zero => intro x fuel h1 h2 hx; omega
  | succ n ih =>
    intro x fuel h1 h2 hx ha a8 a9
    obtain ⟨f, rfl⟩ : ∃ f, fuel = f + 1 + 1 := ⟨fuel - 2, by omega⟩
    have hb := down12 (sc := sc) (nu := nu) hz hl hp hx a8 a9 a10 a11 a12 a13 _ rfl
    cases hc : child (rz zs) p x (decide (tlt (rz zs) p x)) with
    | none =>
      rw [hc] at hb
      exact ⟨x, _, hx, ha, rfl, hc, (sWhile_more rfl hb).trans (sWhile_stop rfl)⟩
    | some y =>
      rw [hc] at hb
      obtain ⟨hy, hq, _⟩ := child_some _ hc
      have hxy := ((qual_iff _).mp hq).1
      obtain ⟨x', s, r1, r2, r3, r4, r5⟩ := ih y (f + 1) (by omega) (by omega) hy (anc_step ha rfl hc hx) (.val (.int (x : Nat))) (.val (.int (sd (decide (tlt (rz zs) p x)) : Nat)))
      exact ⟨x', s, r1, r2, r3, r4, (sWhile_more rfl hb).trans r5⟩
end
/-- the new key is hung up -/
theorem hang12 {r : Nat → Int} {p x : Nat} {s : Bool} (ha : anc r x p) (hs : decide (tlt r p x) = s) (hc : child r p x s = none) (hx : x < p) :
    (tab12 r p).set x ((row12 r p x).set (sd s) (.int (p : Nat))) ++ [[.none, .none]] = tab12 r (p + 1) := by
  apply List.ext_getElem?
  intro i
  have hlen : (tab12 r p).length = p := by simp [tab12]
  by_cases hi : i < p
  · rw [List.getElem?_append_left (by simp [hlen, hi]), tab_get (by omega : i < p + 1), List.getElem?_set, hlen]
    have e : ∀ s', child r (p + 1) i s' = if i = x ∧ s' = s then some p else child r p i s' := fun s' => place_only ha hs hc hx hi
    by_cases hxi : x = i
    · subst hxi
      rw [if_pos rfl, if_pos hx]
      cases s <;> simp [row12, sd, e, cel]
    · rw [if_neg hxi, tab_get hi]
      have hne : ¬ i = x := fun q => hxi q.symm
      simp [row12, e, hne]
  · by_cases hip : i = p
    · subst hip
      rw [List.getElem?_append_right (by simp [hlen]), tab_get (by omega : i < i + 1)]
      simp [hlen, row12, child_new, cel]
    · rw [List.getElem?_eq_none (by simp [hlen]; omega), List.getElem?_eq_none (by simp [tab12]; omega)]
theorem loopD_pairs {t : List (Option T) → Option Bool} {bd : List (Option T) → Option (List T)} {p : Int × Int → Bool} {f : Int × Int → T} : ∀ {qs : List (Int × Int)}, (∀ q ∈ qs, t [some (.int q.1), some (.int q.2)] = some (p q)) → (∀ q ∈ qs, p q = true → bd [some (.int q.1), some (.int q.2)] = some [f q]) →
    loopD upP t bd [none, none] (qs.map pT) = some ((qs.filter p).map f)
  | [], _, _ => rfl
  | q :: qs, ht, hb => by
    have ih := loopD_pairs (qs := qs) (fun x hx => ht x (List.mem_cons_of_mem _ hx)) (fun x hx => hb x (List.mem_cons_of_mem _ hx))
    have h1 := ht q List.mem_cons_self
    rw [List.map_cons]
    unfold loopD
    simp only [pT, upP, Option.bind_some, h1]
    cases hp : p q with
    | true =>
      have h2 := hb q List.mem_cons_self hp
      simp only [if_true, h2, Option.bind_some]
      simp [ih, hp]
    | false =>
      simp only [Bool.false_eq_true, if_false]
      simp [ih, hp]
section
variable {zs : List Int} {p : Nat} {ρ : List (Option T)}
theorem earlier12 (hl : zs.length ≤ 14) (hp : p < zs.length) (h4 : ρ[4]? = some (some (.list (zs.map T.int)))) (h6 : ρ[6]? = some (some (.int (p : Nat)))) :
    eCall gSortedP (lCons (eComp (itR1 (nm 6)) cTrue (eTuple (lCons (eSub (nm 5) (nm 0)) (lCons (nm 0) lNil)))) lNil) ρ = some (.list ((isortP (rowP (rz zs) p)).map pT)) := by
  have hs : itR1 (nm 6) ρ = some ((irng 0 p).map T.int) := itR1_eq (nm_of h6) (by omega) (by omega)
  let f : T → T := fun t => match t with | .int k => pT (rz zs k.toNat, k) | t => t
  have hc := compL_eq (t := fun u => cTrue (some u :: ρ)) (e := fun u => (eTuple (lCons (eSub (nm 5) (nm 0)) (lCons (nm 0) lNil))) (some u :: ρ)) (p := fun _ => true) (f := f) (xs := (irng 0 p).map T.int) (fun _ _ => rfl) (by
    intro x hx _
    obtain ⟨y, hy, rfl⟩ := List.mem_map.mp hx
    rw [mem_irng] at hy
    obtain ⟨k, rfl⟩ := Int.eq_ofNat_of_zero_le hy.1
    have hk : k < zs.length := by omega
    have e1 : eSub (nm 5) (nm 0) (some (.int (k : Nat)) :: ρ) = some (.int (rz zs k)) := by
      refine eSub_of (x := .list (zs.map T.int)) (y := .int (k : Nat)) (nm_of (by simpa using h4)) rfl ?_
      refine gItem_nat (by simp; omega) ?_
      simp [rz, List.getElem?_eq_getElem hk]
    have e2 := lCons_of (b := lCons (nm 0) lNil) e1 (lCons_of (a := nm 0) (b := lNil) (x := .int (k : Nat)) (xs := []) rfl rfl)
    simp only [eTuple, e2, Option.bind_some]
    simp [f, pT])
  have hps : ((irng 0 p).map T.int).map f = (rowP (rz zs) p).map pT := by
    unfold rowP
    rw [List.map_map, List.map_map]
    apply List.ext_getElem?
    intro i
    by_cases hi : i < p
    · rw [List.getElem?_map, irng_get (by omega)]
      simp [f, hi]
    · rw [List.getElem?_eq_none (by simp; omega), List.getElem?_eq_none (by simp; omega)]
  have h1 : eComp (itR1 (nm 6)) cTrue (eTuple (lCons (eSub (nm 5) (nm 0)) (lCons (nm 0) lNil))) ρ = some (.list ((rowP (rz zs) p).map pT)) := by
    simp only [eComp, hs, Option.bind_some, hc, Option.map_some]
    rw [List.filter_eq_self.mpr (fun _ _ => rfl), hps]
  refine eCall_of (lCons_of h1 rfl) ?_
  simp only [gSortedP, pairs?_map, Option.bind_some]
  rw [if_pos ⟨rowP_nodup _, by simp [rowP]; omega⟩]
theorem part12 (hl : zs.length ≤ 14) (hp : p < zs.length) (h4 : ρ[4]? = some (some (.list (zs.map T.int)))) (h6 : ρ[6]? = some (some (.int (p : Nat)))) (h10 : ρ[10]? = some (some (.list ((isortP (rowP (rz zs) p)).map pT)))) {f : T → T → Option Bool} {g : Int → Int → Bool} (hf : ∀ a b, f (.int a) (.int b) = some (g a b)) :
    eCompG (dPair (itL (nm 10)) (cmp f (nm 0) (eSub (nm 6) (nm 8))) (nm 1)) ρ = some (.list ((((isortP (rowP (rz zs) p)).filter fun q => g q.1 (rz zs p)).map (·.2)).map T.int)) := by
  have hlen := rowP_length (r := rz zs) p
  have hs : itL (nm 10) ρ = some ((isortP (rowP (rz zs) p)).map pT) := itL_eq (nm_of h10) (by rw [List.length_map]; omega)
  have h := loopD_pairs (t := fun os => cmp f (nm 0) (eSub (nm 6) (nm 8)) (os ++ ρ)) (bd := one (nm 1) ρ) (p := fun q => g q.1 (rz zs p)) (f := fun q => .int q.2) (qs := isortP (rowP (rz zs) p)) (fun q _ => by
      refine cmp_of (x := .int q.1) (y := .int (rz zs p)) rfl ?_ (hf _ _)
      refine eSub_of (x := .list (zs.map T.int)) (y := .int (p : Nat)) (nm_of (by simpa using h4)) (nm_of (by simpa using h6)) (gItem_nat (by simp; omega) ?_)
      simp [rz, List.getElem?_eq_getElem hp]) (fun q _ _ => rfl)
  simp only [eCompG, dPair, hs, Option.bind_some, h, short]
  rw [if_pos ?_]
  · simp
  · rw [List.length_map]
    exact Nat.le_trans (List.length_filter_le _ _) (by omega)
theorem ahead12 (hl : zs.length ≤ 14) (hp : p < zs.length) (h4 : ρ[4]? = some (some (.list (zs.map T.int)))) (h6 : ρ[6]? = some (some (.int (p : Nat)))) (h10 : ρ[10]? = some (some (.list ((isortP (rowP (rz zs) p)).map pT)))) :
    eCompG (dPair (itL (nm 10)) (cmp fLe (nm 0) (eSub (nm 6) (nm 8))) (nm 1)) ρ = some (.list ((aheadL (rz zs) p).map T.int)) := part12 (f := fLe) (g := fun a b => decide (a ≤ b)) hl hp h4 h6 h10 (fun _ _ => rfl)
theorem behind12 (hl : zs.length ≤ 14) (hp : p < zs.length) (h4 : ρ[4]? = some (some (.list (zs.map T.int)))) (h6 : ρ[6]? = some (some (.int (p : Nat)))) (h10 : ρ[10]? = some (some (.list ((isortP (rowP (rz zs) p)).map pT)))) :
    eCompG (dPair (itL (nm 10)) (cmp fGt (nm 0) (eSub (nm 6) (nm 8))) (nm 1)) ρ = some (.list ((behindL (rz zs) p).map T.int)) := part12 (f := fGt) (g := fun a b => decide (b < a)) hl hp h4 h6 h10 (fun _ _ => rfl)
theorem ahead_len : (aheadL (rz zs) p).length ≤ p := by
  unfold aheadL
  rw [List.length_map]
  exact Nat.le_trans (List.length_filter_le _ _) (by rw [rowP_length]; omega)
theorem behind_len : (behindL (rz zs) p).length ≤ p := by
  unfold behindL
  rw [List.length_map]
  exact Nat.le_trans (List.length_filter_le _ _) (by rw [rowP_length]; omega)
end
theorem gItem_head {l : List Int} {x : Int} (hl : l.length ≤ 1000) (h : l.head? = some x) : gItem (.list (l.map T.int)) (.int 0) = some (.int x) := by
  cases l with
  | nil => cases h
  | cons a t =>
    cases h
    exact gItem_nat (k := 0) (by simpa using hl) rfl
theorem gItem_last {l : List Int} {x : Int} (hl : l.length ≤ 1000) (h : l.getLast? = some x) : gItem (.list (l.map T.int)) (.int (-1)) = some (.int x) := by
  have hne : l ≠ [] := fun e => by rw [e] at h; cases h
  have hpos : 0 < l.length := List.length_pos_iff.mpr hne
  have := gItem_ints_neg (ns := l) (j := 1) hl (by omega) hpos
  rw [show (-((1 : Nat) : Int)) = -1 by rfl] at this
  rw [this]
  rw [List.getLast?_eq_getElem?, List.getElem?_eq_getElem (by omega)] at h
  cases h
  rfl
/-- what the law reckons to be due -/
theorem fEq_nil (l : List Int) : fEq (.list (l.map T.int)) (.list []) = some (l.isEmpty) := by
  cases l with
  | nil => rfl
  | cons a t => simp [fEq]
theorem fNe_nil (l : List Int) : fNe (.list (l.map T.int)) (.list []) = some (!l.isEmpty) := by unfold fNe; rw [fEq_nil]; rfl
section
variable {sc nu : T} {zs : List Int} {p : Nat}
noncomputable abbrev due12 : Ds := (sSeq (sIf (cOr (cmp fEq (nm 12) (eList lNil)) (cAnd (cmp fNe (nm 11) (eList lNil)) (cmp fGt (eSub (nm 11) (eNeg (kT (.int 1)))) (eSub (nm 12) (kT (.int 0)))))) (sSeq (sSet 13 (eTuple (lCons (eSub (nm 11) (eNeg (kT (.int 1)))) (lCons (kT (.int 1)) lNil))))
  sNil) (sSeq (sSet 13 (eTuple (lCons (eSub (nm 12) (kT (.int 0))) (lCons (kT (.int 0)) lNil))))
  sNil))
  (sSeq (sIf (cmp fNe (eTuple (lCons (nm 8) (lCons (nm 9) lNil))) (nm 13)) (sSeq (sRet (kT (.bool false)))
  sNil) sNil)
  sNil))
theorem due12_ok {as bs : List Int} {x : Nat} {s : Bool} (tb : List (List T)) (a6 a7 a10 a13 : Slot) (hal : as.length ≤ 1000) (hbl : bs.length ≤ 1000)
    (h : (s = false ∧ as.getLast? = some (x : Int) ∧ (bs = [] ∨ ∃ q : Nat, bs.head? = some (q : Int) ∧ q < x)) ∨ (s = true ∧ bs.head? = some (x : Int) ∧ (as = [] ∨ ∃ q : Nat, as.getLast? = some (q : Int) ∧ q < x))) :
    due12 (S12 sc nu zs tb a6 a7 (.val (.int (x : Nat))) (.val (.int (sd s : Nat))) a10 (.val (.list (as.map T.int))) (.val (.list (bs.map T.int))) a13) =
      some (.next, S12 sc nu zs tb a6 a7 (.val (.int (x : Nat))) (.val (.int (sd s : Nat))) a10 (.val (.list (as.map T.int))) (.val (.list (bs.map T.int))) (.val (.tuple [.int (x : Nat), .int (sd s : Nat)]))) := by
  have last : ∀ {y : Int} (f : Slot → Option T), as.getLast? = some y → eSub (nm 11) (eNeg (kT (.int 1))) ((S12 sc nu zs tb a6 a7 (.val (.int (x : Nat))) (.val (.int (sd s : Nat))) a10 (.val (.list (as.map T.int))) (.val (.list (bs.map T.int))) a13).map f) = (f (.val (.list (as.map T.int)))).bind fun t => gItem t (.int (-1)) := fun f h1 => rfl
  have lastR : ∀ {y : Int}, as.getLast? = some y → eSub (nm 11) (eNeg (kT (.int 1))) ((S12 sc nu zs tb a6 a7 (.val (.int (x : Nat))) (.val (.int (sd s : Nat))) a10 (.val (.list (as.map T.int))) (.val (.list (bs.map T.int))) a13).map Slot.rd) = some (.int y) := fun h1 => (last Slot.rd h1).trans (gItem_last hal h1)
  have lastC : ∀ {y : Int}, as.getLast? = some y → eSub (nm 11) (eNeg (kT (.int 1))) ((S12 sc nu zs tb a6 a7 (.val (.int (x : Nat))) (.val (.int (sd s : Nat))) a10 (.val (.list (as.map T.int))) (.val (.list (bs.map T.int))) a13).map Slot.cl) = some (.int y) := fun h1 => (last Slot.cl h1).trans (gItem_last hal h1)
  have headR : ∀ {y : Int}, bs.head? = some y → eSub (nm 12) (kT (.int 0)) ((S12 sc nu zs tb a6 a7 (.val (.int (x : Nat))) (.val (.int (sd s : Nat))) a10 (.val (.list (as.map T.int))) (.val (.list (bs.map T.int))) a13).map Slot.rd) = some (.int y) := fun h1 => eSub_of (x := .list (bs.map T.int)) (y := .int 0) rfl rfl (gItem_head hbl h1)
  have headC : ∀ {y : Int}, bs.head? = some y → eSub (nm 12) (kT (.int 0)) ((S12 sc nu zs tb a6 a7 (.val (.int (x : Nat))) (.val (.int (sd s : Nat))) a10 (.val (.list (as.map T.int))) (.val (.list (bs.map T.int))) a13).map Slot.cl) = some (.int y) := fun h1 => eSub_of (x := .list (bs.map T.int)) (y := .int 0) rfl rfl (gItem_head hbl h1)
  have t1 : cmp fEq (nm 12) (eList lNil) ((S12 sc nu zs tb a6 a7 (.val (.int (x : Nat))) (.val (.int (sd s : Nat))) a10 (.val (.list (as.map T.int))) (.val (.list (bs.map T.int))) a13).map Slot.rd) = some bs.isEmpty := cmp_of rfl rfl (fEq_nil bs)
  have t2 : cmp fNe (nm 11) (eList lNil) ((S12 sc nu zs tb a6 a7 (.val (.int (x : Nat))) (.val (.int (sd s : Nat))) a10 (.val (.list (as.map T.int))) (.val (.list (bs.map T.int))) a13).map Slot.rd) = some (!as.isEmpty) := cmp_of rfl rfl (fNe_nil as)
  have fin : (sSeq (sIf (cmp fNe (eTuple (lCons (nm 8) (lCons (nm 9) lNil))) (nm 13)) (sSeq (sRet (kT (.bool false))) sNil) sNil) sNil) (S12 sc nu zs tb a6 a7 (.val (.int (x : Nat))) (.val (.int (sd s : Nat))) a10 (.val (.list (as.map T.int))) (.val (.list (bs.map T.int))) (.val (.tuple [.int (x : Nat), .int (sd s : Nat)]))) =
      some (.next, S12 sc nu zs tb a6 a7 (.val (.int (x : Nat))) (.val (.int (sd s : Nat))) a10 (.val (.list (as.map T.int))) (.val (.list (bs.map T.int))) (.val (.tuple [.int (x : Nat), .int (sd s : Nat)]))) := by
    refine (sSeq_next ((sIf_false ?_).trans rfl)).trans rfl
    refine cmp_of (x := .tuple [.int (x : Nat), .int (sd s : Nat)]) (y := .tuple [.int (x : Nat), .int (sd s : Nat)]) rfl rfl ?_
    simp [fNe, fEq, lEq, sEq]
  rcases h with ⟨rfl, h1, h2⟩ | ⟨rfl, h1, h2⟩
  · have hne : as.isEmpty = false := by cases as with | nil => cases h1 | cons a t => rfl
    have tst : (cOr (cmp fEq (nm 12) (eList lNil)) (cAnd (cmp fNe (nm 11) (eList lNil)) (cmp fGt (eSub (nm 11) (eNeg (kT (.int 1)))) (eSub (nm 12) (kT (.int 0))))))
        ((S12 sc nu zs tb a6 a7 (.val (.int (x : Nat))) (.val (.int (sd false : Nat))) a10 (.val (.list (as.map T.int))) (.val (.list (bs.map T.int))) a13).map Slot.rd) = some true := by
      rcases h2 with rfl | ⟨q, hq, hqx⟩
      · simp only [cOr, t1, Option.bind_some, List.isEmpty_nil, if_true]
      · have hbe : bs.isEmpty = false := by cases bs with | nil => cases hq | cons a t => rfl
        have t3 := cmp_of (f := fGt) (z := true) (lastR h1) (headR hq) (by simp [fGt]; omega)
        simp only [cOr, cAnd, t1, t2, t3, hbe, hne, Option.bind_some, Bool.false_eq_true, if_false, Bool.not_false, if_true]
    refine (sSeq_next ((sIf_true tst).trans ((sSeq_next (sSet_any (t := .tuple [.int (x : Nat), .int 1]) (t' := .tuple [.int (x : Nat), .int 1]) ?_ rfl ?_)).trans rfl))).trans fin
    · have := lCons_of (b := lCons (kT (.int 1)) lNil) (lastR h1) rfl
      simp only [eTuple, this, Option.bind_some]
      rfl
    · have := lCons_of (b := lCons (kT (.int 1)) lNil) (lastC h1) rfl
      simp only [eTuple, this, Option.bind_some]
      rfl
  · have hbe : bs.isEmpty = false := by cases bs with | nil => cases h1 | cons a t => rfl
    have tst : (cOr (cmp fEq (nm 12) (eList lNil)) (cAnd (cmp fNe (nm 11) (eList lNil)) (cmp fGt (eSub (nm 11) (eNeg (kT (.int 1)))) (eSub (nm 12) (kT (.int 0))))))
        ((S12 sc nu zs tb a6 a7 (.val (.int (x : Nat))) (.val (.int (sd true : Nat))) a10 (.val (.list (as.map T.int))) (.val (.list (bs.map T.int))) a13).map Slot.rd) = some false := by
      rcases h2 with rfl | ⟨q, hq, hqx⟩
      · simp only [cOr, cAnd, t1, t2, hbe, Option.bind_some, Bool.false_eq_true, if_false, List.isEmpty_nil, Bool.not_true]
      · have hne : as.isEmpty = false := by cases as with | nil => cases hq | cons a t => rfl
        have t3 := cmp_of (f := fGt) (z := false) (lastR hq) (headR h1) (by simp [fGt]; omega)
        simp only [cOr, cAnd, t1, t2, t3, hbe, hne, Option.bind_some, Bool.false_eq_true, if_false, Bool.not_false, if_true]
    refine (sSeq_next ((sIf_false tst).trans ((sSeq_next (sSet_any (t := .tuple [.int (x : Nat), .int 0]) (t' := .tuple [.int (x : Nat), .int 0]) ?_ rfl ?_)).trans rfl))).trans fin
    · have := lCons_of (b := lCons (kT (.int 0)) lNil) (headR h1) rfl
      simp only [eTuple, this, Option.bind_some]
      rfl
    · have := lCons_of (b := lCons (kT (.int 0)) lNil) (headC h1) rfl
      simp only [eTuple, this, Option.bind_some]
      rfl
end
section
variable {sc nu : T} {zs : List Int} {p : Nat}
theorem row_flat (r : Nat → Int) (p x : Nat) : (row12 r p x).all flat = true := by simp [row12, cel_flat]
theorem turn12 (hz : ∀ z ∈ zs, z < 5) (hl : zs.length ≤ 14) (hp : p < zs.length) (hp0 : 0 < p) (a7 a8 a9 a10 a11 a12 a13 : Slot) : ∃ b7 b8 b9 b10 b11 b12 b13 : Slot,
    L_law_44 (S12 sc nu zs (tab12 (rz zs) p) (.val (.int (p : Nat))) a7 a8 a9 a10 a11 a12 a13) = some (.next, S12 sc nu zs (tab12 (rz zs) (p + 1)) (.val (.int (p : Nat))) b7 b8 b9 b10 b11 b12 b13) := by
  obtain ⟨x, s, hx, ha, hs, hc, hw⟩ := way12 (sc := sc) (nu := nu) hz hl hp a10 a11 a12 a13 p 0 1000 (by omega) (by omega) hp0 (fun j hj => by omega) a8 a9
  have e1 : sSet 7 (kT (.int 0)) (S12 sc nu zs (tab12 (rz zs) p) (.val (.int (p : Nat))) a7 a8 a9 a10 a11 a12 a13) = some (.next, S12 sc nu zs (tab12 (rz zs) p) (.val (.int (p : Nat))) (.val (.int ((0 : Nat) : Int))) a8 a9 a10 a11 a12 a13) := sSet_flat rfl rfl
  have e3 : sPut2 5 (nm 8) (nm 9) (nm 6) (S12 sc nu zs (tab12 (rz zs) p) (.val (.int (p : Nat))) (.val .none) (.val (.int (x : Nat))) (.val (.int (sd s : Nat))) a10 a11 a12 a13) =
      some (.next, S12 sc nu zs ((tab12 (rz zs) p).set x ((row12 (rz zs) p x).set (sd s) (.int (p : Nat)))) (.val (.int (p : Nat))) (.val .none) (.val (.int (x : Nat))) (.val (.int (sd s : Nat))) a10 a11 a12 a13) := by
    have hlen : (tab12 (rz zs) p).length = p := by simp [tab12]
    have hidx : idx (tab12 (rz zs) p).length (x : Nat) = some x := by
      unfold idx
      rw [if_pos (by omega), if_pos (by rw [hlen]; omega)]
      simp
    have hd8 : nm 8 ((S12 sc nu zs (tab12 (rz zs) p) (.val (.int (p : Nat))) (.val .none) (.val (.int (x : Nat))) (.val (.int (sd s : Nat))) a10 a11 a12 a13).map Slot.rd) = some (.int (x : Nat)) := rfl
    have hd9 : nm 9 ((S12 sc nu zs (tab12 (rz zs) p) (.val (.int (p : Nat))) (.val .none) (.val (.int (x : Nat))) (.val (.int (sd s : Nat))) a10 a11 a12 a13).map Slot.rd) = some (.int (sd s : Nat)) := rfl
    have hd6 : nm 6 ((S12 sc nu zs (tab12 (rz zs) p) (.val (.int (p : Nat))) (.val .none) (.val (.int (x : Nat))) (.val (.int (sd s : Nat))) a10 a11 a12 a13).map Slot.rd) = some (.int (p : Nat)) := rfl
    have hd5 : (S12 sc nu zs (tab12 (rz zs) p) (.val (.int (p : Nat))) (.val .none) (.val (.int (x : Nat))) (.val (.int (sd s : Nat))) a10 a11 a12 a13)[5]? = some (.own2 (tab12 (rz zs) p)) := rfl
    have hf : flat (.int (p : Nat)) = true := rfl
    have hc1 : (flat (.int (p : Nat)) && decide ((tab12 (rz zs) p).length ≤ 1000)) = true := by rw [hf, hlen]; simp; omega
    have hc2 : ((row12 (rz zs) p x).all flat && decide ((row12 (rz zs) p x).length ≤ 1000) && decide ((0 : Int) ≤ (sd s : Nat)) && decide (((sd s : Nat) : Int) < (row12 (rz zs) p x).length)) = true := by
      rw [row_flat]; cases s <;> simp [row12, sd]
    unfold sPut2
    rw [hd5]
    simp only [hd6, hd8, hd9, Option.bind_some, hc1, if_true, hidx, tab_get hx, hc2]
    simp
  have e4 : sApp2 5 (lCons (kT .none) (lCons (kT .none) lNil)) (S12 sc nu zs ((tab12 (rz zs) p).set x ((row12 (rz zs) p x).set (sd s) (.int (p : Nat)))) (.val (.int (p : Nat))) (.val .none) (.val (.int (x : Nat))) (.val (.int (sd s : Nat))) a10 a11 a12 a13) =
      some (.next, S12 sc nu zs (tab12 (rz zs) (p + 1)) (.val (.int (p : Nat))) (.val .none) (.val (.int (x : Nat))) (.val (.int (sd s : Nat))) a10 a11 a12 a13) := by
    have hd5 : (S12 sc nu zs ((tab12 (rz zs) p).set x ((row12 (rz zs) p x).set (sd s) (.int (p : Nat)))) (.val (.int (p : Nat))) (.val .none) (.val (.int (x : Nat))) (.val (.int (sd s : Nat))) a10 a11 a12 a13)[5]? = some (.own2 ((tab12 (rz zs) p).set x ((row12 (rz zs) p x).set (sd s) (.int (p : Nat))))) := rfl
    have hcc : (([.none, .none] : List T).all flat && decide (([.none, .none] : List T).length ≤ 1000) && decide (((tab12 (rz zs) p).set x ((row12 (rz zs) p x).set (sd s) (.int (p : Nat)))).length ≤ 1000)) = true := by
      rw [List.length_set]
      simp [tab12, flat]
      omega
    have hll : ∀ ρ, lCons (kT .none) (lCons (kT .none) lNil) ρ = some [.none, .none] := fun _ => rfl
    unfold sApp2
    rw [hd5]
    simp only [hll, Option.bind_some, hcc, if_true, hang12 ha hs hc hx]
    rfl
  have e5 : sSet 10 (eCall gSortedP (lCons (eComp (itR1 (nm 6)) cTrue (eTuple (lCons (eSub (nm 5) (nm 0)) (lCons (nm 0) lNil)))) lNil)) (S12 sc nu zs (tab12 (rz zs) (p + 1)) (.val (.int (p : Nat))) (.val .none) (.val (.int (x : Nat))) (.val (.int (sd s : Nat))) a10 a11 a12 a13) =
      some (.next, S12 sc nu zs (tab12 (rz zs) (p + 1)) (.val (.int (p : Nat))) (.val .none) (.val (.int (x : Nat))) (.val (.int (sd s : Nat))) (.val (.list ((isortP (rowP (rz zs) p)).map pT))) a11 a12 a13) :=
    sSet_any (earlier12 hl hp rfl rfl) rfl (earlier12 hl hp rfl rfl)
  have e6 : sSet 11 (eCompG (dPair (itL (nm 10)) (cmp fLe (nm 0) (eSub (nm 6) (nm 8))) (nm 1))) (S12 sc nu zs (tab12 (rz zs) (p + 1)) (.val (.int (p : Nat))) (.val .none) (.val (.int (x : Nat))) (.val (.int (sd s : Nat))) (.val (.list ((isortP (rowP (rz zs) p)).map pT))) a11 a12 a13) =
      some (.next, S12 sc nu zs (tab12 (rz zs) (p + 1)) (.val (.int (p : Nat))) (.val .none) (.val (.int (x : Nat))) (.val (.int (sd s : Nat))) (.val (.list ((isortP (rowP (rz zs) p)).map pT))) (.val (.list ((aheadL (rz zs) p).map T.int))) a12 a13) :=
    sSet_any (ahead12 hl hp rfl rfl rfl) rfl (ahead12 hl hp rfl rfl rfl)
  have e7 : sSet 12 (eCompG (dPair (itL (nm 10)) (cmp fGt (nm 0) (eSub (nm 6) (nm 8))) (nm 1))) (S12 sc nu zs (tab12 (rz zs) (p + 1)) (.val (.int (p : Nat))) (.val .none) (.val (.int (x : Nat))) (.val (.int (sd s : Nat))) (.val (.list ((isortP (rowP (rz zs) p)).map pT))) (.val (.list ((aheadL (rz zs) p).map T.int))) a12 a13) =
      some (.next, S12 sc nu zs (tab12 (rz zs) (p + 1)) (.val (.int (p : Nat))) (.val .none) (.val (.int (x : Nat))) (.val (.int (sd s : Nat))) (.val (.list ((isortP (rowP (rz zs) p)).map pT))) (.val (.list ((aheadL (rz zs) p).map T.int))) (.val (.list ((behindL (rz zs) p).map T.int))) a13) :=
    sSet_any (behind12 hl hp rfl rfl rfl) rfl (behind12 hl hp rfl rfl rfl)
  have hal : (aheadL (rz zs) p).length ≤ 1000 := Nat.le_trans ahead_len (by omega)
  have hbl : (behindL (rz zs) p).length ≤ 1000 := Nat.le_trans behind_len (by omega)
  have e8 := due12_ok (sc := sc) (nu := nu) (zs := zs) (as := aheadL (rz zs) p) (bs := behindL (rz zs) p) (x := x) (s := s) (tab12 (rz zs) (p + 1)) (.val (.int (p : Nat))) (.val .none) (.val (.list ((isortP (rowP (rz zs) p)).map pT))) a13 hal hbl (by
    cases s with
    | false => exact .inl ⟨rfl, due_right ha hs hc hx⟩
    | true => exact .inr ⟨rfl, due_left ha hs hc hx⟩)
  exact ⟨_, _, _, _, _, _, _, (sSeq_next e1).trans ((sSeq_next hw).trans ((sSeq_next e3).trans ((sSeq_next e4).trans ((sSeq_next e5).trans ((sSeq_next e6).trans ((sSeq_next e7).trans e8))))))⟩
end
theorem law12 (ns : List Int) (hn : ns.length ≤ 63) : ∃ ρ', B_law [.val (.list (ns.map T.int)), .val (.opq 5), .un, .un, .un, .un, .un, .un, .un, .un, .un, .un, .un, .un] = some (.ret (.bool true), ρ') := by
  obtain ⟨hs, hl, hh⟩ := heaps_ok 10 (by decide) (by decide) ns hn
  have hh : D_law_heaps [.list (ns.map T.int)] = some (.list (hs.map T.int)) := hh
  have hsl : hs.length ≤ 10 := by omega
  let nb : List Int := hs ++ [6, 1, 3, 1]
  let zs : List Int := nb.map fun x => x.fmod 5
  have hnl : nb.length = hs.length + 4 := by simp [nb]
  have hzl : zs.length = nb.length := by simp [zs]
  have hz : ∀ z ∈ zs, z < 5 := fun z hz => by
    obtain ⟨x, _, rfl⟩ := List.mem_map.mp hz
    exact Int.fmod_lt_of_pos _ (by decide)
  have f1 : ∀ ρ : List (Option T), ρ[0]? = some (some (.list (ns.map T.int))) → bin fAdd (eCall D_law_heaps (lCons (nm 0) lNil)) (eList (lCons (kT (.int 6)) (lCons (kT (.int 1)) (lCons (kT (.int 3)) (lCons (kT (.int 1)) lNil))))) ρ = some (.list (nb.map T.int)) := fun ρ h0 =>
    plus_ints (hs := hs) (ks := [6, 1, 3, 1]) (eCall_of (lCons_of (nm_of h0) rfl) hh) rfl (by simp; omega)
  have f2 : ∀ ρ : List (Option T), ρ[1]? = some (some (.opq 5)) → ρ[2]? = some (some (.list (nb.map T.int))) → eComp (itL (nm 2)) cTrue (bin gMake (nm 2) (nm 0)) ρ = some (.list (zs.map T.opq)) := fun ρ h1 h2 => by
    have hsrc : itL (nm 2) ρ = some (nb.map T.int) := itL_eq (nm_of h2) (by simp; omega)
    let f : T → T := fun t => match t with | .int k => .opq (k.fmod 5) | t => t
    have hc := compL_eq (t := fun u => cTrue (some u :: ρ)) (e := fun u => (bin gMake (nm 2) (nm 0)) (some u :: ρ)) (p := fun _ => true) (f := f) (xs := nb.map T.int) (fun _ _ => rfl) (by
      intro x hx _
      obtain ⟨y, hy, rfl⟩ := List.mem_map.mp hx
      exact bin_of (x := .opq 5) (y := .int y) (nm_of (by simpa using h1)) rfl rfl)
    simp only [eComp, hsrc, Option.bind_some, hc, Option.map_some]
    rw [List.filter_eq_self.mpr (fun _ _ => rfl)]
    simp [zs, f]
  have f3 : ∀ ρ : List (Option T), ρ[2]? = some (some (.list (nb.map T.int))) → eComp (itL (nm 2)) cTrue (bin fMod (nm 0) (kT (.int 5))) ρ = some (.list (zs.map T.int)) := fun ρ h2 =>
    eComp_map (f := fun x => x.fmod 5) (itL_eq (nm_of h2) (by simp; omega)) (fun x _ => by simp [bin, nm, kT, fMod])
  let sc : T := .list (ns.map T.int)
  let nu : T := .list (nb.map T.int)
  have e1 : sSet 2 (bin fAdd (eCall D_law_heaps (lCons (nm 0) lNil)) (eList (lCons (kT (.int 6)) (lCons (kT (.int 1)) (lCons (kT (.int 3)) (lCons (kT (.int 1)) lNil)))))) [.val sc, .val (.opq 5), .un, .un, .un, .un, .un, .un, .un, .un, .un, .un, .un, .un] =
      some (.next, [.val sc, .val (.opq 5), .val nu, .un, .un, .un, .un, .un, .un, .un, .un, .un, .un, .un]) := sSet_any (f1 _ rfl) rfl (f1 _ rfl)
  have e2 : sSet 3 (eComp (itL (nm 2)) cTrue (bin gMake (nm 2) (nm 0))) [.val sc, .val (.opq 5), .val nu, .un, .un, .un, .un, .un, .un, .un, .un, .un, .un, .un] =
      some (.next, [.val sc, .val (.opq 5), .val nu, .val (.list (zs.map T.opq)), .un, .un, .un, .un, .un, .un, .un, .un, .un, .un]) := sSet_any (f2 _ rfl rfl) rfl (f2 _ rfl rfl)
  have e3 : sSet 4 (eComp (itL (nm 2)) cTrue (bin fMod (nm 0) (kT (.int 5)))) [.val sc, .val (.opq 5), .val nu, .val (.list (zs.map T.opq)), .un, .un, .un, .un, .un, .un, .un, .un, .un, .un] =
      some (.next, [.val sc, .val (.opq 5), .val nu, .val (.list (zs.map T.opq)), .val (.list (zs.map T.int)), .un, .un, .un, .un, .un, .un, .un, .un, .un]) := sSet_any (f3 _ rfl) rfl (f3 _ rfl)
  have htab : tab12 (rz zs) 1 = [[.none, .none]] := by
    have := child_new (r := rz zs) 0
    simp [tab12, row12, this, cel]
  have e4 : sNew21 5 (lCons (kT .none) (lCons (kT .none) lNil)) [.val sc, .val (.opq 5), .val nu, .val (.list (zs.map T.opq)), .val (.list (zs.map T.int)), .un, .un, .un, .un, .un, .un, .un, .un, .un] =
      some (.next, S12 sc nu zs (tab12 (rz zs) 1) .un .un .un .un .un .un .un .un) := by rw [htab]; rfl
  have src : itR2 (kT (.int 1)) (eCall gLen (lCons (nm 3) lNil)) ((S12 sc nu zs (tab12 (rz zs) 1) .un .un .un .un .un .un .un .un).map Slot.rd) = some ((irng 1 zs.length).map T.int) := by
    refine itR2_eq (j := 1) (k := zs.length) rfl (eCall_of (xs := [.list (zs.map T.opq)]) rfl ?_) (by omega) (by omega) (by omega)
    simp only [gLen, List.length_map]
    rw [if_pos (by omega)]
  obtain ⟨ρ', h1, a6, a7, a8, a9, a10, a11, a12, a13, rfl⟩ := sForN_inv0 (i := 6) (b := L_law_44) (fun k ρ => ∃ a6 a7 a8 a9 a10 a11 a12 a13 : Slot, ρ = S12 sc nu zs (tab12 (rz zs) (k + 1)) a6 a7 a8 a9 a10 a11 a12 a13) ((irng 1 zs.length).map T.int)
    (S12 sc nu zs (tab12 (rz zs) 1) .un .un .un .un .un .un .un .un) ⟨_, _, _, _, _, _, _, _, rfl⟩ (by
      rintro j y ρ hy ⟨a6, a7, a8, a9, a10, a11, a12, a13, rfl⟩
      rw [List.getElem?_map] at hy
      obtain ⟨z, hzz, rfl⟩ := Option.map_eq_some_iff.mp hy
      have hj : j < ((zs.length : Int) - 1).toNat := by
        have := (List.getElem?_eq_some_iff.mp hzz).1
        simpa using this
      rw [irng_get hj] at hzz
      cases hzz
      have ht := turn12 (sc := sc) (nu := nu) (p := j + 1) hz (by omega) (by omega) (by omega) a7 a8 a9 a10 a11 a12 a13
      obtain ⟨b7, b8, b9, b10, b11, b12, b13, ht⟩ := ht
      refine ⟨_, ?_, .val (.int ((j + 1 : Nat) : Int)), b7, b8, b9, b10, b11, b12, b13, rfl⟩
      rw [show (1 : Int) + (j : Nat) = ((j + 1 : Nat) : Int) by omega]
      exact ht)
  exact ⟨_, (sSeq_next e1).trans ((sSeq_next e2).trans ((sSeq_next e3).trans ((sSeq_next e4).trans ((sSeq_next ((sForR_eq src).trans h1)).trans (sSeq_ret (sRet_eq rfl))))))⟩
end Mine

namespace Mine
open PySem PySem.W PyProof.Rows PySem.Calls
set_option maxRecDepth 100000
set_option maxHeartbeats 1000000
noncomputable abbrev pw12 : Program := PySem.Challenge.pw_dm0117_12
noncomputable abbrev B0 (w : World) (h : Heap) (mg mb : Str → Option Value) : Bd := ⟨pw12, w, fun _ _ _ => False, h, mg, mb⟩
noncomputable abbrev B2 (w : World) (h : Heap) (mg mb : Str → Option Value) (C : Addr) : Bd := ⟨pw12, w, kP C, h, mg, mb⟩
/-- what is no table of a code -/
theorem codeRec_but {h h' : Heap} {P P1 : Addr} {cv : Value} {q : Str} (hP : h.get? P = some (tabObj #[])) (hP1 : h.get? P1 = some (tabObj #[])) (hk : ∀ b o, h.get? b = some o → b ≠ P → b ≠ P1 → h'.get? b = some o) (x : h.CodeRec cv q) : h'.CodeRec cv q := by
  obtain ⟨cc, oc, vs, tt, q1, q2, q3, q4⟩ := x
  refine ⟨cc, oc, vs, tt, q1, hk _ _ q2 (fun e => ?_) (fun e => ?_), q3, q4⟩
  · rw [e, hP] at q2; cases q2; cases q3; simp at q4
  · rw [e, hP1] at q2; cases q2; cases q3; simp at q4
theorem FdOk.to {w : World} {h h' : Heap} {mg mb : Str → Option Value} {C P P1 : Addr} {sc : Scope} {names ps : List Str} {body : List Stmt} {fa : Addr} {o : Obj} {fd : FuncData} (F : FdOk (B0 w h mg mb) sc names ps body fa o fd) (hP : h.get? P = some (tabObj #[])) (hP1 : h.get? P1 = some (tabObj #[]))
    (hk : ∀ b o, h.get? b = some o → b ≠ P → b ≠ P1 → h'.get? b = some o) : FdOk (B2 w h' mg mb C) sc names ps body fa o fd where
  ho := hk _ _ F.ho (fun e => by have := F.ho; have hd := F.hd; rw [e] at this; rw [show (B0 w h mg mb).hb = h from rfl, hP] at this; cases this; cases hd) (fun e => by have := F.ho; have hd := F.hd; rw [e] at this; rw [show (B0 w h mg mb).hb = h from rfl, hP1] at this; cases this; cases hd)
  hd := F.hd
  code := codeRec_but hP hP1 hk F.code
  body := F.body
  scope := F.scope
  globals := F.globals
  builtins := F.builtins
  closure := F.closure
  bind := F.bind
theorem CkOk.ext {h h' : Heap} {fa c : Addr} {o : Obj} {fd : FuncData} (F : CkOk h fa c o fd) (e : Ext h h') : CkOk h' fa c o fd := ⟨e _ _ F.ho, F.hd, F.crec.keeps e, F.body, F.scope, F.globals, F.builtins, F.closure, F.code, F.qual, F.bind⟩
theorem ns_but {h h' : Heap} {P P1 a : Addr} {m : Str → Option Value} (hP : h.get? P = some (tabObj #[])) (hP1 : h.get? P1 = some (tabObj #[])) (hk : ∀ b o, h.get? b = some o → b ≠ P → b ≠ P1 → h'.get? b = some o) (x : h.Ns a m) : h'.Ns a m := by
  obtain ⟨o, es, ep, e, hd, r⟩ := x
  refine ⟨o, es, ep, hk _ _ e (fun q => ?_) (fun q => ?_), hd, r⟩
  · rw [q, hP] at e; cases e; cases hd
  · rw [q, hP1] at e; cases e; cases hd
theorem law_tail : bodyOf pw12 "law" = mkStmt :: (bodyOf pw12 "law").tail := by kernel_rfl
theorem law_make : (scopeOf pw12 "law").names.lookup ("make" : Str) = some .cell := by kernel_rfl
theorem law_script : (scopeOf pw12 "law").names.lookup ("script" : Str) = some .local := by kernel_rfl
theorem law_cells (k c : Nat) (hc : c ∈ (cellsFrom k (scopeOf pw12 "law").names []).map (·.2)) : ∃ x, (cellsFrom k (scopeOf pw12 "law").names []).lookup x = some c := by
  have e : cellsFrom k (scopeOf pw12 "law").names [] = [(("place" : Str), k + 1 + 1), (("sizes" : Str), k + 1), (("make" : Str), k)] := by kernel_rfl
  rw [e] at hc ⊢
  simp only [List.map_cons, List.map_nil, List.mem_cons, List.not_mem_nil, or_false] at hc
  rcases hc with rfl | rfl | rfl
  · exact ⟨"place", rfl⟩
  · exact ⟨"sizes", rfl⟩
  · exact ⟨"make", rfl⟩
theorem law12_run {w : World} {s₁ : Shared} {mg mb : Str → Option Value} {fa fH fT fC c1 cC P P1 la : Addr} {oL oH oT oC : Obj} {fdL fdH fdT fdC : FuncData} {v0 : Value} {ns : List Int} {vs : List Value} {A : Around} {E : Value → Shared → Prop}
    (hg0 : s₁.heap.Ns mainGlobals mg) (hb0 : s₁.heap.Ns builtinsNs mb) (hbt : ∀ x : Str, x ≠ "__name__" → mb x = bootBuiltins x) (hst : s₁.heap.Ns cStatics (fun _ => none))
    (FL : FdOk (B0 w s₁.heap mg mb) (scopeOf pw12 "law") N_law ["script"] (bodyOf pw12 "law") fa oL fdL) (hcL : fdL.code = .ref c1)
    (FH : FdOk (B0 w s₁.heap mg mb) (scopeOf pw12 "_law_heaps") N_law_heaps ["script"] (bodyOf pw12 "_law_heaps") fH oH fdH) (FT : FdOk (B0 w s₁.heap mg mb) (scopeOf pw12 "_lt_from_gt") N_lt_from_gt ["self", "other"] (bodyOf pw12 "_lt_from_gt") fT oT fdT)
    (hmH : mg "_law_heaps" = some (.ref fH)) (hmT : mg "_lt_from_gt" = some (.ref fT)) (CK : CkOk s₁.heap fC cC oC fdC) (hmC : mg "cmp_to_key" = some (.ref fC))
    (HC : CodeHd s₁.heap cC P) (hP : s₁.heap.get? P = some (tabObj #[])) (HC1 : CodeHd s₁.heap c1 P1) (hP1 : s₁.heap.get? P1 = some (tabObj #[])) (hPP : P1 ≠ P)
    (hbm : ∃ bm ob, mg "__builtins__" = some (.ref bm) ∧ bm ≠ builtinsNs ∧ s₁.heap.get? bm = some ob ∧ ob.cls = .type "module" ∧ ob.dict = some builtinsNs ∧ ob.data = .plain)
    (hnm : mg "__name__" = some v0) (free : ∀ x ∈ (["type", "NotImplemented", "len", "min", "range", "sorted", "object"] : List Str), mg x = none)
    (hla : s₁.heap.PlainList la vs.toArray) (hi : IntsAre vs ns) (hlen : ns.length ≤ 63) (rm : Room 4 A) :
    wpAny (model pw12 w) A (call (.ref fa) [.ref la]) (fun v s' => v = .bool true ∧ ∃ h' tk ps ps1, s' = { s₁ with heap := h', toks := tk } ∧ (∀ b o, s₁.heap.get? b = some o → b ≠ P → b ≠ P1 → h'.get? b = some o) ∧ h'.get? P = some (tabObj ps) ∧ h'.get? P1 = some (tabObj ps1)) E s₁ := by
  obtain ⟨h0, g, d, t, os⟩ := s₁
  dsimp only at *
  have hl0 : h0.NoLimit := ⟨_, hst, rfl⟩
  refine wpAny_call (codeAny_call_cells (binds := [(("script" : Str), .ref la)]) (by have := rm.depth; omega) FL.ho FL.hd hl0 FL.code FL.body (FL.bind [.ref la] rfl) FL.closure ?_ ?_ (by rw [FL.scope]; exact Sh_law.co) (by rw [FL.scope]; exact Sh_law.gen) (by rw [FL.scope]; exact Sh_law.kind))
  · intro x hx
    rw [List.mem_singleton.mp hx, FL.scope]
    exact .inl law_script
  · intro s1 ic
    obtain ⟨h1, tk1, rfl⟩ := ic.toInCall.same
    have keep : Ext h0 h1 := ic.toInCall.keep
    generalize hL0 : (⟨h0, g, d, t, os⟩ : Shared).heap.objs.size = L at ic ⊢
    have hL : h0.objs.size = L := hL0
    have dead : ∀ b, L ≤ b → h0.get? b = none := fun b hb' => Heap.get?_none_of_le (by rw [hL]; exact hb')
    have hcs : (callEnvC fdL L fa).cells = cellsFrom (L + 1) (scopeOf pw12 "law").names [] := by show cellsFrom (L + 1) fdL.scope.names [] = _; rw [FL.scope]
    generalize henv : callEnvC fdL L fa = env at ic hcs ⊢
    have e1 : env.scope = scopeOf pw12 "law" := by rw [← henv]; exact FL.scope
    have e2 : env.locals = L := by rw [← henv]; rfl
    have e4 : env.globals = mainGlobals := by rw [← henv]; exact FL.globals
    have e5 : env.builtins = builtinsNs := by rw [← henv]; exact FL.builtins
    have e6 : env.code = .ref c1 := by rw [← henv]; exact hcL
    have hk : ∀ x, env.kindOf x = (scopeOf pw12 "law").names.lookup x := fun x => by show env.scope.names.lookup x = _; rw [e1]
    have hkd : env.scope.kind = .function := by rw [e1]; exact Sh_law.kind
    obtain ⟨cm, hcm⟩ : ∃ c, env.cells.lookup ("make" : Str) = some c := Option.isSome_iff_exists.mp (by rw [hcs]; exact cellsFrom_some _ _ _ _ (.inl law_make))
    have above : ∀ x c, env.cells.lookup x = some c → L < c := fun x c hc => by
      have := ic.above x c (mem_of_lookup hc)
      rwa [e2] at this
    have hm0 : ∀ x : Str, x ≠ ("script" : Str) → bindC env.kindOf [(("script" : Str), Value.ref la)] (fun _ => none) x = none := fun x hx => by
      unfold bindC bindC
      split
      · rfl
      · simp [hx]
    have hml : ∀ x : Str, x ≠ ("script" : Str) → bindL env.kindOf [(("script" : Str), Value.ref la)] (fun _ => none) x = none := fun x hx => by
      unfold bindL bindL
      split
      · simp [hx]
      · rfl
    have hcell : h1.IsCell cm none := by
      have := ic.cell "make" cm hcm
      rwa [hm0 _ (by decide +kernel)] at this
    obtain ⟨bm, ob, q1, q2, q3, q4, q5, q6⟩ := hbm
    have hbG : bm ≠ mainGlobals := fun q => by obtain ⟨o, es, ep, e, hd, _⟩ := hg0; rw [q, e] at q3; cases q3; rw [hd] at q6; cases q6
    have hbP : bm ≠ P := fun q => by rw [q, hP] at q3; cases q3; cases q4
    have hbP1 : bm ≠ P1 := fun q => by rw [q, hP1] at q3; cases q3; cases q4
    have hgP : mainGlobals ≠ P := fun q => by obtain ⟨o, es, ep, e, hd, _⟩ := hg0; rw [q, hP] at e; cases e; cases hd
    have hgP1 : mainGlobals ≠ P1 := fun q => by obtain ⟨o, es, ep, e, hd, _⟩ := hg0; rw [q, hP1] at e; cases e; cases hd
    have hobj : mb "object" = some (.type "object") := (hbt _ (by decide +kernel)).trans (by decide +kernel)
    have hbc : mb "__build_class__" = some (.builtin "__build_class__") := (hbt _ (by decide +kernel)).trans (by decide +kernel)
    rw [law_tail]
    refine wpAny_execs_cons (exec_make (CK.ext keep) hkd (by rw [hk]; kernel_rfl) (by rw [hk]; exact law_make) hcm e4 e6 (by have := rm.depth; show A.depth + 1 + 1 < _; omega) (hl0.keeps keep) (HC.keeps keep) (keep _ _ hP) (HC1.keeps keep) (keep _ _ hP1) hPP hcell (hg0.keeps keep) hmC hnm (free _ (by decide +kernel)) (hb0.keeps keep) hobj hbc hgP hgP1 ⟨bm, ob, q1, q2, hbG, hbP, keep _ _ q3, q4, q5, q6⟩ ⟨bm, ob, q1, q2, hbG, hbP1, keep _ _ q3, q4, q5, q6⟩ (hst.keeps keep) fun h2 C ca lam ps ps1 t2 k2 hP2 hP12 kc hca hlam hcm2 nC nca nlam => ?_)
    show wpAny _ _ (execs (bodyOf pw12 "law").tail env) _ _ _
    have cmL : L < cm := above _ _ hcm
    have k02 : ∀ b o, h0.get? b = some o → b ≠ P → b ≠ P1 → h2.get? b = some o := fun b o e n1 n2 => k2 _ _ (by
      have n3 : b ≠ cm := fun q => by rw [q, dead cm (Nat.le_of_lt cmL)] at e; cases e
      simp [n1, n2, n3]) (keep _ _ e)
    have cellOf : ∀ c, c ∈ env.cells.map (·.2) → ∃ x, env.cells.lookup x = some c := fun c hc => by
      rw [hcs] at hc ⊢
      exact law_cells (L + 1) c hc
    have hidL : ∀ a, a ∈ env.locals :: env.cells.map (·.2) → L ≤ a := fun a ha => by
      rcases List.mem_cons.mp ha with rfl | ha
      · exact Nat.le_of_eq e2.symm
      · obtain ⟨x, hx⟩ := cellOf a ha
        exact Nat.le_of_lt (above x a hx)
    have k0b : ∀ b o, h0.get? b = some o → b ≠ P → b ≠ P1 → (hideAll h2 (env.locals :: env.cells.map (·.2))).get? b = some o := fun b o e n1 n2 => hideAll_get _ (k02 b o e n1 n2) fun hm => by rw [dead b (hidL b hm)] at e; cases e
    have LP : L ≠ P := fun q => by rw [← q, dead L (Nat.le_refl _)] at hP; cases hP
    have LP1 : L ≠ P1 := fun q => by rw [← q, dead L (Nat.le_refl _)] at hP1; cases hP1
    have cellne : ∀ x c, env.cells.lookup x = some c → c ≠ P ∧ c ≠ P1 := fun x c hc => ⟨(fun q => by rw [← q, dead c (Nat.le_of_lt (above x c hc))] at hP; cases hP), (fun q => by rw [← q, dead c (Nat.le_of_lt (above x c hc))] at hP1; cases hP1)⟩
    have nsL : h2.Ns env.locals (bindL env.kindOf [(("script" : Str), Value.ref la)] (fun _ => none)) := by
      obtain ⟨o, es, ep, e, r⟩ := ic.toInCall.ns
      exact ⟨o, es, ep, k2 _ _ (by rw [e2]; simp [LP, LP1, Nat.ne_of_lt cmL]) e, r⟩
    have cells2 : ∀ x c, env.cells.lookup x = some c → ∃ v, h2.IsCell c v := fun x c hc => by
      by_cases q : c = cm
      · exact ⟨_, q ▸ hcm2⟩
      · obtain ⟨o, e, hd⟩ := ic.cell x c hc
        exact ⟨_, o, k2 _ _ (by simp [(cellne x c hc).1, (cellne x c hc).2, q]) e, hd⟩
    have firm : ∀ b o, h2.get? b = some o → Firm o → (hideAll h2 (env.locals :: env.cells.map (·.2))).get? b = some o := fun b o e f => hideAll_get _ e fun hm => by
      rcases List.mem_cons.mp hm with rfl | hm
      · obtain ⟨o', es, ep, e', hd, _, hf⟩ := nsL
        rw [e'] at e; cases e
        exact f.2 es ep hd ((hf _).trans (hml _ (by decide +kernel)))
      · obtain ⟨x, hx⟩ := cellOf b hm
        obtain ⟨v, o', e', hd⟩ := cells2 x b hx
        rw [e'] at e; cases e
        exact f.1 _ hd
    generalize hhb : hideAll h2 (env.locals :: env.cells.map (·.2)) = hb at k0b firm
    have hbx : Ext hb h2 := fun b o e => by rw [← hhb] at e; exact of_hideAll _ e
    have hbn : ∀ a, a ∈ env.locals :: env.cells.map (·.2) → hb.get? a = none := fun a ha => by rw [← hhb]; exact hideAll_none _ ha
    have ok : (B2 w hb mg mb C).Ok := ⟨ns_but hP hP1 k0b hg0, ns_but hP hP1 k0b hb0, ⟨_, ns_but hP hP1 k0b hst, rfl⟩, hbt, kP_nf⟩
    have hcab : hb.IsCell ca (some (.ref lam)) := by
      obtain ⟨o, e, hd⟩ := hca
      refine ⟨o, ?_, hd⟩
      rw [← hhb]
      refine hideAll_get _ e fun hm => ?_
      rcases List.mem_cons.mp hm with q | hm
      · obtain ⟨o', es, ep, e', _⟩ := ic.toInCall.ns
        rw [q] at nca
        rw [show h1.get? env.locals = some o' from e'] at nca; cases nca
      · obtain ⟨x, hx⟩ := cellOf ca hm
        obtain ⟨o', e', _⟩ := ic.cell x ca hx
        rw [show h1.get? ca = some o' from e'] at nca; cases nca
    have K : KOk (B2 w hb mg mb C) C ca lam := ⟨kc.frame firm, hcab, hlam.frame firm, ns_but hP hP1 k0b hst, rfl⟩
    have g2 := fun_ok ok (FH.to (C := C) hP hP1 k0b) Sh_law_heaps (S_law_heaps ok K (free _ (by decide +kernel)) (free _ (by decide +kernel)) (free _ (by decide +kernel)))
    have g1 := fun_ok ok (FT.to (C := C) hP hP1 k0b) Sh_lt_from_gt (S_lt_from_gt ok K (free _ (by decide +kernel)) (free _ (by decide +kernel)))
    have S := S_law ok K (free _ (by decide +kernel)) (free _ (by decide +kernel)) (free _ (by decide +kernel)) hmH g2 hmT g1
    obtain ⟨ρ', hD⟩ := law12 ns hlen
    have eo : EnvOk (scopeOf pw12 "law") env := ⟨e1, Sh_law.kind, e4, e5, fun x hx => by
      rw [hcs]
      rcases hx with hx | hx
      · exact Option.isSome_iff_exists.mp (cellsFrom_some _ _ _ _ (.inl hx))
      · exact absurd rfl (Sh_law.nofree (x, .free) (mem_of_lookup hx))⟩
    let adr0 : List (List Addr) := N_law.map fun _ => []
    have hno : ∀ a, ¬ inOwn adr0 a := fun a ha => by
      obtain ⟨l, hl, hm⟩ := List.mem_flatten.mp ha
      obtain ⟨_, _, rfl⟩ := List.mem_map.mp hl
      cases hm
    have hfoot : ∀ b, foot env adr0 b → b ∈ env.locals :: env.cells.map (·.2) := fun b hb' => by
      rcases hb' with rfl | ⟨x, hc⟩ | ho
      · exact List.mem_cons_self
      · exact List.mem_cons_of_mem _ (List.mem_map_of_mem (f := fun x : Str × Addr => x.2) (mem_of_lookup hc))
      · exact absurd ho (hno b)
    have hlaP : la ≠ P := fun q => by obtain ⟨k, e⟩ := hla; rw [q, hP] at e; cases e
    have hlaP1 : la ≠ P1 := fun q => by obtain ⟨k, e⟩ := hla; rw [q, hP1] at e; cases e
    have hla2 : h2.PlainList la vs.toArray := by obtain ⟨k, e⟩ := hla; exact ⟨k, k02 _ _ e hlaP hlaP1⟩
    have hex : ∀ a, ¬ Ex noX adr0 a := fun a ha => ha.elim (fun q => q.elim) (hno a)
    have vS : SlotOk (B2 w hb mg mb C).P (Ex noX adr0) env h2 "script" (.val (.list (ns.map T.int))) [] := by
      refine .inr ⟨.ref la, .inl ⟨by rw [hk]; exact law_script, _, nsL, ?_⟩, rfl, ?_⟩
      · exact bindL_get _ _ _ _ _ (by simp) rfl (by rw [hk]; exact law_script)
      · simp only [Rep]
        exact ⟨la, vs, rfl, hex la, hla2, Reps.of_ints hi⟩
    have vM : SlotOk (B2 w hb mg mb C).P (Ex noX adr0) env h2 "make" (.val (.opq 5)) [] := by
      refine .inr ⟨.ref C, .inr ⟨.inl (by rw [hk]; exact law_make), cm, hcm, hcm2⟩, rfl, ?_⟩
      obtain ⟨N, dA, f1, f2, f3, f4, f5, f6, ⟨k0, k1, k2', k3, k5, a⟩, _⟩ := kc
      simp only [Rep]
      exact ⟨C, _, rfl, hex C, a, .inl ⟨rfl, rfl, _, _, rfl⟩⟩
    have R0 : Rel (B2 w hb mg mb C) noX env N_law [.val (.list (ns.map T.int)), .val (.opq 5), .un, .un, .un, .un, .un, .un, .un, .un, .un, .un, .un, .un] adr0 h2 := by
      refine ⟨hbx, (fun a ha => ha.elim), (fun a ha => ha.elim), fun b hb' => hbn b (hfoot b hb'), ⟨_, nsL⟩, cells2, ic.apart, fun x hx => ?_, Sh_law.nodup, by kernel_rfl, by simp [adr0], fun i x sl as z1 z2 z3 => ?_, ?_⟩
      · rw [hk]
        rcases Sh_law.kinds x hx with z | z
        · exact .inl z
        · exact .inr ⟨z, Option.isSome_iff_exists.mp (by rw [hcs]; exact cellsFrom_some _ _ _ _ (.inl z))⟩
      · have has : as = [] := by
          simp only [adr0, List.getElem?_map] at z3
          obtain ⟨_, _, rfl⟩ := Option.map_eq_some_iff.mp z3
          rfl
        subst has
        match i, z1, z2 with
        | 0, z1, z2 => cases z1; cases z2; exact vS
        | 1, z1, z2 => cases z1; cases z2; exact vM
        | 2, _, z2 | 3, _, z2 | 4, _, z2 | 5, _, z2 | 6, _, z2 | 7, _, z2 | 8, _, z2 | 9, _, z2 | 10, _, z2 | 11, _, z2 | 12, _, z2 | 13, _, z2 => cases z2; exact .inl ⟨rfl, rfl⟩
        | i + 14, _, z2 => simp at z2
      · have : adr0.flatten = [] := by
          cases q : adr0.flatten with
          | nil => rfl
          | cons a l => exact absurd (show inOwn adr0 a by unfold inOwn; rw [q]; exact List.mem_cons_self) (hno a)
        rw [this]; exact List.nodup_nil
    have rm' : Room 2 (A.deeper env) := ⟨rm.handled, by have := rm.depth; show A.depth + 1 + 2 < _; omega, by have := rm.units; show A.units + 3 + 10 * 2 + 10 < _; omega⟩
    refine wpAny_mono (S noX env _ adr0 ⟨h2, g, d, t2, os⟩ (.ret (.bool true)) ρ' _ _ eo rm' R0 hD) (fun f' s' q => ?_) fun _ _ z => z
    obtain ⟨adr', h3, tk3, rfl, af, fo⟩ := q
    cases f' <;> simp only [FlOk] at fo
    simp only [Rep] at fo
    subst fo
    have nf : ∀ {b : Addr} {o : Obj}, h0.get? b = some o → ¬ foot env adr0 b := fun {b o} e hf => by rw [dead b (hidL b (hfoot b hf))] at e; cases e
    exact ⟨rfl, h3, tk3, ps, ps1, rfl, fun b o e n1 n2 => af.pres b o (k02 b o e n1 n2) (nf e), af.pres _ _ hP2 (nf hP), af.pres _ _ hP12 (nf hP1)⟩
end Mine

namespace Mine
open PySem PySem.W PyProof.Rows PySem.Calls
set_option maxRecDepth 100000
noncomputable def emptyNs (K : Frag) (a : Addr) : Bool := match K.lookup a with | some ⟨_, _, .dict es _, _⟩ => es.size == 0 | _ => false
theorem emptyNs_of {K : Frag} {h : Heap} {a : Addr} (X : K.In h) (e : emptyNs K a = true) : h.Ns a (fun _ => none) := by
  unfold emptyNs at e
  split at e
  · rename_i c d es n sl ho
    have hz : es = #[] := Array.eq_empty_of_size_eq_zero (by simpa using e)
    subst hz
    exact ⟨_, #[], n, X _ _ ho, rfl, fun e he => by simp at he, fun _ => rfl⟩
  · cases e
theorem ck_of_top {q : Program} {loose : List Str} {mean : ExcName → Option Value} {mg mb : Str → Option Value} {s : Shared} {c : Addr} (T : Top q loose mean mg mb s.heap)
    (h : ((recsOf q).find? fun d => d.name == ("cmp_to_key" : Str)).map (fun d => (d.name, d.params, d.body, d.scope)) = some (("cmp_to_key" : Str), paramsOf pw12 "cmp_to_key", bodyOf pw12 "cmp_to_key", scopeOf pw12 "cmp_to_key"))
    (hc : ∀ fa o fd, mg "cmp_to_key" = some (.ref fa) → s.heap.get? fa = some o → o.data = .func fd → fd.code = .ref c) :
    ∃ fa o fd, mg "cmp_to_key" = some (.ref fa) ∧ CkOk s.heap fa c o fd := by
  obtain ⟨d, hf, hd⟩ := Option.map_eq_some_iff.mp h
  have hm := List.mem_of_find?_eq_some hf
  obtain ⟨a, o, pm, code, doc, h1, h2, h3, h4⟩ := T.fn d hm
  obtain ⟨dn, dp, db, ds, dpos⟩ := d
  simp only [Prod.mk.injEq] at hd
  obtain ⟨rfl, rfl, rfl, rfl⟩ := hd
  exact ⟨a, o, _, h1, h2, h3, h4, rfl, rfl, rfl, rfl, rfl, hc _ _ _ h1 h2 h3, rfl, fun v => by kernel_rfl⟩
theorem name_of {K : Frag} (h : ((nsIn K mainGlobals "__name__").join).isSome = true) : ∃ v, nsIn K mainGlobals "__name__" = some (some v) := by
  obtain ⟨v, hv⟩ := Option.isSome_iff_exists.mp h
  exact ⟨v, by cases q : nsIn K mainGlobals "__name__" with | none => rw [q] at hv; cases hv | some y => rw [q] at hv; rw [show y = some v from hv]⟩
theorem room4 : Room 4 callerA := ⟨rfl, by show 1 + claimMargin + 4 < recursionLimit; simp [claimMargin, recursionLimit], by show 4 + 10 * 4 + 10 < cLine; simp [cLine]⟩
theorem list_of_well {P : Params} {h : Heap} {la : Addr} {ns : List Int} (hw : Well P h (.ref la) (ofPy (PyData.list (ns.map PyData.int)))) : ∃ vs : List Value, h.PlainList la vs.toArray ∧ IntsAre vs ns := by
  have hw' : Well P h (.ref la) (.list (ns.map WData.int)) := by
    have : ofPy (PyData.list (ns.map PyData.int)) = .list (ns.map WData.int) := by simp [ofPy, ofPys_ints]
    rwa [this] at hw
  cases hw' with
  | list ho hall =>
    rename_i vs
    exact ⟨vs, ⟨0, ho⟩, wellAll_ints hall⟩
theorem good12 {cw : ClaimW} {cl : Str → Option Addr} {mean : ExcName → Option Value} {args : List WData} {s₁ s' : Shared} {cC c1 P P1 : Addr} {h' : Heap} {tk : Nat} {ps ps1 : Array Value} (hs : s' = { s₁ with heap := h', toks := tk })
    (hk : ∀ b o, s₁.heap.get? b = some o → b ≠ P → b ≠ P1 → h'.get? b = some o) (h2 : h'.get? P = some (tabObj ps)) (h3 : h'.get? P1 = some (tabObj ps1)) (HC : CodeHd s₁.heap cC P) (hP : s₁.heap.get? P = some (tabObj #[])) (HC1 : CodeHd s₁.heap c1 P1) (hP1 : s₁.heap.get? P1 = some (tabObj #[]))
    (hg : s₁.gens = #[]) (hr : ∀ cls, cw.raises args cls = false) (hp : cw.post args (.bool true) args = true) : GoodWG cw cl mean args s₁ (.ok (.ret (.bool true))) s' := by
  subst hs
  refine ⟨.inl ⟨_, _, [], rfl, hr, .bool true, hp, fun _ => ⟨.nil, fun _ ha => nomatch ha⟩⟩, ⟨fun b o e => ?_, fun b o e => ?_⟩, rfl, .of_eq hg⟩
  · by_cases q : b = P
    · subst q
      rw [hP] at e; cases e
      exact .inr (.inl ⟨(HC.tab hP).isCodeTable, rfl, #[], ps, rfl, by rw [Array.empty_append]; exact h2⟩)
    · by_cases q1 : b = P1
      · subst q1
        rw [hP1] at e; cases e
        exact .inr (.inl ⟨(HC1.tab hP1).isCodeTable, rfl, #[], ps1, rfl, by rw [Array.empty_append]; exact h3⟩)
      · exact .inl (hk b o e q q1)
  · by_cases q : b = P
    · exact ⟨_, q ▸ h2⟩
    · by_cases q1 : b = P1
      · exact ⟨_, q1 ▸ h3⟩
      · exact ⟨o, hk b o e q q1⟩
end Mine
open PySem PySem.W PyProof.Rows
set_option maxRecDepth 100000 in
set_option maxHeartbeats 8000000 in
theorem PySem.Challenge.cw_dm0117_12_holds : PySem.Challenge.rw_dm0117_12.Holds := by
  w_on; o_law; k_head; (case hw => w_witness2)
  intro w s₀ s₁ mg mb G Y fa o pm cd doc dV kV ho hd hcd hD hmg hg args vals as hpre hlay hrd hwl hlo
  refine Ground.open G ?_
  intro T B D TE TW
  wrow_args hpre hlay hrd hwl hlo
  rename Well _ _ _ _ => hw
  rename (¬ (_ < _)) => hc
  have X := km_in_of Y
  have Yt := km_tabs_of Y
  have hst : s₁.heap.Ns cStatics (fun _ => none) := Mine.emptyNs_of X (by kernel_rfl)
  have HC1 : CodeHd s₁.heap 39 37 := codeHd_of_K X (by kernel_rfl)
  have HC : CodeHd s₁.heap 27 23 := codeHd_of_K X (by kernel_rfl)
  have hP1 := Yt 37 (by simp)
  have hP := Yt 23 (by simp)
  let Bq : Mine.Bd := ⟨PySem.Challenge.pw_dm0117_12, w, fun _ _ _ => False, s₁.heap, mg, mb⟩
  obtain ⟨fC, oC, fdC, hmC, CK⟩ := Mine.ck_of_top (c := 27) T (by kernel_rfl) (fun fa o fd h1 h2 h3 => law_code (c := 27) (P := 23) X T.g (by kernel_rfl) h1 h2 h3)
  obtain ⟨f1, o1, fd1, hm1, F1⟩ := Mine.fd_of_top (B := Bq) (names := Mine.N_lt_from_gt) (p := PySem.Challenge.pw_dm0117_12) T rfl "_lt_from_gt" (ps := ["self", "other"]) (by kernel_rfl) (fun pm cd doc vs h => match vs, h with | [_, _], _ => by kernel_rfl)
  obtain ⟨f2, o2, fd2, hm2, F2⟩ := Mine.fd_of_top (B := Bq) (names := Mine.N_law_heaps) (p := PySem.Challenge.pw_dm0117_12) T rfl "_law_heaps" (ps := ["script"]) (by kernel_rfl) (fun pm cd doc vs h => match vs, h with | [_], _ => by kernel_rfl)
  obtain ⟨f3, o3, fd3, hm3, F3⟩ := Mine.fd_of_top (B := Bq) (names := Mine.N_law) (p := PySem.Challenge.pw_dm0117_12) T rfl "law" (ps := ["script"]) (by kernel_rfl) (fun pm cd doc vs h => match vs, h with | [_], _ => by kernel_rfl)
  have e3 : f3 = fa := by have := hm3.symm.trans hmg; cases this; rfl
  subst e3
  have hcL : fd3.code = .ref 39 := law_code (c := 39) (P := 37) X T.g (by kernel_rfl) hm3 F3.ho F3.hd
  obtain ⟨v0, hv0⟩ := Mine.name_of (K := _) (by kernel_rfl)
  have hnm : mg "__name__" = some v0 := mg_of X T.g hv0
  have free : ∀ x ∈ (["type", "NotImplemented", "len", "min", "range", "sorted", "object"] : List Str), mg x = none := fun x hx => T.free x (by revert x; decide +kernel) (by revert x; decide +kernel) (by revert x; decide +kernel) (by revert x; decide +kernel) (by revert x; decide +kernel)
  obtain ⟨vs, hla, hi⟩ := Mine.list_of_well hw
  refine wpAny_mono (Mine.law12_run T.g T.b T.builtins hst F3 hcL F2 F1 hm2 hm1 CK hmC HC hP HC1 hP1 (by decide) T.bmain hnm free hla hi (by omega) Mine.room4) (fun v s' q => ?_) fun _ _ z => z
  obtain ⟨rfl, h', tk, ps, ps1, hs, hk, h2, h3⟩ := q
  exact Mine.good12 hs hk h2 h3 HC hP HC1 hP1 hg (fun _ => rfl) (by kernel_rfl)


