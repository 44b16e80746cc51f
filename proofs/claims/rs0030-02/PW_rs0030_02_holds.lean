import PyProof.Rows.All
import Wide.All
import OpenK.AllK
import Wide.FinOn
import PySem.Challenge.RW_rs0030_02
set_option Elab.async false
set_option linter.unusedVariables false
namespace Mine
open PySem PySem.Calls PyProof.Rows

/-- plain data: what a Python value of these programs says -/
abbrev AV := PyData

def lobj (vs : List Value) (n : Nat) : Obj := { cls := .type "list", data := .seq vs.toArray n }
def tobj (vs : List Value) (n : Nat) : Obj := { cls := .type "tuple", data := .seq vs.toArray n }

mutual
/-- the value v bears the datum; S: addresses that it may not lean on -/
def Rep (h : Heap) (S : Addr → Prop) : AV → Value → Prop
  | .none, v => v = .none
  | .bool b, v => v = .bool b
  | .int i, v => ∃ t, v = .int i t
  | .str x, v => ∃ t, v = .str x t
  | .list xs, v => ∃ a vs n, v = .ref a ∧ ¬ S a ∧ h.get? a = some (lobj vs n) ∧ RepL h S xs vs
  | .tuple xs, v => ∃ a vs n, v = .ref a ∧ ¬ S a ∧ h.get? a = some (tobj vs n) ∧ RepL h S xs vs
  | .dict _, _ => False
def RepL (h : Heap) (S : Addr → Prop) : List AV → List Value → Prop
  | [], vs => vs = []
  | x :: xs, vs => ∃ v ws, vs = v :: ws ∧ Rep h S x v ∧ RepL h S xs ws
end

mutual
theorem Rep.mono {h h' : Heap} {S S' : Addr → Prop} (hk : ∀ b o, ¬ S b → h.get? b = some o → ¬ S' b ∧ h'.get? b = some o) :
    ∀ {a : AV} {v : Value}, Rep h S a v → Rep h' S' a v
  | .none, _, r => by simpa [Rep] using r
  | .bool _, _, r => by simpa [Rep] using r
  | .int _, _, r => by simpa [Rep] using r
  | .str _, _, r => by simpa [Rep] using r
  | .list xs, v, r => by
    simp only [Rep] at r ⊢
    obtain ⟨a, vs, n, hv, hs, hg, hr⟩ := r
    obtain ⟨k1, k2⟩ := hk _ _ hs hg
    exact ⟨a, vs, n, hv, k1, k2, RepL.mono hk hr⟩
  | .tuple xs, v, r => by
    simp only [Rep] at r ⊢
    obtain ⟨a, vs, n, hv, hs, hg, hr⟩ := r
    obtain ⟨k1, k2⟩ := hk _ _ hs hg
    exact ⟨a, vs, n, hv, k1, k2, RepL.mono hk hr⟩
  | .dict _, _, r => by simp [Rep] at r
theorem RepL.mono {h h' : Heap} {S S' : Addr → Prop} (hk : ∀ b o, ¬ S b → h.get? b = some o → ¬ S' b ∧ h'.get? b = some o) :
    ∀ {xs : List AV} {vs : List Value}, RepL h S xs vs → RepL h' S' xs vs
  | [], _, r => by simpa [RepL] using r
  | x :: xs, vs, r => by
    simp only [RepL] at r ⊢
    obtain ⟨v, ws, e, r1, r2⟩ := r
    exact ⟨v, ws, e, Rep.mono hk r1, RepL.mono hk r2⟩
end

mutual
theorem Rep.lock {h : Heap} {S S' : Addr → Prop} (hk : ∀ b vs n, ¬ S b → h.get? b = some (lobj vs n) ∨ h.get? b = some (tobj vs n) → ¬ S' b) :
    ∀ {a : AV} {v : Value}, Rep h S a v → Rep h S' a v
  | .none, _, r => by simpa [Rep] using r
  | .bool _, _, r => by simpa [Rep] using r
  | .int _, _, r => by simpa [Rep] using r
  | .str _, _, r => by simpa [Rep] using r
  | .list xs, v, r => by
    simp only [Rep] at r ⊢
    obtain ⟨a, vs, n, hv, hs, hg, hr⟩ := r
    exact ⟨a, vs, n, hv, hk a vs n hs (.inl hg), hg, RepL.lock hk hr⟩
  | .tuple xs, v, r => by
    simp only [Rep] at r ⊢
    obtain ⟨a, vs, n, hv, hs, hg, hr⟩ := r
    exact ⟨a, vs, n, hv, hk a vs n hs (.inr hg), hg, RepL.lock hk hr⟩
  | .dict _, _, r => by simp [Rep] at r
theorem RepL.lock {h : Heap} {S S' : Addr → Prop} (hk : ∀ b vs n, ¬ S b → h.get? b = some (lobj vs n) ∨ h.get? b = some (tobj vs n) → ¬ S' b) :
    ∀ {xs : List AV} {vs : List Value}, RepL h S xs vs → RepL h S' xs vs
  | [], _, r => by simpa [RepL] using r
  | x :: xs, vs, r => by
    simp only [RepL] at r ⊢
    obtain ⟨v, ws, e, r1, r2⟩ := r
    exact ⟨v, ws, e, Rep.lock hk r1, RepL.lock hk r2⟩
end

def Keep (h h' : Heap) : Prop := ∀ b o, h.get? b = some o → h'.get? b = some o
theorem Keep.refl (h : Heap) : Keep h h := fun _ _ e => e
theorem Keep.trans {h h' h'' : Heap} (a : Keep h h') (b : Keep h' h'') : Keep h h'' := fun x o e => b x o (a x o e)
theorem Rep.keep {h h' : Heap} {S : Addr → Prop} {a : AV} {v : Value} (r : Rep h S a v) (k : Keep h h') : Rep h' S a v := r.mono fun b o hs e => ⟨hs, k b o e⟩
theorem RepL.keep {h h' : Heap} {S : Addr → Prop} {a : List AV} {v : List Value} (r : RepL h S a v) (k : Keep h h') : RepL h' S a v := r.mono fun b o hs e => ⟨hs, k b o e⟩
theorem Rep.sub {h : Heap} {S S' : Addr → Prop} {a : AV} {v : Value} (r : Rep h S a v) (k : ∀ b, S' b → S b) : Rep h S' a v := r.mono fun b o hs e => ⟨fun x => hs (k b x), e⟩
theorem RepL.sub {h : Heap} {S S' : Addr → Prop} {a : List AV} {v : List Value} (r : RepL h S a v) (k : ∀ b, S' b → S b) : RepL h S' a v := r.mono fun b o hs e => ⟨fun x => hs (k b x), e⟩

theorem RepL.length {h : Heap} {S : Addr → Prop} : ∀ {xs : List AV} {vs : List Value}, RepL h S xs vs → vs.length = xs.length
  | [], vs, r => by simp only [RepL] at r; subst r; rfl
  | x :: xs, vs, r => by
    simp only [RepL] at r
    obtain ⟨v, ws, rfl, _, r2⟩ := r
    simp [r2.length]
theorem RepL.get {h : Heap} {S : Addr → Prop} : ∀ {xs : List AV} {vs : List Value}, RepL h S xs vs → ∀ {i : Nat} {x : AV}, xs[i]? = some x → ∃ v, vs[i]? = some v ∧ Rep h S x v
  | [], vs, r, i, x, e => by simp at e
  | y :: xs, vs, r, i, x, e => by
    simp only [RepL] at r
    obtain ⟨v, ws, rfl, r1, r2⟩ := r
    cases i with
    | zero => simp at e; subst e; exact ⟨v, rfl, r1⟩
    | succ i => simp at e; simpa using r2.get e
theorem RepL.append {h : Heap} {S : Addr → Prop} : ∀ {xs : List AV} {vs : List Value} {ys : List AV} {ws : List Value}, RepL h S xs vs → RepL h S ys ws → RepL h S (xs ++ ys) (vs ++ ws)
  | [], vs, ys, ws, r, q => by simp only [RepL] at r; subst r; simpa using q
  | y :: xs, vs, ys, ws, r, q => by
    simp only [RepL] at r
    obtain ⟨v, us, rfl, r1, r2⟩ := r
    simp only [List.cons_append, RepL]
    exact ⟨v, us ++ ws, rfl, r1, r2.append q⟩
theorem RepL.take {h : Heap} {S : Addr → Prop} : ∀ {xs : List AV} {vs : List Value}, RepL h S xs vs → ∀ k, RepL h S (xs.take k) (vs.take k)
  | [], vs, r, k => by simp only [RepL] at r; subst r; simp [RepL]
  | y :: xs, vs, r, k => by
    simp only [RepL] at r
    obtain ⟨v, us, rfl, r1, r2⟩ := r
    cases k with
    | zero => simp [RepL]
    | succ k => simp only [List.take_succ_cons, RepL]; exact ⟨v, _, rfl, r1, r2.take k⟩
theorem RepL.drop {h : Heap} {S : Addr → Prop} : ∀ {xs : List AV} {vs : List Value}, RepL h S xs vs → ∀ k, RepL h S (xs.drop k) (vs.drop k)
  | [], vs, r, k => by simp only [RepL] at r; subst r; simp [RepL]
  | y :: xs, vs, r, k => by
    have r' := r
    simp only [RepL] at r
    obtain ⟨v, us, rfl, r1, r2⟩ := r
    cases k with
    | zero => simpa using r'
    | succ k => simpa using r2.drop k
theorem RepL.reverse {h : Heap} {S : Addr → Prop} : ∀ {xs : List AV} {vs : List Value}, RepL h S xs vs → RepL h S xs.reverse vs.reverse
  | [], vs, r => by simp only [RepL] at r; subst r; simp [RepL]
  | y :: xs, vs, r => by
    simp only [RepL] at r
    obtain ⟨v, us, rfl, r1, r2⟩ := r
    simp only [List.reverse_cons]
    exact r2.reverse.append (by simp only [RepL]; exact ⟨v, [], rfl, r1, rfl⟩)
theorem RepL.set {h : Heap} {S : Addr → Prop} {x : AV} {v : Value} (q : Rep h S x v) : ∀ {xs : List AV} {vs : List Value}, RepL h S xs vs → ∀ k, RepL h S (xs.set k x) (vs.set k v)
  | [], vs, r, k => by simp only [RepL] at r; subst r; simp [RepL]
  | y :: xs, vs, r, k => by
    simp only [RepL] at r
    obtain ⟨w, us, rfl, r1, r2⟩ := r
    cases k with
    | zero => simp only [List.set_cons_zero, RepL]; exact ⟨v, us, rfl, q, r2⟩
    | succ k => simp only [List.set_cons_succ, RepL]; exact ⟨w, _, rfl, r1, r2.set q k⟩
theorem RepL.cons {h : Heap} {S : Addr → Prop} {x : AV} {v : Value} {xs : List AV} {vs : List Value} (q : Rep h S x v) (r : RepL h S xs vs) : RepL h S (x :: xs) (v :: vs) := by
  simp only [RepL]; exact ⟨v, vs, rfl, q, r⟩
theorem RepL.nil {h : Heap} {S : Addr → Prop} : RepL h S [] [] := by simp only [RepL]
theorem RepL.snoc {h : Heap} {S : Addr → Prop} {x : AV} {v : Value} {xs : List AV} {vs : List Value} (r : RepL h S xs vs) (q : Rep h S x v) : RepL h S (xs ++ [x]) (vs ++ [v]) :=
  r.append (.cons q .nil)
/-- bounded: what it leans on lies in the heap -/
theorem Rep.more {h : Heap} {S : Addr → Prop} {a : AV} {v : Value} (r : Rep h S a v) (T : Addr → Prop) (hT : ∀ b, T b → h.get? b = none) : Rep h (fun b => S b ∨ T b) a v :=
  r.mono fun b o hs e => ⟨fun x => x.elim hs fun t => (by rw [hT b t] at e; cases e), e⟩
theorem RepL.more {h : Heap} {S : Addr → Prop} {a : List AV} {v : List Value} (r : RepL h S a v) (T : Addr → Prop) (hT : ∀ b, T b → h.get? b = none) : RepL h (fun b => S b ∨ T b) a v :=
  r.mono fun b o hs e => ⟨fun x => x.elim hs fun t => (by rw [hT b t] at e; cases e), e⟩

/-- a datum without an address -/
def flat : AV → Bool
  | .list _ => false
  | .tuple _ => false
  | .dict _ => false
  | _ => true
theorem Rep.flat {h h' : Heap} {S S' : Addr → Prop} : ∀ {a : AV} {v : Value}, Rep h S a v → flat a = true → Rep h' S' a v
  | .none, _, r, _ => by simpa [Rep] using r
  | .bool _, _, r, _ => by simpa [Rep] using r
  | .int _, _, r, _ => by simpa [Rep] using r
  | .str _, _, r, _ => by simpa [Rep] using r
  | .list _, _, _, f => by cases f
  | .tuple _, _, _, f => by cases f
  | .dict _, _, _, f => by cases f

/-- what a call or an expression does to the state -/
structure Grow (s s' : Shared) : Prop where
  keep : Keep s.heap s'.heap
  os : s'.os = s.os
  gens : ∀ k, k < s.gens.size → s'.gens[k]? = s.gens[k]?
  gsize : s.gens.size ≤ s'.gens.size
  bare : AllBare s.gens → AllBare s'.gens
theorem Grow.refl (s : Shared) : Grow s s := ⟨.refl _, rfl, fun _ _ => rfl, Nat.le_refl _, id⟩
theorem Grow.trans {s s' s'' : Shared} (a : Grow s s') (b : Grow s' s'') : Grow s s'' :=
  ⟨a.keep.trans b.keep, b.os.trans a.os, fun k hk => (b.gens k (Nat.lt_of_lt_of_le hk a.gsize)).trans (a.gens k hk), Nat.le_trans a.gsize b.gsize, fun h => b.bare (a.bare h)⟩
theorem Grow.heap {s : Shared} {h' : Heap} {tk : Nat} (k : Keep s.heap h') : Grow s { s with heap := h', toks := tk } :=
  ⟨k, rfl, fun _ _ => rfl, Nat.le_refl _, id⟩
theorem Grow.toks (s : Shared) (tk : Nat) : Grow s { s with toks := tk } := ⟨.refl _, rfl, fun _ _ => rfl, Nat.le_refl _, id⟩
theorem Keep.push (h : Heap) (o : Obj) : Keep h (h.push o) := fun _ _ e => Heap.get?_push_of_some o e
theorem Grow.push (s : Shared) (o : Obj) (tk : Nat) : Grow s { s with heap := s.heap.push o, toks := tk } := .heap (.push _ _)
theorem get?_size (h : Heap) : h.get? h.objs.size = none := by
  cases e : h.get? h.objs.size with
  | none => rfl
  | some o => exact absurd (Heap.lt_size e) (Nat.lt_irrefl _)
theorem get?_ge {h : Heap} {a : Addr} (ha : h.objs.size ≤ a) : h.get? a = none := by
  cases e : h.get? a with
  | none => rfl
  | some o => exact absurd (Heap.lt_size e) (Nat.not_lt.mpr ha)
/-- the locked addresses are in use -/
def Live (S : Addr → Prop) (h : Heap) : Prop := ∀ b, S b → (h.get? b).isSome = true
theorem Live.keep {S : Addr → Prop} {h h' : Heap} (l : Live S h) (k : Keep h h') : Live S h' := fun b hb => by
  obtain ⟨o, e⟩ := Option.isSome_iff_exists.mp (l b hb)
  rw [k b o e]; rfl
theorem Live.fresh {S : Addr → Prop} {h : Heap} (l : Live S h) {a : Addr} (e : h.get? a = none) : ¬ S a := fun hs => by
  have := l a hs; rw [e] at this; cases this

/-- room -/
structure Ok (A : Around) (n : Nat) : Prop where
  handled : A.handled = none
  depth : A.depth + n < recursionLimit
  units : A.units + 100 + 10 * n < cLine
theorem Ok.le {A : Around} {n m : Nat} (h : Ok A n) (hm : m ≤ n) : Ok A m := ⟨h.handled, by have := h.depth; omega, by have := h.units; omega⟩
theorem Ok.deeper {A : Around} {n : Nat} (h : Ok A (n + 1)) (env : Env) : Ok (A.deeper env) n :=
  ⟨h.handled, by have := h.depth; show A.depth + 1 + n < _; omega, by have := h.units; show A.units + 3 + 100 + 10 * n < _; omega⟩
theorem Ok.in1 {A : Around} {n : Nat} (h : Ok A (n + 1)) : Ok A.in1 n := ⟨h.handled, by have := h.depth; show A.depth + n < _; omega, by have := h.units; show A.units + 1 + 100 + 10 * n < _; omega⟩
theorem Ok.room {A : Around} {n : Nat} (h : Ok A n) : A.depth < recursionLimit := by have := h.depth; omega
theorem Ok.cl {A : Around} {n : Nat} (h : Ok A n) : A.units < cLine := by have := h.units; omega

/-- what stands at the top when the law is called -/
structure Cx where
  prog : Program
  w : World
  hb : Heap
  mg : Str → Option Value
  mb : Str → Option Value
  g : hb.Ns mainGlobals mg
  b : hb.Ns builtinsNs mb
  nolimit : hb.NoLimit
  builtins : ∀ x : Str, x ≠ "__name__" → mb x = bootBuiltins x

abbrev Cx.M (X : Cx) : Model := model X.prog X.w

/-- the frame's names can be read -/
structure Rd (env : Env) (S : Addr → Prop) (ρ : Str → Option AV) (h : Heap) : Prop where
  ns : ∃ m, h.Ns env.locals m ∧ ∀ x a, env.scope.names.lookup x = some .local → ρ x = some a → ∃ v, m x = some v ∧ Rep h S a v
  cl : ∀ x a, env.scope.names.lookup x = some .cell ∨ env.scope.names.lookup x = some .free → ρ x = some a → ∃ c v, env.cells.lookup x = some c ∧ h.IsCell c (some v) ∧ Rep h S a v
theorem Rd.keep {env : Env} {S : Addr → Prop} {ρ : Str → Option AV} {h h' : Heap} (r : Rd env S ρ h) (k : Keep h h') : Rd env S ρ h' where
  ns := let ⟨m, hm, hr⟩ := r.ns; ⟨m, hm.keeps k, fun x a hx hp => let ⟨v, hv, q⟩ := hr x a hx hp; ⟨v, hv, q.keep k⟩⟩
  cl := fun x a hx hp => let ⟨c, v, hc, hi, q⟩ := r.cl x a hx hp; ⟨c, v, hc, hi.keeps k, q.keep k⟩
theorem Rd.sub {env : Env} {S S' : Addr → Prop} {ρ : Str → Option AV} {h : Heap} (r : Rd env S ρ h) (k : ∀ b, S' b → S b) : Rd env S' ρ h where
  ns := let ⟨m, hm, hr⟩ := r.ns; ⟨m, hm, fun x a hx hp => let ⟨v, hv, q⟩ := hr x a hx hp; ⟨v, hv, q.sub k⟩⟩
  cl := fun x a hx hp => let ⟨c, v, hc, hi, q⟩ := r.cl x a hx hp; ⟨c, v, hc, hi, q.sub k⟩

structure EnvOk (sc : Scope) (env : Env) : Prop where
  scope : env.scope = sc
  kind : sc.kind = .function
  globals : env.globals = mainGlobals
  builtins : env.builtins = builtinsNs
  
/-- before an expression -/
structure Pre (X : Cx) (sc : Scope) (ρ : Str → Option AV) (n : Nat) (env : Env) (S : Addr → Prop) (A : Around) (s : Shared) : Prop where
  eo : EnvOk sc env
  ok : Ok A n
  base : Keep X.hb s.heap
  bound : Live S s.heap
  rd : Rd env S ρ s.heap
theorem Pre.grow {X : Cx} {sc : Scope} {ρ : Str → Option AV} {n : Nat} {env : Env} {S : Addr → Prop} {A : Around} {s s' : Shared} (p : Pre X sc ρ n env S A s) (g : Grow s s') : Pre X sc ρ n env S A s' :=
  ⟨p.eo, p.ok, p.base.trans g.keep, p.bound.keep g.keep, p.rd.keep g.keep⟩

/-- the expression e comes out as the datum a -/
def Ev (X : Cx) (sc : Scope) (ρ : Str → Option AV) (n : Nat) (e : Expr) (a : AV) : Prop :=
  ∀ env S A s E Q, Pre X sc ρ n env S A s → (∀ v s', Grow s s' → Rep s'.heap S a v → Q v s') → wpAny X.M A (eval e env) Q E s
/-- a tree comes out as the datum -/
def Tr (X : Cx) (sc : Scope) (ρ : Str → Option AV) (n : Nat) (e : Expr) (b : Bool) : Prop :=
  ∀ env S A s E Q, Pre X sc ρ n env S A s → (∀ s', Grow s s' → Q b s') → wpAny X.M A (isTrue e env (eval e env)) Q E s

section
variable {X : Cx} {sc : Scope} {ρ : Str → Option AV} {n : Nat}

theorem Ev.int {i : Int} {k : Nat} {pos : Pos} : Ev X sc ρ n (.Constant (.int i) k pos) (.int i) := fun env S A s E Q p h =>
  wpAny_Constant_int (h _ _ (.toks _ _) (by simp [Rep]))
theorem Ev.str {x : Str} {k : Nat} {pos : Pos} : Ev X sc ρ n (.Constant (.str x) k pos) (.str x) := fun env S A s E Q p h =>
  Constant_str (h _ _ (.toks _ _) (by simp [Rep]))
theorem Ev.bool {b : Bool} {k : Nat} {pos : Pos} : Ev X sc ρ n (.Constant (.bool b) k pos) (.bool b) := fun env S A s E Q p h =>
  fun Γ q hΓ => h _ _ (.refl _) (by simp [Rep])
theorem Ev.none {k : Nat} {pos : Pos} : Ev X sc ρ n (.Constant .none k pos) .none := fun env S A s E Q p h =>
  fun Γ q hΓ => h _ _ (.refl _) (by simp [Rep])

theorem Ev.local {x : Str} {pos : Pos} {a : AV} (hx : sc.names.lookup x = some .local) (hv : ρ x = some a) (hd : (x == ("__debug__" : Str)) = false) : Ev X sc ρ n (.Name x pos) a := fun env S A s E Q p h => by
  obtain ⟨m, hm, hr⟩ := p.rd.ns
  obtain ⟨v, hv', q⟩ := hr x a (by rw [p.eo.scope]; exact hx) hv
  refine wpAny_Name (wpAny_loadName_local (by rw [p.eo.scope]; exact p.eo.kind) (by unfold Env.kindOf; rw [p.eo.scope]; exact hx) hm hv' (h v s (.refl _) q)) hd
theorem Ev.cell {x : Str} {pos : Pos} {a : AV} (hx : sc.names.lookup x = some .cell) (hv : ρ x = some a) (hd : (x == ("__debug__" : Str)) = false) : Ev X sc ρ n (.Name x pos) a := fun env S A s E Q p h => by
  obtain ⟨c, v, hc, hi, q⟩ := p.rd.cl x a (by rw [p.eo.scope]; exact .inl hx) hv
  exact wpAny_Name (wpAny_loadName_cell (by rw [p.eo.scope]; exact p.eo.kind) (by unfold Env.kindOf; rw [p.eo.scope]; exact hx) hc hi (h v s (.refl _) q)) hd
theorem Ev.free {x : Str} {pos : Pos} {a : AV} (hx : sc.names.lookup x = some .free) (hv : ρ x = some a) (hd : (x == ("__debug__" : Str)) = false) (hn : (x == ("__classdict__" : Str)) = false) : Ev X sc ρ n (.Name x pos) a := fun env S A s E Q p h => by
  obtain ⟨c, v, hc, hi, q⟩ := p.rd.cl x a (by rw [p.eo.scope]; exact .inr hx) hv
  exact wpAny_Name (wpAny_loadName_free (by rw [p.eo.scope]; exact p.eo.kind) (by unfold Env.kindOf; rw [p.eo.scope]; exact hx) hc hi (h v s (.refl _) q) hn) hd

/-- two parts, then an operation on values -/
def Op (X : Cx) (n : Nat) (t : Value → Value → Sem Value) (a b c : AV) : Prop :=
  ∀ S A s E Q va vb, Ok A n → Keep X.hb s.heap → Live S s.heap → Rep s.heap S a va → Rep s.heap S b vb → (∀ v s', Grow s s' → Rep s'.heap S c v → Q v s') → wpAny X.M A (t va vb) Q E s

theorem Ev.binop {l r : Expr} {op : Operator} {pos : Pos} {a b c : AV} (hl : Ev X sc ρ n l a) (hr : Ev X sc ρ n r b) (ho : Op X n (binaryOp op) a b c) : Ev X sc ρ n (.BinOp l op r pos) c := fun env S A s E Q p h =>
  wpAny_BinOp (hl env S A s E _ p fun va s₁ g₁ r₁ => hr env S A s₁ E _ (p.grow g₁) fun vb s₂ g₂ r₂ =>
    ho S A s₂ E Q va vb p.ok ((p.grow g₁).grow g₂).base ((p.grow g₁).grow g₂).bound (r₁.keep g₂.keep) r₂ fun v s' g' r' => h v s' ((g₁.trans g₂).trans g') r')
theorem Ev.cmp {l r : Expr} {op : CmpOp} {pos : Pos} {a b c : AV} (hl : Ev X sc ρ n l a) (hr : Ev X sc ρ n r b) (ho : Op X n (compareOp op) a b c) (hm : behindInMarks op r = false) : Ev X sc ρ n (.Compare l [op] [r] pos) c := fun env S A s E Q p h =>
  wpAny_Compare1 (hl env S A s E _ p fun va s₁ g₁ r₁ => hr env S A s₁ E _ (p.grow g₁) fun vb s₂ g₂ r₂ =>
    ho S A s₂ E Q va vb p.ok ((p.grow g₁).grow g₂).base ((p.grow g₁).grow g₂).bound (r₁.keep g₂.keep) r₂ fun v s' g' r' => h v s' ((g₁.trans g₂).trans g') r') hm
theorem Tr.cmp {l r : Expr} {op : CmpOp} {pos : Pos} {a b : AV} {c : Bool} (hl : Ev X sc ρ n l a) (hr : Ev X sc ρ n r b) (ho : Op X n (compareOp op) a b (.bool c)) (hm : behindInMarks op r = false) : Tr X sc ρ n (.Compare l [op] [r] pos) c := fun env S A s E Q p h =>
  wpAny_isTrue_Compare1 (hl env S A s E _ p fun va s₁ g₁ r₁ => hr env S A s₁ E _ (p.grow g₁) fun vb s₂ g₂ r₂ =>
    ho S A s₂ E _ va vb p.ok ((p.grow g₁).grow g₂).base ((p.grow g₁).grow g₂).bound (r₁.keep g₂.keep) r₂ fun v s' g' r' => by
      simp only [Rep] at r'; subst r'
      exact wpAny_truthy_bool (h s' ((g₁.trans g₂).trans g'))) hm
end
end Mine
namespace Mine
open PySem PySem.Calls PyProof.Rows

section
variable {X : Cx} {sc : Scope} {ρ : Str → Option AV} {n : Nat}

theorem Op.add_int {a b : Int} : Op X n (binaryOp .Add) (.int a) (.int b) (.int (a + b)) := fun S A s E Q va vb ok hb hS ra rb h => by
  simp only [Rep] at ra rb; obtain ⟨t, rfl⟩ := ra; obtain ⟨u, rfl⟩ := rb
  exact P.add_int (h _ _ (.toks _ _) (by simp [Rep]))
theorem Op.sub_int {a b : Int} : Op X n (binaryOp .Sub) (.int a) (.int b) (.int (a - b)) := fun S A s E Q va vb ok hb hS ra rb h => by
  simp only [Rep] at ra rb; obtain ⟨t, rfl⟩ := ra; obtain ⟨u, rfl⟩ := rb
  exact P.sub_int (h _ _ (.toks _ _) (by simp [Rep]))
theorem Op.mul_int {a b : Int} (hm : IntMulOk a b) : Op X n (binaryOp .Mult) (.int a) (.int b) (.int (a * b)) := fun S A s E Q va vb ok hb hS ra rb h => by
  simp only [Rep] at ra rb; obtain ⟨t, rfl⟩ := ra; obtain ⟨u, rfl⟩ := rb
  exact P.mul_int (h _ _ (.toks _ _) (by simp [Rep])) hm
theorem Op.floordiv_int {a b : Int} (h0 : b ≠ 0) (hp : Builtin.divisionGoesByPylong a b = false) : Op X n (binaryOp .FloorDiv) (.int a) (.int b) (.int (a.fdiv b)) := fun S A s E Q va vb ok hb hS ra rb h => by
  simp only [Rep] at ra rb; obtain ⟨t, rfl⟩ := ra; obtain ⟨u, rfl⟩ := rb
  exact PyProof.Rows.floordiv_int h0 (h _ _ (.toks _ _) (by simp [Rep])) (.inl hp)
theorem Op.mod_int {a b : Int} (h0 : b ≠ 0) : Op X n (binaryOp .Mod) (.int a) (.int b) (.int (a.fmod b)) := fun S A s E Q va vb ok hb hS ra rb h => by
  simp only [Rep] at ra rb; obtain ⟨t, rfl⟩ := ra; obtain ⟨u, rfl⟩ := rb
  exact mod_int' h0 (h _ _ (.toks _ _) (by simp [Rep]))
theorem Op.lt_int {a b : Int} : Op X n (compareOp .Lt) (.int a) (.int b) (.bool (decide (a < b))) := fun S A s E Q va vb ok hb hS ra rb h => by
  simp only [Rep] at ra rb; obtain ⟨t, rfl⟩ := ra; obtain ⟨u, rfl⟩ := rb
  exact PyProof.Rows.lt_int (h _ _ (.refl _) (by simp [Rep]))
theorem Op.gt_int {a b : Int} : Op X n (compareOp .Gt) (.int a) (.int b) (.bool (decide (b < a))) := fun S A s E Q va vb ok hb hS ra rb h => by
  simp only [Rep] at ra rb; obtain ⟨t, rfl⟩ := ra; obtain ⟨u, rfl⟩ := rb
  exact PyProof.Rows.gt_int (h _ _ (.refl _) (by simp [Rep]))
theorem Op.le_int {a b : Int} : Op X n (compareOp .LtE) (.int a) (.int b) (.bool (decide (a ≤ b))) := fun S A s E Q va vb ok hb hS ra rb h => by
  simp only [Rep] at ra rb; obtain ⟨t, rfl⟩ := ra; obtain ⟨u, rfl⟩ := rb
  exact PyProof.Rows.le_int (h _ _ (.refl _) (by simp [Rep]))
theorem Op.eq_int {a b : Int} : Op X n (compareOp .Eq) (.int a) (.int b) (.bool (a == b)) := fun S A s E Q va vb ok hb hS ra rb h => by
  simp only [Rep] at ra rb; obtain ⟨t, rfl⟩ := ra; obtain ⟨u, rfl⟩ := rb
  exact PyProof.Rows.eq_int (h _ _ (.refl _) (by simp [Rep]))
theorem Op.ne_int {a b : Int} : Op X n (compareOp .NotEq) (.int a) (.int b) (.bool (a != b)) := fun S A s E Q va vb ok hb hS ra rb h => by
  simp only [Rep] at ra rb; obtain ⟨t, rfl⟩ := ra; obtain ⟨u, rfl⟩ := rb
  exact PyProof.Rows.ne_int (h _ _ (.refl _) (by simp [Rep]))
theorem Op.eq_str {a b : Str} : Op X n (compareOp .Eq) (.str a) (.str b) (.bool (a == b)) := fun S A s E Q va vb ok hb hS ra rb h => by
  simp only [Rep] at ra rb; obtain ⟨t, rfl⟩ := ra; obtain ⟨u, rfl⟩ := rb
  exact PyProof.Rows.eq_str (h _ _ (.refl _) (by simp [Rep]))
theorem Op.ne_str {a b : Str} : Op X n (compareOp .NotEq) (.str a) (.str b) (.bool (a != b)) := fun S A s E Q va vb ok hb hS ra rb h => by
  simp only [Rep] at ra rb; obtain ⟨t, rfl⟩ := ra; obtain ⟨u, rfl⟩ := rb
  exact PyProof.Rows.ne_str (h _ _ (.refl _) (by simp [Rep]))
theorem Op.add_str {a b : Str} (hsz : a.length + b.length ≤ sizeLine) : Op X n (binaryOp .Add) (.str a) (.str b) (.str (a ++ b)) := fun S A s E Q va vb ok hb hS ra rb h => by
  simp only [Rep] at ra rb; obtain ⟨t, rfl⟩ := ra; obtain ⟨u, rfl⟩ := rb
  exact PyProof.Rows.add_str (fun t' tk => h _ _ (.toks _ _) (by simp [Rep])) hsz
theorem Op.mul_str {a : Str} {k : Int} (hok : MulOk a k) : Op X n (binaryOp .Mult) (.str a) (.int k) (.str (Txt.mul a k)) := fun S A s E Q va vb ok hb hS ra rb h => by
  simp only [Rep] at ra rb; obtain ⟨t, rfl⟩ := ra; obtain ⟨u, rfl⟩ := rb
  exact SB.mul hok (fun t' tk => h _ _ (.toks _ _) (by simp [Rep]))
theorem Op.in_str {a b : Str} : Op X n (compareOp .In) (.str a) (.str b) (.bool (Txt.contains b a)) := fun S A s E Q va vb ok hb hS ra rb h => by
  simp only [Rep] at ra rb; obtain ⟨t, rfl⟩ := ra; obtain ⟨u, rfl⟩ := rb
  exact SB.contains (h _ _ (.refl _) (by simp [Rep]))
theorem Op.notin_str {a b : Str} : Op X n (compareOp .NotIn) (.str a) (.str b) (.bool (!Txt.contains b a)) := fun S A s E Q va vb ok hb hS ra rb h => by
  simp only [Rep] at ra rb; obtain ⟨t, rfl⟩ := ra; obtain ⟨u, rfl⟩ := rb
  exact SB.notContains (h _ _ (.refl _) (by simp [Rep]))

theorem Rep.isNone {h : Heap} {S : Addr → Prop} : ∀ {a : AV} {v : Value}, Rep h S a v → (v == .none) = (match a with | .none => true | _ => false)
  | .none, v, r => by simp only [Rep] at r; subst r; rfl
  | .bool _, v, r => by simp only [Rep] at r; subst r; rfl
  | .int _, v, r => by simp only [Rep] at r; obtain ⟨t, rfl⟩ := r; rfl
  | .str _, v, r => by simp only [Rep] at r; obtain ⟨t, rfl⟩ := r; rfl
  | .list _, v, r => by simp only [Rep] at r; obtain ⟨a, _, _, rfl, _⟩ := r; rfl
  | .tuple _, v, r => by simp only [Rep] at r; obtain ⟨a, _, _, rfl, _⟩ := r; rfl
  | .dict _, v, r => by simp [Rep] at r
theorem Op.is_none {a : AV} : Op X n (compareOp .Is) a .none (.bool (match a with | .none => true | _ => false)) := fun S A s E Q va vb ok hb hS ra rb h => by
  simp only [Rep] at rb; subst rb
  exact PySem.is_none (h _ _ (.refl _) (by simp only [Rep]; rw [ra.isNone]))
theorem Op.is_bool {a b : Bool} : Op X n (compareOp .Is) (.bool a) (.bool b) (.bool (a == b)) := fun S A s E Q va vb ok hb hS ra rb h => by
  simp only [Rep] at ra rb; subst ra; subst rb
  refine wpAny_of_eq (a := .bool (a == b)) ?_ (h _ _ (.refl _) (by simp [Rep]))
  cases a <;> cases b <;> rfl
theorem Op.isnot_bool {a b : Bool} : Op X n (compareOp .IsNot) (.bool a) (.bool b) (.bool (a != b)) := fun S A s E Q va vb ok hb hS ra rb h => by
  simp only [Rep] at ra rb; subst ra; subst rb
  refine wpAny_of_eq (a := .bool (a != b)) ?_ (h _ _ (.refl _) (by simp [Rep]))
  cases a <;> cases b <;> rfl

mutual
theorem Rep.reads {h : Heap} {S : Addr → Prop} : ∀ {a : AV} {v : Value}, Rep h S a v → ∃ as, Reads h v a as
  | .none, v, r => by simp only [Rep] at r; subst r; exact ⟨_, .none⟩
  | .bool _, v, r => by simp only [Rep] at r; subst r; exact ⟨_, .bool _⟩
  | .int _, v, r => by simp only [Rep] at r; obtain ⟨t, rfl⟩ := r; exact ⟨_, .int _ _⟩
  | .str _, v, r => by simp only [Rep] at r; obtain ⟨t, rfl⟩ := r; exact ⟨_, .str _ _⟩
  | .list xs, v, r => by
    simp only [Rep] at r; obtain ⟨a, vs, k, rfl, _, hg, hr⟩ := r
    obtain ⟨as, q⟩ := hr.reads
    exact ⟨_, .list hg rfl rfl (by simpa using q)⟩
  | .tuple xs, v, r => by
    simp only [Rep] at r; obtain ⟨a, vs, k, rfl, _, hg, hr⟩ := r
    obtain ⟨as, q⟩ := hr.reads
    exact ⟨_, .tuple hg rfl rfl (by simpa using q)⟩
  | .dict _, v, r => by simp [Rep] at r
theorem RepL.reads {h : Heap} {S : Addr → Prop} : ∀ {a : List AV} {v : List Value}, RepL h S a v → ∃ as, ReadsAll h v a as
  | [], v, r => by simp only [RepL] at r; subst r; exact ⟨_, .nil⟩
  | x :: xs, v, r => by
    simp only [RepL] at r; obtain ⟨v, ws, rfl, r1, r2⟩ := r
    obtain ⟨as, q1⟩ := r1.reads
    obtain ⟨bs, q2⟩ := r2.reads
    exact ⟨_, .cons q1 q2⟩
end
theorem Op.eq {a b : AV} (ha : SeqAt.shaped a = true) (hb' : SeqAt.shaped b = true) : Op X n (compareOp .Eq) a b (.bool (PyData.eqv a b)) := fun S A s E Q va vb ok hb hS ra rb h => by
  obtain ⟨as, qa⟩ := ra.reads
  obtain ⟨bs, qb⟩ := rb.reads
  exact SeqAt.compareEq_shaped qa qb ha hb' (by have := ok.units; omega) (h _ _ (.refl _) (by simp [Rep]))
theorem Op.ne {a b : AV} (ha : SeqAt.shaped a = true) (hb' : SeqAt.shaped b = true) : Op X n (compareOp .NotEq) a b (.bool (!PyData.eqv a b)) := fun S A s E Q va vb ok hb hS ra rb h => by
  obtain ⟨as, qa⟩ := ra.reads
  obtain ⟨bs, qb⟩ := rb.reads
  exact SeqAt.compareNe_shaped qa qb ha hb' (by have := ok.units; omega) (h _ _ (.refl _) (by simp [Rep]))

/-- a new list on the heap -/
theorem rep_new {s : Shared} {S : Addr → Prop} {xs : List AV} {vs : List Value} (hS : Live S s.heap) (r : RepL s.heap S xs vs) : Rep (s.heap.push (lobj vs 0)) S (.list xs) (.ref s.heap.objs.size) := by
  simp only [Rep]
  exact ⟨_, vs, 0, rfl, hS.fresh (get?_size _), Heap.get?_push_size _ rfl, r.keep (.push _ _)⟩
theorem rep_newT {s : Shared} {S : Addr → Prop} {xs : List AV} {vs : List Value} (hS : Live S s.heap) (r : RepL s.heap S xs vs) : Rep (s.heap.push (tobj vs 0)) S (.tuple xs) (.ref s.heap.objs.size) := by
  simp only [Rep]
  exact ⟨_, vs, 0, rfl, hS.fresh (get?_size _), Heap.get?_push_size _ rfl, r.keep (.push _ _)⟩
theorem Op.add_list {xs ys : List AV} (hsz : xs.length + ys.length ≤ sizeLine) : Op X n (binaryOp .Add) (.list xs) (.list ys) (.list (xs ++ ys)) := fun S A s E Q va vb ok hb hS ra rb h => by
  simp only [Rep] at ra rb
  obtain ⟨a, vs, k, rfl, _, ga, qa⟩ := ra
  obtain ⟨b, ws, k', rfl, _, gb, qb⟩ := rb
  refine P.add_list (items := vs.toArray) (items2 := ws.toArray) ga gb ?_ (by simp [qa.length, qb.length]; exact hsz)
  rw [List.append_toArray]
  exact h _ _ (.push _ _ _) (rep_new hS (qa.append qb))
end
end Mine
namespace Mine
open PySem PySem.Calls PyProof.Rows

theorem RepL.pick {h : Heap} {S : Addr → Prop} {xs : List AV} {vs : List Value} (r : RepL h S xs vs) : ∀ is : List Nat, RepL h S (is.filterMap (xs[·]?)) (is.filterMap (vs[·]?))
  | [] => .nil
  | i :: is => by
    have ih := RepL.pick r is
    cases e : xs[i]? with
    | none =>
      have e' : vs[i]? = none := by
        rw [List.getElem?_eq_none_iff] at e ⊢
        rw [r.length]; exact e
      rw [List.filterMap_cons_none e, List.filterMap_cons_none e']; exact ih
    | some x =>
      obtain ⟨v, hv, q⟩ := r.get e
      rw [List.filterMap_cons_some e, List.filterMap_cons_some hv]
      exact .cons q ih
/-- a slice of a list -/
def pick (xs : List AV) (lo hi st : Option Int) : List AV :=
  (sliceRange (sliceBounds lo hi st xs.length).1 (sliceBounds lo hi st xs.length).2.1 (sliceBounds lo hi st xs.length).2.2).filterMap (xs[·]?)
theorem slicePick_list (vs : List Value) (lo hi st : Option Int) : slicePick vs.toArray lo hi st =
    ((sliceRange (sliceBounds lo hi st vs.length).1 (sliceBounds lo hi st vs.length).2.1 (sliceBounds lo hi st vs.length).2.2).filterMap (vs[·]?)).toArray := by
  unfold slicePick; simp
/-- a slice of a text -/
def spick (x : Str) (lo hi st : Option Int) : Str :=
  if (st.getD 1 == 1 && (Builtin.Str.strSliceIndices lo hi (st.getD 1) x.length).length == x.length) = true then x else ⟨((Builtin.Str.strSliceIndices lo hi (st.getD 1) x.length).filterMap (x.cps[·]?)).toArray⟩

section
variable {X : Cx} {sc : Scope} {ρ : Str → Option AV} {n : Nat}

/-- an optional part of a slice -/
def EvO (X : Cx) (sc : Scope) (ρ : Str → Option AV) (n : Nat) : Option Expr → Option Int → Prop
  | none, k => k = none
  | some e, k => ∃ i, k = some i ∧ Ev X sc ρ n e (.int i)
theorem EvO.nil : EvO X sc ρ n none none := rfl
theorem EvO.one {e : Expr} {i : Int} (h : Ev X sc ρ n e (.int i)) : EvO X sc ρ n (some e) (some i) := ⟨i, rfl, h⟩
theorem EvO.run {o : Option Expr} {k : Option Int} (h : EvO X sc ρ n o k) {env : Env} {S : Addr → Prop} {A : Around} {s : Shared} {E : Value → Shared → Prop} {Q : Value → Shared → Prop} (p : Pre X sc ρ n env S A s)
    (hq : ∀ (q : Option (Int × Tok)) s', Grow s s' → q.map (·.1) = k → Q (partValue q) s') : wpAny X.M A (evalPart o env) Q E s := by
  cases o with
  | none => cases h; exact wpAny_pure (hq none s (.refl _) rfl)
  | some e =>
    obtain ⟨i, rfl, h⟩ := h
    refine h env S A s E _ p fun v s' g r => ?_
    simp only [Rep] at r; obtain ⟨t, rfl⟩ := r
    exact hq (Option.some (i, t)) s' g rfl
theorem isPart_of {q : Option (Int × Tok)} {k : Option Int} (h : q.map (·.1) = k) : IsPart (partValue q) k := by
  subst h
  cases q with
  | none => exact .none
  | some q => exact .int _ _

theorem Ev.sub_list {value slice : Expr} {pos : Pos} {xs : List AV} {i : Int} {a : AV} (hv : Ev X sc ρ n value (.list xs)) (hi : Ev X sc ρ n slice (.int i)) (h0 : 0 ≤ i) (hx : xs[i.toNat]? = some a) (hz : i < 2 ^ 63)
    (hs : ∀ o i : Value, subscripted slice false o i = operate [o, i] (getItem o i)) : Ev X sc ρ n (.Subscript value slice pos) a := fun env S A s E Q p h =>
  Subscript_ (hv env S A s E _ p fun va s₁ g₁ r₁ => hi env S A s₁ E _ (p.grow g₁) fun vb s₂ g₂ r₂ => by
    have r₁' := r₁.keep g₂.keep
    simp only [Rep] at r₁' r₂
    obtain ⟨c, vs, k, rfl, _, hg, q⟩ := r₁'
    obtain ⟨t, rfl⟩ := r₂
    obtain ⟨v, hv, qv⟩ := q.get hx
    exact tail_any (T := "list") ⟨_, hg, rfl⟩ slot_list_getitem.lookup (wpAny_getItem_list (items := vs.toArray) (x := v) ⟨_, hg, rfl, _, rfl⟩ h0 hz (by simpa using hv) (h v s₂ (g₁.trans g₂) qv)) (hs _ _))
theorem Ev.sub_tuple {value slice : Expr} {pos : Pos} {xs : List AV} {i : Int} {a : AV} (hv : Ev X sc ρ n value (.tuple xs)) (hi : Ev X sc ρ n slice (.int i)) (h0 : 0 ≤ i) (hx : xs[i.toNat]? = some a) (hz : i < 2 ^ 63)
    (hs : ∀ o i : Value, subscripted slice false o i = operate [o, i] (getItem o i)) : Ev X sc ρ n (.Subscript value slice pos) a := fun env S A s E Q p h =>
  Subscript_ (hv env S A s E _ p fun va s₁ g₁ r₁ => hi env S A s₁ E _ (p.grow g₁) fun vb s₂ g₂ r₂ => by
    have r₁' := r₁.keep g₂.keep
    simp only [Rep] at r₁' r₂
    obtain ⟨c, vs, k, rfl, _, hg, q⟩ := r₁'
    obtain ⟨t, rfl⟩ := r₂
    obtain ⟨v, hv, qv⟩ := q.get hx
    have hlt : i.toNat < vs.length := (List.getElem?_eq_some_iff.mp hv).1
    exact tail_any (T := "tuple") ⟨_, hg, rfl⟩ slot_tuple_getitem.lookup (getItem_tuple (items := vs.toArray) (x := v) (j := i.toNat) ⟨_, hg, rfl, _, rfl⟩ (by omega) hz (seqIndex_of h0 (by simp; omega)) (by simpa using hv) (h v s₂ (g₁.trans g₂) qv)) (hs _ _))
theorem Ev.sub_str {value slice : Expr} {pos : Pos} {x : Str} {i : Int} {c : Nat} (hv : Ev X sc ρ n value (.str x)) (hi : Ev X sc ρ n slice (.int i)) (h0 : 0 ≤ i) (hx : x.cps[i.toNat]? = some c) (hz : i < 2 ^ 63)
    (hs : ∀ o i : Value, subscripted slice false o i = operate [o, i] (getItem o i)) : Ev X sc ρ n (.Subscript value slice pos) (.str ⟨#[c]⟩) := fun env S A s E Q p h =>
  Subscript_ (hv env S A s E _ p fun va s₁ g₁ r₁ => hi env S A s₁ E _ (p.grow g₁) fun vb s₂ g₂ r₂ => by
    simp only [Rep] at r₁ r₂
    obtain ⟨u, rfl⟩ := r₁
    obtain ⟨t, rfl⟩ := r₂
    have hlt : i.toNat < x.cps.size := (Array.getElem?_eq_some_iff.mp hx).1
    exact tail_any (T := "str") (typeIs_str _ _ _) F.slot_str_getitem.lookup (P.getItem_str (by simp; omega) (by rw [seqIndex_of h0 (by show i < (x.cps.size : Int); omega)]; exact hx) (h _ _ ((g₁.trans g₂).trans (.toks _ _)) (by simp [Rep]))) (hs _ _))
theorem Ev.slice_list {value : Expr} {lo hi st : Option Expr} {p pos : Pos} {xs : List AV} {l u k : Option Int} (hv : Ev X sc ρ n value (.list xs)) (hl : EvO X sc ρ n lo l) (hu : EvO X sc ρ n hi u) (hk : EvO X sc ρ n st k) (h0 : k ≠ some 0)
    (hsz : xs.length ≤ sizeLine) (hs : ∀ o i : Value, ∃ ops, subscripted (.Slice lo hi st p) false o i = operate ops (getItem o i)) : Ev X sc ρ n (.Subscript value (.Slice lo hi st p) pos) (.list (pick xs l u k)) := fun env S A s E Q pp h =>
  Subscript_ (hv env S A s E _ pp fun va s₁ g₁ r₁ => wpAny_Slice (hl.run (pp.grow g₁) fun q₁ s₂ g₂ e₁ => hu.run ((pp.grow g₁).grow g₂) fun q₂ s₃ g₃ e₂ => hk.run (((pp.grow g₁).grow g₂).grow g₃) fun q₃ s₄ g₄ e₃ => by
    have r₄ := ((r₁.keep g₂.keep).keep g₃.keep).keep g₄.keep
    have G := ((g₁.trans g₂).trans g₃).trans g₄
    have p₄ := pp.grow G
    simp only [Rep] at r₄
    obtain ⟨c, vs, m, rfl, _, hg, q⟩ := r₄
    obtain ⟨ops, hops⟩ := hs (.ref c) (.ref s₄.heap.objs.size)
    have g₅ : Grow s₄ { s₄ with heap := s₄.heap.push { cls := .type "slice", data := .fields #[partValue q₁, partValue q₂, partValue q₃] } } := .push _ _ s₄.toks
    refine tail_any (T := "list") ⟨_, g₅.keep _ _ hg, rfl⟩ slot_list_getitem.lookup (wpAny_getItem_list_slice (items := vs.toArray) ⟨_, g₅.keep _ _ hg, rfl, _, rfl⟩ (Heap.IsSliceOf.new _ _ _ _) (isPart_of e₁) (isPart_of e₂) (isPart_of e₃) h0 ?_ (by simp [q.length]; exact hsz)) hops
    rw [slicePick_list]
    have q' := (q.keep g₅.keep).pick (sliceRange (sliceBounds l u k vs.length).1 (sliceBounds l u k vs.length).2.1 (sliceBounds l u k vs.length).2.2)
    refine h _ _ ((G.trans g₅).trans (.push _ _ _)) (rep_new (s := { s₄ with heap := s₄.heap.push { cls := .type "slice", data := .fields #[partValue q₁, partValue q₂, partValue q₃] } }) (p₄.bound.keep g₅.keep) ?_)
    unfold pick
    rw [← q.length]; exact q'))
theorem Ev.slice_str {value : Expr} {lo hi st : Option Expr} {p pos : Pos} {x : Str} {l u k : Option Int} (hv : Ev X sc ρ n value (.str x)) (hl : EvO X sc ρ n lo l) (hu : EvO X sc ρ n hi u) (hk : EvO X sc ρ n st k) (h0 : (k.getD 1 == 0) = false)
    (hsz : (spick x l u k).length ≤ sizeLine) (hs : ∀ o i : Value, ∃ ops, subscripted (.Slice lo hi st p) false o i = operate ops (getItem o i)) : Ev X sc ρ n (.Subscript value (.Slice lo hi st p) pos) (.str (spick x l u k)) := fun env S A s E Q pp h =>
  Subscript_ (hv env S A s E _ pp fun va s₁ g₁ r₁ => wpAny_Slice (hl.run (pp.grow g₁) fun q₁ s₂ g₂ e₁ => hu.run ((pp.grow g₁).grow g₂) fun q₂ s₃ g₃ e₂ => hk.run (((pp.grow g₁).grow g₂).grow g₃) fun q₃ s₄ g₄ e₃ => by
    have G := ((g₁.trans g₂).trans g₃).trans g₄
    simp only [Rep] at r₁
    obtain ⟨t, rfl⟩ := r₁
    obtain ⟨ops, hops⟩ := hs (.str x t) (.ref s₄.heap.objs.size)
    have g₅ : Grow s₄ { s₄ with heap := s₄.heap.push { cls := .type "slice", data := .fields #[partValue q₁, partValue q₂, partValue q₃] } } := .push _ _ s₄.toks
    refine tail_any (T := "str") (typeIs_str _ _ _) F.slot_str_getitem.lookup (wpAny_getItem_str_slice (l := q₁) (u := q₂) (st := q₃) ⟨_, Heap.get?_push_size _ rfl, rfl, rfl⟩ (by rw [e₃]; exact h0) ?_) hops
    unfold sliceMade slicePicked
    rw [e₁, e₂, e₃]
    unfold spick at hsz h
    split
    · rename_i hc
      rw [if_pos hc] at h
      exact h _ _ (G.trans g₅) (by simp [Rep])
    · rename_i hc
      rw [if_neg hc] at h hsz
      exact ⟨hsz, h _ _ ((G.trans g₅).trans (.toks _ _)) (by simp [Rep])⟩))

/-- several expressions in a row -/
def EvL (X : Cx) (sc : Scope) (ρ : Str → Option AV) (n : Nat) (es : List Expr) (as : List AV) : Prop :=
  ∀ env pos S A s E Q, Pre X sc ρ n env S A s → (∀ vs s', Grow s s' → RepL s'.heap S as vs → Q vs s') → wpAny X.M A (spliced (backTo pos (starEach es env))) Q E s
theorem EvL.nil : EvL X sc ρ n [] [] := fun env pos S A s E Q p h => args_nil (h [] s (.refl _) .nil)
theorem EvL.cons {e : Expr} {es : List Expr} {a : AV} {as : List AV} (h1 : Ev X sc ρ n e a) (h2 : EvL X sc ρ n es as) (he : ∀ env, starEach (e :: es) env = (false, eval e env) :: starEach es env) : EvL X sc ρ n (e :: es) (a :: as) :=
  fun env pos S A s E Q p h => args_cons (h1 env S A s E _ p fun v s₁ g₁ r₁ => h2 env pos S A s₁ E _ (p.grow g₁) fun vs s₂ g₂ r₂ => h _ _ (g₁.trans g₂) (.cons (r₁.keep g₂.keep) r₂)) (he env)
theorem Ev.list {es : List Expr} {as : List AV} {pos : Pos} (h1 : EvL X sc ρ n es as) (hsz : as.length ≤ sizeLine) : Ev X sc ρ n (.List es pos) (.list as) := fun env S A s E Q p h =>
  wpAny_List (h1 env pos S A s E _ p fun vs s₁ g₁ r₁ => ⟨by rw [r₁.length]; exact hsz, h _ _ (g₁.trans (.push _ _ s₁.toks)) (rep_new (p.grow g₁).bound r₁)⟩)
theorem Ev.tuple {es : List Expr} {as : List AV} {k : Nat} {pos : Pos} (h1 : EvL X sc ρ n es as) (hsz : as.length ≤ sizeLine) : Ev X sc ρ n (.Tuple es k pos) (.tuple as) := fun env S A s E Q p h =>
  wpAny_Tuple (h1 env pos S A s E _ p fun vs s₁ g₁ r₁ => ⟨by rw [r₁.length]; exact hsz, h _ _ (g₁.trans (.push _ _ s₁.toks)) (rep_newT (p.grow g₁).bound r₁)⟩)

/-- a call of a value -/
def Fun (X : Cx) (n : Nat) (f : Value) (as : List AV) (b : AV) : Prop :=
  ∀ S A s E Q vs, Ok A n → Keep X.hb s.heap → Live S s.heap → RepL s.heap S as vs → (∀ v s', Grow s s' → Rep s'.heap S b v → Q v s') → wpAny X.M A (call f vs) Q E s
/-- a name that a built-in bears -/
structure Builtin? (X : Cx) (sc : Scope) (x : Str) (v : Value) : Prop where
  kind : sc.names.lookup x = some .globalImplicit
  free : X.mg x = none
  ne : x ≠ "__name__"
  val : bootBuiltins x = some v
  nd : (x == ("__debug__" : Str)) = false
theorem Builtin?.load {x : Str} {v : Value} (b : Builtin? X sc x v) {pos : Pos} {env : Env} {S : Addr → Prop} {A : Around} {s : Shared} {E : Value → Shared → Prop} {Q : Value → Shared → Prop} (p : Pre X sc ρ n env S A s) (h : Q v s) : wpAny X.M A (eval (.Name x pos) env) Q E s :=
  Name_function_global (by rw [p.eo.scope]; exact p.eo.kind) (by unfold Env.kindOf; rw [p.eo.scope]; exact b.kind)
    (loadGlobal_builtin (mg := X.mg) (mb := X.mb) (by rw [p.eo.globals]; exact X.g.keeps p.base) b.free (by rw [p.eo.builtins]; exact X.b.keeps p.base) ((X.builtins x b.ne).trans b.val) h) b.nd
theorem Ev.callB {x : Str} {np pos : Pos} {e : Expr} {es : List Expr} {id : String} {as : List AV} {b : AV} (hx : Builtin? X sc x (.builtin id)) (ha : EvL X sc ρ n (e :: es) as) (hf : Fun X n (.builtin id) as b)
    (he : ∀ env, starEach (e :: es) env = (false, eval e env) :: starEach es env) (hp : ∀ pos env, (backTo pos (starEach es env)).any (·.1) = false) : Ev X sc ρ n (.Call (.Name x np) (e :: es) [] pos) b := fun env S A s E Q p h =>
  Call_ (hx.load p (callWith_builtin1 (ha env pos S A s E _ p fun vs s₁ g₁ r₁ => hf S A s₁ E Q vs p.ok (p.grow g₁).base (p.grow g₁).bound r₁ fun v s₂ g₂ r₂ => h v s₂ (g₁.trans g₂) r₂) (he env) (hp pos env)))
theorem Ev.callT {x : Str} {np pos : Pos} {e : Expr} {es : List Expr} {T : String} {as : List AV} {b : AV} (hx : Builtin? X sc x (.type T)) (ha : EvL X sc ρ n (e :: es) as) (hf : Fun X n (.type T) as b)
    (he : ∀ env, starEach (e :: es) env = (false, eval e env) :: starEach es env) (hp : ∀ pos env, (backTo pos (starEach es env)).any (·.1) = false) : Ev X sc ρ n (.Call (.Name x np) (e :: es) [] pos) b := fun env S A s E Q p h =>
  Call_ (hx.load p (PyProof.Rows.callWith_type1 (ha env pos S A s E _ p fun vs s₁ g₁ r₁ => hf S A s₁ E Q vs p.ok (p.grow g₁).base (p.grow g₁).bound r₁ fun v s₂ g₂ r₂ => h v s₂ (g₁.trans g₂) r₂) (he env) (hp pos env)))
end
end Mine
namespace Mine
open PySem PySem.Calls PyProof.Rows

section
variable {X : Cx} {sc : Scope} {ρ : Str → Option AV} {n : Nat}

theorem Fun.len_list {xs : List AV} (hz : (xs.length : Int) < 2 ^ 63) : Fun X n (.builtin "len") [.list xs] (.int xs.length) := fun S A s E Q vs ok hb hS r h => by
  simp only [RepL, Rep] at r
  obtain ⟨v, ws, rfl, ⟨a, us, k, rfl, _, hg, q⟩, rfl⟩ := r
  refine PyProof.Rows.len_list (items := us.toArray) ⟨_, hg, rfl, _, rfl⟩ (by simp [q.length]; exact hz) (h _ _ (.toks _ _) ?_)
  simp [Rep, q.length]
theorem Fun.len_str {x : Str} (hz : (x.length : Int) < 2 ^ 63) : Fun X n (.builtin "len") [.str x] (.int x.length) := fun S A s E Q vs ok hb hS r h => by
  simp only [RepL, Rep] at r
  obtain ⟨v, ws, rfl, ⟨t, rfl⟩, rfl⟩ := r
  exact PyProof.Rows.len_str (by omega) (h _ _ (.toks _ _) (by simp [Rep]))
theorem Fun.min_int {a b : Int} : Fun X n (.builtin "min") [.int a, .int b] (.int (if b < a then b else a)) := fun S A s E Q vs ok hb hS r h => by
  simp only [RepL, Rep] at r
  obtain ⟨v, ws, rfl, ⟨t, rfl⟩, v', ws', rfl, ⟨u, rfl⟩, rfl⟩ := r
  refine min_two_ints ok.handled fun h' tk hk => h _ _ (.heap hk) ?_
  split <;> simp [Rep]
theorem Fun.str_bool {b : Bool} : Fun X n (.type "str") [.bool b] (.str (if b then "True" else "False")) := fun S A s E Q vs ok hb hS r h => by
  simp only [RepL, Rep] at r
  obtain ⟨v, ws, rfl, rfl, rfl⟩ := r
  exact P.str_of_bool (h _ _ (.toks _ _) (by simp [Rep]))
theorem Fun.sum_ints {ns : List Int} : Fun X n (.builtin "sum") [.list (ns.map .int)] (.int ns.sum) := fun S A s E Q vs ok hb hS r h => by
  simp only [RepL] at r
  obtain ⟨v, ws, rfl, r1, rfl⟩ := r
  simp only [Rep] at r1
  obtain ⟨a, us, k, rfl, _, hg, q⟩ := r1
  have hne : a ≠ s.heap.objs.size := Nat.ne_of_lt (Heap.lt_size hg)
  have hl : s.heap.IsList a us.toArray := ⟨_, hg, rfl, _, rfl⟩
  have hlen : us.length = ns.length := by have := q.length; simpa using this
  have hval : ∀ (i : Nat) (v : Value), us.toArray[i]? = some v → ∃ t, v = Value.int (ns.getD i 0) t := fun i v e => by
    have e' : us[i]? = some v := by simpa using e
    have hi : i < ns.length := by rw [← hlen]; exact (List.getElem?_eq_some_iff.mp e').1
    obtain ⟨v', hv', qv⟩ := q.get (i := i) (x := .int ns[i]) (by simp [hi])
    rw [e'] at hv'; cases hv'
    simp only [Rep] at qv
    obtain ⟨t, rfl⟩ := qv
    exact ⟨t, by simp [hi]⟩
  refine call_sum_walkG (wpAny_pyIter_list hl ?_)
  refine ⟨_, _, _, us.toArray.size, _, _, fun i => ns.getD i 0, rfl, Walks.list (prog := X.prog) (w := X.w) (A := A.in1) ok.handled s.heap.objs.size a hne us.toArray, ⟨⟨_, Heap.get?_push_size _ rfl, rfl, rfl⟩, hl.at fun o e => Heap.get?_push_of_some _ e⟩, ?_, hval, ?_⟩
  · intro b hb
    rw [Heap.size_push]
    rcases List.mem_cons.mp hb with rfl | hb
    · exact Nat.lt_succ_self _
    · rw [List.mem_singleton.mp hb]; exact Nat.lt_succ_of_lt (Heap.lt_size hg)
  · intro h' tk t' hk
    refine h _ _ (.heap fun b o e => hk b o ?_ (Heap.get?_push_of_some _ e)) ?_
    · intro hm; rw [List.mem_singleton.mp hm] at e; rw [get?_size] at e; cases e
    · simp only [Rep]
      refine ⟨t', ?_⟩
      have : ∀ j, j ≤ ns.length → preSum (fun i => ns.getD i 0) j = (ns.take j).sum := by
        intro j
        induction j with
        | zero => intro _; rfl
        | succ j ih =>
          intro hj
          have hj' : j < ns.length := by omega
          simp only [preSum]
          rw [ih (by omega), List.take_succ_eq_append_getElem hj', List.sum_append]
          simp [hj']
      have e := this ns.length (Nat.le_refl _)
      rw [List.take_length] at e
      rw [show us.toArray.size = ns.length by simp [hlen], e]
/-- isinstance(x, T) with a built-in class T -/
theorem Ev.isinst {x y : Str} {np yp pos : Pos} {e : Expr} {T : String} {a : AV} {b : Bool} (hx : Builtin? X sc x (.builtin "isinstance")) (hy : Builtin? X sc y (.type T)) (h1 : Ev X sc ρ n e a)
    (hf : ∀ S A s E Q va, Rep s.heap S a va → (∀ tk, Q (.bool b) { s with toks := tk }) → wpAny X.M A (call (.builtin "isinstance") [va, .type T]) Q E s)
    (he : ∀ env, starEach [e, .Name y yp] env = (false, eval e env) :: starEach [.Name y yp] env) : Ev X sc ρ n (.Call (.Name x np) [e, .Name y yp] [] pos) (.bool b) := fun env S A s E Q p h =>
  Call_ (hx.load p (callWith_builtin1 (args_cons (h1 env S A s E _ p fun v s₁ g₁ r₁ => args_cons (hy.load (p.grow g₁) (args_nil (hf S A s₁ E Q v r₁ fun tk => h _ _ (g₁.trans (.toks _ _)) (by simp [Rep])))) rfl) (he env)) (he env) rfl))
theorem isi_int_bool {i : Int} : ∀ S A s E Q va, Rep s.heap S (.int i) va → (∀ tk, Q (.bool false) { s with toks := tk }) → wpAny X.M A (call (.builtin "isinstance") [va, .type "bool"]) Q E s := fun S A s E Q va r h => by
  simp only [Rep] at r; obtain ⟨t, rfl⟩ := r
  exact IsiPair.int_bool (h _)
theorem isi_list_list {xs : List AV} : ∀ S A s E Q va, Rep s.heap S (.list xs) va → (∀ tk, Q (.bool true) { s with toks := tk }) → wpAny X.M A (call (.builtin "isinstance") [va, .type "list"]) Q E s := fun S A s E Q va r h => by
  simp only [Rep] at r; obtain ⟨a, vs, k, rfl, _, hg, q⟩ := r
  exact IsiPair.list_list hg rfl (h s.toks)
theorem foldl_flatten (l : List (List Value)) : ∀ acc : Array Value, List.foldl (fun x1 x2 => x1 ++ x2) acc (l.map List.toArray) = acc ++ l.flatten.toArray := by
  induction l with
  | nil => intro acc; simp
  | cons x l ih => intro acc; simp only [List.map_cons, List.foldl_cons, ih]; simp
theorem RepL.rep {h : Heap} {S : Addr → Prop} {xs : List AV} {vs : List Value} (r : RepL h S xs vs) : ∀ k, RepL h S (List.replicate k xs).flatten (List.replicate k vs).flatten
  | 0 => .nil
  | k + 1 => by simp only [List.replicate_succ, List.flatten_cons]; exact r.append (RepL.rep r k)
theorem Op.mul_list {xs : List AV} {k : Int} (hlo : -(2 ^ 63 : Int) ≤ k) (hhi : k < 2 ^ 63) (hsz : xs.length * k.toNat ≤ 2 ^ 24) : Op X n (binaryOp .Mult) (.list xs) (.int k) (.list (List.replicate k.toNat xs).flatten) := fun S A s E Q va vb ok hb hS ra rb h => by
  simp only [Rep] at ra rb
  obtain ⟨l, vs, m, rfl, _, hg, q⟩ := ra
  obtain ⟨u, rfl⟩ := rb
  have hl : s.heap.get? l = some { cls := .type "list", dict := none, data := .seq vs.toArray m, slots := #[] } := hg
  have hs' : vs.toArray.size * k.toNat ≤ 2 ^ 24 := by simp [q.length]; exact hsz
  refine wpAny_binaryOp_repeat_ref (T := "list") (U := "int") (by decide) ⟨_, hl, rfl⟩ (fun s' => typeIs_int s' k u) noFill_list_mul F.fills_int_mul F.slot_int_rmul repeat_list F.slot_int_index.lookup
    (call_meets F.slot_int_rmul (typeIs_int s k u) F.entry_int_rmul (F.args_int_rmul_2 _ _) (int___rmul___int_list k u l vs.toArray m)
      ⟨hl, rfl, ⟨_, hl, rfl⟩, call_meets F.slot_list_mul ⟨_, hl, rfl⟩ F.entry_list_mul (F.args_list_mul_2 _ _)
        (AutoListH.list___mul___list_int_3 l vs.toArray m k u (by simp [Builtin.List.listFitsIndex]; omega) (by omega) (by simp [Builtin.List.listTooLong, sizeLine]; omega))
        ⟨hl, ?_⟩⟩)
  have e : List.foldl (fun x1 x2 => x1 ++ x2) #[] (List.replicate (if vs.toArray.isEmpty = true then 0 else k.toNat) vs.toArray) = (List.replicate k.toNat vs).flatten.toArray := by
    by_cases hv : vs = []
    · subst hv; simp
    · have : vs.toArray.isEmpty = false := by simp [hv]
      rw [this]
      have := foldl_flatten (List.replicate k.toNat vs) #[]
      simpa using this
  rw [e]
  exact h _ _ (.push _ _ _) (rep_new hS (q.rep _))

theorem Ev.ifexp {t b o : Expr} {pos : Pos} {c : Bool} {a : AV} (ht : Tr X sc ρ n t c) (hb : c = true → Ev X sc ρ n b a) (ho : c = false → Ev X sc ρ n o a) : Ev X sc ρ n (.IfExp t b o pos) a := fun env S A s E Q p h => by
  refine IfExp_ (ht env S A s E _ p fun s₁ g₁ => ?_)
  cases c with
  | true => exact hb rfl env S A s₁ E Q (p.grow g₁) fun v s₂ g₂ r₂ => h v s₂ (g₁.trans g₂) r₂
  | false => exact ho rfl env S A s₁ E Q (p.grow g₁) fun v s₂ g₂ r₂ => h v s₂ (g₁.trans g₂) r₂
theorem Ev.and {e₁ e₂ : Expr} {rest : List Expr} {pos : Pos} {c : Bool} {d : Bool} (h1 : Ev X sc ρ n e₁ (.bool c)) (h2 : c = true → Ev X sc ρ n (.BoolOp .And (e₂ :: rest) pos) (.bool d)) : Ev X sc ρ n (.BoolOp .And (e₁ :: e₂ :: rest) pos) (.bool (c && d)) := fun env S A s E Q p h => by
  refine BoolOp_and (h1 env S A s E _ p fun v s₁ g₁ r₁ => ?_)
  simp only [Rep] at r₁; subst r₁
  refine wpAny_truthy_bool ?_
  cases c with
  | true => exact h2 rfl env S A s₁ E Q (p.grow g₁) fun v s₂ g₂ r₂ => h v s₂ (g₁.trans g₂) (by simpa using r₂)
  | false => exact h _ _ g₁ (by simp [Rep])
theorem Ev.bool1 {op : BoolOp} {e : Expr} {pos : Pos} {a : AV} (h1 : Ev X sc ρ n e a) : Ev X sc ρ n (.BoolOp op [e] pos) a := fun env S A s E Q p h => BoolOp_one (h1 env S A s E Q p h)
theorem Ev.neg {e : Expr} {pos : Pos} {i : Int} (h1 : Ev X sc ρ n e (.int i)) : Ev X sc ρ n (.UnaryOp .USub e pos) (.int (-i)) := fun env S A s E Q p h =>
  UnaryOp_ (h1 env S A s E _ p fun v s₁ g₁ r₁ => by
    simp only [Rep] at r₁; obtain ⟨t, rfl⟩ := r₁
    exact P.neg_int (h _ _ (g₁.trans (.toks _ _)) (by simp [Rep])))

theorem Tr.not {e : Expr} {pos : Pos} {c : Bool} (h1 : Tr X sc ρ n e c) : Tr X sc ρ n (.UnaryOp .Not e pos) (!c) := fun env S A s E Q p h => isTrue_not (h1 env S A s E _ p fun s₁ g₁ => h s₁ g₁)
/-- a test that is a value -/
theorem Tr.val {e : Expr} {c : Bool} (h1 : Ev X sc ρ n e (.bool c)) (he : ∀ env, isTrue e env (eval e env) = (do let v ← eval e env; standAt e.pos; holding [v] (truthy v))) : Tr X sc ρ n e c := fun env S A s E Q p h =>
  wpAny_isTrue_value (h1 env S A s E _ p fun v s₁ g₁ r₁ => by
    simp only [Rep] at r₁; subst r₁
    exact wpAny_truthy_bool (h s₁ g₁)) (he env)
/-- a row of tests -/
def TrA (X : Cx) (sc : Scope) (ρ : Str → Option AV) (n : Nat) (op : BoolOp) (es : List Expr) (b : Bool) : Prop :=
  ∀ env S A s E Q, Pre X sc ρ n env S A s → (∀ s', Grow s s' → Q b s') → wpAny X.M A (allTrue op es env) Q E s
theorem Tr.boolop {op : BoolOp} {es : List Expr} {pos : Pos} {c : Bool} (h1 : TrA X sc ρ n op es c) : Tr X sc ρ n (.BoolOp op es pos) c := fun env S A s E Q p h => wpAny_isTrue_BoolOp (h1 env S A s E Q p h)
theorem TrA.and_nil : TrA X sc ρ n .And [] true := fun env S A s E Q p h => wpAny_allTrue_And_nil (h s (.refl _))
theorem TrA.or_nil : TrA X sc ρ n .Or [] false := fun env S A s E Q p h => wpAny_allTrue_Or_nil (h s (.refl _))
theorem TrA.and {e : Expr} {es : List Expr} {c d : Bool} (h1 : Tr X sc ρ n e c) (h2 : c = true → TrA X sc ρ n .And es d) : TrA X sc ρ n .And (e :: es) (c && d) := fun env S A s E Q p h => by
  refine wpAny_allTrue_And_cons (h1 env S A s E _ p fun s₁ g₁ => ?_)
  cases c with
  | true => exact h2 rfl env S A s₁ E Q (p.grow g₁) fun s₂ g₂ => by simpa using h s₂ (g₁.trans g₂)
  | false => simpa using h s₁ g₁
theorem TrA.or {e : Expr} {es : List Expr} {c d : Bool} (h1 : Tr X sc ρ n e c) (h2 : c = false → TrA X sc ρ n .Or es d) : TrA X sc ρ n .Or (e :: es) (c || d) := fun env S A s E Q p h => by
  refine wpAny_allTrue_Or_cons (h1 env S A s E _ p fun s₁ g₁ => ?_)
  cases c with
  | false => exact h2 rfl env S A s₁ E Q (p.grow g₁) fun s₂ g₂ => by simpa using h s₂ (g₁.trans g₂)
  | true => simpa using h s₁ g₁

/-- the texts of a list -/
theorem RepL.strs {h : Heap} {S : Addr → Prop} : ∀ {ts : List Str} {vs : List Value}, RepL h S (ts.map .str) vs → ∃ l : List (Str × Tok), vs = strValues l ∧ l.map (·.1) = ts
  | [], vs, r => by simp only [List.map_nil, RepL] at r; subst r; exact ⟨[], rfl, rfl⟩
  | t :: ts, vs, r => by
    simp only [List.map_cons, RepL, Rep] at r
    obtain ⟨v, ws, rfl, ⟨u, rfl⟩, r2⟩ := r
    obtain ⟨l, rfl, e⟩ := r2.strs
    exact ⟨(t, u) :: l, rfl, by simp [e]⟩
theorem Ev.join {o e : Expr} {apos pos : Pos} {x : Str} {ts : List Str} (ho : Ev X sc ρ n o (.str x)) (h1 : Ev X sc ρ n e (.list (ts.map .str))) (hok : JoinOk x ts = true)
    (hbase : ∀ env, attributeBase o "join" env (eval o env) = eval o env) (hs : ∀ env, starEach [e] env = [(false, eval e env)]) (hline : (apos.endLine == pos.line) = true) :
    Ev X sc ρ n (.Call (.Attribute o "join" apos) [e] [] pos) (.str (Txt.join x ts)) := fun env S A s E Q p h =>
  Call_method1 (hbase env) (hs env) hline (ho env S A s E _ p fun v s₁ g₁ r₁ => by
    simp only [Rep] at r₁; obtain ⟨t, rfl⟩ := r₁
    refine SB.join (h1 env S A s₁ E _ (p.grow g₁) fun v s₂ g₂ r₂ => ?_)
    simp only [Rep] at r₂
    obtain ⟨a, vs, k, rfl, _, hg, q⟩ := r₂
    obtain ⟨l, rfl, e⟩ := q.strs
    exact ⟨a, l, rfl, ⟨_, hg, rfl, _, rfl⟩, ts, e, hok, fun t' k => h _ _ ((g₁.trans g₂).trans (.toks _ _)) (by simp [Rep])⟩)
theorem Ev.count {o e : Expr} {apos pos : Pos} {x y : Str} (ho : Ev X sc ρ n o (.str x)) (h1 : Ev X sc ρ n e (.str y))
    (hbase : ∀ env, attributeBase o "count" env (eval o env) = eval o env) (hs : ∀ env, starEach [e] env = [(false, eval e env)]) (hline : (apos.endLine == pos.line) = true) :
    Ev X sc ρ n (.Call (.Attribute o "count" apos) [e] [] pos) (.int (Txt.count x y)) := fun env S A s E Q p h =>
  Call_method1 (hbase env) (hs env) hline (ho env S A s E _ p fun v s₁ g₁ r₁ => by
    simp only [Rep] at r₁; obtain ⟨t, rfl⟩ := r₁
    refine SB.count (h1 env S A s₁ E _ (p.grow g₁) fun v s₂ g₂ r₂ => ?_)
    simp only [Rep] at r₂; obtain ⟨u, rfl⟩ := r₂
    exact ⟨y, u, rfl, h _ _ ((g₁.trans g₂).trans (.toks _ _)) (by simp [Rep])⟩)
/-- xs.index(k) of ints -/
theorem Ev.index {o e : Expr} {apos pos : Pos} {ns : List Int} {k : Int} {j : Nat} (ho : Ev X sc ρ n o (.list (ns.map .int))) (h1 : Ev X sc ρ n e (.int k)) (hj : ns[j]? = some k) (hno : ∀ m, m < j → ns[m]? ≠ some k) (hz : (j : Int) < 2 ^ 63 - 1)
    (hbase : ∀ env, attributeBase o "index" env (eval o env) = eval o env) (hs : ∀ env, starEach [e] env = [(false, eval e env)]) (hline : (apos.endLine == pos.line) = true) :
    Ev X sc ρ n (.Call (.Attribute o "index" apos) [e] [] pos) (.int j) := fun env S A s E Q p h =>
  Call_method1 (hbase env) (hs env) hline (ho env S A s E _ p fun v s₁ g₁ r₁ => by
    simp only [Rep] at r₁
    obtain ⟨l, us, m, rfl, _, hg, q⟩ := r₁
    refine ⟨"list", _, F.plainAttrs_list, F.slot_list_index, F.type_list_index, ⟨_, hg, rfl⟩, fun a ha => by cases ha; exact ⟨_, hg, rfl⟩, P.index_list (h1 env S A s₁ E _ (p.grow g₁) fun v s₂ g₂ r₂ => ?_)⟩
    simp only [Rep] at r₂; obtain ⟨u, rfl⟩ := r₂
    have q' := q.keep g₂.keep
    have hlen : us.length = ns.length := by have := q.length; simpa using this
    have hjl : j < ns.length := (List.getElem?_eq_some_iff.mp hj).1
    have at' : ∀ (i : Nat) (hi : i < us.toArray.size), ∃ t, us.toArray[i] = Value.int (ns.getD i 0) t := fun i hi => by
      have hi' : i < ns.length := by simpa [hlen] using hi
      obtain ⟨v', hv', qv⟩ := q'.get (i := i) (x := .int ns[i]) (by simp [hi'])
      simp only [Rep] at qv
      obtain ⟨t, rfl⟩ := qv
      have hi2 : i < us.length := by simpa using hi
      have e2 : us[i] = .int ns[i] t := by rw [List.getElem?_eq_getElem hi2] at hv'; exact Option.some.inj hv'
      exact ⟨t, by simp [e2, hi']⟩
    refine ⟨us.toArray, m, fun y => match y with | .int i _ => i == k | _ => false, j, by simp [hlen, hjl], g₂.keep _ _ hg, fun y hy => ?_, hz, ?_, fun i hi hij => ?_, h _ _ ((g₁.trans g₂).trans (.toks _ _)) (by simp [Rep])⟩
    · obtain ⟨i, hi, rfl⟩ := Array.getElem_of_mem hy
      obtain ⟨t, e⟩ := at' i hi
      rw [e]; exact MeetsSeq.EqGives.int _ _ _ _
    · obtain ⟨t, e⟩ := at' j (by simp [hlen, hjl])
      rw [e]
      have : ns[j] = k := by rw [List.getElem?_eq_getElem hjl] at hj; exact Option.some.inj hj
      simp [hjl, this]
    · obtain ⟨t, e⟩ := at' i hi
      rw [e]
      have hi' : i < ns.length := by simpa [hlen] using hi
      have := hno i hij
      rw [List.getElem?_eq_getElem hi'] at this
      simp only [List.getD_eq_getElem?_getD, List.getElem?_eq_getElem hi', Option.getD_some, beq_eq_false_iff_ne]
      exact fun e => this (by rw [e]))
end
end Mine
namespace Mine
open PySem PySem.Calls PyProof.Rows

/-- a frame's names: plain ones, and those that hold a list of the frame's own which it changes -/
structure AF where
  ρ : Str → Option AV
  μ : List (Str × List AV)
def AF.env (f : AF) : Str → Option AV := fun x => match f.μ.lookup x with | some xs => some (.list xs) | none => f.ρ x
def AF.set (f : AF) (x : Str) (a : AV) : AF := { f with ρ := fun y => if y = x then some a else f.ρ y }
def AF.put (f : AF) (x : Str) (xs : List AV) : AF := { f with μ := f.μ.map fun p => if p.1 = x then (x, xs) else p }
def AF.own (f : AF) (x : Str) (xs : List AV) : AF := { f with μ := (x, xs) :: f.μ }
def AF.drop (f : AF) (x : Str) : AF := { f with μ := f.μ.filter fun p => p.1 != x }

def Own (env : Env) (as : List (Str × Addr)) (b : Addr) : Prop := b = env.locals ∨ (∃ x, (x, b) ∈ as) ∨ ∃ x, (x, b) ∈ env.cells
def Lk (env : Env) (S : Addr → Prop) (as : List (Str × Addr)) (b : Addr) : Prop := S b ∨ Own env as b

structure FSat (X : Cx) (sc : Scope) (env : Env) (Pr : Addr → Prop) (sp : Shared) (S : Addr → Prop) (f : AF) (as : List (Str × Addr)) (s : Shared) : Prop where
  eo : EnvOk sc env
  base : Keep X.hb s.heap
  pr : ∀ b, Pr b → (sp.heap.get? b).isSome = true
  keep : ∀ b o, Pr b → sp.heap.get? b = some o → s.heap.get? b = some o
  os : s.os = sp.os
  gens : ∀ k, k < sp.gens.size → s.gens[k]? = sp.gens[k]?
  gsize : sp.gens.size ≤ s.gens.size
  bare : AllBare sp.gens → AllBare s.gens
  live : Live S s.heap
  apart : ∀ b, Own env as b → ¬ Pr b ∧ X.hb.get? b = none ∧ ¬ S b
  ol : ∀ b, Own env as b → (s.heap.get? b).isSome = true
  nsl : ∃ m, s.heap.Ns env.locals m ∧ (∀ x a, sc.names.lookup x = some .local → f.ρ x = some a → f.μ.lookup x = none → ∃ v, m x = some v ∧ Rep s.heap (Lk env S as) a v) ∧
    ∀ x xs, f.μ.lookup x = some xs → sc.names.lookup x = some .local ∧ ∃ a, as.lookup x = some a ∧ m x = some (.ref a)
  cl : ∀ x a, sc.names.lookup x = some .cell ∨ sc.names.lookup x = some .free → f.ρ x = some a → ∃ c v, env.cells.lookup x = some c ∧ s.heap.IsCell c (some v) ∧ Rep s.heap (Lk env S as) a v
  cells : ∀ x, sc.names.lookup x = some .cell → ∃ c, env.cells.lookup x = some c
  allc : ∀ x c, (x, c) ∈ env.cells → ∃ v, s.heap.IsCell c v
  cdist : env.cells.Pairwise fun x y => x.2 ≠ y.2
  mu : ∀ x xs, f.μ.lookup x = some xs → ∃ a vs k, as.lookup x = some a ∧ s.heap.get? a = some (lobj vs k) ∧ RepL s.heap (Lk env S as) xs vs
  dist : as.Pairwise fun x y => x.2 ≠ y.2
  am : as.map (·.1) = f.μ.map (·.1)
def FS (X : Cx) (sc : Scope) (env : Env) (Pr : Addr → Prop) (sp : Shared) (S : Addr → Prop) (f : AF) (s : Shared) : Prop := ∃ as, FSat X sc env Pr sp S f as s

section
variable {X : Cx} {sc : Scope} {n : Nat} {env : Env} {Pr : Addr → Prop} {sp : Shared} {S : Addr → Prop} {f : AF} {as : List (Str × Addr)} {s s' : Shared}

theorem mem_lookup {α : Type} {l : List (Str × α)} {x : Str} {a : α} (h : l.lookup x = some a) : (x, a) ∈ l := mem_of_lookup h

theorem FSat.grow (F : FSat X sc env Pr sp S f as s) (g : Grow s s') : FSat X sc env Pr sp S f as s' where
  eo := F.eo
  base := F.base.trans g.keep
  pr := F.pr
  keep := fun b o hp e => g.keep b o (F.keep b o hp e)
  os := g.os.trans F.os
  gens := fun k hk => (g.gens k (Nat.lt_of_lt_of_le hk F.gsize)).trans (F.gens k hk)
  gsize := Nat.le_trans F.gsize g.gsize
  bare := fun h => g.bare (F.bare h)
  live := F.live.keep g.keep
  apart := F.apart
  ol := fun b hb => by
    obtain ⟨o, e⟩ := Option.isSome_iff_exists.mp (F.ol b hb)
    rw [g.keep b o e]; rfl
  nsl := let ⟨m, hm, h1, h2⟩ := F.nsl; ⟨m, hm.keeps g.keep, fun x a hx hr hu => let ⟨v, hv, q⟩ := h1 x a hx hr hu; ⟨v, hv, q.keep g.keep⟩, h2⟩
  cl := fun x a hx hr => let ⟨c, v, hc, hi, q⟩ := F.cl x a hx hr; ⟨c, v, hc, hi.keeps g.keep, q.keep g.keep⟩
  cells := F.cells
  allc := fun x c hx => let ⟨v, hi⟩ := F.allc x c hx; ⟨v, hi.keeps g.keep⟩
  cdist := F.cdist
  mu := fun x xs hx => let ⟨a, vs, k, ha, hg, q⟩ := F.mu x xs hx; ⟨a, vs, k, ha, g.keep _ _ hg, q.keep g.keep⟩
  dist := F.dist
  am := F.am
theorem FS.grow (F : FS X sc env Pr sp S f s) (g : Grow s s') : FS X sc env Pr sp S f s' := let ⟨as, F⟩ := F; ⟨as, F.grow g⟩

/-- growth, with what is new locked away -/
theorem FSat.lock (F : FSat X sc env Pr sp S f as s) (g : Grow s s') (T : Addr → Prop) (hT : ∀ b, T b → s.heap.get? b = none ∧ (s'.heap.get? b).isSome = true) : FSat X sc env Pr sp (fun b => S b ∨ T b) f as s' := by
  have up : ∀ {a : AV} {v : Value}, Rep s.heap (Lk env S as) a v → Rep s'.heap (Lk env (fun b => S b ∨ T b) as) a v := fun r => r.mono fun b o hs e =>
    ⟨fun x => x.elim (fun y => y.elim (fun z => hs (.inl z)) fun z => by rw [(hT b z).1] at e; cases e) fun y => hs (.inr y), g.keep b o e⟩
  have upL : ∀ {a : List AV} {v : List Value}, RepL s.heap (Lk env S as) a v → RepL s'.heap (Lk env (fun b => S b ∨ T b) as) a v := fun r => r.mono fun b o hs e =>
    ⟨fun x => x.elim (fun y => y.elim (fun z => hs (.inl z)) fun z => by rw [(hT b z).1] at e; cases e) fun y => hs (.inr y), g.keep b o e⟩
  have F' := F.grow g
  refine ⟨F'.eo, F'.base, F'.pr, F'.keep, F'.os, F'.gens, F'.gsize, F'.bare, fun b hb => hb.elim (F'.live b) fun t => (hT b t).2, fun b hb => ?_, F'.ol, ?_, fun x a hx hr => ?_, F'.cells, F'.allc, F'.cdist, fun x xs hx => ?_, F'.dist, F'.am⟩
  · refine ⟨(F.apart b hb).1, (F.apart b hb).2.1, fun h => h.elim (F.apart b hb).2.2 fun t => ?_⟩
    have hn := (hT b t).1
    have := F.ol b hb
    rw [hn] at this; cases this
  · obtain ⟨m, hm, h1, h2⟩ := F.nsl
    exact ⟨m, hm.keeps g.keep, fun x a hx hr hu => let ⟨v, hv, q⟩ := h1 x a hx hr hu; ⟨v, hv, up q⟩, h2⟩
  · obtain ⟨c, v, hc, hi, q⟩ := F.cl x a hx hr
    exact ⟨c, v, hc, hi.keeps g.keep, up q⟩
  · obtain ⟨a, vs, k, ha, hg, q⟩ := F.mu x xs hx
    exact ⟨a, vs, k, ha, g.keep _ _ hg, upL q⟩

theorem ns_ne {h : Heap} {L : Addr} {m : Str → Option Value} (hn : h.Ns L m) {a : Addr} {vs : List Value} {k : Nat} (hg : h.get? a = some (lobj vs k)) : a ≠ L := by
  rintro rfl
  obtain ⟨o, es, ep, ho, hd, _⟩ := hn
  rw [hg] at ho; cases ho; cases hd
theorem ns_ne_cell {h : Heap} {L : Addr} {m : Str → Option Value} (hn : h.Ns L m) {c : Addr} {v : Option Value} (hg : h.IsCell c v) : c ≠ L := by
  rintro rfl
  obtain ⟨o, es, ep, ho, hd, _⟩ := hn
  obtain ⟨o', ho', hd'⟩ := hg
  rw [ho'] at ho; cases ho; rw [hd] at hd'; cases hd'
theorem cell_ne {h : Heap} {c : Addr} {v : Option Value} (hg : h.IsCell c v) {a : Addr} {vs : List Value} {k : Nat} (hl : h.get? a = some (lobj vs k)) : a ≠ c := by
  rintro rfl
  obtain ⟨o', ho', hd'⟩ := hg
  rw [hl] at ho'; cases ho'; cases hd'

/-- the parts that a change at one own address leaves as they are -/
theorem FSat.kept (F : FSat X sc env Pr sp S f as s) {c : Addr} (hc : Own env as c) {h' : Heap} {tk : Nat} (hs : Heap.SameBut c s.heap h') (hl : (h'.get? c).isSome = true) :
    Keep X.hb h' ∧ (∀ b o, Pr b → sp.heap.get? b = some o → h'.get? b = some o) ∧ Live S h' ∧ (∀ b, Own env as b → (h'.get? b).isSome = true) ∧
    (∀ {a : AV} {v : Value}, Rep s.heap (Lk env S as) a v → Rep h' (Lk env S as) a v) ∧ (∀ {a : List AV} {v : List Value}, RepL s.heap (Lk env S as) a v → RepL h' (Lk env S as) a v) := by
  obtain ⟨c1, c2, c3⟩ := F.apart c hc
  have at' : ∀ b, b ≠ c → h'.get? b = s.heap.get? b := fun b hb => hs.2 b hb
  refine ⟨fun b o e => ?_, fun b o hp e => ?_, fun b hb => ?_, fun b hb => ?_, fun r => r.mono fun b o hb e => ?_, fun r => r.mono fun b o hb e => ?_⟩
  · rw [at' b (by rintro rfl; rw [c2] at e; cases e)]; exact F.base b o e
  · rw [at' b (by rintro rfl; exact c1 hp)]; exact F.keep b o hp e
  · rw [at' b (by rintro rfl; exact c3 hb)]; exact F.live b hb
  · by_cases h : b = c
    · subst h; exact hl
    · rw [at' b h]; exact F.ol b hb
  · exact ⟨hb, by rw [at' b (by rintro rfl; exact hb (.inr hc))]; exact e⟩
  · exact ⟨hb, by rw [at' b (by rintro rfl; exact hb (.inr hc))]; exact e⟩

theorem Heap.Ns.alive {h : Heap} {L : Addr} {m : Str → Option Value} (hn : h.Ns L m) : (h.get? L).isSome = true := by
  obtain ⟨o, es, ep, ho, _⟩ := hn; rw [ho]; rfl

/-- a plain local is stored -/
theorem FSat.store (F : FSat X sc env Pr sp S f as s) {x : Str} {a : AV} {v : Value} (hx : sc.names.lookup x = some .local) (hu : f.μ.lookup x = none) (r : Rep s.heap (Lk env S as) a v) {A : Around} {E : Value → Shared → Prop} {Q : Unit → Shared → Prop}
    (h : ∀ s', FSat X sc env Pr sp S (f.set x a) as s' → Q () s') : wpAny X.M A (storeName env x v) Q E s := by
  obtain ⟨m, hm, h1, h2⟩ := F.nsl
  refine wpAny_storeName_local (by unfold Env.kindOf; rw [F.eo.scope]; exact hx) hm (fun h' hn' hs' => h _ ?_) (by rw [F.eo.scope, F.eo.kind]; rfl)
  obtain ⟨k1, k2, k3, k4, k5, k6⟩ := F.kept (tk := s.toks + 1) (.inl rfl) hs' (Heap.Ns.alive hn')
  refine ⟨F.eo, k1, F.pr, k2, F.os, F.gens, F.gsize, F.bare, k3, F.apart, k4, ⟨_, hn', fun y b hy hr hl => ?_, fun y ys hy => ?_⟩, fun y b hy hr => ?_, F.cells, fun y c hy => ?_, F.cdist, fun y ys hy => ?_, F.dist, F.am⟩
  · by_cases e : y = x
    · subst e
      have : b = a := by simpa [AF.set] using hr.symm
      subst this
      exact ⟨v, by simp, k5 r⟩
    · obtain ⟨w, hw, q⟩ := h1 y b hy (by simpa [AF.set, e] using hr) hl
      exact ⟨w, by simp [e, hw], k5 q⟩
  · obtain ⟨q1, b, q2, q3⟩ := h2 y ys hy
    refine ⟨q1, b, q2, ?_⟩
    have e : y ≠ x := by rintro rfl; rw [show (f.set y a).μ = f.μ from rfl, hu] at hy; cases hy
    simp [e, q3]
  · have e : y ≠ x := by rintro rfl; rw [hx] at hy; rcases hy with hy | hy <;> cases hy
    obtain ⟨c, w, hc, hi, q⟩ := F.cl y b hy (by simpa [AF.set, e] using hr)
    exact ⟨c, w, hc, hi.sameBut hs' (ns_ne_cell hm hi), k5 q⟩
  · obtain ⟨w, hi⟩ := F.allc y c hy
    exact ⟨w, hi.sameBut hs' (ns_ne_cell hm hi)⟩
  · obtain ⟨b, vs, k, hb, hg, q⟩ := F.mu y ys hy
    exact ⟨b, vs, k, hb, (hs'.2 b (ns_ne hm hg)).trans hg, k6 q⟩

/-- a captured name is stored -/
theorem FSat.storeC (F : FSat X sc env Pr sp S f as s) {x : Str} {a : AV} {v : Value} (hx : sc.names.lookup x = some .cell) (hu : f.μ.lookup x = none) (r : Rep s.heap (Lk env S as) a v) {A : Around} {E : Value → Shared → Prop} {Q : Unit → Shared → Prop}
    (h : ∀ s', FSat X sc env Pr sp S (f.set x a) as s' → Q () s') : wpAny X.M A (storeName env x v) Q E s := by
  obtain ⟨m, hm, h1, h2⟩ := F.nsl
  obtain ⟨c, hc⟩ := F.cells x hx
  obtain ⟨v₀, hi⟩ := F.allc x c (mem_lookup hc)
  have hoc : Own env as c := .inr (.inr ⟨x, mem_lookup hc⟩)
  refine wpAny_storeName_cell (by rw [F.eo.scope]; exact F.eo.kind) (by unfold Env.kindOf; rw [F.eo.scope]; exact hx) hc hi fun h' hc' hs' => h _ ?_
  obtain ⟨k1, k2, k3, k4, k5, k6⟩ := F.kept (tk := s.toks) hoc hs' (by obtain ⟨o, ho, _⟩ := hc'; rw [ho]; rfl)
  have hother : ∀ y c', env.cells.lookup y = some c' → y ≠ x → c' ≠ c := fun y c' hy hne e => hne (name_of_addr F.cdist (mem_lookup hy) (e ▸ mem_lookup hc))
  refine ⟨F.eo, k1, F.pr, k2, F.os, F.gens, F.gsize, F.bare, k3, F.apart, k4, ⟨m, hm.sameBut hs' (Ne.symm (ns_ne_cell hm hi)), fun y b hy hr hl => ?_, h2⟩, fun y b hy hr => ?_, F.cells, fun y c₂ hy => ?_, F.cdist, fun y ys hy => ?_, F.dist, F.am⟩
  · have e : y ≠ x := by rintro rfl; rw [hx] at hy; cases hy
    obtain ⟨w, hw, q⟩ := h1 y b hy (by simpa [AF.set, e] using hr) hl
    exact ⟨w, hw, k5 q⟩
  · by_cases e : y = x
    · subst e
      have : b = a := by simpa [AF.set] using hr.symm
      subst this
      exact ⟨c, v, hc, hc', k5 r⟩
    · obtain ⟨c', w, hc2, hi', q⟩ := F.cl y b hy (by simpa [AF.set, e] using hr)
      exact ⟨c', w, hc2, hi'.sameBut hs' (hother y c' hc2 e), k5 q⟩
  · by_cases e : c₂ = c
    · rw [e]; exact ⟨_, hc'⟩
    · obtain ⟨w, hi'⟩ := F.allc y c₂ hy
      exact ⟨w, hi'.sameBut hs' e⟩
  · obtain ⟨b, vs, k, hb, hg, q⟩ := F.mu y ys hy
    exact ⟨b, vs, k, hb, (hs'.2 b (cell_ne hi hg)).trans hg, k6 q⟩

theorem lookup_put {μ : List (Str × List AV)} {x : Str} {xs : List AV} : ∀ y, (μ.map fun p => if p.1 = x then (x, xs) else p).lookup y = if y = x then (μ.lookup x).map fun _ => xs else μ.lookup y := by
  induction μ with
  | nil => intro y; simp
  | cons p μ ih =>
    intro y
    obtain ⟨z, zs⟩ := p
    simp only [List.map_cons]
    by_cases hz : z = x
    · subst hz
      simp only [if_true, List.lookup_cons]
      by_cases hy : y = z
      · subst hy; simp
      · have : (y == z) = false := by simpa using hy
        simp only [this, ih y, if_neg hy]
    · simp only [if_neg hz, List.lookup_cons]
      have hxz : (x == z) = false := by simpa using (Ne.symm hz)
      by_cases hy : y = z
      · subst hy; simp [hz]
      · have : (y == z) = false := by simpa using hy
        simp only [this, ih y, hxz]

/-- the frame's own list has been changed -/
theorem FSat.changed (F : FSat X sc env Pr sp S f as s) {x : Str} {xs ys : List AV} {a : Addr} {vs : List Value} {k : Nat} (hx : f.μ.lookup x = some xs) (ha : as.lookup x = some a) {h' : Heap} {tk : Nat} (hs' : Heap.SameBut a s.heap h')
    (hg' : h'.get? a = some (lobj vs k)) (r : RepL s.heap (Lk env S as) ys vs) : FSat X sc env Pr sp S (f.put x ys) as { s with heap := h', toks := tk } := by
  obtain ⟨m, hm, h1, h2⟩ := F.nsl
  have hoa : Own env as a := .inr (.inl ⟨x, mem_lookup ha⟩)
  obtain ⟨a', us, k', ha', hg, _⟩ := F.mu x xs hx
  rw [ha] at ha'; cases ha'
  obtain ⟨k1, k2, k3, k4, k5, k6⟩ := F.kept (tk := s.toks) hoa hs' (by rw [hg']; rfl)
  have hu : ∀ y, (f.put x ys).μ.lookup y = if y = x then some ys else f.μ.lookup y := fun y => by
    show (f.μ.map fun p => if p.1 = x then (x, ys) else p).lookup y = _
    rw [lookup_put, hx]; rfl
  refine ⟨F.eo, k1, F.pr, k2, F.os, F.gens, F.gsize, F.bare, k3, F.apart, k4, ⟨m, hm.sameBut hs' (Ne.symm (ns_ne hm hg)), fun y b hy hr hl => ?_, fun y zs hy => ?_⟩, fun y b hy hr => ?_, F.cells, fun y c hy => ?_, F.cdist, fun y zs hy => ?_, F.dist, ?_⟩
  · rw [hu] at hl
    by_cases e : y = x
    · subst e; rw [if_pos rfl] at hl; cases hl
    · rw [if_neg e] at hl
      obtain ⟨w, hw, q⟩ := h1 y b hy hr hl
      exact ⟨w, hw, k5 q⟩
  · rw [hu] at hy
    by_cases e : y = x
    · subst e
      obtain ⟨q1, b, q2, q3⟩ := h2 y xs hx
      exact ⟨q1, b, q2, q3⟩
    · rw [if_neg e] at hy; exact h2 y zs hy
  · obtain ⟨c, w, hc, hi, q⟩ := F.cl y b hy hr
    exact ⟨c, w, hc, hi.sameBut hs' (Ne.symm (cell_ne hi hg)), k5 q⟩
  · obtain ⟨w, hi⟩ := F.allc y c hy
    exact ⟨w, hi.sameBut hs' (Ne.symm (cell_ne hi hg))⟩
  · rw [hu] at hy
    by_cases e : y = x
    · subst e
      rw [if_pos rfl] at hy; cases hy
      exact ⟨a, vs, k, ha, hg', k6 r⟩
    · rw [if_neg e] at hy
      obtain ⟨b, us, k', hb, hgb, q⟩ := F.mu y zs hy
      have hne : b ≠ a := fun h => e (name_of_addr F.dist (mem_lookup hb) (h ▸ mem_lookup ha))
      exact ⟨b, us, k', hb, (hs'.2 b hne).trans hgb, k6 q⟩
  · rw [F.am]
    show _ = (f.μ.map fun p => if p.1 = x then (x, ys) else p).map (·.1)
    rw [List.map_map]
    refine List.map_congr_left fun p _ => ?_
    show p.1 = (if p.1 = x then (x, ys) else p).1
    split
    · rename_i e; exact e
    · rfl
end
end Mine
namespace Mine
open PySem PySem.Calls PyProof.Rows

section
variable {X : Cx} {sc : Scope} {n : Nat} {env : Env} {Pr : Addr → Prop} {sp : Shared} {S S' : Addr → Prop} {f : AF} {as : List (Str × Addr)} {s s' : Shared}

theorem FSat.pre (F : FSat X sc env Pr sp S f as s) {A : Around} (ok : Ok A n) : Pre X sc f.env n env S A s where
  eo := F.eo
  ok := ok
  base := F.base
  bound := F.live
  rd := by
    obtain ⟨m, hm, h1, h2⟩ := F.nsl
    refine ⟨⟨m, hm, fun x a hx hr => ?_⟩, fun x a hx hr => ?_⟩
    · rw [F.eo.scope] at hx
      unfold AF.env at hr
      cases e : f.μ.lookup x with
      | none =>
        rw [e] at hr
        obtain ⟨v, hv, q⟩ := h1 x a hx hr e
        exact ⟨v, hv, q.sub fun b hb => .inl hb⟩
      | some xs =>
        rw [e] at hr
        cases hr
        obtain ⟨_, b, hb, hmx⟩ := h2 x xs e
        obtain ⟨b', vs, k, hb', hg, q⟩ := F.mu x xs e
        rw [hb] at hb'; cases hb'
        refine ⟨_, hmx, ?_⟩
        simp only [Rep]
        exact ⟨b, vs, k, rfl, (F.apart b (.inr (.inl ⟨x, mem_lookup hb⟩))).2.2, hg, q.sub fun b hb => .inl hb⟩
    · rw [F.eo.scope] at hx
      unfold AF.env at hr
      cases e : f.μ.lookup x with
      | none =>
        rw [e] at hr
        obtain ⟨c, v, hc, hi, q⟩ := F.cl x a hx hr
        exact ⟨c, v, hc, hi, q.sub fun b hb => .inl hb⟩
      | some xs =>
        obtain ⟨q1, _⟩ := h2 x xs e
        rw [q1] at hx; rcases hx with hx | hx <;> cases hx

theorem FSat.adopt (F : FSat X sc env Pr sp S' f as s) (hS : ∀ b, S b → S' b) {a : Addr} (ha : S' a) (hna : ¬ S a) (hpa : ¬ Pr a) (hba : X.hb.get? a = none) {vs : List Value} {k : Nat} (hg : s.heap.get? a = some (lobj vs k)) {xs : List AV} (r : RepL s.heap (Lk env S' as) xs vs)
    {x : Str} (hx : sc.names.lookup x = some .local) {A : Around} {E : Value → Shared → Prop} {Q : Unit → Shared → Prop} (h : ∀ s', FSat X sc env Pr sp S (f.own x xs) ((x, a) :: as) s' → Keep s.heap s'.heap ∨ (∀ b, b ≠ env.locals → s'.heap.get? b = s.heap.get? b) → Q () s') :
    wpAny X.M A (storeName env x (.ref a)) Q E s := by
  obtain ⟨m, hm, h1, h2⟩ := F.nsl
  refine wpAny_storeName_local (by unfold Env.kindOf; rw [F.eo.scope]; exact hx) hm (fun h' hn' hs' => h _ ?_ (.inr hs'.2)) (by rw [F.eo.scope, F.eo.kind]; rfl)
  obtain ⟨k1, k2, k3, k4, k5, k6⟩ := F.kept (tk := s.toks + 1) (.inl rfl) hs' (Heap.Ns.alive hn')
  have lk : ∀ b, Lk env S ((x, a) :: as) b → Lk env S' as b := fun b hb => by
    rcases hb with hb | hb | ⟨y, hy⟩ | hb
    · exact .inl (hS b hb)
    · exact .inr (.inl hb)
    · rcases List.mem_cons.mp hy with e | hy
      · cases e; exact .inl ha
      · exact .inr (.inr (.inl ⟨y, hy⟩))
    · exact .inr (.inr (.inr hb))
  have hag : h'.get? a = some (lobj vs k) := (hs'.2 a (ns_ne hm hg)).trans hg
  have nas : ∀ y b, (y, b) ∈ as → b ≠ a := fun y b hy e => (F.apart b (.inr (.inl ⟨y, hy⟩))).2.2 (e ▸ ha)
  refine ⟨F.eo, k1, F.pr, k2, F.os, F.gens, F.gsize, F.bare, fun b hb => k3 b (hS b hb), fun b hb => ?_, fun b hb => ?_, ⟨_, hn', fun y b hy hr hl => ?_, fun y ys hy => ?_⟩, fun y b hy hr => ?_, F.cells, fun y c hy => ?_, F.cdist, fun y ys hy => ?_, ?_, by simp [AF.own, F.am]⟩
  · rcases hb with hb | ⟨y, hy⟩ | hb
    · have := F.apart b (.inl hb); exact ⟨this.1, this.2.1, fun h => this.2.2 (hS b h)⟩
    · rcases List.mem_cons.mp hy with e | hy
      · cases e; exact ⟨hpa, hba, hna⟩
      · have := F.apart b (.inr (.inl ⟨y, hy⟩)); exact ⟨this.1, this.2.1, fun h => this.2.2 (hS b h)⟩
    · have := F.apart b (.inr (.inr hb)); exact ⟨this.1, this.2.1, fun h => this.2.2 (hS b h)⟩
  · rcases hb with hb | ⟨y, hy⟩ | hb
    · exact k4 b (.inl hb)
    · rcases List.mem_cons.mp hy with e | hy
      · cases e; rw [hag]; rfl
      · exact k4 b (.inr (.inl ⟨y, hy⟩))
    · exact k4 b (.inr (.inr hb))
  · have e : y ≠ x := by rintro rfl; simp [AF.own] at hl
    have hl' : f.μ.lookup y = none := by
      have : (y == x) = false := by simpa using e
      simpa [AF.own, List.lookup_cons, this] using hl
    obtain ⟨w, hw, q⟩ := h1 y b hy hr hl'
    exact ⟨w, by simp [e, hw], (k5 q).sub lk⟩
  · by_cases e : y = x
    · subst e
      exact ⟨hx, a, by simp, by simp⟩
    · have e' : (y == x) = false := by simpa using e
      obtain ⟨q1, b, q2, q3⟩ := h2 y ys (by simpa [AF.own, List.lookup_cons, e'] using hy)
      exact ⟨q1, b, by simp [List.lookup_cons, e', q2], by simp [e, q3]⟩
  · obtain ⟨c, w, hc, hi, q⟩ := F.cl y b hy hr
    exact ⟨c, w, hc, hi.sameBut hs' (ns_ne_cell hm hi), (k5 q).sub lk⟩
  · obtain ⟨w, hi⟩ := F.allc y c hy
    exact ⟨w, hi.sameBut hs' (ns_ne_cell hm hi)⟩
  · by_cases e : y = x
    · subst e
      have : ys = xs := by simpa [AF.own] using hy.symm
      subst this
      exact ⟨a, vs, k, by simp, hag, (k6 r).sub lk⟩
    · have e' : (y == x) = false := by simpa using e
      obtain ⟨b, us, k', hb, hgb, q⟩ := F.mu y ys (by simpa [AF.own, List.lookup_cons, e'] using hy)
      exact ⟨b, us, k', by simp [List.lookup_cons, e', hb], (hs'.2 b (ns_ne hm hgb)).trans hgb, (k6 q).sub lk⟩
  · exact List.Pairwise.cons (fun p hp => Ne.symm (nas p.1 p.2 hp)) F.dist
end

/-- how a row of statements ends -/
inductive Fl where
  | next | brk | cont
  | ret (a : AV)
def FlowIs (S : Addr → Prop) (s : Shared) : Fl → Flow → Prop
  | .next, g => g = .next
  | .brk, g => g = .brk
  | .cont, g => g = .cont
  | .ret a, g => ∃ v, g = .ret v ∧ Rep s.heap S a v

def Ex (X : Cx) (sc : Scope) (n : Nat) (f : AF) (ss : List Stmt) (P : Fl → AF → Prop) : Prop :=
  ∀ env Pr sp S A s E Q, Ok A n → FS X sc env Pr sp S f s → (∀ fl f' s' g, P fl f' → FS X sc env Pr sp S f' s' → FlowIs S s' fl g → Q g s') → wpAny X.M A (execs ss env) Q E s
def Ex1 (X : Cx) (sc : Scope) (n : Nat) (f : AF) (st : Stmt) (P : Fl → AF → Prop) : Prop :=
  ∀ env Pr sp S A s E Q, Ok A n → FS X sc env Pr sp S f s → (∀ fl f' s' g, P fl f' → FS X sc env Pr sp S f' s' → FlowIs S s' fl g → Q g s') → wpAny X.M A (exec st env) Q E s

section
variable {X : Cx} {sc : Scope} {n : Nat} {f : AF} {P : Fl → AF → Prop}

theorem Ex.nil (h : P .next f) : Ex X sc n f [] P := fun env Pr sp S A s E Q ok F k => wpAny_execs_nil (k .next f s .next h F rfl)
theorem Ex.cons {st : Stmt} {ss : List Stmt} (h : Ex1 X sc n f st fun fl f' => match fl with | .next => Ex X sc n f' ss P | fl => P fl f') : Ex X sc n f (st :: ss) P := fun env Pr sp S A s E Q ok F k =>
  wpAny_execs_cons (h env Pr sp S A s E _ ok F fun fl f' s' g hp F' hf => by
    cases fl with
    | next => simp only [FlowIs] at hf; subst hf; exact hp env Pr sp S A s' E Q ok F' k
    | brk => simp only [FlowIs] at hf; subst hf; exact k .brk f' s' .brk hp F' rfl
    | cont => simp only [FlowIs] at hf; subst hf; exact k .cont f' s' .cont hp F' rfl
    | ret a => obtain ⟨v, rfl, r⟩ := hf; exact k (.ret a) f' s' (.ret v) hp F' ⟨v, rfl, r⟩)
theorem Ex.mono {ss : List Stmt} {P' : Fl → AF → Prop} (h : Ex X sc n f ss P) (hp : ∀ fl f', P fl f' → P' fl f') : Ex X sc n f ss P' := fun env Pr sp S A s E Q ok F k =>
  h env Pr sp S A s E Q ok F fun fl f' s' g q => k fl f' s' g (hp _ _ q)
theorem Ex1.ret {e : Expr} {pos : Pos} {a : AV} (h : Ev X sc f.env n e a) (hp : P (.ret a) f) : Ex1 X sc n f (.Return (some e) pos) P := fun env Pr sp S A s E Q ok F k => by
  obtain ⟨as, F⟩ := F
  exact wpAny_Return_some (h env S A s E _ (F.pre ok) fun v s' g r => k (.ret a) f s' (.ret v) hp ⟨as, F.grow g⟩ ⟨v, rfl, r⟩)
theorem Ex1.brk {pos : Pos} (hp : P .brk f) : Ex1 X sc n f (.Break pos) P := fun env Pr sp S A s E Q ok F k => wpAny_Break (k .brk f s .brk hp F rfl)
theorem Ex1.if {t : Expr} {b o : List Stmt} {pos : Pos} {c : Bool} (ht : Tr X sc f.env n t c) (hb : c = true → Ex X sc n f b P) (ho : c = false → Ex X sc n f o P) : Ex1 X sc n f (.If t b o pos) P := fun env Pr sp S A s E Q ok F k => by
  obtain ⟨as, F⟩ := F
  refine wpAny_If (ht env S A s E _ (F.pre ok) fun s' g => ?_)
  cases c with
  | true => exact hb rfl env Pr sp S A s' E Q ok ⟨as, F.grow g⟩ k
  | false => exact ho rfl env Pr sp S A s' E Q ok ⟨as, F.grow g⟩ k
/-- what a name is given may lean on nothing that the frame changes -/
theorem rep_lock {env : Env} {S : Addr → Prop} {as : List (Str × Addr)} {Pr : Addr → Prop} {sp s : Shared} (F : FSat X sc env Pr sp S f as s) (hm : f.μ = []) {a : AV} {v : Value} (r : Rep s.heap S a v) : Rep s.heap (Lk env S as) a v := by
  have has : as = [] := by have := F.am; rw [hm] at this; simpa using this
  obtain ⟨m, ⟨o, es, ep, ho, hd, _⟩, _⟩ := F.nsl
  refine r.lock fun b vs k hb hg hl => ?_
  rcases hl with hl | rfl | ⟨x, hx⟩ | ⟨x, hx⟩
  · exact hb hl
  · rcases hg with hg | hg <;> rw [ho] at hg <;> cases hg <;> cases hd
  · rw [has] at hx; cases hx
  · obtain ⟨w, o', ho', hd'⟩ := F.allc x b hx
    rcases hg with hg | hg <;> rw [ho'] at hg <;> cases hg <;> cases hd'
theorem Ex1.assign {x : Str} {p' pos : Pos} {e : Expr} {a : AV} (h : Ev X sc f.env n e a) (hfl : flat a = true ∨ f.μ = []) (hx : sc.names.lookup x = some .local) (hu : f.μ.lookup x = none) (hsw : ∀ env, EnvOk sc env → swapsWith e (some (.Name x p')) pos.line env = pure false)
    (hp : P .next (f.set x a)) : Ex1 X sc n f (.Assign [.Name x p'] e pos) P := fun env Pr sp S A s E Q ok F k => by
  obtain ⟨as, F⟩ := F
  refine wpAny_Assign_Name (h env S A s E _ (F.pre ok) fun v s' g r => ?_) (hsw env F.eo)
  exact (F.grow g).store hx hu (hfl.elim (fun h => r.flat h) fun h => rep_lock (F.grow g) h r) fun s'' F'' => k .next _ s'' .next hp ⟨as, F''⟩ rfl
theorem Ex1.assignC {x : Str} {p' pos : Pos} {e : Expr} {a : AV} (h : Ev X sc f.env n e a) (hfl : flat a = true ∨ f.μ = []) (hx : sc.names.lookup x = some .cell) (hu : f.μ.lookup x = none) (hsw : ∀ env, EnvOk sc env → swapsWith e (some (.Name x p')) pos.line env = pure false)
    (hp : P .next (f.set x a)) : Ex1 X sc n f (.Assign [.Name x p'] e pos) P := fun env Pr sp S A s E Q ok F k => by
  obtain ⟨as, F⟩ := F
  refine wpAny_Assign_Name (h env S A s E _ (F.pre ok) fun v s' g r => ?_) (hsw env F.eo)
  exact (F.grow g).storeC hx hu (hfl.elim (fun h => r.flat h) fun h => rep_lock (F.grow g) h r) fun s'' F'' => k .next _ s'' .next hp ⟨as, F''⟩ rfl
theorem Ex1.while {t : Expr} {b o : List Stmt} {pos : Pos} (I : Nat → AF → Prop) (k₀ : Nat) (h₀ : I k₀ f)
    (turn : ∀ k f, I k f → ∃ c, Tr X sc f.env n t c ∧ (c = true → Ex X sc n f b fun fl f' => match fl with | .next => ∃ j, j < k ∧ I j f' | .cont => ∃ j, j < k ∧ I j f' | .brk => P .next f' | .ret a => P (.ret a) f') ∧ (c = false → Ex X sc n f o P)) :
    Ex1 X sc n f (.While t b o pos) P := fun env Pr sp S A s E Q ok F k => by
  refine wpAny_While (codeAny_whileLoop (fun j s => ∃ f, I j f ∧ FS X sc env Pr sp S f s) ?_ k₀ ⟨f, h₀, F⟩)
  rintro j s₁ ⟨f₁, hI, as, F₁⟩
  obtain ⟨c, ht, hb, ho⟩ := turn j f₁ hI
  refine ht env S A s₁ _ _ (F₁.pre ok) fun s₂ g₂ => ?_
  cases c with
  | true =>
    refine hb rfl env Pr sp S A s₂ _ _ ok ⟨as, F₁.grow g₂⟩ fun fl f' s' g hp F' hf => ?_
    cases fl with
    | next => simp only [FlowIs] at hf; subst hf; obtain ⟨i, hi, hI'⟩ := hp; exact ⟨i, hi, f', hI', F'⟩
    | cont => simp only [FlowIs] at hf; subst hf; obtain ⟨i, hi, hI'⟩ := hp; exact ⟨i, hi, f', hI', F'⟩
    | brk => simp only [FlowIs] at hf; subst hf; exact k .next f' s' .next hp F' rfl
    | ret a => obtain ⟨v, rfl, r⟩ := hf; exact k (.ret a) f' s' (.ret v) hp F' ⟨v, rfl, r⟩
  | false => exact ho rfl env Pr sp S A s₂ _ _ ok ⟨as, F₁.grow g₂⟩ k
end
end Mine
namespace Mine
open PySem PySem.Calls PyProof.Rows

/-- what a draw from an iterator does -/
structure Step (wr : Addr → Prop) (wg : Nat → Prop) (s s' : Shared) : Prop where
  keep : ∀ b o, ¬ wr b → s.heap.get? b = some o → s'.heap.get? b = some o
  os : s'.os = s.os
  gens : ∀ k, k < s.gens.size → ¬ wg k → s'.gens[k]? = s.gens[k]?
  gsize : s.gens.size ≤ s'.gens.size
  bare : AllBare s.gens → AllBare s'.gens

/-- an iterator over xs: h₂ the heap where it was made, S what is locked there -/
structure It (X : Cx) (A : Around) (S : Addr → Prop) (h₂ : Heap) (I : Addr) (wr : Addr → Prop) (wg : Nat → Prop) (xs : List AV) (St : Nat → Shared → Prop) : Prop where
  alive : ∀ i s b, St i s → wr b → (s.heap.get? b).isSome = true
  frame : ∀ i s s', St i s → (∀ b o, (h₂.get? b).isSome = true → ¬ S b → s.heap.get? b = some o → s'.heap.get? b = some o) → (∀ k, wg k → s'.gens[k]? = s.gens[k]?) → St i s'
  item : ∀ (O : Addr → Prop) i s Q E a, Keep X.hb s.heap → Live O s.heap → (∀ b, O b → (h₂.get? b).isSome = true → S b ∨ wr b) → xs[i]? = some a → St i s →
    (∀ v s', St (i + 1) s' → Step wr wg s s' → Rep s'.heap (fun b => wr b ∨ O b) a v → Q (some v) s') → wpAny X.M A (pyNext (.ref I)) Q E s
  done : ∀ s Q E, Keep X.hb s.heap → St xs.length s → (∀ s', Step wr wg s s' → Q none s') → wpAny X.M A (pyNext (.ref I)) Q E s
  self : ∀ i s Q E, St i s → Q (.ref I) s → wpAny X.M A (pyIter (.ref I)) Q E s
  gob : ∀ i s k, St i s → wg k → k < s.gens.size

def Iter (X : Cx) (sc : Scope) (ρ : Str → Option AV) (n : Nat) (e : Expr) (xs : List AV) : Prop :=
  ∀ env S A s E Q, Pre X sc ρ n env S A s → (∀ I s₂ wr wg St, Grow s s₂ → (∀ b, wr b → s.heap.get? b = none) → (∀ k, wg k → s.gens.size ≤ k) → It X A S s₂.heap I wr wg xs St → St 0 s₂ → Q (.ref I) s₂) →
    wpAny X.M A (eval e env) (fun v s₁ => wpAny X.M A (pyIter v) Q E s₁) E s

section
variable {X : Cx} {sc : Scope} {ρ : Str → Option AV} {n : Nat}

theorem Iter.list {e : Expr} {xs : List AV} (h : Ev X sc ρ n e (.list xs)) : Iter X sc ρ n e xs := fun env S A s E Q p k =>
  h env S A s E _ p fun v s₁ g₁ r₁ => by
    simp only [Rep] at r₁
    obtain ⟨l, vs, j, rfl, hl, hg, q⟩ := r₁
    have hls : s₁.heap.IsList l vs.toArray := ⟨_, hg, rfl, _, rfl⟩
    have hne : l ≠ s₁.heap.objs.size := Nat.ne_of_lt (Heap.lt_size hg)
    refine wpAny_pyIter_list hls ?_
    have g₂ : Grow s₁ { s₁ with heap := s₁.heap.push { cls := .type "list_iterator", data := .fields #[.ref l, .int 0 0] } } := .push _ _ s₁.toks
    have fr : s₁.heap.get? s₁.heap.objs.size = none := get?_size _
    let h₂ : Heap := s₁.heap.push { cls := .type "list_iterator", data := .fields #[.ref l, .int 0 0] }
    have q₂ : RepL h₂ (fun b => S b ∨ b = s₁.heap.objs.size) xs vs := (q.more (fun b => b = s₁.heap.objs.size) fun b hb => by rw [hb]; exact fr).keep g₂.keep
    refine k s₁.heap.objs.size _ (fun b => b = s₁.heap.objs.size) (fun _ => False)
      (fun i s => s.heap.IsListIter s₁.heap.objs.size l i ∧ s.heap.IsList l vs.toArray ∧ ∀ b o, ¬ (S b ∨ b = s₁.heap.objs.size) → h₂.get? b = some o → s.heap.get? b = some o) (g₁.trans g₂) (fun b hb => ?_) (fun _ h => h.elim) ?_
      ⟨⟨_, Heap.get?_push_size _ rfl, rfl, rfl⟩, hls.at fun o e => g₂.keep _ _ e, fun b o _ e => e⟩
    · rw [hb]
      cases e : s.heap.get? s₁.heap.objs.size with
      | none => rfl
      | some o => have := g₁.keep _ _ e; rw [fr] at this; cases this
    · have hW := fun A (hh : A.handled = none) => Walks.list (prog := X.prog) (w := X.w) (A := A) hh s₁.heap.objs.size l hne vs.toArray
      have hIS : ¬ S s₁.heap.objs.size := (p.grow g₁).bound.fresh fr
      refine ⟨fun i s b st hb => ?_, fun i s s' st hk _ => ?_, fun O i s Q E a hb hO hO' hx st hq => ?_, fun s Q E hb st hq => ?_, fun i s Q E st hq => wpAny_pyIter_listiter st.1 hq, fun _ _ _ _ h => h.elim⟩
      · obtain ⟨o, ho, _⟩ := st.1; rw [hb, ho]; rfl
      · refine ⟨st.1.at fun o e => hk _ _ ?_ hIS e, st.2.1.at fun o e => hk _ _ ?_ hl e, fun b o hb e => hk b o ?_ (fun h => hb (.inl h)) (st.2.2 b o hb e)⟩
        · show ((s₁.heap.push _).get? s₁.heap.objs.size).isSome = true
          rw [Heap.get?_push_size _ rfl]; rfl
        · show ((s₁.heap.push _).get? l).isSome = true
          rw [Heap.get?_push_of_some _ hg]; rfl
        · show (h₂.get? b).isSome = true
          rw [e]; rfl
      · have hlen : i < vs.toArray.size := by
          have := (List.getElem?_eq_some_iff.mp hx).1
          rw [← q.length] at this; simpa using this
        refine (hW A p.ok.handled).item i s _ _ hlen ⟨st.1, st.2.1⟩ fun v h' tk hP hst hk => ?_
        have hP' : vs[i]? = some v := by simpa using hP
        obtain ⟨v', hv', qv⟩ := q₂.get hx
        rw [hP'] at hv'; cases hv'
        have hk' : ∀ b o, ¬ (S b ∨ b = s₁.heap.objs.size) → s.heap.get? b = some o → h'.get? b = some o := fun b o hb e => hk b o (fun hm => hb (.inr (List.mem_singleton.mp hm))) e
        exact hq v _ ⟨hst.1, hst.2, fun b o hb e => hk' b o hb (st.2.2 b o hb e)⟩ ⟨fun b o hb e => hk b o (fun hm => hb (List.mem_singleton.mp hm)) e, rfl, fun _ _ _ => rfl, Nat.le_refl _, id⟩
          (qv.mono fun b o hb e => ⟨fun h => h.elim (fun h => hb (.inr h)) fun h => hb (hO' b h (show (h₂.get? b).isSome = true by rw [e]; rfl)), hk' b o hb (st.2.2 b o hb e)⟩)
      · have hlen : vs.toArray.size = xs.length := by simp [q.length]
        refine (hW A p.ok.handled).done s _ _ (by rw [hlen]; exact ⟨st.1, st.2.1⟩) fun h' tk hk => hq _ ⟨fun b o hb e => hk b o (fun hm => hb (List.mem_singleton.mp hm)) e, rfl, fun _ _ _ => rfl, Nat.le_refl _, id⟩

/-- the ints of a range -/
def rangeL (a b c : Int) : List Int := (List.range (Builtin.Range.rangeSize a b c).toNat).map fun (i : Nat) => a + (i : Int) * c
theorem rangeSize_nonneg (a b c : Int) : 0 ≤ Builtin.Range.rangeSize a b c := by
  unfold Builtin.Range.rangeSize
  split
  · rename_i hc
    split
    · have : 0 ≤ (b - a - 1) / c := Int.ediv_nonneg (by omega) (by omega)
      omega
    · omega
  · rename_i hc
    split
    · have : 0 ≤ (a - b - 1) / (-c) := Int.ediv_nonneg (by omega) (by omega)
      omega
    · omega
theorem iter_range {a b c : Int} (hsm : Builtin.Range.small a b c = true) {sc : Scope} {ρ : Str → Option AV} {env : Env} {S : Addr → Prop} {A : Around} {s s₁ : Shared} {E : Value → Shared → Prop} {Q : Value → Shared → Prop} (p : Pre X sc ρ n env S A s) (g₁ : Grow s s₁) {r : Addr} {t u v : Tok} (hr : IsRange s₁.heap r a b c t u v)
    (k : ∀ I s₂ wr wg St, Grow s s₂ → (∀ b, wr b → s.heap.get? b = none) → (∀ k, wg k → s.gens.size ≤ k) → It X A S s₂.heap I wr wg ((rangeL a b c).map .int) St → St 0 s₂ → Q (.ref I) s₂) : wpAny X.M A (pyIter (.ref r)) Q E s₁ := by
  refine wpAny_pyIter_range hr hsm ?_
  have hn := rangeSize_nonneg a b c
  obtain ⟨m, hm⟩ := Int.eq_ofNat_of_zero_le hn
  have g₂ : Grow s₁ { s₁ with heap := s₁.heap.push { cls := .type "range_iterator", data := .fields #[rawInt a, rawInt (Builtin.Range.rangeSize a b c), rawInt c] } } := .push _ _ s₁.toks
  have fr : s₁.heap.get? s₁.heap.objs.size = none := get?_size _
  have hlen : ((rangeL a b c).map PyData.int).length = m := by simp [rangeL, hm]
  refine k s₁.heap.objs.size _ (fun b => b = s₁.heap.objs.size) (fun _ => False) (fun i s => IsRangeIter s.heap s₁.heap.objs.size (a + (i : Nat) * c) ((m : Int) - (i : Nat)) c) (g₁.trans g₂) (fun b hb => ?_) (fun _ h => h.elim) ?_ ?_
  · rw [hb]
    cases e : s.heap.get? s₁.heap.objs.size with
    | none => rfl
    | some o => have := g₁.keep _ _ e; rw [fr] at this; cases this
  · have hW := fun A (hh : A.handled = none) => Walks.range (prog := X.prog) (w := X.w) (A := A) hh s₁.heap.objs.size a c m
    have hIS : ¬ S s₁.heap.objs.size := (p.grow g₁).bound.fresh fr
    refine ⟨fun i s b st hb => ?_, fun i s s' st hk _ => ?_, fun O i s Q E x hb hO hO' hx st hq => ?_, fun s Q E hb st hq => ?_, fun i s Q E st hq => wpAny_pyIter_rangeiter st hq, fun _ _ _ _ h => h.elim⟩
    · rw [hb, st]; rfl
    · refine hk _ _ ?_ hIS st
      show ((s₁.heap.push _).get? s₁.heap.objs.size).isSome = true
      rw [Heap.get?_push_size _ rfl]; rfl
    · have hi : i < m := by
        have := (List.getElem?_eq_some_iff.mp hx).1
        omega
      have hx' : x = .int (a + (i : Int) * c) := by
        have h1 := hx
        simp [rangeL, hm, hi] at h1
        exact h1.symm
      subst hx'
      refine (hW A p.ok.handled).item i s _ _ hi st fun v h' tk hP hst hk => ?_
      obtain ⟨t, rfl⟩ := hP
      exact hq _ _ hst ⟨fun b o hb e => hk b o (fun hm => hb (List.mem_singleton.mp hm)) e, rfl, fun _ _ _ => rfl, Nat.le_refl _, id⟩ (by simp [Rep])
    · rw [hlen] at st
      exact (hW A p.ok.handled).done s _ _ st fun h' tk hk => hq _ ⟨fun b o hb e => hk b o (fun hm => hb (List.mem_singleton.mp hm)) e, rfl, fun _ _ _ => rfl, Nat.le_refl _, id⟩
  · show (s₁.heap.push _).get? s₁.heap.objs.size = _
    rw [Heap.get?_push_size _ rfl, hm]
    simp
theorem Iter.range1 {x : Str} {np pos : Pos} {e : Expr} {b : Int} (hx : Builtin? X sc x (.type "range")) (ha : EvL X sc ρ n [e] [.int b]) (hsm : Builtin.Range.small 0 b 1 = true) (he : ∀ env, starEach [e] env = (false, eval e env) :: starEach [] env) :
    Iter X sc ρ n (.Call (.Name x np) [e] [] pos) ((rangeL 0 b 1).map .int) := fun env S A s E Q p k =>
  Call_ (hx.load p (PyProof.Rows.callWith_type1 (ha env pos S A s E _ p fun vs s₁ g₁ r₁ => by
    simp only [RepL, Rep] at r₁
    obtain ⟨v, ws, rfl, ⟨t, rfl⟩, rfl⟩ := r₁
    refine call_range_1 ?_
    exact iter_range hsm p (g₁.trans (.push _ _ _)) (IsRange.new _ _ _ _ _ _ _) k) (he env) rfl))
theorem Iter.range2 {x : Str} {np pos : Pos} {e e' : Expr} {a b : Int} (hx : Builtin? X sc x (.type "range")) (ha : EvL X sc ρ n [e, e'] [.int a, .int b]) (hsm : Builtin.Range.small a b 1 = true) (he : ∀ env, starEach [e, e'] env = (false, eval e env) :: starEach [e'] env)
    (hp : ∀ pos env, (backTo pos (starEach [e'] env)).any (·.1) = false) :
    Iter X sc ρ n (.Call (.Name x np) [e, e'] [] pos) ((rangeL a b 1).map .int) := fun env S A s E Q p k =>
  Call_ (hx.load p (PyProof.Rows.callWith_type1 (ha env pos S A s E _ p fun vs s₁ g₁ r₁ => by
    simp only [RepL, Rep] at r₁
    obtain ⟨v, ws, rfl, ⟨t, rfl⟩, v', ws', rfl, ⟨u, rfl⟩, rfl⟩ := r₁
    refine call_range_2 ?_
    exact iter_range hsm p (g₁.trans (.push _ _ _)) (IsRange.new _ _ _ _ _ _ _) k) (he env) (hp pos env)))
theorem Iter.range3 {x : Str} {np pos : Pos} {e e' e'' : Expr} {a b c : Int} (hx : Builtin? X sc x (.type "range")) (ha : EvL X sc ρ n [e, e', e''] [.int a, .int b, .int c]) (hc : c ≠ 0) (hpl : Builtin.divisionGoesByPylong (b - a) c = false) (hsm : Builtin.Range.small a b c = true) (he : ∀ env, starEach [e, e', e''] env = (false, eval e env) :: starEach [e', e''] env)
    (hp : ∀ pos env, (backTo pos (starEach [e', e''] env)).any (·.1) = false) :
    Iter X sc ρ n (.Call (.Name x np) [e, e', e''] [] pos) ((rangeL a b c).map .int) := fun env S A s E Q p k =>
  Call_ (hx.load p (PyProof.Rows.callWith_type1 (ha env pos S A s E _ p fun vs s₁ g₁ r₁ => by
    simp only [RepL, Rep] at r₁
    obtain ⟨v, ws, rfl, ⟨t, rfl⟩, v', ws', rfl, ⟨u, rfl⟩, v'', ws'', rfl, ⟨w, rfl⟩, rfl⟩ := r₁
    refine call_range_3 hc ?_ (.inl hpl)
    exact iter_range hsm p (g₁.trans (.push _ _ s₁.toks)) (IsRange.new _ _ _ _ _ _ _) k) (he env) (hp pos env)))
end
end Mine
namespace Mine
open PySem PySem.Calls PyProof.Rows

def AF.plain (f : AF) : Str → Option AV := fun x => match f.μ.lookup x with | some _ => none | none => f.ρ x

section
variable {X : Cx} {sc : Scope} {n : Nat} {env : Env} {Pr : Addr → Prop} {sp : Shared} {S S' : Addr → Prop} {f f' : AF} {as as' : List (Str × Addr)} {s s' : Shared}

/-- reading the plain names, all that the frame changes locked -/
theorem FSat.preL (F : FSat X sc env Pr sp S f as s) {A : Around} (ok : Ok A n) : Pre X sc f.plain n env (Lk env S as) A s where
  eo := F.eo
  ok := ok
  base := F.base
  bound := fun b hb => hb.elim (F.live b) (F.ol b)
  rd := by
    obtain ⟨m, hm, h1, h2⟩ := F.nsl
    refine ⟨⟨m, hm, fun x a hx hr => ?_⟩, fun x a hx hr => ?_⟩
    · rw [F.eo.scope] at hx
      unfold AF.plain at hr
      cases e : f.μ.lookup x with
      | none => rw [e] at hr; exact h1 x a hx hr e
      | some xs => rw [e] at hr; cases hr
    · rw [F.eo.scope] at hx
      unfold AF.plain at hr
      cases e : f.μ.lookup x with
      | none => rw [e] at hr; exact F.cl x a hx hr
      | some xs => rw [e] at hr; cases hr

/-- the same, told from here on -/
theorem FSat.reref (F : FSat X sc env Pr sp S f as s) : FSat X sc env (fun b => (s.heap.get? b).isSome = true ∧ ¬ Own env as b) s S f as s :=
  { F with pr := fun b hb => hb.1, keep := fun b o _ e => e, os := rfl, gens := fun _ _ => rfl, gsize := Nat.le_refl _, bare := id, apart := fun b hb => ⟨fun h => h.2 hb, (F.apart b hb).2⟩ }
/-- and back -/
theorem FSat.back (F : FSat X sc env Pr sp S f as s) (G : FSat X sc env (fun b => (s.heap.get? b).isSome = true ∧ ¬ Own env as b) s S' f' as' s') : FSat X sc env Pr sp S' f' as' s' := by
  have hp : ∀ b, Pr b → ((s.heap.get? b).isSome = true ∧ ¬ Own env as b) := fun b hb => by
    obtain ⟨o, e⟩ := Option.isSome_iff_exists.mp (F.pr b hb)
    exact ⟨by rw [F.keep b o hb e]; rfl, fun h => (F.apart b h).1 hb⟩
  exact { G with pr := F.pr, keep := fun b o hb e => G.keep b o (hp b hb) (F.keep b o hb e), os := G.os.trans F.os, gens := fun k hk => (G.gens k (Nat.lt_of_lt_of_le hk F.gsize)).trans (F.gens k hk), gsize := Nat.le_trans F.gsize G.gsize, bare := fun h => G.bare (F.bare h), apart := fun b hb => ⟨fun h => (G.apart b hb).1 (hp b h), (G.apart b hb).2⟩ }
theorem FSat.back' {Pr₂ : Addr → Prop} {sp₂ : Shared} (F : FSat X sc env Pr sp S f as s) (hp : ∀ b, Pr b → Pr₂ b) (hh : sp₂.heap = s.heap) (ho : sp₂.os = sp.os) (hg : sp₂.gens = sp.gens) (G : FSat X sc env Pr₂ sp₂ S' f' as' s') : FSat X sc env Pr sp S' f' as' s' :=
  { G with pr := F.pr, keep := fun b o hb e => G.keep b o (hp b hb) (by rw [hh]; exact F.keep b o hb e), os := G.os.trans ho, gens := fun k hk => by have := G.gens k (by rw [hg]; exact hk); rw [hg] at this; exact this, gsize := by have := G.gsize; rw [hg] at this; exact this, bare := fun h => G.bare (by rw [hg]; exact h), apart := fun b hb => ⟨fun h => (G.apart b hb).1 (hp b h), (G.apart b hb).2⟩ }
/-- fewer locks -/
theorem FSat.unlock (F : FSat X sc env Pr sp S' f as s) (hS : ∀ b, S b → S' b) : FSat X sc env Pr sp S f as s := by
  have lk : ∀ b, Lk env S as b → Lk env S' as b := fun b hb => hb.elim (fun h => .inl (hS b h)) .inr
  obtain ⟨m, hm, h1, h2⟩ := F.nsl
  exact { F with live := fun b hb => F.live b (hS b hb), apart := fun b hb => ⟨(F.apart b hb).1, (F.apart b hb).2.1, fun h => (F.apart b hb).2.2 (hS b h)⟩
                 nsl := ⟨m, hm, fun x a hx hr hu => let ⟨v, hv, q⟩ := h1 x a hx hr hu; ⟨v, hv, q.sub lk⟩, h2⟩
                 cl := fun x a hx hr => let ⟨c, v, hc, hi, q⟩ := F.cl x a hx hr; ⟨c, v, hc, hi, q.sub lk⟩
                 mu := fun x xs hx => let ⟨a, vs, k, ha, hg, q⟩ := F.mu x xs hx; ⟨a, vs, k, ha, hg, q.sub lk⟩ }
/-- a draw from an iterator whose own addresses are locked; it may make further ones -/
theorem FSat.step {wr wr' : Addr → Prop} {wg : Nat → Prop} (F : FSat X sc env Pr sp (fun b => S b ∨ wr b) f as s) (t : Step wr wg s s') (hn : ∀ b, wr' b → ¬ wr b → s.heap.get? b = none) (hb : ∀ b, wr b → ¬ Pr b ∧ X.hb.get? b = none ∧ ¬ S b) (hg : ∀ k, wg k → sp.gens.size ≤ k) (hl : ∀ b, wr' b → (s'.heap.get? b).isSome = true) :
    FSat X sc env Pr sp (fun b => S b ∨ wr' b) f as s' := by
  have nw : ∀ b, Own env as b → ¬ wr' b := fun b hb h => by
    by_cases hw : wr b
    · exact (F.apart b hb).2.2 (.inr hw)
    · have := F.ol b hb; rw [hn b h hw] at this; cases this
  have nwo : ∀ b, Own env as b → ¬ wr b := fun b hb h => (F.apart b hb).2.2 (.inr h)
  have al : ∀ b, ¬ wr b → (s.heap.get? b).isSome = true → (s'.heap.get? b).isSome = true := fun b h e => by
    obtain ⟨o, e⟩ := Option.isSome_iff_exists.mp e
    rw [t.keep b o h e]; rfl
  have lk : ∀ b o, ¬ Lk env (fun b => S b ∨ wr b) as b → s.heap.get? b = some o → ¬ Lk env (fun b => S b ∨ wr' b) as b ∧ s'.heap.get? b = some o := fun b o hs e => by
    refine ⟨fun h => hs ?_, t.keep b o (fun h => hs (.inl (.inr h))) e⟩
    rcases h with (h | h) | h
    · exact .inl (.inl h)
    · by_cases hw : wr b
      · exact .inl (.inr hw)
      · rw [hn b h hw] at e; cases e
    · exact .inr h
  obtain ⟨m, hm', h1, h2⟩ := F.nsl
  refine ⟨F.eo, fun b o e => ?_, F.pr, fun b o hp e => ?_, t.os.trans F.os, fun k hk => ?_, Nat.le_trans F.gsize t.gsize, fun h => t.bare (F.bare h), fun b h => ?_, fun b h => ⟨(F.apart b h).1, (F.apart b h).2.1, fun h' => h'.elim (fun h' => (F.apart b h).2.2 (.inl h')) (nw b h)⟩, fun b h => al b (nwo b h) (F.ol b h), ⟨m, hm'.at' fun o e => t.keep _ o (nwo _ (.inl rfl)) e, fun x a hx hr hu => ?_, h2⟩, fun x a hx hr => ?_, F.cells, fun x c hx => ?_, F.cdist, fun x xs hx => ?_, F.dist, F.am⟩
  · exact t.keep b o (fun h => by rw [(hb b h).2.1] at e; cases e) (F.base b o e)
  · exact t.keep b o (fun h => (hb b h).1 hp) (F.keep b o hp e)
  · exact (t.gens k (Nat.lt_of_lt_of_le hk F.gsize) fun h => Nat.lt_irrefl _ (Nat.lt_of_lt_of_le hk (hg k h))).trans (F.gens k hk)
  · rcases h with h | h
    · exact al b (fun hw => (hb b hw).2.2 h) (F.live b (.inl h))
    · exact hl b h
  · obtain ⟨v, hv, q⟩ := h1 x a hx hr hu; exact ⟨v, hv, q.mono lk⟩
  · obtain ⟨c, v, hc, hi, q⟩ := F.cl x a hx hr
    exact ⟨c, v, hc, (let ⟨o, ho, hd⟩ := hi; ⟨o, t.keep c o (nwo c (.inr (.inr ⟨x, mem_lookup hc⟩))) ho, hd⟩), q.mono lk⟩
  · obtain ⟨v, o, ho, hd⟩ := F.allc x c hx
    exact ⟨v, o, t.keep c o (nwo c (.inr (.inr ⟨x, hx⟩))) ho, hd⟩
  · obtain ⟨a, vs, k, ha, hg', q⟩ := F.mu x xs hx
    exact ⟨a, vs, k, ha, t.keep a _ (nwo a (.inr (.inl ⟨x, mem_lookup ha⟩))) hg', q.mono lk⟩
theorem FSat.dead' (F : FSat X sc env Pr sp S f as s) {a : Addr} (ha : s.heap.get? a = none) : ¬ S a ∧ ¬ Pr a ∧ X.hb.get? a = none ∧ ¬ Own env as a := by
  refine ⟨F.live.fresh ha, fun h => ?_, ?_, fun h => ?_⟩
  · obtain ⟨o, e⟩ := Option.isSome_iff_exists.mp (F.pr a h)
    have := F.keep a o h e; rw [ha] at this; cases this
  · cases e : X.hb.get? a with
    | none => rfl
    | some o => have := F.base a o e; rw [ha] at this; cases this
  · have := F.ol a h; rw [ha] at this; cases this
/-- the last draw: the iterator is let go -/
theorem FSat.last {wr : Addr → Prop} {wg : Nat → Prop} (F : FSat X sc env Pr sp (fun b => S b ∨ wr b) f as s) (t : Step wr wg s s') (hb : ∀ b, wr b → ¬ Pr b ∧ X.hb.get? b = none ∧ ¬ S b) (hg : ∀ k, wg k → sp.gens.size ≤ k) :
    FSat X sc env Pr sp S f as s' := by
  have nw : ∀ b, Own env as b → ¬ wr b := fun b hb h => (F.apart b hb).2.2 (.inr h)
  have al : ∀ b, ¬ wr b → (s.heap.get? b).isSome = true → (s'.heap.get? b).isSome = true := fun b h e => by
    obtain ⟨o, e⟩ := Option.isSome_iff_exists.mp e
    rw [t.keep b o h e]; rfl
  have up : ∀ {a : AV} {v : Value}, Rep s.heap (Lk env (fun b => S b ∨ wr b) as) a v → Rep s'.heap (Lk env S as) a v := fun r => r.mono fun b o hs e => ⟨fun h => hs (h.elim (fun h => .inl (.inl h)) .inr), t.keep b o (fun h => hs (.inl (.inr h))) e⟩
  have upL : ∀ {a : List AV} {v : List Value}, RepL s.heap (Lk env (fun b => S b ∨ wr b) as) a v → RepL s'.heap (Lk env S as) a v := fun r => r.mono fun b o hs e => ⟨fun h => hs (h.elim (fun h => .inl (.inl h)) .inr), t.keep b o (fun h => hs (.inl (.inr h))) e⟩
  obtain ⟨m, hm, h1, h2⟩ := F.nsl
  refine ⟨F.eo, fun b o e => ?_, F.pr, fun b o hp e => ?_, t.os.trans F.os, fun k hk => ?_, Nat.le_trans F.gsize t.gsize, fun h => t.bare (F.bare h), fun b h => ?_, fun b h => ⟨(F.apart b h).1, (F.apart b h).2.1, fun h' => (F.apart b h).2.2 (.inl h')⟩, fun b h => al b (nw b h) (F.ol b h), ⟨m, hm.at' fun o e => t.keep _ o (nw _ (.inl rfl)) e, fun x a hx hr hu => ?_, h2⟩, fun x a hx hr => ?_, F.cells, fun x c hx => ?_, F.cdist, fun x xs hx => ?_, F.dist, F.am⟩
  · exact t.keep b o (fun h => by rw [(hb b h).2.1] at e; cases e) (F.base b o e)
  · exact t.keep b o (fun h => (hb b h).1 hp) (F.keep b o hp e)
  · exact (t.gens k (Nat.lt_of_lt_of_le hk F.gsize) fun h => Nat.lt_irrefl _ (Nat.lt_of_lt_of_le hk (hg k h))).trans (F.gens k hk)
  · exact al b (fun hw => (hb b hw).2.2 h) (F.live b (.inl h))
  · obtain ⟨v, hv, q⟩ := h1 x a hx hr hu; exact ⟨v, hv, up q⟩
  · obtain ⟨c, v, hc, hi, q⟩ := F.cl x a hx hr
    exact ⟨c, v, hc, (let ⟨o, ho, hd⟩ := hi; ⟨o, t.keep c o (nw c (.inr (.inr ⟨x, mem_lookup hc⟩))) ho, hd⟩), up q⟩
  · obtain ⟨v, o, ho, hd⟩ := F.allc x c hx
    exact ⟨v, o, t.keep c o (nw c (.inr (.inr ⟨x, hx⟩))) ho, hd⟩
  · obtain ⟨a, vs, k, ha, hg', q⟩ := F.mu x xs hx
    exact ⟨a, vs, k, ha, t.keep a _ (nw a (.inr (.inl ⟨x, mem_lookup ha⟩))) hg', upL q⟩

theorem codeAny_for {prog : Program} {w : World} {A : Around} {R : Result → Shared → Prop} {s : Shared} {target it body orelse env} (I : Nat → Shared → Prop)
    (turn : ∀ n s, I n s → wpAny (model prog w) A (pyNext it) (fun r s₁ => match r with
      | none => wpAny (model prog w) A (execs orelse env) (fun f s₃ => R (.ok f) s₃) (notedBy (model prog w) A env fun e s' => R (.error e) s') s₁
      | some v => wpAny (model prog w) A (letOwnedTupleGo target it v) (fun _ s₂ => wpAny (model prog w) A (assign target env v) (fun _ s₂ => wpAny (model prog w) A (execs body env) (fun f s₃ => match f with
          | .next | .cont => ∃ m, m < n ∧ I m s₃
          | .brk => R (.ok .next) s₃
          | .ret v => R (.ok (.ret v)) s₃) (notedBy (model prog w) A env fun e s' => R (.error e) s') s₂) (notedBy (model prog w) A env fun e s' => R (.error e) s') s₂) (notedBy (model prog w) A env fun e s' => R (.error e) s') s₁) (notedBy (model prog w) A env fun e s' => R (.error e) s') s)
    (n : Nat) (h : I n s) : codeAny (model prog w) A (.forLoop target it body orelse env) R s := by
  refine codeAny_loop' rfl I (fun n s hI => ?_) n h
  show wpAny _ _ ((forTurn target it body orelse env).onRaise (fun x => do noteFrame x env; theTreesLotGoes x)) _ _ s
  refine wpAny_noted ?_
  simp only [forTurn]
  refine wpAny_bind (wpAny_standAt (wpAny_bind (wpAny_onRaise (wpAny_mono (turn n s hI) (fun r s₁ h₁ => ?_) fun _ _ h' => wpAny_standAt h'))))
  cases r with
  | none => exact wpAny_pure (.inr ⟨rfl, codeAny_block h₁⟩)
  | some v =>
    refine wpAny_bind (wpAny_mono h₁ (fun _ s₂ h₂ => ?_) fun _ _ h' => h')
    refine wpAny_bind (wpAny_mono h₂ (fun _ s₂ h₂ => wpAny_bind (wpAny_mono h₂ (fun f s₃ h₃ => ?_) fun _ _ h' => h')) fun _ _ h' => h')
    cases f with
    | next => exact wpAny_pure (.inl ⟨rfl, h₃⟩)
    | cont => exact wpAny_pure (.inl ⟨rfl, h₃⟩)
    | brk => exact wpAny_pure h₃
    | ret v => exact wpAny_pure h₃

/-- what becomes of the drawn datum: the targets take it -/
def Takes (X : Cx) (sc : Scope) (n : Nat) (target : Expr) (f : AF) (a : AV) (f' : AF) : Prop :=
  ∀ env Pr sp S as A s E Q v, Ok A n → FSat X sc env Pr sp S f as s → Rep s.heap (Lk env S as) a v → (∀ s' , FSat X sc env Pr sp S f' as s' → Q () s') → wpAny X.M A (assign target env v) Q E s
theorem Takes.name {x : Str} {px : Pos} {a : AV} (hx : sc.names.lookup x = some .local) (hu : f.μ.lookup x = none) : Takes X sc n (.Name x px) f a (f.set x a) := fun env Pr sp S as A s E Q v ok F r h =>
  wpAny_assign_Name (F.store hx hu r h)
end

/-- an iterator that may make further addresses of its own while it is drawn from: W₀ those at the start, W those by now -/
structure ItD (X : Cx) (A : Around) (S : Addr → Prop) (h₂ : Heap) (I : Addr) (W₀ : Addr → Prop) (wg : Nat → Prop) (xs : List AV) (St : Nat → (Addr → Prop) → Shared → Prop) : Prop where
  alive : ∀ i W s b, St i W s → W b → (s.heap.get? b).isSome = true
  frame : ∀ i W s s', St i W s → (∀ b o, ((h₂.get? b).isSome = true ∧ ¬ S b) ∨ W b → s.heap.get? b = some o → s'.heap.get? b = some o) → (∀ k, wg k → s'.gens[k]? = s.gens[k]?) → St i W s'
  item : ∀ (O : Addr → Prop) i W s Q E a, Keep X.hb s.heap → Live O s.heap → (∀ b, O b → ¬ W b) → (∀ b, O b → (h₂.get? b).isSome = true → S b ∨ W₀ b) → xs[i]? = some a → St i W s →
    (∀ W' v s', St (i + 1) W' s' → (∀ b, W₀ b → W' b) → Step W wg s s' → (∀ b, W' b → ¬ W b → s.heap.get? b = none) → Rep s'.heap (fun b => W' b ∨ O b) a v → Q (some v) s') → wpAny X.M A (pyNext (.ref I)) Q E s
  done : ∀ W s Q E, Keep X.hb s.heap → St xs.length W s → (∀ s', Step W wg s s' → Q none s') → wpAny X.M A (pyNext (.ref I)) Q E s
  gob : ∀ i W s k, St i W s → wg k → k < s.gens.size
theorem It.toD {X : Cx} {A : Around} {S : Addr → Prop} {h₂ : Heap} {I : Addr} {wr : Addr → Prop} {wg : Nat → Prop} {xs : List AV} {St : Nat → Shared → Prop} (it : It X A S h₂ I wr wg xs St) : ItD X A S h₂ I wr wg xs (fun i W s => (∀ b, W b ↔ wr b) ∧ St i s) where
  alive := fun i W s b st h => it.alive i s b st.2 ((st.1 b).mp h)
  frame := fun i W s s' st hk hg => ⟨st.1, it.frame i s s' st.2 (fun b o h1 h2 e => hk b o (.inl ⟨h1, h2⟩) e) hg⟩
  item := fun O i W s Q E a hb hO _ hO' hx st hq => by
    have e : W = wr := funext fun b => propext (st.1 b)
    subst e
    exact it.item O i s Q E a hb hO hO' hx st.2 fun v s' st' t r => hq W v s' ⟨fun _ => Iff.rfl, st'⟩ (fun b h => h) t (fun b h hn => absurd h hn) r
  done := fun W s Q E hb st hq => by
    have e : W = wr := funext fun b => propext (st.1 b)
    subst e
    exact it.done s Q E hb st.2 hq
  gob := fun i W s k st h => it.gob i s k st.2 h

/-- the iterator's tuples are not its own -/
def Goes (X : Cx) (A : Around) (target : Expr) (I : Addr) (St : Nat → (Addr → Prop) → Shared → Prop) : Prop := ∀ i W v s E Q, St i W s → Q () s → wpAny X.M A (letOwnedTupleGo target (.ref I) v) Q E s
/-- an iterable, and its tuples are not its own -/
def IterG (X : Cx) (sc : Scope) (ρ : Str → Option AV) (n : Nat) (target : Expr) (e : Expr) (xs : List AV) : Prop :=
  ∀ env S A s E Q, Pre X sc ρ n env S A s → (∀ I s₂ W₀ wg St, Grow s s₂ → (∀ b, W₀ b → s.heap.get? b = none) → (∀ k, wg k → s.gens.size ≤ k) → ItD X A S s₂.heap I W₀ wg xs St → Goes X A target I St → St 0 W₀ s₂ → Q (.ref I) s₂) →
    wpAny X.M A (eval e env) (fun v s₁ => wpAny X.M A (pyIter v) Q E s₁) E s
theorem Iter.name {X : Cx} {sc : Scope} {ρ : Str → Option AV} {n : Nat} {x : Str} {px : Pos} {e : Expr} {xs : List AV} (h : Iter X sc ρ n e xs) : IterG X sc ρ n (.Name x px) e xs := fun env S A s E Q p k =>
  h env S A s E Q p fun I s₂ wr wg St g h1 h2 it st => k I s₂ wr wg _ g h1 h2 it.toD (fun i W v s E Q _ h => wpAny_of_eq (a := ()) rfl h) ⟨fun _ => Iff.rfl, st⟩

section
variable {X : Cx} {sc : Scope} {n : Nat} {f : AF} {P : Fl → AF → Prop}
theorem Ex1.for {target iter : Expr} {body orelse : List Stmt} {pos : Pos} {xs : List AV} (hi : IterG X sc f.plain n target iter xs) (Inv : Nat → AF → Prop) (h0 : Inv 0 f)
    (turn : ∀ i f a, xs[i]? = some a → Inv i f → ∃ f', Takes X sc n target f a f' ∧ Ex X sc n f' body fun fl f' => match fl with | .next => Inv (i + 1) f' | .cont => Inv (i + 1) f' | .brk => P .next f' | .ret b => P (.ret b) f')
    (fin : ∀ f, Inv xs.length f → Ex X sc n f orelse P) (hs : ∀ env y, foldedSetIterable iter env y = pure y) : Ex1 X sc n f (.For target iter body orelse pos) P := fun env Pr sp S A s E Q ok F k => by
  obtain ⟨as₀, F⟩ := F
  refine wpAny_For (hi env (Lk env S as₀) A s E _ (F.preL ok) fun I s₂ W₀ wg St g hwr hwg it go st => ?_) (hs env)
  have hwa : ∀ b, W₀ b → (s₂.heap.get? b).isSome = true := fun b hb => it.alive 0 W₀ s₂ b st hb
  have F₂ : FSat X sc env Pr sp (fun b => S b ∨ W₀ b) f as₀ s₂ := F.lock g W₀ fun b hb => ⟨hwr b hb, hwa b hb⟩
  have hwb : ∀ b, W₀ b → ¬ Pr b ∧ X.hb.get? b = none ∧ ¬ S b := fun b hb => by
    have hn := hwr b hb
    refine ⟨fun h => ?_, ?_, F.live.fresh hn⟩
    · obtain ⟨o, e⟩ := Option.isSome_iff_exists.mp (F.pr b h)
      have := F.keep b o h e; rw [hn] at this; cases this
    · cases e : X.hb.get? b with
      | none => rfl
      | some o => have := F.base b o e; rw [hn] at this; cases this
  have hwg' : ∀ k, wg k → sp.gens.size ≤ k := fun k hk => Nat.le_trans F.gsize (hwg k hk)
  let Pr₂ : Addr → Prop := fun b => (s₂.heap.get? b).isSome = true ∧ ¬ Own env as₀ b ∧ ¬ W₀ b
  let sp₂ : Shared := { s₂ with gens := sp.gens }
  have G₂ : FSat X sc env Pr₂ sp₂ (fun b => S b ∨ W₀ b) f as₀ s₂ :=
    { F₂ with pr := fun b hb => hb.1, keep := fun b o _ e => e, os := rfl, apart := fun b hb => ⟨fun h => h.2.1 hb, (F₂.apart b hb).2⟩ }
  have hpp : ∀ b, Pr b → Pr₂ b := fun b hb => by
    obtain ⟨o, e⟩ := Option.isSome_iff_exists.mp (F₂.pr b hb)
    exact ⟨by rw [F₂.keep b o hb e]; rfl, fun h => (F₂.apart b h).1 hb, fun h => (hwb b h).1 hb⟩
  have home : ∀ {S' : Addr → Prop} {f' : AF} {as' : List (Str × Addr)} {s' : Shared}, FSat X sc env Pr₂ sp₂ S' f' as' s' → FSat X sc env Pr sp S' f' as' s' := fun G => F₂.back' (sp₂ := sp₂) hpp rfl F₂.os rfl G
  refine codeAny_for (fun k s => ∃ i f as W, k = xs.length + 1 - i ∧ i ≤ xs.length ∧ Inv i f ∧ FSat X sc env Pr₂ sp₂ (fun b => S b ∨ W b) f as s ∧ St i W s ∧ (∀ b, W b → ¬ Pr₂ b ∧ X.hb.get? b = none ∧ ¬ S b) ∧ ∀ b, W₀ b → W b) ?_ (xs.length + 1)
    ⟨0, f, as₀, W₀, rfl, Nat.zero_le _, h0, G₂, st, fun b hb => ⟨fun h => h.2.2 hb, (hwb b hb).2⟩, fun b hb => hb⟩
  rintro j s₃ ⟨i, f₃, as, W, rfl, hle, hI, G, st₃, hw₃, hw0⟩
  have own_pr : ∀ b, Own env as b → (s₂.heap.get? b).isSome = true → Lk env S as₀ b ∨ W₀ b := fun b hb hal => by
    by_cases h1 : Own env as₀ b
    · exact .inl (.inr h1)
    · by_cases h2 : W₀ b
      · exact .inr h2
      · exact absurd ⟨hal, h1, h2⟩ (G.apart b hb).1
  by_cases hlt : i < xs.length
  · obtain ⟨a, hxa⟩ : ∃ a, xs[i]? = some a := ⟨xs[i], by simp [hlt]⟩
    refine it.item (fun b => S b ∨ Own env as b) i W s₃ _ _ a G.base (fun b hb => hb.elim (fun h => G.live b (.inl h)) (G.ol b)) (fun b hb hw => hb.elim (hw₃ b hw).2.2 fun h => (G.apart b h).2.2 (.inr hw)) (fun b hb hal => hb.elim (fun h => .inl (.inl h)) fun h => own_pr b h hal) hxa st₃ fun W' v s₄ st₄ hmono t hnew r => ?_
    have G₄ : FSat X sc env Pr₂ sp₂ (fun b => S b ∨ W' b) f₃ as s₄ := G.step t hnew hw₃ hwg' fun b hb => it.alive (i + 1) W' s₄ b st₄ hb
    have hw₄ : ∀ b, W' b → ¬ Pr₂ b ∧ X.hb.get? b = none ∧ ¬ S b := fun b hb => by
      by_cases hw : W b
      · exact hw₃ b hw
      · obtain ⟨d1, d2, d3, _⟩ := FSat.dead' G (hnew b hb hw)
        exact ⟨d2, d3, fun h => d1 (.inl h)⟩
    have r' : Rep s₄.heap (Lk env (fun b => S b ∨ W' b) as) a v := r.sub fun b hb => by
      rcases hb with (hb | hb) | hb
      · exact .inr (.inl hb)
      · exact .inl hb
      · exact .inr (.inr hb)
    refine go (i + 1) W' v s₄ _ _ st₄ ?_
    obtain ⟨f', tk, hex⟩ := turn i f₃ a hxa hI
    refine tk env _ s₄ (fun b => S b ∨ W' b) as A s₄ _ _ v ok G₄.reref r' fun s₅ G₅ => ?_
    refine hex env _ s₄ (fun b => S b ∨ W' b) A s₅ _ _ ok ⟨as, G₅⟩ fun fl f'' s₆ g hp F₆ hf => ?_
    obtain ⟨as'', G₆⟩ := F₆
    have H := G₄.back G₆
    have st₆ : St (i + 1) W' s₆ := it.frame (i + 1) W' s₄ s₆ st₄ (fun b o hal e => by
      refine G₆.keep b o ⟨by rw [e]; rfl, fun hown => ?_⟩ e
      rcases hal with ⟨hal, hns⟩ | hal
      · rcases own_pr b hown hal with h | h
        · exact hns h
        · exact (G₄.apart b hown).2.2 (.inr (hmono b h))
      · exact (G₄.apart b hown).2.2 (.inr hal)) fun k hk => G₆.gens k (it.gob (i + 1) W' s₄ k st₄ hk)
    have U : ∀ b, S b → (fun b => S b ∨ W' b) b := fun b hb => .inl hb
    cases fl with
    | next => simp only [FlowIs] at hf; subst hf; exact ⟨xs.length + 1 - (i + 1), by omega, i + 1, f'', as'', W', rfl, hlt, hp, H, st₆, hw₄, fun b hb => hmono b hb⟩
    | cont => simp only [FlowIs] at hf; subst hf; exact ⟨xs.length + 1 - (i + 1), by omega, i + 1, f'', as'', W', rfl, hlt, hp, H, st₆, hw₄, fun b hb => hmono b hb⟩
    | brk => simp only [FlowIs] at hf; subst hf; exact k .next f'' s₆ .next hp ⟨as'', home (H.unlock U)⟩ rfl
    | ret b => obtain ⟨w, rfl, q⟩ := hf; exact k (.ret b) f'' s₆ (.ret w) hp ⟨as'', home (H.unlock U)⟩ ⟨w, rfl, q.sub U⟩
  · have hin : i = xs.length := by omega
    subst hin
    refine it.done W s₃ _ _ G.base st₃ fun s₄ t => ?_
    have H : FSat X sc env Pr sp S f₃ as s₄ := home (G.last t hw₃ hwg')
    exact fin f₃ hI env Pr sp S A s₄ _ _ ok ⟨as, H⟩ fun fl f' s' g hp F' hf => k fl f' s' g hp F' hf
end
end Mine
namespace Mine
open PySem PySem.Calls PyProof.Rows

def closL (env : Env) : List (Str × NameKind) → List (Str × Addr) → List (Str × Addr)
  | [], acc => acc
  | (y, k) :: r, acc => if k == .free then closL env r ((y, (env.cells.lookup y).getD 0) :: acc) else closL env r acc
theorem closL_lookup (env : Env) {y : Str} {c : Addr} (hc : env.cells.lookup y = some c) : ∀ (names : List (Str × NameKind)) (acc : List (Str × Addr)), (y, NameKind.free) ∈ names ∨ acc.lookup y = some c → (closL env names acc).lookup y = some c
  | [], acc, h => by simpa [closL] using h
  | (z, k) :: r, acc, h => by
    unfold closL
    by_cases hk : (k == .free) = true
    · rw [if_pos hk]
      refine closL_lookup env hc r _ ?_
      rw [List.lookup_cons]
      by_cases hz : (y == z) = true
      · have : y = z := by simpa using hz
        subst this
        right; simp [hc]
      · rcases h with h | h
        · rcases List.mem_cons.mp h with e | h
          · cases e; simp at hz
          · exact .inl h
        · right
          have hz' : (y == z) = false := by simpa using hz
          rw [hz']; exact h
    · rw [if_neg hk]
      refine closL_lookup env hc r _ (h.imp (fun h => ?_) id)
      rcases List.mem_cons.mp h with e | h
      · cases e; simp at hk
      · exact h
theorem closureFor_eq {scope : Scope} {env : Env} (h : ∀ y, (y, NameKind.free) ∈ scope.names → (env.cells.lookup y).isSome = true) : closureFor scope env = pure (closL env scope.names []) := by
  have key : ∀ (names : List (Str × NameKind)) (acc : List (Str × Addr)), (∀ y, (y, NameKind.free) ∈ names → (env.cells.lookup y).isSome = true) →
      (forIn names acc fun (x : Str × NameKind) (cs : List (Str × Addr)) => if (x.2 == NameKind.free) = true then (do let c ← cellOf env x.1; pure (ForInStep.yield ((x.1, c) :: cs))) else (pure (ForInStep.yield cs) : Sem (ForInStep (List (Str × Addr))))) = pure (closL env names acc) := by
    intro names
    induction names with
    | nil => intro acc _; rfl
    | cons p r ih =>
      intro acc hf
      obtain ⟨y, k⟩ := p
      rw [List.forIn_cons]
      by_cases hk : (k == NameKind.free) = true
      · have hk' : k = .free := by simpa using hk
        subst hk'
        obtain ⟨c, hc⟩ := Option.isSome_iff_exists.mp (hf y (List.mem_cons_self ..))
        have hco : cellOf env y = pure c := by unfold cellOf; rw [hc]
        simp only [beq_self_eq_true, if_true, hco, pure_bind]
        rw [ih _ fun z hz => hf z (List.mem_cons_of_mem _ hz)]
        simp [closL, hc]
      · simp only [hk, if_false, pure_bind, Bool.false_eq_true]
        rw [ih _ fun z hz => hf z (List.mem_cons_of_mem _ hz)]
        simp [closL, hk]
  unfold closureFor
  have := key scope.names [] h
  simp only [bind_pure]
  first
    | exact this
    | (refine Eq.trans ?_ this; congr 1)

theorem cf_other {x y : Str} (hy : y ≠ x) : ∀ (names : List (Str × NameKind)) (m : Nat) (acc : List (Str × Addr)), (∀ p ∈ names, p.2 = .cell → p.1 = x) → (cellsFrom m names acc).lookup y = acc.lookup y
  | [], m, acc, _ => rfl
  | (z, k) :: r, m, acc, h => by
    unfold cellsFrom
    by_cases hk : (k == .cell) = true
    · rw [if_pos hk, cf_other hy r (m + 1) _ fun p hp => h p (List.mem_cons_of_mem _ hp)]
      have hz : z = x := h (z, k) (List.mem_cons_self ..) (by simpa using hk)
      subst hz
      have : (y == z) = false := by simpa using hy
      rw [List.lookup_cons, this]
    · rw [if_neg hk]
      exact cf_other hy r m acc fun p hp => h p (List.mem_cons_of_mem _ hp)
theorem cf_own {x : Str} {lo : Nat} : ∀ (names : List (Str × NameKind)) (h : Heap) (acc : List (Str × Addr)), (∀ p ∈ names, p.2 = .cell → p.1 = x) → lo ≤ h.objs.size → ((x, NameKind.cell) ∈ names ∨ ∃ c, acc.lookup x = some c ∧ h.IsCell c none ∧ lo ≤ c) →
    ∃ c, (cellsFrom h.objs.size names acc).lookup x = some c ∧ (pushCells h names).IsCell c none ∧ lo ≤ c
  | [], h, acc, _, _, hm => by
    rcases hm with hm | hm
    · cases hm
    · exact hm
  | (z, k) :: r, h, acc, hn, hlo, hm => by
    unfold cellsFrom pushCells
    by_cases hk : (k == .cell) = true
    · rw [if_pos hk, if_pos hk]
      have hz : z = x := hn (z, k) (List.mem_cons_self ..) (by simpa using hk)
      subst hz
      have hsz : h.objs.size + 1 = (h.push { cls := .type "cell", data := .cell none }).objs.size := (Heap.size_push ..).symm
      rw [hsz]
      refine cf_own r (h.push { cls := .type "cell", data := .cell none }) _ (fun p hp => hn p (List.mem_cons_of_mem _ hp)) (by rw [Heap.size_push]; omega) (.inr ⟨h.objs.size, by simp, ⟨_, Heap.get?_push_size _ rfl, rfl⟩, hlo⟩)
    · rw [if_neg hk, if_neg hk]
      refine cf_own r h acc (fun p hp => hn p (List.mem_cons_of_mem _ hp)) hlo (hm.imp (fun hm => ?_) id)
      rcases List.mem_cons.mp hm with e | hm
      · cases e; simp at hk
      · exact hm
theorem cf_nocell : ∀ (names : List (Str × NameKind)) (h : Heap) (m : Nat) (acc : List (Str × Addr)), (∀ p ∈ names, p.2 ≠ .cell) → cellsFrom m names acc = acc ∧ pushCells h names = h
  | [], h, m, acc, _ => ⟨rfl, rfl⟩
  | (z, k) :: r, h, m, acc, hn => by
    unfold cellsFrom pushCells
    have hk : ¬ (k == .cell) = true := fun e => hn (z, k) (List.mem_cons_self ..) (by simpa using e)
    rw [if_neg hk, if_neg hk]
    exact cf_nocell r h m acc fun p hp => hn p (List.mem_cons_of_mem _ hp)

/-- a comprehension's own environment -/
def cEnv (scope : Scope) (cl : List (Str × Addr)) (C : Addr) (env : Env) : Env :=
  { scope := scope, locals := C, globals := env.globals, cells := cellsFrom (C + 1) scope.names cl, qual := env.qual, func := none, code := env.code, frame := env.frame, builtins := env.builtins }
theorem newEnv_comp {M : Model} {A : Around} {E : Value → Shared → Prop} {s : Shared} {scope : Scope} {cl : List (Str × Addr)} {env : Env} {Q : Env → Shared → Prop}
    (h : Q (cEnv scope cl s.heap.objs.size env) { s with heap := pushCells (s.heap.push { cls := .type "dict", data := .dict #[] }) scope.names }) :
    wpAny M A (newFunctionEnv scope env.globals cl [] env.qual none .none (some env)) Q E s := by
  simp only [newFunctionEnv, Option.isSome_some, if_true]
  refine wpAny_bind (wpAny_alloc ?_)
  refine wpAny_bind (wpAny_layCells _ (fun name kind cells => by cases hkc : kind == NameKind.cell <;> simp [hkc]) _ _ _ _ ?_)
  rw [show ({ s with heap := s.heap.push { cls := .type "dict", data := .dict #[] } } : Shared).heap.objs.size = s.heap.objs.size + 1 from Heap.size_push ..]
  refine wpAny_bind ?_
  rw [List.forIn_nil]
  exact wpAny_pure (wpAny_pure h)

/-- the names of a comprehension, seen from inside -/
def relab (sc scope : Scope) : Scope :=
  { scope with names := scope.names.map fun (n, k) => if (k == .free && sc.kind == .function && sc.names.lookup n == some .cell) then (n, .cell) else (n, k) }
def ρc (sc scope : Scope) (ρ : Str → Option AV) (x : Str) (a : AV) : Str → Option AV := fun y =>
  if y = x then some a else match scope.names.lookup y with | some .free => ρ y | _ => none

section
variable {X : Cx} {sc : Scope} {ρ : Str → Option AV} {n : Nat}
def TrL (X : Cx) (sc : Scope) (ρ : Str → Option AV) (n : Nat) (ifs : List Expr) (b : Bool) : Prop :=
  ∀ env S A s E Q, Pre X sc ρ n env S A s → (∀ s', Grow s s' → Q b s') → wpAny X.M A (forIn ifs true fun c r => if r = true then do let ok ← isTrue c env (eval c env); pure (ForInStep.yield ok) else pure (ForInStep.yield r)) Q E s
theorem TrL.nil : TrL X sc ρ n [] true := fun env S A s E Q p h => by rw [List.forIn_nil]; exact wpAny_pure (h s (.refl _))
theorem TrL.one {e : Expr} {b : Bool} (h1 : Tr X sc ρ n e b) : TrL X sc ρ n [e] b := fun env S A s E Q p h => by
  rw [List.forIn_cons]
  simp only [if_true]
  refine wpAny_bind (wpAny_bind (h1 env S A s E _ p fun s' g => wpAny_pure ?_))
  show wpAny X.M A (forIn [] b _) Q E s'
  rw [List.forIn_nil]
  exact wpAny_pure (h s' g)
end
end Mine
namespace Mine
open PySem PySem.Calls PyProof.Rows

theorem relab_free {sc scope : Scope} {y : Str} : ∀ {names : List (Str × NameKind)}, names.lookup y = some .free →
    (names.map fun (x : Str × NameKind) => match x with | (n, k) => if (k == NameKind.free && sc.kind == .function && sc.names.lookup n == some .cell) then (n, NameKind.cell) else (n, k)).lookup y = some .cell ∨
    (names.map fun (x : Str × NameKind) => match x with | (n, k) => if (k == NameKind.free && sc.kind == .function && sc.names.lookup n == some .cell) then (n, NameKind.cell) else (n, k)).lookup y = some .free
  | [], h => by simp at h
  | (z, k) :: r, h => by
    simp only [List.map_cons]
    cases hz : y == z with
    | true =>
      simp only [List.lookup_cons, hz] at h
      cases h
      split
      · left; simp [List.lookup_cons, hz]
      · right; simp [List.lookup_cons, hz]
    | false =>
      simp only [List.lookup_cons, hz] at h
      have ih := relab_free (sc := sc) (scope := scope) h
      split <;> simpa only [List.lookup_cons, hz] using ih
theorem relab_keep {sc scope : Scope} {y : Str} {k₀ : NameKind} (hk₀ : k₀ ≠ .free) : ∀ {names : List (Str × NameKind)}, names.lookup y = some k₀ →
    (names.map fun (x : Str × NameKind) => match x with | (n, k) => if (k == NameKind.free && sc.kind == .function && sc.names.lookup n == some .cell) then (n, NameKind.cell) else (n, k)).lookup y = some k₀
  | [], h => by simp at h
  | (z, k) :: r, h => by
    simp only [List.map_cons]
    cases hz : y == z with
    | true =>
      simp only [List.lookup_cons, hz] at h
      cases h
      have : (k₀ == NameKind.free) = false := by simpa using hk₀
      rw [this]
      simp only [Bool.false_and, Bool.false_eq_true, if_false, List.lookup_cons, hz]
    | false =>
      simp only [List.lookup_cons, hz] at h
      have ih := relab_keep (sc := sc) (scope := scope) hk₀ h
      split <;> simpa only [List.lookup_cons, hz] using ih

/-- what is asked of a comprehension's scope -/
structure CompOk (sc scope : Scope) (ρ : Str → Option AV) (x : Str) : Prop where
  kind : scope.kind = .function
  names : ∀ y ∈ scope.names, y.2 = .local → scope.names.lookup y.1 = some .local
  var : scope.names.lookup x = some .local ∨ scope.names.lookup x = some .cell
  cells : ∀ p ∈ scope.names, p.2 = .cell → p.1 = x
  free : ∀ y, (y, NameKind.free) ∈ scope.names → (sc.names.lookup y = some .cell ∨ sc.names.lookup y = some .free) ∧ (ρ y).isSome = true
  one : scope.names.lookup x = some .local → ∀ p ∈ scope.names, p.2 ≠ .cell

section
variable {X : Cx} {sc : Scope} {ρ : Str → Option AV} {n : Nat}
set_option maxHeartbeats 1000000 in
theorem comp_run {elt iter : Expr} {x : Str} {px pos pos' : Pos} {ifs : List Expr} {scope : Scope} {xs : List AV} (p : AV → Bool) (g : AV → AV) (hi : Iter X sc ρ n iter xs) (ho : CompOk sc scope ρ x)
    (ht : ∀ a ∈ xs, TrL X (relab sc scope) (ρc sc scope ρ x a) n ifs (p a)) (he : ∀ a ∈ xs, p a = true → Ev X (relab sc scope) (ρc sc scope ρ x a) n elt (g a)) (hsz : xs.length ≤ sizeLine) (hs : ∀ env y, foldedSetIterable iter env y = pure y)
    {use : Option (Value → Sem Unit)} {env : Env} {S : Addr → Prop} {A : Around} {s : Shared} {E : Value → Shared → Prop} {Q : Value → Shared → Prop} (P : Pre X sc ρ n env S A s)
    (hQ : ∀ D C s' m ys k, Grow s s' → s.heap.get? D = none → s.heap.get? C = none → D ≠ C → s'.heap.Ns C m → s'.heap.get? D = some (lobj ys k) → RepL s'.heap (fun b => S b ∨ b = C ∨ b = D) ((xs.filter p).map g) ys → compPost X.M A E use Q (.ref D) C (.ok .next) s') :
    wpAny X.M A (comprehension (.ListComp elt [⟨.Name x px, iter, ifs, 0⟩] scope pos) scope env pos' (newList []) false (eval iter env) use) Q E s := by
  have hcells : ∀ y, (y, NameKind.free) ∈ scope.names → (env.cells.lookup y).isSome = true := fun y hy => by
    obtain ⟨hk, hr⟩ := ho.free y hy
    obtain ⟨a, ha⟩ := Option.isSome_iff_exists.mp hr
    obtain ⟨c, v, hc, _⟩ := P.rd.cl y a (by rw [P.eo.scope]; exact hk) ha
    rw [hc]; rfl
  refine wpAny_comprehension_free (g := ⟨.Name x px, iter, ifs, 0⟩) (gs := []) rfl (hs env) (closureFor_eq hcells) ho.kind ho.names ?_
  refine hi env S A s E _ P fun I s₂ wr wg St g₂ hwr hwg it st => ?_
  refine wpAny_newObj_type (newEnv_comp ?_)
  have hrel : relabel scope env = relab sc scope := by unfold relabel relab Env.kindOf; rw [P.eo.scope]
  rw [hrel]
  dsimp only
  generalize hD : s₂.heap.objs.size = D
  generalize hh₃ : s₂.heap.push { cls := .type "list", dict := none, data := .seq ([] : List Value).toArray } = h₃
  have hC₀ : h₃.objs.size = D + 1 := by rw [← hh₃, ← hD]; exact Heap.size_push ..
  generalize hC : h₃.objs.size = C
  rw [hC] at hC₀
  generalize hh₄ : h₃.push { cls := .type "dict", data := .dict #[] } = h₄
  have hC4 : h₄.objs.size = C + 1 := by rw [← hh₄, ← hC]; exact Heap.size_push ..
  generalize hh₅ : pushCells h₄ scope.names = h₅
  generalize hcl : closL env scope.names [] = cl
  have k₃ : Keep s₂.heap h₃ := by rw [← hh₃]; exact .push _ _
  have k₄ : Keep h₃ h₄ := by rw [← hh₄]; exact .push _ _
  have k₄₅ : Keep h₄ h₅ := by rw [← hh₅]; exact fun b o e => pushCells_keeps _ _ b o e
  have k₅ : Keep s₂.heap h₅ := (k₃.trans k₄).trans k₄₅
  have hDl : h₅.get? D = some (lobj [] 0) := (k₄.trans k₄₅) _ _ (by rw [← hh₃, ← hD]; exact Heap.get?_push_size _ rfl)
  have hCn : h₅.Ns C fun _ => none := by
    have := Heap.Ns.new h₃ (.type "dict")
    rw [hC, hh₄] at this
    exact this.keeps k₄₅
  have deadD : s₂.heap.get? D = none := get?_ge (by rw [hD]; exact Nat.le_refl _)
  have deadC : s₂.heap.get? C = none := get?_ge (by rw [hD, hC₀]; exact Nat.le_succ _)
  have dead₀ : ∀ b, s₂.heap.get? b = none → s.heap.get? b = none := fun b hb => by
    cases e : s.heap.get? b with
    | none => rfl
    | some o => have := g₂.keep _ _ e; rw [hb] at this; cases this
  generalize hce : ({ cEnv scope cl C env with scope := relab sc scope } : Env) = cenv
  -- the variable's own cell, if it has one
  obtain ⟨cx, hcx0, hcx⟩ : ∃ cx : Addr, D < cx ∧ (scope.names.lookup x = some .cell → cenv.cells.lookup x = some cx ∧ h₅.IsCell cx none ∧ C + 1 ≤ cx) := by
    rcases ho.var with hv | hv
    · exact ⟨D + 1, Nat.lt_succ_self _, fun h => by rw [hv] at h; cases h⟩
    · obtain ⟨c, h1, h2, h3⟩ := cf_own (x := x) (lo := C + 1) scope.names h₄ cl ho.cells (by rw [hC4]; exact Nat.le_refl _) (.inl (mem_lookup hv))
      rw [hh₅] at h2
      refine ⟨c, by omega, fun _ => ⟨?_, h2, h3⟩⟩
      rw [← hce, ← h1, hC4]
      rfl
  have deadx : s₂.heap.get? cx = none := get?_ge (by rw [hD]; omega)
  have hloc : cenv.locals = C := by rw [← hce]; rfl
  have neCD : C ≠ D := by omega
  have nexD : cx ≠ D := Nat.ne_of_gt hcx0
  have nexC : scope.names.lookup x = some .cell → cx ≠ C := fun h => Nat.ne_of_gt (Nat.lt_of_succ_le (hcx h).2.2)
  have hsc : cenv.scope = relab sc scope := by rw [← hce]
  have hkk : (cenv.scope.kind == .class || (cenv.scope.kind == .module && cenv.locals != cenv.globals)) = false := by
    have : cenv.scope.kind = .function := by rw [hsc]; exact ho.kind
    rw [this]; rfl
  have heo : EnvOk (relab sc scope) cenv := ⟨hsc, ho.kind, by rw [← hce]; exact P.eo.globals, by rw [← hce]; exact P.eo.builtins⟩
  have hcell : ∀ y c, y ≠ x → (y, NameKind.free) ∈ scope.names → env.cells.lookup y = some c → cenv.cells.lookup y = some c := fun y c hy hf hc => by
    rw [← hce]
    show (cellsFrom (C + 1) scope.names cl).lookup y = some c
    rw [cf_other hy scope.names (C + 1) cl ho.cells, ← hcl]
    exact closL_lookup env hc scope.names [] (.inl hf)
  -- what is private to the comprehension
  let iscell : Prop := scope.names.lookup x = some .cell
  let T : Addr → Prop := fun b => b = D ∨ b = C ∨ wr b ∨ (scope.names.lookup x = some .cell ∧ b = cx)
  let U : Addr → Prop := fun b => S b ∨ T b
  have hTd : ∀ b, T b → s.heap.get? b = none := fun b hb => by
    rcases hb with rfl | rfl | hb | ⟨_, rfl⟩
    · exact dead₀ _ deadD
    · exact dead₀ _ deadC
    · exact hwr b hb
    · exact dead₀ _ deadx
  have hw2 : ∀ b, wr b → (s₂.heap.get? b).isSome = true := fun b hb => it.alive 0 s₂ b st hb
  have nwD : ¬ wr D := fun h => by have := hw2 D h; rw [deadD] at this; cases this
  have nwC : ¬ wr C := fun h => by have := hw2 C h; rw [deadC] at this; cases this
  have nwx : ¬ wr cx := fun h => by have := hw2 cx h; rw [deadx] at this; cases this
  -- the turn's state
  let J : Nat → Shared → Prop := fun i s' => Grow s s' ∧ (∃ m, s'.heap.Ns C m) ∧ (scope.names.lookup x = some .cell → ∃ v, s'.heap.IsCell cx v) ∧
    (∃ ys k, s'.heap.get? D = some (lobj ys k) ∧ RepL s'.heap U (((xs.take i).filter p).map g) ys) ∧ St i s' ∧ i ≤ xs.length
  have gs₅ : Grow s { s₂ with heap := h₅ } := ⟨g₂.keep.trans k₅, g₂.os, g₂.gens, g₂.gsize, g₂.bare⟩
  have start : J 0 { s₂ with heap := h₅ } := by
    refine ⟨gs₅, ⟨_, hCn⟩, fun h => ⟨_, (hcx h).2.1⟩, ⟨[], 0, hDl, ?_⟩, it.frame 0 s₂ _ st (fun b o _ _ e => k₅ b o e) fun _ _ => rfl, Nat.zero_le _⟩
    simpa using RepL.nil
  have frz : ∀ b, s₂.heap.get? b = none → (s₂.heap.get? b).isSome = true → False := fun b h1 h2 => by rw [h1] at h2; cases h2
  have liveU : ∀ {i s'}, J i s' → Live U s'.heap := fun {i s'} j b hb => by
    obtain ⟨gr, ⟨m, hm⟩, hx, ⟨ys, k, hy, _⟩, hst, _⟩ := j
    rcases hb with hb | rfl | rfl | hb | ⟨hv, rfl⟩
    · exact (P.grow gr).bound b hb
    · rw [hy]; rfl
    · exact Heap.Ns.alive hm
    · exact it.alive _ _ b hst hb
    · obtain ⟨v, o, ho, _⟩ := hx hv; rw [ho]; rfl
  have loop : ∀ s', J 0 s' → codeAny X.M A (.compLoop (.ListComp elt [⟨.Name x px, iter, ifs, 0⟩] scope pos) 0 (.ref I) (.ref D) cenv) (compPost X.M A E use Q (.ref D) C) s' := fun s' j₀ => by
    refine codeAny_compLoop_tests (fun k s' => ∃ i, k = xs.length + 1 - i ∧ J i s') ?_ (xs.length + 1) ⟨0, rfl, j₀⟩
    rintro k s₃ ⟨i, rfl, J₃⟩
    have L₃ := liveU J₃
    obtain ⟨gr₃, ⟨m₃, hm₃⟩, hx₃, ⟨ys, k₃', hy₃, r₃⟩, st₃, hle⟩ := J₃
    by_cases hlt : i < xs.length
    · obtain ⟨a, hxa⟩ : ∃ a, xs[i]? = some a := ⟨xs[i], by simp [hlt]⟩
      have hmem : a ∈ xs := List.mem_of_getElem? hxa
      refine it.item (fun b => S b ∨ b = D ∨ b = C ∨ (scope.names.lookup x = some .cell ∧ b = cx)) i s₃ _ _ a (P.grow gr₃).base (fun b hb => L₃ b ?_) (fun b hb hal => ?_) hxa st₃ fun v s₄ st₄ t r => ?_
      · rcases hb with hb | hb | hb | hb
        · exact .inl hb
        · exact .inr (.inl hb)
        · exact .inr (.inr (.inl hb))
        · exact .inr (.inr (.inr (.inr hb)))
      · rcases hb with hb | rfl | rfl | ⟨_, rfl⟩
        · exact .inl hb
        · exact (frz _ deadD hal).elim
        · exact (frz _ deadC hal).elim
        · exact (frz _ deadx hal).elim
      have gr₄ : Grow s s₄ := ⟨fun b o e => t.keep b o (fun h => by rw [hwr b h] at e; cases e) (gr₃.keep b o e), t.os.trans gr₃.os,
        fun k hk => (t.gens k (Nat.lt_of_lt_of_le hk gr₃.gsize) fun h => Nat.lt_irrefl _ (Nat.lt_of_lt_of_le hk (hwg k h))).trans (gr₃.gens k hk), Nat.le_trans gr₃.gsize t.gsize, fun h => t.bare (gr₃.bare h)⟩
      have rv : Rep s₄.heap U a v := r.sub fun b hb => by
        rcases hb with hb | hb | hb | hb | hb
        · exact .inr (.inl hb)
        · exact .inr (.inr (.inl hb))
        · exact .inr (.inr (.inr (.inl hb)))
        · exact .inl hb
        · exact .inr (.inr (.inr (.inr hb)))
      have hm₄ : s₄.heap.Ns C m₃ := hm₃.at' fun o e => t.keep _ o nwC e
      have hy₄ : s₄.heap.get? D = some (lobj ys k₃') := t.keep _ _ nwD hy₃
      have hx₄ : scope.names.lookup x = some .cell → ∃ v, s₄.heap.IsCell cx v := fun h => by
        obtain ⟨w, o, ho, hd⟩ := hx₃ h; exact ⟨w, o, t.keep _ _ nwx ho, hd⟩
      have r₄ : RepL s₄.heap U (((xs.take i).filter p).map g) ys := r₃.mono fun b o hb e => ⟨hb, t.keep b o (fun h => hb (.inr (.inr (.inr (.inl h))))) e⟩
      -- what is left to do once the variable is bound
      have rest : ∀ s₅ : Shared, Grow s s₅ → (∃ m, s₅.heap.Ns C m ∧ (scope.names.lookup x = some .local → m x = some v)) → (scope.names.lookup x = some .cell → s₅.heap.IsCell cx (some v)) → s₅.heap.get? D = some (lobj ys k₃') → RepL s₅.heap U (((xs.take i).filter p).map g) ys → Rep s₅.heap U a v → St (i + 1) s₅ →
          wpAny X.M A (forIn ifs true fun c r => if r = true then do let ok ← isTrue c cenv (eval c cenv); pure (ForInStep.yield ok) else pure (ForInStep.yield r)) (fun ok s₃ =>
            if ok = true then wpAny X.M A (eval elt cenv) (fun x s₄ => wpAny X.M A (call (.builtin "list.append") [.ref D, x]) (fun _ s₅ => ∃ m, m < xs.length + 1 - i ∧ ∃ i, m = xs.length + 1 - i ∧ J i s₅) (notedBy X.M A cenv fun e s' => compPost X.M A E use Q (.ref D) C (.error e) s') s₄) (notedBy X.M A cenv fun e s' => compPost X.M A E use Q (.ref D) C (.error e) s') s₃
            else ∃ m, m < xs.length + 1 - i ∧ ∃ i, m = xs.length + 1 - i ∧ J i s₃) (notedBy X.M A cenv fun e s' => compPost X.M A E use Q (.ref D) C (.error e) s') s₅ := by
        rintro s₅ gr₅ ⟨m₅, hm₅, hmx⟩ hx₅ hy₅ r₅ rv₅ st₅
        have Pc : Pre X (relab sc scope) (ρc sc scope ρ x a) n cenv U A s₅ := by
          refine ⟨heo, P.ok, (P.grow gr₅).base, fun b hb => ?_, ⟨⟨m₅, by rw [hloc]; exact hm₅, fun y b hy hr => ?_⟩, fun y b hy hr => ?_⟩⟩
          · rcases hb with hb | rfl | rfl | hb | ⟨hv, rfl⟩
            · exact (P.grow gr₅).bound b hb
            · rw [hy₅]; rfl
            · exact Heap.Ns.alive hm₅
            · exact it.alive _ _ b st₅ hb
            · obtain ⟨o, ho, _⟩ := hx₅ hv; rw [ho]; rfl
          · rw [hsc] at hy
            unfold ρc at hr
            by_cases e : y = x
            · subst e
              rw [if_pos rfl] at hr; cases hr
              rcases ho.var with hv | hv
              · exact ⟨v, hmx hv, rv₅⟩
              · have := relab_keep (sc := sc) (scope := scope) (by decide) hv
                rw [show (relab sc scope).names.lookup y = some .cell from this] at hy; cases hy
            · rw [if_neg e] at hr
              cases hf : scope.names.lookup y with
              | none => rw [hf] at hr; cases hr
              | some kk =>
                rw [hf] at hr
                cases kk with
                | free =>
                  rcases relab_free (sc := sc) (scope := scope) hf with h | h
                  · rw [show (relab sc scope).names.lookup y = some .cell from h] at hy; cases hy
                  · rw [show (relab sc scope).names.lookup y = some .free from h] at hy; cases hy
                | _ => cases hr
          · rw [hsc] at hy
            unfold ρc at hr
            by_cases e : y = x
            · subst e
              rw [if_pos rfl] at hr; cases hr
              rcases ho.var with hv | hv
              · have := relab_keep (sc := sc) (scope := scope) (by decide) hv
                rw [show (relab sc scope).names.lookup y = some .local from this] at hy
                rcases hy with hy | hy <;> cases hy
              · exact ⟨cx, v, (hcx hv).1, hx₅ hv, rv₅⟩
            · rw [if_neg e] at hr
              cases hf : scope.names.lookup y with
              | none => rw [hf] at hr; cases hr
              | some kk =>
                rw [hf] at hr
                cases kk with
                | free =>
                  have hmf := mem_lookup hf
                  obtain ⟨c, w, hc, hi', q⟩ := P.rd.cl y b (by rw [P.eo.scope]; exact (ho.free y hmf).1) hr
                  exact ⟨c, w, hcell y c e hmf hc, hi'.keeps gr₅.keep, (q.more T hTd).keep gr₅.keep⟩
                | _ => cases hr
        refine ht a hmem cenv U A s₅ _ _ Pc fun s₆ g₆ => ?_
        have st₆ : St (i + 1) s₆ := it.frame (i + 1) s₅ s₆ st₅ (fun b o _ _ e => g₆.keep b o e) fun k hk => g₆.gens k (it.gob _ _ k st₅ hk)
        have J₆ : p a = false → J (i + 1) s₆ := fun hpa => by
          refine ⟨gr₅.trans g₆, ⟨m₅, hm₅.keeps g₆.keep⟩, fun h => ⟨_, (hx₅ h).keeps g₆.keep⟩, ⟨ys, k₃', g₆.keep _ _ hy₅, ?_⟩, st₆, hlt⟩
          rw [List.take_add_one, hxa]
          simp only [Option.toList_some, List.filter_append, List.map_append, List.filter_cons, hpa]
          simpa using r₅.keep g₆.keep
        cases hpa : p a with
        | false => exact ⟨xs.length + 1 - (i + 1), by omega, i + 1, rfl, J₆ hpa⟩
        | true =>
          rw [if_pos rfl]
          refine he a hmem hpa cenv U A s₆ _ _ (Pc.grow g₆) fun w s₇ g₇ rw₇ => ?_
          have g₅₇ := g₆.trans g₇
          have hlenys : ys.length ≤ xs.length := by
            rw [r₅.length]
            simp only [List.length_map]
            exact Nat.le_trans (List.length_filter_le ..) (by rw [List.length_take]; exact Nat.min_le_right ..)
          refine wpAny_list_append_plain (items := ys.toArray) ⟨k₃', g₅₇.keep _ _ hy₅⟩ (fun h' hl' hs' => ?_) (by simp; omega)
          obtain ⟨k', hk'⟩ := hl'
          have at' : ∀ b o, b ≠ D → s₇.heap.get? b = some o → h'.get? b = some o := fun b o hb e => (hs'.2 b hb).trans e
          have hDU : U D := .inr (.inl rfl)
          refine ⟨xs.length + 1 - (i + 1), by omega, i + 1, rfl, ?_, ⟨m₅, (hm₅.keeps g₅₇.keep).sameBut hs' neCD⟩, fun h => ⟨_, ((hx₅ h).keeps g₅₇.keep).sameBut hs' nexD⟩, ⟨ys ++ [w], k', ?_, ?_⟩, ?_, hlt⟩
          · have gg := gr₅.trans g₅₇
            exact ⟨fun b o e => at' b o (by rintro rfl; rw [dead₀ _ deadD] at e; cases e) (gg.keep b o e), gg.os, gg.gens, gg.gsize, gg.bare⟩
          · rw [hk']; unfold lobj; simp
          · rw [List.take_add_one, hxa]
            simp only [Option.toList_some, List.filter_append, List.map_append, List.filter_cons, hpa]
            have a1 : RepL h' U (((xs.take i).filter p).map g) ys := (r₅.keep g₅₇.keep).mono fun b o hb e => ⟨hb, at' b o (by rintro rfl; exact hb hDU) e⟩
            have a2 : Rep h' U (g a) w := rw₇.mono fun b o hb e => ⟨hb, at' b o (by rintro rfl; exact hb hDU) e⟩
            simpa using a1.snoc a2
          · have st₇ : St (i + 1) s₇ := it.frame (i + 1) s₆ s₇ st₆ (fun b o _ _ e => g₇.keep b o e) fun k hk => g₇.gens k (it.gob _ _ k st₆ hk)
            exact it.frame (i + 1) s₇ _ st₇ (fun b o hal _ e => at' b o (by rintro rfl; exact frz _ deadD hal) e) fun _ _ => rfl
      -- the variable is bound
      rcases ho.var with hv | hv
      · refine wpAny_assign_Name (wpAny_storeName_local (m := m₃) (by unfold Env.kindOf; rw [hsc]; exact relab_keep (sc := sc) (scope := scope) (by decide) hv) (by rw [hloc]; exact hm₄) (fun h' hn' hs' => ?_) hkk)
        rw [hloc] at hn' hs'
        have at' : ∀ b o, b ≠ C → s₄.heap.get? b = some o → h'.get? b = some o := fun b o hb e => (hs'.2 b hb).trans e
        have hCU : U C := .inr (.inr (.inl rfl))
        refine rest _ ⟨fun b o e => at' b o (by rintro rfl; rw [dead₀ _ deadC] at e; cases e) (gr₄.keep b o e), gr₄.os, gr₄.gens, gr₄.gsize, gr₄.bare⟩ ⟨_, hn', fun _ => by simp⟩ (fun h => by rw [hv] at h; cases h) (at' _ _ (Ne.symm neCD) hy₄)
          (r₄.mono fun b o hb e => ⟨hb, at' b o (by rintro rfl; exact hb hCU) e⟩) (rv.mono fun b o hb e => ⟨hb, at' b o (by rintro rfl; exact hb hCU) e⟩) (it.frame (i + 1) s₄ _ st₄ (fun b o hal _ e => at' b o (by rintro rfl; exact frz _ deadC hal) e) fun _ _ => rfl)
      · obtain ⟨v₀, hi₄⟩ := hx₄ hv
        refine wpAny_assign_Name (wpAny_storeName_cell (by rw [hsc]; exact ho.kind) (by unfold Env.kindOf; rw [hsc]; exact relab_keep (sc := sc) (scope := scope) (by decide) hv) (hcx hv).1 hi₄ fun h' hc' hs' => ?_)
        have at' : ∀ b o, b ≠ cx → s₄.heap.get? b = some o → h'.get? b = some o := fun b o hb e => (hs'.2 b hb).trans e
        have hxU : U cx := .inr (.inr (.inr (.inr ⟨hv, rfl⟩)))
        have hcx3 := (hcx hv).2.2
        refine rest _ ⟨fun b o e => at' b o (by rintro rfl; rw [dead₀ _ deadx] at e; cases e) (gr₄.keep b o e), gr₄.os, gr₄.gens, gr₄.gsize, gr₄.bare⟩ ⟨_, hm₄.sameBut hs' (Ne.symm (nexC hv)), fun h => by rw [hv] at h; cases h⟩ (fun _ => hc') (at' _ _ (Ne.symm nexD) hy₄)
          (r₄.mono fun b o hb e => ⟨hb, at' b o (by rintro rfl; exact hb hxU) e⟩) (rv.mono fun b o hb e => ⟨hb, at' b o (by rintro rfl; exact hb hxU) e⟩) (it.frame (i + 1) s₄ _ st₄ (fun b o hal _ e => at' b o (by rintro rfl; exact frz _ deadx hal) e) fun _ _ => rfl)
    · have hin : i = xs.length := by omega
      subst hin
      refine it.done s₃ _ _ (P.grow gr₃).base st₃ fun s₄ t => ?_
      refine hQ D C s₄ m₃ ys k₃' ⟨fun b o e => t.keep b o (fun h => by rw [hwr b h] at e; cases e) (gr₃.keep b o e), t.os.trans gr₃.os,
        fun k hk => (t.gens k (Nat.lt_of_lt_of_le hk gr₃.gsize) fun h => Nat.lt_irrefl _ (Nat.lt_of_lt_of_le hk (hwg k h))).trans (gr₃.gens k hk), Nat.le_trans gr₃.gsize t.gsize, fun h => t.bare (gr₃.bare h)⟩ (dead₀ _ deadD) (dead₀ _ deadC) (Ne.symm neCD) (hm₃.at' fun o e => t.keep _ o nwC e) (t.keep _ _ nwD hy₃) ?_
      rw [List.take_length] at r₃
      refine r₃.mono fun b o hb e => ⟨fun h => hb ?_, t.keep b o (fun h => hb (.inr (.inr (.inr (.inl h))))) e⟩
      rcases h with h | rfl | rfl
      · exact .inl h
      · exact .inr (.inr (.inl rfl))
      · exact .inr (.inl rfl)
  have hloc2 : (cEnv scope cl C env).locals = C := rfl
  rw [hloc2]
  exact codeAny_compStart_list (loop _ start) (it.self 0 _ _ _ start.2.2.2.2.1 (loop _ start))
end
end Mine
namespace Mine
open PySem PySem.Calls PyProof.Rows

section
variable {X : Cx} {sc : Scope} {ρ : Str → Option AV} {n : Nat}

/-- a new list -/
def EvN (X : Cx) (sc : Scope) (ρ : Str → Option AV) (n : Nat) (e : Expr) (xs : List AV) : Prop :=
  ∀ env S A s E Q, Pre X sc ρ n env S A s → (∀ a vs k s', Grow s s' → s.heap.get? a = none → s'.heap.get? a = some (lobj vs k) → RepL s'.heap S xs vs → Q (.ref a) s') → wpAny X.M A (eval e env) Q E s
theorem EvN.ev {e : Expr} {xs : List AV} (h : EvN X sc ρ n e xs) : Ev X sc ρ n e (.list xs) := fun env S A s E Q p k =>
  h env S A s E Q p fun a vs j s' g ha hg r => k _ _ g (by simp only [Rep]; exact ⟨a, vs, j, rfl, p.bound.fresh ha, hg, r⟩)
theorem EvN.list {es : List Expr} {as : List AV} {pos : Pos} (h1 : EvL X sc ρ n es as) (hsz : as.length ≤ sizeLine) : EvN X sc ρ n (.List es pos) as := fun env S A s E Q p h =>
  wpAny_List (h1 env pos S A s E _ p fun vs s₁ g₁ r₁ => ⟨by rw [r₁.length]; exact hsz, h _ vs 0 _ (g₁.trans (.push _ _ s₁.toks)) (by
    cases e : s.heap.get? s₁.heap.objs.size with
    | none => rfl
    | some o => have := g₁.keep _ _ e; rw [get?_size] at this; cases this) (Heap.get?_push_size _ rfl) (r₁.keep (.push _ _))⟩)
theorem EvN.comp {elt iter : Expr} {x : Str} {px pos : Pos} {ifs : List Expr} {scope : Scope} {xs : List AV} (p : AV → Bool) (g : AV → AV) (hi : Iter X sc ρ n iter xs) (ho : CompOk sc scope ρ x)
    (ht : ∀ a ∈ xs, TrL X (relab sc scope) (ρc sc scope ρ x a) n ifs (p a)) (he : ∀ a ∈ xs, p a = true → Ev X (relab sc scope) (ρc sc scope ρ x a) n elt (g a)) (hsz : xs.length ≤ sizeLine) (hs : ∀ env y, foldedSetIterable iter env y = pure y) :
    EvN X sc ρ n (.ListComp elt [⟨.Name x px, iter, ifs, 0⟩] scope pos) ((xs.filter p).map g) := fun env S A s E Q P h => by
  rw [eval_ListComp]
  refine comp_run (use := none) p g hi ho ht he hsz hs P fun D C s' m ys k gr hD hC hne hm hy r => ⟨m, hm, fun h' hs' => ?_⟩
  have at' : ∀ b o, b ≠ C → s'.heap.get? b = some o → h'.get? b = some o := fun b o hb e => (hs'.2 b hb).trans e
  refine h D ys k _ ⟨fun b o e => at' b o (by rintro rfl; rw [hC] at e; cases e) (gr.keep b o e), gr.os, gr.gens, gr.gsize, gr.bare⟩ hD (at' _ _ hne hy) ?_
  exact r.mono fun b o hb e => ⟨fun h => hb (.inl h), at' b o (by rintro rfl; exact hb (.inr (.inl rfl))) e⟩
theorem Ev.comp {elt iter : Expr} {x : Str} {px pos : Pos} {ifs : List Expr} {scope : Scope} {xs : List AV} (p : AV → Bool) (g : AV → AV) (hi : Iter X sc ρ n iter xs) (ho : CompOk sc scope ρ x)
    (ht : ∀ a ∈ xs, TrL X (relab sc scope) (ρc sc scope ρ x a) n ifs (p a)) (he : ∀ a ∈ xs, p a = true → Ev X (relab sc scope) (ρc sc scope ρ x a) n elt (g a)) (hsz : xs.length ≤ sizeLine) (hs : ∀ env y, foldedSetIterable iter env y = pure y) :
    Ev X sc ρ n (.ListComp elt [⟨.Name x px, iter, ifs, 0⟩] scope pos) (.list ((xs.filter p).map g)) := (EvN.comp p g hi ho ht he hsz hs).ev
theorem EvN.mul {l r : Expr} {pos : Pos} {xs : List AV} {k : Int} (hl : Ev X sc ρ n l (.list xs)) (hr : Ev X sc ρ n r (.int k)) (hlo : -(2 ^ 63 : Int) ≤ k) (hhi : k < 2 ^ 63) (hsz : xs.length * k.toNat ≤ 2 ^ 24) :
    EvN X sc ρ n (.BinOp l .Mult r pos) (List.replicate k.toNat xs).flatten := fun env S A s E Q p h =>
  wpAny_BinOp (hl env S A s E _ p fun va s₁ g₁ r₁ => hr env S A s₁ E _ (p.grow g₁) fun vb s₂ g₂ r₂ => by
    have r₁' := r₁.keep g₂.keep
    simp only [Rep] at r₁' r₂
    obtain ⟨l, vs, m, rfl, _, hg, q⟩ := r₁'
    obtain ⟨u, rfl⟩ := r₂
    have hl : s₂.heap.get? l = some { cls := .type "list", dict := none, data := .seq vs.toArray m, slots := #[] } := hg
    have hs' : vs.toArray.size * k.toNat ≤ 2 ^ 24 := by simp [q.length]; exact hsz
    refine wpAny_binaryOp_repeat_ref (T := "list") (U := "int") (by decide) ⟨_, hl, rfl⟩ (fun s' => typeIs_int s' k u) noFill_list_mul F.fills_int_mul F.slot_int_rmul repeat_list F.slot_int_index.lookup
      (call_meets F.slot_int_rmul (typeIs_int s₂ k u) F.entry_int_rmul (F.args_int_rmul_2 _ _) (int___rmul___int_list k u l vs.toArray m)
        ⟨hl, rfl, ⟨_, hl, rfl⟩, call_meets F.slot_list_mul ⟨_, hl, rfl⟩ F.entry_list_mul (F.args_list_mul_2 _ _)
          (AutoListH.list___mul___list_int_3 l vs.toArray m k u (by simp [Builtin.List.listFitsIndex]; omega) (by omega) (by simp [Builtin.List.listTooLong, sizeLine]; omega))
          ⟨hl, ?_⟩⟩)
    have e : List.foldl (fun x1 x2 => x1 ++ x2) #[] (List.replicate (if vs.toArray.isEmpty = true then 0 else k.toNat) vs.toArray) = (List.replicate k.toNat vs).flatten.toArray := by
      by_cases hv : vs = []
      · subst hv; simp
      · have : vs.toArray.isEmpty = false := by simp [hv]
        rw [this]
        have := foldl_flatten (List.replicate k.toNat vs) #[]
        simpa using this
    rw [e]
    have g := g₁.trans g₂
    refine h s₂.heap.objs.size _ 0 _ (g.trans (.push _ _ s₂.toks)) ?_ (Heap.get?_push_size _ rfl) ((q.rep _).keep (.push _ _))
    cases e : s.heap.get? s₂.heap.objs.size with
    | none => rfl
    | some o => have := g.keep _ _ e; rw [get?_size] at this; cases this)

theorem RepL.flatAny {h h' : Heap} {S S' : Addr → Prop} : ∀ {xs : List AV} {vs : List Value}, RepL h S xs vs → xs.all flat = true → RepL h' S' xs vs
  | [], vs, r, _ => by simp only [RepL] at r ⊢; exact r
  | x :: xs, vs, r, f => by
    simp only [List.all_cons, Bool.and_eq_true] at f
    simp only [RepL] at r ⊢
    obtain ⟨v, ws, e, r1, r2⟩ := r
    exact ⟨v, ws, e, r1.flat f.1, r2.flatAny f.2⟩
end

section
variable {X : Cx} {sc : Scope} {n : Nat} {f : AF} {P : Fl → AF → Prop}

/-- a plain name takes whatever leans on plain names alone -/
theorem Ex1.assignP {x : Str} {p' pos : Pos} {e : Expr} {a : AV} (h : Ev X sc f.plain n e a) (hx : sc.names.lookup x = some .local) (hu : f.μ.lookup x = none) (hsw : ∀ env, EnvOk sc env → swapsWith e (some (.Name x p')) pos.line env = pure false)
    (hp : P .next (f.set x a)) : Ex1 X sc n f (.Assign [.Name x p'] e pos) P := fun env Pr sp S A s E Q ok F k => by
  obtain ⟨as, F⟩ := F
  refine wpAny_Assign_Name (h env (Lk env S as) A s E _ (F.preL ok) fun v s' g r => ?_) (hsw env F.eo)
  exact (F.grow g).store hx hu r fun s'' F'' => k .next _ s'' .next hp ⟨as, F''⟩ rfl
theorem Ex1.assignPC {x : Str} {p' pos : Pos} {e : Expr} {a : AV} (h : Ev X sc f.plain n e a) (hx : sc.names.lookup x = some .cell) (hu : f.μ.lookup x = none) (hsw : ∀ env, EnvOk sc env → swapsWith e (some (.Name x p')) pos.line env = pure false)
    (hp : P .next (f.set x a)) : Ex1 X sc n f (.Assign [.Name x p'] e pos) P := fun env Pr sp S A s E Q ok F k => by
  obtain ⟨as, F⟩ := F
  refine wpAny_Assign_Name (h env (Lk env S as) A s E _ (F.preL ok) fun v s' g r => ?_) (hsw env F.eo)
  exact (F.grow g).storeC hx hu r fun s'' F'' => k .next _ s'' .next hp ⟨as, F''⟩ rfl
/-- x = [.. for ..], the store exchanged with the letting go -/
theorem Ex1.assignComp {y : Str} {py spos : Pos} {elt iter : Expr} {x : Str} {px pos : Pos} {ifs : List Expr} {scope : Scope} {xs : List AV} (p : AV → Bool) (g : AV → AV) (hi : Iter X sc f.plain n iter xs) (ho : CompOk sc scope f.plain x)
    (ht : ∀ a ∈ xs, TrL X (relab sc scope) (ρc sc scope f.plain x a) n ifs (p a)) (he : ∀ a ∈ xs, p a = true → Ev X (relab sc scope) (ρc sc scope f.plain x a) n elt (g a)) (hsz : xs.length ≤ sizeLine) (hs : ∀ env y, foldedSetIterable iter env y = pure y)
    (hy : sc.names.lookup y = some .local) (hu : f.μ.lookup y = none) (hsw : ∀ env, EnvOk sc env → swapsWith (.ListComp elt [⟨.Name x px, iter, ifs, 0⟩] scope pos) (some (.Name y py)) spos.line env = pure true)
    (hp : P .next (f.set y (.list ((xs.filter p).map g)))) : Ex1 X sc n f (.Assign [.Name y py] (.ListComp elt [⟨.Name x px, iter, ifs, 0⟩] scope pos) spos) P := fun env Pr sp S A s E Q ok F k => by
  obtain ⟨as, F⟩ := F
  rw [exec_Assign_Name_used _ _ _ _ (hsw env F.eo)]
  refine wpAny_bind (wpAny_standAt (wpAny_bind ?_))
  show wpAny _ A (do let _ ← comprehension (.ListComp elt [⟨.Name x px, iter, ifs, 0⟩] scope pos) scope env _ (newList []) false (eval iter env) (some (PySem.assign (.Name y py) env))) _ _ s
  refine wpAny_bind (wpAny_mono (comp_run (use := some (PySem.assign (.Name y py) env)) (Q := fun _ s' => Q .next s') p g hi ho ht he hsz hs (F.preL ok) fun D C s' m ys j gr hD hC hne hm hyD r => ?_) (fun _ s' hq => wpAny_pure (wpAny_pure hq)) fun _ _ e => e)
  have F₁ : FSat X sc env Pr sp (fun b => S b ∨ b = C) f as s' := F.lock gr (fun b => b = C) fun b hb => ⟨by rw [hb]; exact hC, by rw [hb]; exact Heap.Ns.alive hm⟩
  have hCo : ¬ Own env as C := fun h => by have := F.ol C h; rw [hC] at this; cases this
  have rr : Rep s'.heap (Lk env (fun b => S b ∨ b = C) as) (.list ((xs.filter p).map g)) (.ref D) := by
    simp only [Rep]
    refine ⟨D, ys, j, rfl, ?_, hyD, r.sub fun b hb => ?_⟩
    · rintro ((h | h) | h)
      · exact F.live.fresh hD h
      · exact hne h
      · have := F.ol D h; rw [hD] at this; cases this
    · rcases hb with (h | h) | h
      · exact .inl (.inl h)
      · exact .inr (.inl h)
      · exact .inl (.inr h)
  refine wpAny_assign_Name (F₁.reref.store hy hu rr fun s'' G => ?_)
  have F₂ := F₁.back G
  obtain ⟨o, es, ep, ho', hd, hk1, hk2⟩ := hm
  have hCs : s''.heap.get? C = some o := G.keep C o ⟨by rw [ho']; rfl, hCo⟩ ho'
  refine ⟨m, ⟨o, es, ep, hCs, hd, hk1, hk2⟩, fun h' hs' => ?_⟩
  have hlast := F₂.last (wg := fun _ => False) (s' := { s'' with heap := h' }) ⟨fun b o hb e => (hs'.2 b hb).trans e, rfl, fun _ _ _ => rfl, Nat.le_refl _, id⟩ (fun b hb => ?_) fun _ h => h.elim
  · exact k .next _ _ .next hp ⟨as, hlast⟩ rfl
  · have hb' : s.heap.get? b = none := by rw [hb]; exact hC
    refine ⟨fun h => ?_, ?_, F.live.fresh hb'⟩
    · obtain ⟨o, e⟩ := Option.isSome_iff_exists.mp (F.pr b h)
      have := F.keep b o h e; rw [hb'] at this; cases this
    · cases e : X.hb.get? b with
      | none => rfl
      | some o => have := F.base b o e; rw [hb'] at this; cases this
end
end Mine
namespace Mine
open PySem PySem.Calls PyProof.Rows

section
variable {X : Cx} {sc : Scope} {n : Nat} {f : AF} {P : Fl → AF → Prop}

theorem FSat.dead {env : Env} {Pr : Addr → Prop} {sp : Shared} {S : Addr → Prop} {as : List (Str × Addr)} {s : Shared} (F : FSat X sc env Pr sp S f as s) {a : Addr} (ha : s.heap.get? a = none) : ¬ S a ∧ ¬ Pr a ∧ X.hb.get? a = none ∧ ¬ Own env as a := by
  refine ⟨F.live.fresh ha, fun h => ?_, ?_, fun h => ?_⟩
  · obtain ⟨o, e⟩ := Option.isSome_iff_exists.mp (F.pr a h)
    have := F.keep a o h e; rw [ha] at this; cases this
  · cases e : X.hb.get? a with
    | none => rfl
    | some o => have := F.base a o e; rw [ha] at this; cases this
  · have := F.ol a h; rw [ha] at this; cases this

/-- x = a new list, which the frame will change -/
theorem Ex1.new {x : Str} {p' pos : Pos} {e : Expr} {xs : List AV} (h : EvN X sc f.env n e xs) (hfl : xs.all flat = true) (hx : sc.names.lookup x = some .local) (hsw : ∀ env, EnvOk sc env → swapsWith e (some (.Name x p')) pos.line env = pure false)
    (hp : P .next (f.own x xs)) : Ex1 X sc n f (.Assign [.Name x p'] e pos) P := fun env Pr sp S A s E Q ok F k => by
  obtain ⟨as, F⟩ := F
  refine wpAny_Assign_Name (h env S A s E _ (F.pre ok) fun a vs j s' g ha hg r => ?_) (hsw env F.eo)
  obtain ⟨d1, d2, d3, d4⟩ := F.dead ha
  have F₁ : FSat X sc env Pr sp (fun b => S b ∨ b = a) f as s' := F.lock g (fun b => b = a) fun b hb => ⟨by rw [hb]; exact ha, by rw [hb, hg]; rfl⟩
  exact F₁.adopt (S := S) (fun b hb => .inl hb) (.inr rfl) d1 d2 d3 hg (r.flatAny hfl) hx fun s'' F'' _ => k .next _ s'' .next hp ⟨_, F''⟩ rfl

theorem env_own {x : Str} {xs : List AV} (hx : f.μ.lookup x = some xs) : f.env x = some (.list xs) := by unfold AF.env; rw [hx]

/-- x.append(e) -/
theorem Ex1.append {x : Str} {np apos pos spos : Pos} {e : Expr} {xs : List AV} {a : AV} (hx : f.μ.lookup x = some xs) (h : Ev X sc f.env n e a) (hfl : flat a = true) (hsz : xs.length ≤ sizeLine)
    (hbase : ∀ env, attributeBase (.Name x np) "append" env (eval (.Name x np) env) = eval (.Name x np) env) (hs : ∀ env, starEach [e] env = [(false, eval e env)]) (hline : (apos.endLine == pos.line) = true) (hd : (x == ("__debug__" : Str)) = false)
    (hin : ∀ env, EnvOk sc env → interactive env = false) (hp : P .next (f.put x (xs ++ [a]))) : Ex1 X sc n f (.Expr (.Call (.Attribute (.Name x np) "append" apos) [e] [] pos) spos) P := fun env Pr sp S A s E Q ok F k => by
  obtain ⟨as, F⟩ := F
  obtain ⟨q1, _⟩ := F.nsl.choose_spec.2.2 x xs hx
  refine wpAny_Expr ?_ (hin env F.eo) rfl
  refine wpAny_Call_append (hbase env) (by rw [hs env]; rfl) hline (by rw [hs env]; rfl) ?_
  obtain ⟨b, vs, j, hb, hg, r⟩ := F.mu x xs hx
  obtain ⟨m, hm, _, h2⟩ := F.nsl
  obtain ⟨_, b', hb', hmx⟩ := h2 x xs hx
  rw [hb] at hb'; cases hb'
  refine wpAny_Name (wpAny_loadName_local (by rw [F.eo.scope]; exact F.eo.kind) (by unfold Env.kindOf; rw [F.eo.scope]; exact q1) hm hmx ?_) hd
  refine ⟨b, vs.toArray, rfl, ⟨_, _, hg, rfl, rfl, rfl⟩, ?_⟩
  refine h env S A s E _ (F.pre ok) fun v s' g rv => ?_
  have F' := F.grow g
  refine wpAny_list_append_plain (items := vs.toArray) ⟨j, g.keep _ _ hg⟩ (fun h' hl' hs' => ?_) (by simp [r.length]; exact hsz)
  obtain ⟨j', hj'⟩ := hl'
  have hg' : h'.get? b = some (lobj (vs ++ [v]) j') := by rw [hj']; unfold lobj; simp
  exact k .next _ _ .next hp ⟨as, F'.changed (tk := s'.toks) hx hb hs' hg' ((r.keep g.keep).snoc (rv.flat hfl))⟩ rfl
theorem Ex1.appendN {x : Str} {np apos pos spos : Pos} {e : Expr} {xs zs : List AV} (hx : f.μ.lookup x = some xs) (h : EvN X sc f.env n e zs) (hfl : zs.all flat = true) (hsz : xs.length ≤ sizeLine)
    (hbase : ∀ env, attributeBase (.Name x np) "append" env (eval (.Name x np) env) = eval (.Name x np) env) (hs : ∀ env, starEach [e] env = [(false, eval e env)]) (hline : (apos.endLine == pos.line) = true) (hd : (x == ("__debug__" : Str)) = false)
    (hin : ∀ env, EnvOk sc env → interactive env = false) (hp : P .next (f.put x (xs ++ [.list zs]))) : Ex1 X sc n f (.Expr (.Call (.Attribute (.Name x np) "append" apos) [e] [] pos) spos) P := fun env Pr sp S A s E Q ok F k => by
  obtain ⟨as, F⟩ := F
  obtain ⟨q1, _⟩ := F.nsl.choose_spec.2.2 x xs hx
  refine wpAny_Expr ?_ (hin env F.eo) rfl
  refine wpAny_Call_append (hbase env) (by rw [hs env]; rfl) hline (by rw [hs env]; rfl) ?_
  obtain ⟨b, vs, j, hb, hg, r⟩ := F.mu x xs hx
  obtain ⟨m, hm, _, h2⟩ := F.nsl
  obtain ⟨_, b', hb', hmx⟩ := h2 x xs hx
  rw [hb] at hb'; cases hb'
  refine wpAny_Name (wpAny_loadName_local (by rw [F.eo.scope]; exact F.eo.kind) (by unfold Env.kindOf; rw [F.eo.scope]; exact q1) hm hmx ?_) hd
  refine ⟨b, vs.toArray, rfl, ⟨_, _, hg, rfl, rfl, rfl⟩, ?_⟩
  refine h env S A s E _ (F.pre ok) fun a us i s' g ha hga ra => ?_
  obtain ⟨d1, d2, d3, d4⟩ := F.dead ha
  have F' := F.grow g
  refine wpAny_list_append_plain (items := vs.toArray) ⟨j, g.keep _ _ hg⟩ (fun h' hl' hs' => ?_) (by simp [r.length]; exact hsz)
  obtain ⟨j', hj'⟩ := hl'
  have hg' : h'.get? b = some (lobj (vs ++ [.ref a]) j') := by rw [hj']; unfold lobj; simp
  refine k .next _ _ .next hp ⟨as, F'.changed (tk := s'.toks) hx hb hs' hg' ((r.keep g.keep).snoc ?_)⟩ rfl
  simp only [Rep]
  exact ⟨a, us, i, rfl, fun h => h.elim d1 d4, hga, ra.flatAny hfl⟩

theorem setItem_plain {prog : Program} {w : World} {A : Around} {E : Value → Shared → Prop} {s : Shared} {l : Addr} {vs : List Value} {m : Nat} {k : Int} {t : Tok} {v : Value} {Q : Unit → Shared → Prop} (ho : s.heap.get? l = some (lobj vs m))
    (h0 : 0 ≤ k) (hfit : k < 2 ^ 63) (hn : k < vs.length) (hQ : ∀ h' m', h'.get? l = some (lobj (vs.set k.toNat v) m') → Heap.SameBut l s.heap h' → Q () { s with heap := h' }) :
    wpAny (model prog w) A (setItem (.ref l) (.int k t) v) Q E s := by
  have hl : s.heap.IsList l vs.toArray := ⟨_, ho, rfl, _, rfl⟩
  have hd : (lobj vs m).data = .seq vs.toArray m := rfl
  unfold setItem
  try with_reducible refine wpAny_holding ?_
  first | refine wpAny_bind (wpAny_pure ?_) | skip
  refine wpAny_bind (wpAny_sequenceKey hl.typeIs (by decide) ?_)
  refine wpAny_bind (wpAny_callSpecial?_slot (name := Str.ofString "__setitem__") hl.typeIs slot_list_setitem
    (wpAny_call_entry slot_list_setitem hl.typeIs entry_list_setitem ?_ (args_list_setitem _ _ _)))
  show wpAny _ _ (Builtin.List.listSubscript? (.int k t) >>= _) _ _ s
  refine wpAny_bind (wpAny_listSubscript_int (fitsIndex_of h0 hfit) ?_)
  clear hfit
  obtain ⟨j, rfl⟩ := Int.eq_ofNat_of_zero_le h0
  have hj : j < vs.toArray.size := by simp; omega
  have hx' : vs.toArray[j]? = some vs.toArray[j] := Array.getElem?_eq_getElem hj
  show wpAny _ _ ((seqItemAt l j >>= fun r => pure (r.map (j, ·))) >>= _) _ _ s
  refine wpAny_bind (wpAny_bind (wpAny_seqItemAt ho hd (wpAny_pure ?_)))
  rw [hx']
  show wpAny _ _ (setSeqItemAt l j v >>= _) _ _ s
  have hfin : (s.heap.update l (Obj.mapSeq (·.setIfInBounds j v))).get? l = some (lobj (vs.set j v) m) := by
    rw [Heap.get?_update_self _ ho (by simp [lobj, Obj.mapSeq, Obj.isFreed])]
    simp [lobj, Obj.mapSeq]
  refine wpAny_bind (wpAny_setSeqItemAt ho hd ?_)
  first
    | exact wpAny_bind (wpAny_pure (wpAny_pure ⟨.none, rfl, wpAny_pure (hQ _ _ hfin (Heap.SameBut.update ..))⟩))
    | exact wpAny_pure ⟨.none, rfl, wpAny_pure (hQ _ _ hfin (Heap.SameBut.update ..))⟩
/-- x[i] = e -/
theorem Ex1.setitem {x : Str} {np p' pos : Pos} {i e : Expr} {xs : List AV} {a : AV} {k : Int} (hx : f.μ.lookup x = some xs) (h : Ev X sc f.env n e a) (hfl : flat a = true) (hi : Ev X sc f.env n i (.int k)) (h0 : 0 ≤ k) (hk : k < xs.length) (hz : k < 2 ^ 63)
    (hsw : ∀ env, EnvOk sc env → swapsWith e (some (.Subscript (.Name x np) i p')) pos.line env = pure false) (hd : (x == ("__debug__" : Str)) = false) (hp : P .next (f.put x (xs.set k.toNat a))) : Ex1 X sc n f (.Assign [.Subscript (.Name x np) i p'] e pos) P := fun env Pr sp S A s E Q ok F kk => by
  obtain ⟨as, F⟩ := F
  refine wpAny_Assign_Subscript (h env S A s E _ (F.pre ok) fun v s₁ g₁ r₁ => ?_) (hsw env F.eo)
  have F₁ := F.grow g₁
  obtain ⟨b, vs, j, hb, hg, r⟩ := F₁.mu x xs hx
  obtain ⟨m, hm, _, h2⟩ := F₁.nsl
  obtain ⟨q1, b', hb', hmx⟩ := h2 x xs hx
  rw [hb] at hb'; cases hb'
  refine wpAny_Name (wpAny_loadName_local (by rw [F.eo.scope]; exact F.eo.kind) (by unfold Env.kindOf; rw [F.eo.scope]; exact q1) hm hmx ?_) hd
  refine hi env S A s₁ E _ (F₁.pre ok) fun w s₂ g₂ r₂ => ?_
  simp only [Rep] at r₂; obtain ⟨t, rfl⟩ := r₂
  refine setItem_plain (g₂.keep _ _ hg) h0 hz (by rw [r.length]; exact hk) fun h' m' hg' hs' => ?_
  exact kk .next _ _ .next hp ⟨as, (F₁.grow g₂).changed (tk := s₂.toks) hx hb hs' hg' ((r.keep g₂.keep).set (r₁.flat hfl) _)⟩ rfl
/-- x += e, x -= e of ints -/
theorem Ex1.augAdd {x : Str} {p' pos : Pos} {e : Expr} {a b : Int} (hx : sc.names.lookup x = some .local) (hv : f.ρ x = some (.int a)) (hu : f.μ.lookup x = none) (h : Ev X sc f.env n e (.int b)) (hp : P .next (f.set x (.int (a + b)))) :
    Ex1 X sc n f (.AugAssign (.Name x p') .Add e pos) P := fun env Pr sp S A s E Q ok F k => by
  obtain ⟨as, F⟩ := F
  obtain ⟨m, hm, h1, _⟩ := F.nsl
  obtain ⟨v, hmv, r⟩ := h1 x _ hx hv hu
  simp only [Rep] at r; obtain ⟨t, rfl⟩ := r
  refine wpAny_AugAssign_Name (wpAny_loadName_local (by rw [F.eo.scope]; exact F.eo.kind) (by unfold Env.kindOf; rw [F.eo.scope]; exact hx) hm hmv ?_)
  refine h env S A s E _ (F.pre ok) fun w s₁ g₁ r₁ => ?_
  simp only [Rep] at r₁; obtain ⟨u, rfl⟩ := r₁
  refine AutoIntOps.iadd_0 ?_
  exact ((F.grow g₁).grow (.toks _ _)).store hx hu (by simp [Rep]) fun s'' F'' => k .next _ s'' .next hp ⟨as, F''⟩ rfl
theorem Ex1.augSub {x : Str} {p' pos : Pos} {e : Expr} {a b : Int} (hx : sc.names.lookup x = some .local) (hv : f.ρ x = some (.int a)) (hu : f.μ.lookup x = none) (h : Ev X sc f.env n e (.int b)) (hp : P .next (f.set x (.int (a - b)))) :
    Ex1 X sc n f (.AugAssign (.Name x p') .Sub e pos) P := fun env Pr sp S A s E Q ok F k => by
  obtain ⟨as, F⟩ := F
  obtain ⟨m, hm, h1, _⟩ := F.nsl
  obtain ⟨v, hmv, r⟩ := h1 x _ hx hv hu
  simp only [Rep] at r; obtain ⟨t, rfl⟩ := r
  refine wpAny_AugAssign_Name (wpAny_loadName_local (by rw [F.eo.scope]; exact F.eo.kind) (by unfold Env.kindOf; rw [F.eo.scope]; exact hx) hm hmv ?_)
  refine h env S A s E _ (F.pre ok) fun w s₁ g₁ r₁ => ?_
  simp only [Rep] at r₁; obtain ⟨u, rfl⟩ := r₁
  refine AutoIntOps.isub_0 ?_
  exact ((F.grow g₁).grow (.toks _ _)).store hx hu (by simp [Rep]) fun s'' F'' => k .next _ s'' .next hp ⟨as, F''⟩ rfl
end
end Mine
namespace Mine
open PySem PySem.Calls PyProof.Rows

theorem ext_keep {h h' : Heap} (e : Heap.ExtBut h.objs.size h h') : Keep h h' := fun b o hb => e b o (Nat.ne_of_lt (Heap.lt_size hb)) hb

section
variable {X : Cx} {sc : Scope} {n : Nat} {f : AF} {P : Fl → AF → Prop}

/-- for x, y in ..: the drawn pair is taken apart -/
theorem Takes.pair {x y : Str} {px py tp : Pos} {k : Nat} {a b : AV} (hx : sc.names.lookup x = some .local) (hy : sc.names.lookup y = some .local) (hux : f.μ.lookup x = none) (huy : f.μ.lookup y = none) :
    Takes X sc n (.Tuple [.Name x px, .Name y py] k tp) f (.tuple [a, b]) ((f.set x a).set y b) := fun env Pr sp S as A s E Q v ok F r h => by
  simp only [Rep, RepL] at r
  obtain ⟨t, vs, j, rfl, _, hg, va, ws, rfl, ra, vb, ws', rfl, rb, rfl⟩ := r
  refine wpAny_assign_Tuple (items := #[va, vb]) ok.handled ⟨_, hg, rfl, _, rfl⟩ rfl rfl fun h' he => ?_
  have g : Grow s { s with heap := h' } := .heap (tk := s.toks) (ext_keep he)
  show wpAny X.M A (assignInOrder [assign (.Name x px) env, assign (.Name y py) env] [va, vb]) Q E _
  simp only [assignInOrder]
  refine wpAny_bind (wpAny_holding (wpAny_assign_Name ((F.grow g).reref.store hx hux (ra.keep g.keep) fun s₁ G₁ => ?_)))
  have F₁ := (F.grow g).back G₁
  have rb₁ : Rep s₁.heap (Lk env S as) b vb := (rb.keep g.keep).mono fun c o hc e => ⟨hc, G₁.keep c o ⟨by rw [e]; rfl, fun ho => hc (.inr ho)⟩ e⟩
  refine wpAny_bind (wpAny_holding (wpAny_assign_Name (F₁.store hy huy rb₁ fun s₂ F₂ => wpAny_pure (h s₂ F₂))))

theorem assign_two {M : Model} {A : Around} {env : Env} {E : Value → Shared → Prop} {s : Shared} {Q : Unit → Shared → Prop} {x y : Str} {va vb : Value}
    (h : wpAny M A (storeName env y vb) (fun _ s₁ => wpAny M A (storeName env x va) Q E s₁) E s) : wpAny M A (assignInOrder ([x, y].reverse.map fun n => bindName env n) [va, vb].reverse) Q E s := by
  show wpAny M A (assignInOrder [bindName env y, bindName env x] [vb, va]) Q E s
  simp only [assignInOrder]
  exact wpAny_bind (wpAny_holding (wpAny_bindName (wpAny_mono h (fun _ s₁ h₁ => wpAny_bind (wpAny_holding (wpAny_bindName (wpAny_mono h₁ (fun _ _ q => wpAny_pure q) fun _ _ e => e)))) fun _ _ e => e)))

/-- two targets at once -/
structure Two (sc : Scope) (x y : Str) (px py tp vp pos : Pos) (k k' : Nat) (e₁ e₂ : Expr) : Prop where
  hs : ∀ env, swapsWithSole [.Tuple [.Name x px, .Name y py] k tp] (.Tuple [e₁, e₂] k' vp) pos.line env = pure false
  hw : ∀ env, EnvOk sc env → swappedStores [.Tuple [.Name x px, .Name y py] k tp] (.Tuple [e₁, e₂] k' vp) env = pure (some [x, y])
  h1 : ∀ env, starEach [e₁, e₂] env = (false, eval e₁ env) :: starEach [e₂] env
  h2 : ∀ env, starEach [e₂] env = (false, eval e₂ env) :: starEach [] env
theorem two_run {x y : Str} {px py tp vp pos : Pos} {k k' : Nat} {e₁ e₂ : Expr} (T : Two sc x y px py tp vp pos k k' e₁ e₂) {env : Env} (eo : EnvOk sc env) {A : Around} (ok : Ok A n) {s : Shared} {E : Value → Shared → Prop} {Q : Flow → Shared → Prop}
    (h : wpAny X.M A (eval e₁ env) (fun va s₁ => wpAny X.M A (eval e₂ env) (fun vb s₂ => ∀ s₃, Grow s₂ s₃ → wpAny X.M A (storeName env y vb) (fun _ s₄ => wpAny X.M A (storeName env x va) (fun _ => Q .next) E s₄) E s₃) E s₁) E s) :
    wpAny X.M A (exec (.Assign [.Tuple [.Name x px, .Name y py] k tp] (.Tuple [e₁, e₂] k' vp) pos) env) Q E s := by
  refine Assign_Tuple_swapped (names := [x, y]) ?_ (T.hs env) (T.hw env eo)
  refine wpAny_Tuple (wpAny_items_cons (wpAny_mono h (fun va s₁ h₁ => wpAny_items_cons (wpAny_mono h₁ (fun vb s₂ h₂ => wpAny_items_nil ⟨by show 2 ≤ sizeLine; decide, ?_⟩) fun _ _ e => e) (T.h2 env)) fun _ _ e => e) (T.h1 env))
  refine wpAny_unpackItems_tuple (items := #[va, vb]) ok.handled ⟨_, Heap.get?_push_size _ rfl, rfl, _, rfl⟩ fun h' he => ?_
  exact assign_two (h₂ _ ((Grow.push _ _ s₂.toks).trans (.heap (tk := s₂.toks) (ext_keep he))))
theorem Ex1.twoFF {x y : Str} {px py tp vp pos : Pos} {k k' : Nat} {e₁ e₂ : Expr} {a b : AV} (T : Two sc x y px py tp vp pos k k' e₁ e₂) (h1 : Ev X sc f.env n e₁ a) (h2 : Ev X sc f.env n e₂ b) (fa : flat a = true) (fb : flat b = true)
    (hx : sc.names.lookup x = some .local) (hy : sc.names.lookup y = some .local) (hux : f.μ.lookup x = none) (huy : f.μ.lookup y = none) (hp : P .next ((f.set y b).set x a)) :
    Ex1 X sc n f (.Assign [.Tuple [.Name x px, .Name y py] k tp] (.Tuple [e₁, e₂] k' vp) pos) P := fun env Pr sp S A s E Q ok F kk => by
  obtain ⟨as, F⟩ := F
  refine two_run T F.eo ok (h1 env S A s E _ (F.pre ok) fun va s₁ g₁ r₁ => h2 env S A s₁ E _ ((F.grow g₁).pre ok) fun vb s₂ g₂ r₂ s₃ g₃ => ?_)
  refine (((F.grow g₁).grow g₂).grow g₃).store hy huy (r₂.flat fb) fun s₄ F₄ => ?_
  exact F₄.store hx hux (r₁.flat fa) fun s₅ F₅ => kk .next _ s₅ .next hp ⟨as, F₅⟩ rfl
theorem Ex1.twoPP {x y : Str} {px py tp vp pos : Pos} {k k' : Nat} {e₁ e₂ : Expr} {a b : AV} (T : Two sc x y px py tp vp pos k k' e₁ e₂) (h1 : Ev X sc f.plain n e₁ a) (h2 : Ev X sc f.plain n e₂ b)
    (hx : sc.names.lookup x = some .local) (hy : sc.names.lookup y = some .local) (hux : f.μ.lookup x = none) (huy : f.μ.lookup y = none) (hp : P .next ((f.set y b).set x a)) :
    Ex1 X sc n f (.Assign [.Tuple [.Name x px, .Name y py] k tp] (.Tuple [e₁, e₂] k' vp) pos) P := fun env Pr sp S A s E Q ok F kk => by
  obtain ⟨as, F⟩ := F
  refine two_run T F.eo ok (h1 env (Lk env S as) A s E _ (F.preL ok) fun va s₁ g₁ r₁ => h2 env (Lk env S as) A s₁ E _ ((F.grow g₁).preL ok) fun vb s₂ g₂ r₂ s₃ g₃ => ?_)
  have F₃ := ((F.grow g₁).grow g₂).grow g₃
  refine F₃.reref.store hy huy (r₂.keep g₃.keep) fun s₄ G₄ => ?_
  have F₄ := F₃.back G₄
  have ra : Rep s₄.heap (Lk env S as) a va := ((r₁.keep g₂.keep).keep g₃.keep).mono fun c o hc e => ⟨hc, G₄.keep c o ⟨by rw [e]; rfl, fun ho => hc (.inr ho)⟩ e⟩
  exact F₄.store hx hux ra fun s₅ F₅ => kk .next _ s₅ .next hp ⟨as, F₅⟩ rfl
/-- a new list and a plain datum -/
theorem Ex1.twoNF {x y : Str} {px py tp vp pos : Pos} {k k' : Nat} {e₁ e₂ : Expr} {xs : List AV} {b : AV} (T : Two sc x y px py tp vp pos k k' e₁ e₂) (h1 : EvN X sc f.env n e₁ xs) (h2 : Ev X sc f.env n e₂ b) (fa : xs.all flat = true) (fb : flat b = true)
    (hx : sc.names.lookup x = some .local) (hy : sc.names.lookup y = some .local) (huy : f.μ.lookup y = none) (hp : P .next ((f.set y b).own x xs)) :
    Ex1 X sc n f (.Assign [.Tuple [.Name x px, .Name y py] k tp] (.Tuple [e₁, e₂] k' vp) pos) P := fun env Pr sp S A s E Q ok F kk => by
  obtain ⟨as, F⟩ := F
  refine two_run T F.eo ok (h1 env S A s E _ (F.pre ok) fun a vs j s₁ g₁ ha hg r => h2 env S A s₁ E _ ((F.grow g₁).pre ok) fun vb s₂ g₂ r₂ s₃ g₃ => ?_)
  have g := (g₁.trans g₂).trans g₃
  have hg₃ := g₃.keep _ _ (g₂.keep _ _ hg)
  obtain ⟨d1, d2, d3, d4⟩ := F.dead ha
  have F₁ : FSat X sc env Pr sp (fun b => S b ∨ b = a) f as s₃ := F.lock g (fun b => b = a) fun b hb => ⟨by rw [hb]; exact ha, by rw [hb, hg₃]; rfl⟩
  refine F₁.reref.store hy huy (r₂.flat fb) fun s₄ G₄ => ?_
  have F₄ := F₁.back G₄
  have hg₄ : s₄.heap.get? a = some (lobj vs j) := G₄.keep _ _ ⟨by rw [hg₃]; rfl, d4⟩ hg₃
  exact F₄.adopt (S := S) (fun b hb => .inl hb) (.inr rfl) d1 d2 d3 hg₄ (r.flatAny fa) hx fun s'' F'' _ => kk .next _ s'' .next hp ⟨_, F''⟩ rfl
/-- two new lists -/
theorem Ex1.twoNN {x y : Str} {px py tp vp pos : Pos} {k k' : Nat} {e₁ e₂ : Expr} {xs ys : List AV} (T : Two sc x y px py tp vp pos k k' e₁ e₂) (h1 : EvN X sc f.env n e₁ xs) (h2 : EvN X sc f.env n e₂ ys) (fa : xs.all flat = true) (fb : ys.all flat = true)
    (hx : sc.names.lookup x = some .local) (hy : sc.names.lookup y = some .local) (hp : P .next ((f.own y ys).own x xs)) :
    Ex1 X sc n f (.Assign [.Tuple [.Name x px, .Name y py] k tp] (.Tuple [e₁, e₂] k' vp) pos) P := fun env Pr sp S A s E Q ok F kk => by
  obtain ⟨as, F⟩ := F
  refine two_run T F.eo ok (h1 env S A s E _ (F.pre ok) fun a vs j s₁ g₁ ha hg r => h2 env S A s₁ E _ ((F.grow g₁).pre ok) fun b us i s₂ g₂ hb hgb rb s₃ g₃ => ?_)
  have g := (g₁.trans g₂).trans g₃
  have hg₃ := g₃.keep _ _ (g₂.keep _ _ hg)
  have hgb₃ := g₃.keep _ _ hgb
  have hb₀ : s.heap.get? b = none := by
    cases e : s.heap.get? b with
    | none => rfl
    | some o => have := g₁.keep _ _ e; rw [hb] at this; cases this
  have hab : a ≠ b := by rintro rfl; rw [hg] at hb; cases hb
  obtain ⟨d1, d2, d3, d4⟩ := F.dead ha
  obtain ⟨c1, c2, c3, c4⟩ := F.dead hb₀
  have F₁ : FSat X sc env Pr sp (fun c => S c ∨ (c = a ∨ c = b)) f as s₃ := F.lock g (fun c => c = a ∨ c = b) fun c hc => by
    rcases hc with rfl | rfl
    · exact ⟨ha, by rw [hg₃]; rfl⟩
    · exact ⟨hb₀, by rw [hgb₃]; rfl⟩
  refine F₁.adopt (S := fun c => S c ∨ c = a) (fun c hc => hc.elim .inl fun h => .inr (.inl h)) (.inr (.inr rfl)) (fun h => h.elim c1 fun h => hab h.symm) c2 c3 hgb₃ (rb.flatAny fb) hy fun s₄ F₄ ht => ?_
  have hg₄ : s₄.heap.get? a = some (lobj vs j) := by
    rcases ht with ht | ht
    · exact ht _ _ hg₃
    · rw [ht a fun e => d4 (.inl e)]; exact hg₃
  exact F₄.adopt (S := S) (fun c hc => .inl hc) (.inr rfl) d1 d2 d3 hg₄ (r.flatAny fa) hx fun s'' F'' _ => kk .next _ s'' .next hp ⟨_, F''⟩ rfl

/-- an own def -/
structure HasFn (X : Cx) (name : Str) (params : Arguments) (body : List Stmt) (scope : Scope) (a : Addr) : Prop where
  g : X.mg name = some (.ref a)
  o : ∃ o pm code doc, X.hb.get? a = some o ∧ o.data = .func (docDef name params body scope pm code doc) ∧ X.hb.CodeRec code name
def bindA : List Str → List AV → (Str → Option AV) → Str → Option AV
  | n :: ns, a :: as, ρ => bindA ns as fun y => if y = n then some a else ρ y
  | _, _, ρ => ρ

theorem bind_rep {kindOf : Str → Option NameKind} {h : Heap} {S : Addr → Prop} : ∀ (names : List Str) (as : List AV) (vs : List Value) (m cm : Str → Option Value) (ρ : Str → Option AV), RepL h S as vs → names.length = as.length →
    (∀ x ∈ names, kindOf x = some .local ∨ kindOf x = some .cell) →
    (∀ x a, kindOf x = some .local → ρ x = some a → ∃ v, m x = some v ∧ Rep h S a v) → (∀ x a, kindOf x = some .cell → ρ x = some a → ∃ v, cm x = some v ∧ Rep h S a v) →
    (∀ x a, kindOf x = some .local → bindA names as ρ x = some a → ∃ v, bindL kindOf (names.zip vs) m x = some v ∧ Rep h S a v) ∧
    (∀ x a, kindOf x = some .cell → bindA names as ρ x = some a → ∃ v, bindC kindOf (names.zip vs) cm x = some v ∧ Rep h S a v)
  | [], [], vs, m, cm, ρ, r, _, _, h1, h2 => by simpa [bindA, bindL, bindC] using ⟨h1, h2⟩
  | [], _ :: _, vs, m, cm, ρ, r, hl, _, h1, h2 => by simp at hl
  | _ :: _, [], vs, m, cm, ρ, r, hl, _, h1, h2 => by simp at hl
  | n :: ns, a :: as, vs, m, cm, ρ, r, hl, hk, h1, h2 => by
    simp only [RepL] at r
    obtain ⟨v, ws, rfl, ra, rs⟩ := r
    simp only [List.zip_cons_cons, bindA, bindL, bindC]
    refine bind_rep ns as ws _ _ _ rs (by simpa using hl) (fun x hx => hk x (List.mem_cons_of_mem _ hx)) (fun x b hx hr => ?_) (fun x b hx hr => ?_)
    · by_cases e : x = n
      · subst e
        rw [if_pos rfl] at hr; cases hr
        rw [if_pos hx]
        exact ⟨v, by simp, ra⟩
      · rw [if_neg e] at hr
        obtain ⟨w, hw, q⟩ := h1 x b hx hr
        refine ⟨w, ?_, q⟩
        split
        · simp [e, hw]
        · exact hw
    · by_cases e : x = n
      · subst e
        rw [if_pos rfl] at hr; cases hr
        rw [if_neg (by rw [hx]; decide)]
        exact ⟨v, by simp, ra⟩
      · rw [if_neg e] at hr
        obtain ⟨w, hw, q⟩ := h2 x b hx hr
        refine ⟨w, ?_, q⟩
        split
        · exact hw
        · simp [e, hw]

theorem lookup_of_nodup {α : Type} : ∀ {l : List (Str × α)}, (l.map (·.1)).Nodup → ∀ {x : Str} {a : α}, (x, a) ∈ l → l.lookup x = some a
  | [], _, x, a, h => by cases h
  | (y, b) :: r, hn, x, a, h => by
    simp only [List.map_cons, List.nodup_cons] at hn
    rcases List.mem_cons.mp h with e | h'
    · cases e; simp
    · have hne : x ≠ y := by rintro rfl; exact hn.1 (List.mem_map_of_mem (f := (·.1)) h')
      have : (x == y) = false := by simpa using hne
      rw [List.lookup_cons, this]
      exact lookup_of_nodup hn.2 h'
theorem cellsFrom_names : ∀ (names : List (Str × NameKind)) (m m' : Nat) (acc acc' : List (Str × Addr)), acc.map (·.1) = acc'.map (·.1) → (cellsFrom m names acc).map (·.1) = (cellsFrom m' names acc').map (·.1)
  | [], _, _, _, _, h => h
  | (x, k) :: r, m, m', acc, acc', h => by
    unfold cellsFrom
    split
    · exact cellsFrom_names r _ _ _ _ (by simp [h])
    · exact cellsFrom_names r _ _ _ _ h

/-- what a def's text must be like -/
structure FnOk (name : Str) (params : Arguments) (body : List Stmt) (scope : Scope) : Prop where
  kind : scope.kind = .function
  co : scope.isCoroutine = false
  gen : scope.isGenerator = false
  bind : ∀ pm cd doc (vs : List Value), vs.length = (params.args.map (·.arg)).length → bindArgs (docDef name params body scope pm cd doc) ⟨vs, []⟩ = pure ((params.args.map (·.arg)).zip vs)
  pk : ∀ x ∈ params.args.map (·.arg), scope.names.lookup x = some .local ∨ scope.names.lookup x = some .cell
  nd : ((cellsFrom 0 scope.names []).map (·.1)).Nodup

theorem Fun.own {name : Str} {params : Arguments} {body : List Stmt} {scope : Scope} {a : Addr} {as : List AV} {b : AV} (hf : HasFn X name params body scope a) (fo : FnOk name params body scope) (hl : (params.args.map (·.arg)).length = as.length)
    (h : Ex X scope n { ρ := bindA (params.args.map (·.arg)) as fun _ => none, μ := [] } body fun fl _ => fl = .ret b) : Fun X (n + 1) (.ref a) as b := fun S A s E Q vs ok hb hS r k => by
  obtain ⟨o, pm, code, doc, ho, hd, hcd⟩ := hf.o
  have hlen : vs.length = (params.args.map (·.arg)).length := by rw [r.length, hl]
  refine wpAny_call (codeAny_call_cells ok.room (hb _ _ ho) hd (X.nolimit.keeps hb) (hcd.keeps hb) rfl (fo.bind pm code doc vs hlen) rfl (fun x hx => ?_) (fun s₁ hc => ?_) fo.co fo.gen fo.kind)
  · have hx' : x.1 ∈ params.args.map (·.arg) := (List.of_mem_zip hx).1
    rcases fo.pk _ hx' with h1 | h1
    · exact .inl h1
    · exact .inr ⟨h1, W.cellsFrom_some _ _ _ (.inl h1)⟩
  · generalize henv : callEnvC (docDef name params body scope pm code doc) s.heap.objs.size a = env at hc ⊢
    have hloc : env.locals = s.heap.objs.size := by rw [← henv]; rfl
    have hsc : env.scope = scope := by rw [← henv]; rfl
    have hko : env.kindOf = fun x => scope.names.lookup x := by rw [← henv]; rfl
    have hcells : env.cells = cellsFrom (s.heap.objs.size + 1) scope.names [] := by rw [← henv]; rfl
    have eo : EnvOk scope env := ⟨hsc, fo.kind, by rw [← henv]; rfl, by rw [← henv]; rfl⟩
    obtain ⟨h₁, tk₁, rfl⟩ := hc.toInCall.same
    have kp : Keep s.heap h₁ := hc.toInCall.keep
    have hnd : (env.cells.map (·.1)).Nodup := by rw [hcells, cellsFrom_names scope.names _ 0 [] [] rfl]; exact fo.nd
    have hcl : ∀ x c, (x, c) ∈ env.cells → h₁.IsCell c (bindC env.kindOf ((params.args.map (·.arg)).zip vs) (fun _ => none) x) ∧ s.heap.get? c = none := fun x c hx =>
      ⟨hc.cell x c (lookup_of_nodup hnd hx), get?_ge (by have := hc.above x c hx; rw [hloc] at this; exact Nat.le_of_lt this)⟩
    obtain ⟨b1, b2⟩ := bind_rep (kindOf := env.kindOf) (params.args.map (·.arg)) as vs (fun _ => none) (fun _ => none) (fun _ => none) r hl (by rw [hko]; exact fo.pk) (fun x a _ h => by cases h) fun x a _ h => by cases h
    have od : ∀ c, Own env [] c → s.heap.get? c = none := fun c hc' => by
      rcases hc' with rfl | ⟨x, hx⟩ | ⟨x, hx⟩
      · rw [hloc]; exact get?_size _
      · cases hx
      · exact (hcl x c hx).2
    have up : ∀ {a : AV} {v : Value}, Rep s.heap S a v → Rep h₁ (Lk env S []) a v := fun q => q.mono fun c o hs e => ⟨fun h => h.elim hs fun h => (by rw [od c h] at e; cases e), kp c o e⟩
    have F₀ : FSat X scope env (fun c => (s.heap.get? c).isSome = true) s S { ρ := bindA (params.args.map (·.arg)) as fun _ => none, μ := [] } [] { s with heap := h₁, toks := tk₁ } := by
      refine ⟨eo, hb.trans kp, fun c hc => hc, fun c o _ e => kp c o e, rfl, fun _ _ => rfl, Nat.le_refl _, id, hS.keep kp, fun c hc' => ⟨fun h => ?_, ?_, hS.fresh (od c hc')⟩, fun c hc' => ?_, ⟨_, hc.toInCall.ns, fun x a hx hr _ => ?_, fun x xs hx => by simp at hx⟩, fun x a hx hr => ?_, fun x hx => ?_, fun x c hx => ⟨_, (hcl x c hx).1⟩, hc.apart, fun x xs hx => by simp at hx, List.Pairwise.nil, rfl⟩
      · rw [od c hc'] at h; cases h
      · cases e : X.hb.get? c with
        | none => rfl
        | some o => have := hb _ _ e; rw [od c hc'] at this; cases this
      · rcases hc' with rfl | ⟨x, hx⟩ | ⟨x, hx⟩
        · exact Heap.Ns.alive hc.toInCall.ns
        · cases hx
        · obtain ⟨o, ho, _⟩ := (hcl x c hx).1; rw [ho]; rfl
      · obtain ⟨v, hv, q⟩ := b1 x a (by rw [hko]; exact hx) hr
        exact ⟨v, hv, up q⟩
      · rcases hx with hx | hx
        · obtain ⟨v, hv, q⟩ := b2 x a (by rw [hko]; exact hx) hr
          obtain ⟨c, hc2⟩ := Option.isSome_iff_exists.mp (W.cellsFrom_some scope.names (s.heap.objs.size + 1) [] (.inl hx))
          rw [← hcells] at hc2
          have := (hcl x c (mem_lookup hc2)).1
          rw [hv] at this
          exact ⟨c, v, hc2, this, up q⟩
        · exfalso
          have : ∀ (ns : List Str) (cs : List AV) (ρ : Str → Option AV), (∀ y ∈ ns, scope.names.lookup y = some .local ∨ scope.names.lookup y = some .cell) → ρ x = none → bindA ns cs ρ x = none := by
            intro ns
            induction ns with
            | nil => intro cs ρ _ h; cases cs <;> exact h
            | cons y ns ih =>
              intro cs ρ hk h
              cases cs with
              | nil => exact h
              | cons c cs =>
                refine ih cs _ (fun z hz => hk z (List.mem_cons_of_mem _ hz)) ?_
                have : x ≠ y := by
                  rintro rfl
                  rcases hk x (List.mem_cons_self ..) with h | h <;> rw [hx] at h <;> cases h
                rw [if_neg this]; exact h
          rw [show ({ ρ := bindA (params.args.map (·.arg)) as fun _ => none, μ := [] } : AF).ρ x = none from this _ _ _ fo.pk rfl] at hr
          cases hr
      · obtain ⟨c, hc2⟩ := Option.isSome_iff_exists.mp (W.cellsFrom_some scope.names (s.heap.objs.size + 1) [] (.inl hx))
        rw [← hcells] at hc2
        exact ⟨c, hc2⟩
    refine h env _ s S (A.deeper env) _ _ _ (ok.deeper env) ⟨[], F₀⟩ fun fl f' s' g hp F' hfl => ?_
    subst hp
    obtain ⟨v, rfl, q⟩ := hfl
    obtain ⟨as', F'⟩ := F'
    exact k v s' ⟨fun c o e => F'.keep c o (by rw [e]; rfl) e, F'.os, F'.gens, F'.gsize, F'.bare⟩ q
/-- a call of an own def -/
theorem Ev.callF {ρ : Str → Option AV} {x : Str} {np pos : Pos} {e : Expr} {es : List Expr} {params : Arguments} {body : List Stmt} {scope : Scope} {a : Addr} {as : List AV} {b : AV} (hf : HasFn X x params body scope a) (hk : sc.names.lookup x = some .globalImplicit) (hd : (x == ("__debug__" : Str)) = false)
    (ha : EvL X sc ρ n (e :: es) as) (hc : Fun X n (.ref a) as b) (he : ∀ env, starEach (e :: es) env = (false, eval e env) :: starEach es env) : Ev X sc ρ n (.Call (.Name x np) (e :: es) [] pos) b := fun env S A s E Q p h => by
  obtain ⟨o, pm, code, doc, ho, hdat, _⟩ := hf.o
  refine Call_ (Name_function_global (by rw [p.eo.scope]; exact p.eo.kind) (by unfold Env.kindOf; rw [p.eo.scope]; exact hk) (loadGlobal_global (mg := X.mg) (by rw [p.eo.globals]; exact X.g.keeps p.base) hf.g ?_) hd)
  refine callWith_def hdat (ha env pos S A s E _ p fun vs s₁ g₁ r₁ => ⟨(p.grow g₁).base _ _ ho, ?_⟩) (he env)
  exact hc S A s₁ E Q vs p.ok (p.grow g₁).base (p.grow g₁).bound r₁ fun v s₂ g₂ r₂ => h v s₂ (g₁.trans g₂) r₂
end
end Mine
namespace Mine
open PySem PySem.Calls PyProof.Rows

/-- a generator's run up to its next end, which is as N says -/
def SegG (M : Model) (A : Around) (N : End → Shared → Prop) (c : Code) (t : Sem Fin) (fs : List Frame) (s : Shared) : Prop :=
  ∀ Γ p, Γ.code = c → Γ.Woken A → ∃ e s', Runs M Γ p t fs s e s' ∧ N e s'

section
variable {M : Model} {A : Around} {N : End → Shared → Prop} {c : Code} {fs : List Frame} {s : Shared} {env : Env}
  {K : Flow → Sem Fin} {H : Value → Sem Fin} {gd : Bool → Bool} {lv : List Value → List Value}

theorem sg_wrap {α : Type} {m : Sem α} {K : α → Sem Fin} {H : Value → Sem Fin} {gd lv}
    (h : wpAny M (A.over c fs) m (fun a s' => SegG M A N c (K a) fs s') (fun x s' => SegG M A N c (H x) fs s') s) : SegG M A N c (m.wrap K H gd lv) fs s := by
  rintro Γ p rfl hΓ
  exact runs_wrap_of_wp K H gd lv m (h (Γ.over fs) p (hΓ.over fs)) (fun a p' s' h' => h' Γ p' rfl hΓ) (fun x p' s' h' => h' Γ p' rfl hΓ)
theorem sg_bind {α β : Type} {m : Sem α} {K : α → Sem β} {K' : β → Sem Fin} {H' : Value → Sem Fin} {gd lv}
    (h : wpAny M (A.over c fs) m (fun a s' => SegG M A N c ((K a).wrap K' H' gd lv) fs s') (fun x s' => SegG M A N c (H' x) fs s') s) : SegG M A N c ((m >>= K).wrap K' H' gd lv) fs s := by
  rw [Sem.bind_eq_wrap', Sem.wrap_wrap]; exact sg_wrap h
theorem sg_at {p' : Pos} {k : Unit → Sem Fin} (h : SegG M A N c (k ()) fs s) : SegG M A N c (.at p' k) fs s :=
  sg_wrap (m := standAt p') (K := k) (H := .raise) (gd := id) (lv := id) (wpAny_standAt h)
theorem sg_point {l : List Value} {k : Unit → Sem Fin} (h : SegG M A N c (k ()) fs s) : SegG M A N c (.point l k) fs s :=
  sg_wrap (m := point) (K := k) (H := .raise) (gd := id) (lv := fun _ => l) (wpAny_point h)
theorem sg_call {c' : Code} {h g l} {k : Result → Sem Fin} (hc : ∀ p, SegG M A N c' (M.den c') (.ret k h g l c p [] :: fs) s) : SegG M A N c (.call c' h g l k) fs s := by
  rintro Γ p rfl hΓ
  obtain ⟨e, s', hr, he⟩ := hc p (Γ.goto c') p rfl (hΓ.goto c')
  exact ⟨e, s', runs_call_seg hr, he⟩
theorem sg_leaf {k h g l c₁ p₁ kp} (r : Result) (hk : SegG M A N c₁ (k r) fs s) : SegG M A N c (leafOf r) (.ret k h g l c₁ p₁ kp :: fs) s := by
  rintro Γ p rfl hΓ
  obtain ⟨e, s', hr, he⟩ := hk (Γ.goto c₁) p₁ rfl (hΓ.goto c₁)
  exact ⟨e, s', Runs.pop r hr, he⟩
theorem sg_again {c' : Code} (hq : c'.quiet = true) (hc : SegG M A N c' (M.den c') fs s) : SegG M A N c (.pure (.again c')) fs s := by
  rintro Γ p rfl hΓ
  obtain ⟨e, s', hr, he⟩ := hc (Γ.goto c') p rfl (hΓ.goto c')
  exact ⟨e, s', Runs.head (c₁ := c') (fun _ _ x => .again hq x) hr, he⟩
theorem sg_end (r : Result) (h : N (.ret r) s) : SegG M A N c (leafOf r) [] s := by
  rintro Γ p rfl _
  exact ⟨.ret r, s, Runs.leaf r, h⟩
theorem sg_yield {v g l} {k : Resume → Sem Fin} (hfs : splitAtGen fs = none) (h : ∀ p, N (.susp v g l k c p fs) s) : SegG M A N c (.yield v g l k) fs s := by
  rintro Γ p rfl _
  exact ⟨_, s, Runs.yield' fs hfs, h p⟩

theorem sg_nil (h : SegG M A N c (K .next) fs s) : SegG M A N c ((execs [] env).wrap K H gd lv) fs s := h
theorem sg_cons {st : Stmt} {rest : List Stmt} (h : SegG M A N c ((exec st env).wrap (fun f => match f with | .next => (execs rest env).wrap K H gd lv | f => K f) H gd lv) fs s) : SegG M A N c ((execs (st :: rest) env).wrap K H gd lv) fs s := by
  rw [execs_cons_wrap]; exact h
theorem sg_If {test : Expr} {body orelse : List Stmt} {pos : Pos}
    (h : wpAny M (A.over c fs) (isTrue test env (eval test env)) (fun b s' => if b = true then SegG M A N c ((execs body env).wrap K H gd lv) fs s' else SegG M A N c ((execs orelse env).wrap K H gd lv) fs s') (fun x s' => SegG M A N c (H x) fs s') s) :
    SegG M A N c ((exec (.If test body orelse pos) env).wrap K H gd lv) fs s := by
  rw [exec_If]
  refine sg_bind (wpAny_standAt ?_)
  refine sg_bind (wpAny_mono h (fun b s' hb => ?_) fun _ _ e => e)
  cases b <;> exact hb
theorem sg_Yield {e : Expr} {ypos pos : Pos} (hfs : splitAtGen fs = none)
    (h : wpAny M (A.over c fs) (eval e env) (fun v s' => ∀ (p : Pos) (l : List Value) (k : Resume → Sem Fin), (k (.send .none) = K .next) → N (.susp v (gd false) l k c p fs) s') (fun x s' => SegG M A N c (H x) fs s') s)
    (hco : env.scope.isCoroutine = false) (hi : interactive env = false) : SegG M A N c ((exec (.Expr (.Yield (some e) ypos) pos) env).wrap K H gd lv) fs s := by
  rw [exec_Expr env _ pos hi rfl]
  show SegG M A N c (.at pos fun _ => ((eval e env >>= fun v => (standAt ypos >>= fun _ => yieldOut env v)) >>= fun x => dropValue (.Yield (some e) ypos) pos x).wrap K H gd lv) fs s
  have hy : ∀ v, yieldOut env v = yieldValue v := fun v => by simp only [yieldOut, hco, Bool.false_eq_true, if_false]
  simp only [hy]
  refine sg_at ?_
  rw [Sem.bind_eq_wrap', Sem.bind_eq_wrap', Sem.wrap_wrap, Sem.wrap_wrap]
  refine sg_wrap (wpAny_mono h (fun v s' h' => ?_) fun _ _ x => x)
  refine sg_at (sg_yield hfs fun p => h' p _ _ ?_)
  rfl

/-- what a caller does with a loop's end -/
def backK (env : Env) (K : Flow → Sem Fin) (H : Value → Sem Fin) (gd : Bool → Bool) (lv : List Value → List Value) : Result → Sem Fin :=
  fun r => ((match r with | .ok f => (.pure f : Sem Flow) | .error e => .raise e).onRaise fun (x : Value) => do
        if (← field x 1) == Value.none then unsupported "frame.own-activation:exception-without-traceback"
        setFlight x env.frame).wrap K H gd lv
theorem backK_ok (f : Flow) : backK env K H gd lv (.ok f) = K f := rfl
theorem sg_For {target iter : Expr} {body orelse : List Stmt} {pos : Pos} (hs : ∀ x, foldedSetIterable iter env x = pure x)
    (h : wpAny M (A.over c fs) (eval iter env) (fun x s₁ => wpAny M (A.over c fs) (pyIter x) (fun it s₂ => ∀ p, SegG M A N (.forLoop target it body orelse env) (M.den (.forLoop target it body orelse env))
      (.ret (backK env K H gd lv) none (gd false) (lv []) c p [] :: fs) s₂) (fun x s' => SegG M A N c (H x) fs s') s₁) (fun x s' => SegG M A N c (H x) fs s') s) :
    SegG M A N c ((exec (.For target iter body orelse pos) env).wrap K H gd lv) fs s := by
  rw [exec_For]
  refine sg_bind (wpAny_standAt ?_)
  refine sg_bind (wpAny_mono h (fun x s₁ h₁ => ?_) fun _ _ e => e)
  refine sg_bind (wpAny_of_eq (hs x) ?_)
  refine sg_bind (wpAny_standAt ?_)
  refine sg_bind (wpAny_holding (wpAny_mono h₁ (fun it s₂ h₂ => ?_) fun _ _ e => e))
  exact sg_call h₂
end

section
variable {prog : Program} {w : World} {A : Around} {N : End → Shared → Prop} {fs : List Frame} {s : Shared} {env : Env}
def loopK (target : Expr) (it : Value) (body orelse : List Stmt) (env : Env) : Flow → Sem Fin := fun f => match f with
  | .next | .cont => .pure (.again (.forLoop target it body orelse env))
  | .brk => .pure (.done .next)
  | .ret v => .pure (.done (.ret v))
def loopH (env : Env) : Value → Sem Fin := fun e => (do noteFrame e env; theTreesLotGoes e : Sem Unit).bind (fun _ => .raise e)
theorem sg_forLoop {target : Expr} {it : Value} {body orelse : List Stmt}
    (h : ∀ E E' : Value → Shared → Prop, wpAny (model prog w) (A.over (.forLoop target it body orelse env) fs) (pyNext it) (fun r s₁ => match r with
      | none => SegG (model prog w) A N (.block orelse env) ((model prog w).den (.block orelse env)) fs s₁
      | some v => wpAny (model prog w) (A.over (.forLoop target it body orelse env) fs) (letOwnedTupleGo target it v) (fun _ s₂ => wpAny (model prog w) (A.over (.forLoop target it body orelse env) fs) (assign target env v) (fun _ s₃ =>
          SegG (model prog w) A N (.forLoop target it body orelse env) ((execs body env).wrap (loopK target it body orelse env) (loopH env) id id) fs s₃) E s₂) E s₁) E' s) :
    SegG (model prog w) A N (.forLoop target it body orelse env) ((model prog w).den (.forLoop target it body orelse env)) fs s := by
  show SegG _ A N _ ((forTurn target it body orelse env).onRaise (fun x => do noteFrame x env; theTreesLotGoes x)) fs s
  unfold forTurn
  rw [Sem.onRaise_eq_wrap]
  refine sg_bind (wpAny_standAt ?_)
  refine sg_bind (wpAny_onRaise (wpAny_mono (h (fun x s' => SegG (model prog w) A N (.forLoop target it body orelse env) (loopH env x) fs s') _) (fun r s₁ h₁ => ?_) fun _ _ e => e))
  cases r with
  | none => exact sg_again rfl h₁
  | some v =>
    refine sg_bind (wpAny_mono h₁ (fun _ s₂ h₂ => ?_) fun _ _ e => e)
    refine sg_bind (wpAny_mono h₂ (fun _ s₃ h₃ => ?_) fun _ _ e => e)
    rw [Sem.bind_eq_wrap', Sem.wrap_wrap]
    refine Eq.mp (congrArg (fun tr => SegG (model prog w) A N (.forLoop target it body orelse env) tr fs s₃) ?_) h₃
    refine (Sem.wrap_congr (execs body env) id id (fun f => ?_) fun e => ?_)
    · cases f <;> rfl
    · rfl
def funcK : Flow → Sem Fin := fun f => .pure (.done (.ret (match f with | .ret v => v | _ => .none)))
theorem sg_func {body : List Stmt} (h : SegG (model prog w) A N (.func body env) ((execs body env).wrap funcK (fun e => (leaving env e).wrap (fun _ => .raise e) .raise id id) id id) fs s) :
    SegG (model prog w) A N (.func body env) ((model prog w).den (.func body env)) fs s := by
  show SegG _ A N _ (.point [] fun _ => ((execs body env).onRaise (leaving env)) >>= _) fs s
  refine sg_point ?_
  rw [Sem.onRaise_eq_wrap, Sem.bind_eq_wrap', Sem.wrap_wrap]
  rw [Sem.wrap_congr (execs body env) _ _ (K' := funcK) (H' := fun e => (leaving env e).wrap (fun _ => .raise e) .raise id id) (fun f => by cases f <;> rfl)
    (fun e => by rw [Sem.bind_eq_wrap, Sem.wrap_wrap]; rfl)]
  exact h

/-- where a generator goes on -/
def GoesG (M : Model) (A : Around) (N : End → Shared → Prop) (gs : GenState) (s : Shared) : Prop :=
  match gs with
  | .fresh c => SegG M A N c (M.den c) [] s
  | .suspended k _ c _ fs _ => SegG M A N c (k (.send .none)) fs s
  | _ => False
theorem wpAny_resumeG {M : Model} {E : Value → Shared → Prop} {g : Nat} {gs : GenState} {l : List Value} {α : Type} {k : GenResult → Sem α} {Q : α → Shared → Prop} (hg : s.gens[g]? = some gs)
    (hgo : GoesG M A N gs (s.setGen g .running)) (hN : ∀ e s₁, N e s₁ → e.quiet = true ∧ wpAny M A (k e.result) Q E (s₁.setGen g e.genState)) : wpAny M A (.resume g (.send .none) l k) Q E s := by
  intro Γ p hΓ
  rw [Sem.wp_resume]
  have hB : ∀ c, (Γ.wake c p).Woken A := fun c => hΓ.wake c p
  cases gs with
  | fresh c =>
    obtain ⟨e₁, s₁, hr, he⟩ := hgo (Γ.wake c p) p rfl (hB c)
    obtain ⟨hq, hw⟩ := hN e₁ s₁ he
    exact ⟨_, _, by unfold Wakes; rw [hg]; exact ⟨e₁, s₁, hr, hq, rfl, rfl⟩, hw Γ p hΓ⟩
  | suspended k₀ l₀ c₀ p₀ fs₀ cl =>
    obtain ⟨e₁, s₁, hr, he⟩ := hgo (Γ.wake c₀ p) p₀ rfl (hB c₀)
    obtain ⟨hq, hw⟩ := hN e₁ s₁ he
    exact ⟨_, _, by unfold Wakes; rw [hg]; exact ⟨e₁, s₁, hr, hq, rfl, rfl⟩, hw Γ p hΓ⟩
  | running => exact hgo.elim
  | finished => exact hgo.elim
/-- a draw from a generator -/
theorem next_gen {E : Value → Shared → Prop} {a : Addr} {g : Nat} {gs : GenState} {Q : Option Value → Shared → Prop} (hh : A.handled = none) (hl : s.heap.NoLimit) (hroom : A.depth < recursionLimit) (hg : s.heap.IsGen a g) (hgs : s.gens[g]? = some gs)
    (hgo : GoesG (model prog w) A.in1 N gs (s.setGen g .running))
    (hN : ∀ e s₁, N e s₁ → e.quiet = true ∧ match e with
      | .ret r => r = .ok (.ret .none) ∧ ∀ h', Keep s₁.heap h' → Q none { s₁.setGen g .finished with heap := h' }
      | .susp v _ _ _ _ _ _ => Q (some v) (s₁.setGen g e.genState)) : wpAny (model prog w) A (pyNext (.ref a)) Q E s := by
  unfold pyNext
  refine wpAny_bind (wpAny_attempt (wpAny_callSpecial?_slot (name := Str.ofString "__next__") hg.typeIs slot_gen_next
    (wpAny_call_entry slot_gen_next hg.typeIs entry_gen_next ?_ (args_gen_next _))))
  show wpAny _ A.in1 (Builtin.Generator.genWake (.ref a) (.send .none)) _ _ s
  unfold Builtin.Generator.genWake
  refine wpAny_bind (wpAny_holding (wpAny_genNumber hg (wpAny_bind (wpAny_genState hgs ?_))))
  cases gs with
  | running => exact hgo.elim
  | finished => exact hgo.elim
  | _ =>
    refine wpAny_bind (wpAny_roomToWake hl hroom ?_)
    show wpAny _ A.in1 (.resume g (.send .none) [] _) _ _ s
    refine wpAny_resumeG hgs hgo fun e s₁ he => ?_
    obtain ⟨hq, hx⟩ := hN e s₁ he
    refine ⟨hq, ?_⟩
    cases e with
    | ret r =>
      obtain ⟨rfl, hp⟩ := hx
      show wpAny _ A.in1 (newExc (.type "StopIteration") [] >>= _) _ _ _
      refine wpAny_bind ?_
      simp only [newExc, newTuple]
      refine wpAny_bind (wpAny_newObj_type ?_ (by size_fits))
      refine wpAny_bind (m := firstArgMember _ _) (wpAny_of_eq (a := Value.none) (by first | rfl | (simp only [firstArgMember]; rfl)) ?_)
      refine wpAny_newObj_type ?_ (by size_fits)
      simp only [raiseNew]
      refine wpAny_bind (wpAny_bind (wpAny_handled ?_))
      rw [show A.in1.handled = none from hh]
      refine wpAny_throw ?_
      refine wpAny_bind (wpAny_isInstance (T := "StopIteration") (b := true) ⟨_, Heap.get?_push_size _ rfl, rfl⟩ isSubtype_stop ?_)
      exact wpAny_pure (hp _ fun b o hb => Heap.get?_push_of_some _ (Heap.get?_push_of_some _ hb))
    | susp v g₀ l₀ k₀ c₀ p₀ fs₀ => exact wpAny_pure ⟨v, rfl, wpAny_pure hx⟩
end
end Mine
namespace Mine
open PySem PySem.Calls PyProof.Rows

/-- the text of these signs -/
def S (l : List Nat) : Str := ⟨l.toArray⟩
theorem S_cps (l : List Nat) : (S l).cps.toList = l := rfl
theorem S_len (l : List Nat) : (S l).length = l.length := by simp [S, Str.length]
theorem S_eta (x : Str) : S x.cps.toList = x := rfl
theorem S_inj {a b : List Nat} : S a = S b ↔ a = b := by simp [S]
theorem S_beq {a b : List Nat} : (S a == S b) = (a == b) := by rw [Bool.eq_iff_iff]; simp [S_inj]
theorem S_append (a b : List Nat) : S a ++ S b = S (a ++ b) := by
  show (⟨a.toArray ++ b.toArray⟩ : Str) = ⟨(a ++ b).toArray⟩
  simp
theorem contains_one (l : List Nat) (c : Nat) : Txt.contains (S l) (S [c]) = decide (c ∈ l) := by
  have := StrLaws.found_one (S l) c
  rw [S_cps] at this
  exact this

/-- a cut -/
def cut {α : Type} (l : List α) (a b : Nat) : List α := (l.drop a).take (b - a)
theorem run_clip {α : Type} (l : List α) (a b : Nat) : (l.drop (min a l.length)).take (min b l.length - min a l.length) = cut l a b := by
  unfold cut
  by_cases h : a ≤ l.length
  · rw [Nat.min_eq_left h]
    by_cases hb : b ≤ l.length
    · rw [Nat.min_eq_left hb]
    · have hb' : l.length ≤ b := by omega
      rw [Nat.min_eq_right hb', List.take_of_length_le (by simp), List.take_of_length_le (by simp; omega)]
  · have h' : l.length ≤ a := by omega
    rw [Nat.min_eq_right h', List.drop_of_length_le (Nat.le_refl _), List.drop_of_length_le h']
    simp
theorem pick_run' {α : Type} (xs : List α) (a k : Nat) : ((List.range k).map (a + ·)).filterMap (xs[·]?) = (xs.drop a).take k := by
  have := pick_run xs.toArray a k
  simpa using this
theorem sliceIdx (n a b : Nat) : sliceRange (clipAt n a : Nat) (clipAt n b : Nat) 1 = (List.range (min b n - min a n)).map (min a n + ·) := by
  rw [sliceRange_one, clipAt_nat, clipAt_nat]

theorem pick_ab (xs : List AV) (a b : Nat) : pick xs (some a) (some b) none = cut xs a b := by
  unfold pick
  rw [sliceBounds_plain]
  show (sliceRange (clipAt xs.length a : Nat) (clipAt xs.length b : Nat) 1).filterMap _ = _
  rw [sliceIdx, pick_run', run_clip]
theorem pick_b (xs : List AV) (b : Nat) : pick xs none (some b) none = xs.take b := by
  unfold pick
  rw [sliceBounds_plain]
  show (sliceRange ((0 : Nat) : Int) (clipAt xs.length b : Nat) 1).filterMap _ = _
  rw [sliceRange_one, clipAt_nat, pick_run', List.drop_zero, Nat.sub_zero]
  by_cases h : b ≤ xs.length
  · rw [Nat.min_eq_left h]
  · rw [Nat.min_eq_right (by omega), List.take_length, List.take_of_length_le (by omega)]
theorem pick_a (xs : List AV) (a : Nat) : pick xs (some a) none none = xs.drop a := by
  unfold pick
  rw [sliceBounds_plain]
  show (sliceRange (clipAt xs.length a : Nat) ((xs.length : Nat) : Int) 1).filterMap _ = _
  rw [sliceRange_one, clipAt_nat, pick_run']
  have := run_clip xs a xs.length
  rw [Nat.min_self] at this
  rw [this]
  unfold cut
  rw [List.take_of_length_le (by simp)]
/-- xs[a:-b] -/
theorem pick_am (xs : List AV) (a b : Nat) (hb : 1 ≤ b) : pick xs (some a) (some (-(b : Int))) none = cut xs a (xs.length - b) := by
  unfold pick
  rw [sliceBounds_plain]
  show (sliceRange (clipAt xs.length a : Nat) (clipAt xs.length (-(b : Int)) : Nat) 1).filterMap _ = _
  rw [sliceRange_one, clipAt_nat, clipAt_neg _ _ hb, pick_run']
  have := run_clip xs a (xs.length - b)
  rwa [Nat.min_eq_left (Nat.sub_le _ _)] at this
/-- xs[-b:] -/
theorem pick_m (xs : List AV) (b : Nat) (hb : 1 ≤ b) : pick xs (some (-(b : Int))) none none = xs.drop (xs.length - b) := by
  unfold pick
  rw [sliceBounds_plain]
  show (sliceRange (clipAt xs.length (-(b : Int)) : Nat) ((xs.length : Nat) : Int) 1).filterMap _ = _
  rw [sliceRange_one, clipAt_neg _ _ hb, pick_run', List.take_of_length_le (by simp)]
theorem rev_idx {α : Type} (xs : List α) : ((List.range xs.length).map fun (k : Nat) => ((xs.length : Int) - 1 + (-1) * (k : Int)).toNat).filterMap (xs[·]?) = xs.reverse := by
  have h2 : ((List.range xs.length).map fun (k : Nat) => ((xs.length : Int) - 1 + (-1) * (k : Int)).toNat).filterMap (xs[·]?) = (List.range xs.length).pmap (fun k (h : k < xs.length) => xs[xs.length - 1 - k]) (fun k h => List.mem_range.mp h) := by
    have : ∀ l : List Nat, (hl : ∀ k ∈ l, k < xs.length) → (l.map fun (k : Nat) => ((xs.length : Int) - 1 + (-1) * (k : Int)).toNat).filterMap (xs[·]?) = l.pmap (fun k (h : k < xs.length) => xs[xs.length - 1 - k]) hl := by
      intro l
      induction l with
      | nil => intro _; rfl
      | cons k l ih =>
        intro hl
        have hk := hl k (List.mem_cons_self ..)
        have e0 : ((xs.length : Int) - 1 + (-1) * (k : Int)).toNat = xs.length - 1 - k := by omega
        have e : xs[((xs.length : Int) - 1 + (-1) * (k : Int)).toNat]? = some xs[xs.length - 1 - k] := by
          rw [e0]; exact List.getElem?_eq_getElem (by omega)
        rw [List.map_cons, List.filterMap_cons]
        simp only [e]
        rw [List.pmap_cons, ih fun j hj => hl j (List.mem_cons_of_mem _ hj)]
    exact this _ _
  rw [h2]
  apply List.ext_getElem?
  intro i
  rw [List.getElem?_pmap]
  by_cases hi : i < xs.length
  · rw [List.getElem?_reverse hi]
    simp [hi]
  · simp [hi]
theorem pick_rev (xs : List AV) : pick xs none none (some (-1)) = xs.reverse := by
  unfold pick
  have e : sliceBounds none none (some (-1)) xs.length = ((xs.length : Int) - 1, -1, -1) := by rfl
  rw [e]
  show (sliceRange ((xs.length : Int) - 1) (-1) (-1)).filterMap (xs[·]?) = _
  have : sliceRange ((xs.length : Int) - 1) (-1) (-1) = (List.range xs.length).map fun (k : Nat) => ((xs.length : Int) - 1 + (-1) * (k : Int)).toNat := by
    unfold sliceRange
    have hc : (if (-1 : Int) > 0 then (if (xs.length : Int) - 1 < -1 then (-1 - ((xs.length : Int) - 1) + -1 - 1) / -1 else 0) else (if (xs.length : Int) - 1 > -1 then ((xs.length : Int) - 1 - -1 - -1 - 1) / (- -1) else 0)).toNat = xs.length := by
      rw [if_neg (by decide)]
      split
      · have : ((xs.length : Int) - 1 - -1 - -1 - 1) / (- -1) = xs.length := by
          rw [show (- -1 : Int) = 1 from rfl, Int.ediv_one]; omega
        rw [this]; simp
      · rename_i h; simp; omega
    simp only [hc]
  rw [this, rev_idx]

theorem spick_of {l : List Nat} {lo hi st : Option Int} {r : List Nat} (h : (Builtin.Str.strSliceIndices lo hi (st.getD 1) l.length).filterMap (l[·]?) = r) (hfull : st.getD 1 = 1 → (Builtin.Str.strSliceIndices lo hi (st.getD 1) l.length).length = l.length → r = l) : spick (S l) lo hi st = S r := by
  unfold spick
  have e1 : (S l).length = l.length := S_len l
  have e2 : ∀ i : Nat, (S l).cps[i]? = l[i]? := fun i => by simp [S]
  rw [e1]
  split
  · rename_i hc
    simp only [Bool.and_eq_true, beq_iff_eq] at hc
    rw [hfull hc.1 hc.2]
  · show (⟨_⟩ : Str) = ⟨_⟩
    congr 1
    simp only [e2]
    rw [h]
theorem sidx_run (a b n : Nat) (hb : b ≤ n) : (sliceRange (a : Int) (b : Int) 1) = (List.range (b - a)).map (a + ·) := sliceRange_one a b
theorem spick_ab (l : List Nat) (a b : Nat) : spick (S l) (some a) (some b) none = S (cut l a b) := by
  have e : Builtin.Str.strSliceIndices (some (a : Int)) (some (b : Int)) 1 l.length = (List.range (min b l.length - min a l.length)).map (min a l.length + ·) := by
    rw [← sliceIdx]
    show sliceRange (max 0 (min (if (a : Int) < 0 then (a : Int) + l.length else a) l.length)) (max 0 (min (if (b : Int) < 0 then (b : Int) + l.length else b) l.length)) 1 = _
    rw [← clipAt_cast, ← clipAt_cast]
  refine spick_of ?_ fun _ hl => ?_
  · show (Builtin.Str.strSliceIndices (some (a : Int)) (some (b : Int)) 1 l.length).filterMap _ = _
    rw [e, pick_run', run_clip]
  · have hl' : (Builtin.Str.strSliceIndices (some (a : Int)) (some (b : Int)) 1 l.length).length = l.length := hl
    rw [e] at hl'
    simp at hl'
    unfold cut
    by_cases h0 : l.length = 0
    · have : l = [] := List.length_eq_zero_iff.mp h0
      subst this; simp
    · have ha : a = 0 := by omega
      have hb : l.length ≤ b := by omega
      subst ha
      rw [List.drop_zero, List.take_of_length_le (by omega)]
theorem spick_a (l : List Nat) (a : Nat) : spick (S l) (some a) none none = S (l.drop a) := by
  have e : Builtin.Str.strSliceIndices (some (a : Int)) none 1 l.length = (List.range (l.length - min a l.length)).map (min a l.length + ·) := by
    show sliceRange (max 0 (min (if (a : Int) < 0 then (a : Int) + l.length else a) l.length)) (l.length : Int) 1 = _
    rw [← clipAt_cast, sliceRange_one, clipAt_nat]
  have hd : cut l a l.length = l.drop a := by unfold cut; rw [List.take_of_length_le (by simp)]
  refine spick_of ?_ fun _ hl => ?_
  · show (Builtin.Str.strSliceIndices (some (a : Int)) none 1 l.length).filterMap _ = _
    rw [e, pick_run']
    have := run_clip l a l.length
    rw [Nat.min_self] at this
    rw [this, hd]
  · have hl' : (Builtin.Str.strSliceIndices (some (a : Int)) none 1 l.length).length = l.length := hl
    rw [e] at hl'
    simp at hl'
    by_cases h0 : l.length = 0
    · have : l = [] := List.length_eq_zero_iff.mp h0
      subst this; simp
    · have ha : a = 0 := by omega
      subst ha; rfl
theorem spick_b (l : List Nat) (b : Nat) : spick (S l) none (some b) none = S (l.take b) := by
  have e : Builtin.Str.strSliceIndices none (some (b : Int)) 1 l.length = (List.range (min b l.length)).map (0 + ·) := by
    show sliceRange ((0 : Nat) : Int) (max 0 (min (if (b : Int) < 0 then (b : Int) + l.length else b) l.length)) 1 = _
    rw [← clipAt_cast, sliceRange_one, clipAt_nat, Nat.sub_zero]
  have ht : l.take (min b l.length) = l.take b := by
    by_cases h : b ≤ l.length
    · rw [Nat.min_eq_left h]
    · rw [Nat.min_eq_right (by omega), List.take_length, List.take_of_length_le (by omega)]
  refine spick_of ?_ fun _ hl => ?_
  · show (Builtin.Str.strSliceIndices none (some (b : Int)) 1 l.length).filterMap _ = _
    rw [e, pick_run', List.drop_zero, ht]
  · have hl' : (Builtin.Str.strSliceIndices none (some (b : Int)) 1 l.length).length = l.length := hl
    rw [e] at hl'
    simp at hl'
    rw [List.take_of_length_le (by omega)]
theorem spick_rev (l : List Nat) : spick (S l) none none (some (-1)) = S l.reverse := by
  refine spick_of ?_ fun h => by cases h
  have : Builtin.Str.strSliceIndices none none (-1) l.length = (List.range l.length).map fun (k : Nat) => ((l.length : Int) - 1 + (-1) * (k : Int)).toNat := by
    show sliceRange ((l.length : Int) - 1) (-1) (-1) = _
    unfold sliceRange
    have hc : (if (-1 : Int) > 0 then (if (l.length : Int) - 1 < -1 then (-1 - ((l.length : Int) - 1) + -1 - 1) / -1 else 0) else (if (l.length : Int) - 1 > -1 then ((l.length : Int) - 1 - -1 - -1 - 1) / (- -1) else 0)).toNat = l.length := by
      rw [if_neg (by decide)]
      split
      · have : ((l.length : Int) - 1 - -1 - -1 - 1) / (- -1) = l.length := by
          rw [show (- -1 : Int) = 1 from rfl, Int.ediv_one]; omega
        rw [this]; simp
      · rename_i h; simp; omega
    simp only [hc]
  show (Builtin.Str.strSliceIndices none none (-1) l.length).filterMap _ = _
  rw [this, rev_idx]

theorem join_flat (ls : List (List Nat)) : Txt.join (S []) (ls.map S) = S ls.flatten := by
  show Builtin.Str.glued (S []) (ls.map S) = _
  unfold Builtin.Str.glued
  have key : ∀ (ls : List (List Nat)) (acc : Array Nat), (ls.map S).foldl (fun acc p => acc ++ (S []).cps ++ p.cps) acc = acc ++ ls.flatten.toArray := by
    intro ls
    induction ls with
    | nil => intro acc; simp
    | cons l ls ih => intro acc; simp only [List.map_cons, List.foldl_cons, ih]; simp [S]
  cases ls with
  | nil => rfl
  | cons l ls =>
    show (⟨(ls.map S).foldl _ (S l).cps⟩ : Str) = _
    rw [key]
    simp [S]
theorem joinOk_of (ls : List (List Nat)) (h : (ls.map List.length).sum ≤ sizeLine) : JoinOk (S []) (ls.map S) = true := by
  unfold JoinOk
  have key : ∀ (ls : List (List Nat)) (n : Nat), (ls.map S).foldl (fun a b => a + b.length + (S []).length) n = n + (ls.map List.length).sum := by
    intro ls
    induction ls with
    | nil => intro n; simp
    | cons l ls ih =>
      intro n
      rw [List.map_cons, List.foldl_cons, ih, List.map_cons, List.sum_cons, S_len, S_len]
      simp; omega
  have : (ls.map S).toArray.foldl (· + ·.length + (S []).length) 0 = (ls.map List.length).sum := by
    have := key ls 0
    simpa using this
  rw [this]
  simp [Builtin.Str.tooLong]; omega
theorem mul_rep (l : List Nat) (k : Int) : Txt.mul (S l) k = S (List.replicate k.toNat l).flatten := by
  unfold Txt.mul
  split
  · rename_i h
    have : k.toNat = 0 := by omega
    rw [this]; rfl
  · rename_i h
    split
    · rename_i hc
      simp only [Bool.or_eq_true, beq_iff_eq] at hc
      rcases hc with rfl | hc
      · simp
      · have : l = [] := by rw [S_len] at hc; exact List.length_eq_zero_iff.mp hc
        subst this; simp
    · show (⟨_⟩ : Str) = ⟨_⟩
      congr 1
      have key : ∀ (n : Nat) (acc : Array Nat), (List.replicate n (S l).cps).foldl (· ++ ·) acc = acc ++ (List.replicate n l).flatten.toArray := by
        intro n
        induction n with
        | zero => intro acc; simp
        | succ n ih => intro acc; simp only [List.replicate_succ, List.foldl_cons, ih]; simp [S]
      rw [key]; simp
end Mine
namespace Mine
open PySem PySem.Calls PyProof.Rows

def compChk (sc scope : Scope) (x : Str) (fv : List Str) : Bool :=
  scope.kind == .function && scope.names.all (fun y => y.2 != .local || scope.names.lookup y.1 == some .local) && (scope.names.lookup x == some .local || scope.names.lookup x == some .cell) && scope.names.all (fun p => p.2 != .cell || p.1 == x) &&
  scope.names.all (fun p => p.2 != .free || ((sc.names.lookup p.1 == some .cell || sc.names.lookup p.1 == some .free) && fv.contains p.1)) && (scope.names.lookup x != some .local || scope.names.all (fun p => p.2 != .cell))
theorem CompOk.of {sc scope : Scope} {ρ : Str → Option AV} {x : Str} (fv : List Str) (h : compChk sc scope x fv = true) (hρ : ∀ y ∈ fv, (ρ y).isSome = true) : CompOk sc scope ρ x := by
  unfold compChk at h
  simp only [Bool.and_eq_true, Bool.or_eq_true, List.all_eq_true, beq_iff_eq, bne_iff_ne] at h
  obtain ⟨⟨⟨⟨⟨h1, h2⟩, h3⟩, h4⟩, h5⟩, h6⟩ := h
  refine ⟨h1, fun y hy e => (h2 y hy).resolve_left fun h => h e, h3, fun p hp e => (h4 p hp).resolve_left fun h => h e, fun y hy => ?_, fun e p hp => ?_⟩
  · have := (h5 _ hy).resolve_left fun h => h rfl
    exact ⟨this.1, hρ y (List.contains_iff_mem.mp this.2)⟩
  · exact (h6.resolve_left fun h => h e) p hp

def aI : AV → Int
  | .int i => i
  | _ => 0
theorem filter_ints (P : Int → Bool) (g : Int → AV) (xs : List Int) : (((xs.map PyData.int).filter fun a => P (aI a)).map fun a => g (aI a)) = (xs.filter P).map g := by
  induction xs with
  | nil => rfl
  | cons i xs ih =>
    have e : aI (.int i) = i := rfl
    simp only [List.map_cons, List.filter_cons, e]
    cases P i with
    | true => simp only [if_true, List.map_cons, ih, e]
    | false => simpa using ih
section
variable {X : Cx} {sc : Scope} {ρ : Str → Option AV} {n : Nat}
/-- a comprehension over ints -/
theorem EvN.compI {elt iter : Expr} {x : Str} {px pos : Pos} {ifs : List Expr} {scope : Scope} {xs : List Int} (P : Int → Bool) (g : Int → AV) (hi : Iter X sc ρ n iter (xs.map .int)) (ho : CompOk sc scope ρ x)
    (ht : ∀ i ∈ xs, TrL X (relab sc scope) (ρc sc scope ρ x (.int i)) n ifs (P i)) (he : ∀ i ∈ xs, P i = true → Ev X (relab sc scope) (ρc sc scope ρ x (.int i)) n elt (g i)) (hsz : xs.length ≤ sizeLine) (hs : ∀ env y, foldedSetIterable iter env y = pure y) :
    EvN X sc ρ n (.ListComp elt [⟨.Name x px, iter, ifs, 0⟩] scope pos) ((xs.filter P).map g) := by
  have := EvN.comp (elt := elt) (pos := pos) (px := px) (fun a => P (aI a)) (fun a => g (aI a)) hi ho (fun a ha => by obtain ⟨i, hi, rfl⟩ := List.mem_map.mp ha; exact ht i hi) (fun a ha hp => by obtain ⟨i, hi, rfl⟩ := List.mem_map.mp ha; exact he i hi hp) (by simpa using hsz) hs
  rwa [filter_ints] at this
theorem EvN.mapI {elt iter : Expr} {x : Str} {px pos : Pos} {scope : Scope} {xs : List Int} (g : Int → AV) (hi : Iter X sc ρ n iter (xs.map .int)) (ho : CompOk sc scope ρ x)
    (he : ∀ i ∈ xs, Ev X (relab sc scope) (ρc sc scope ρ x (.int i)) n elt (g i)) (hsz : xs.length ≤ sizeLine) (hs : ∀ env y, foldedSetIterable iter env y = pure y) :
    EvN X sc ρ n (.ListComp elt [⟨.Name x px, iter, [], 0⟩] scope pos) (xs.map g) := by
  have := EvN.compI (elt := elt) (pos := pos) (px := px) (fun _ => true) g hi ho (fun _ _ => TrL.nil) (fun i h _ => he i h) hsz hs
  rwa [List.filter_eq_self.mpr fun _ _ => rfl] at this
end
/-- a list of plain data may be compared -/
theorem flat_shape : ∀ {xs : List AV}, (xs.all fun a => flat a && a.canLay0) = true → PyData.canLayAll0 xs = true ∧ PyData.depthAll xs = 0
  | [], _ => by simp [PyData.canLayAll0, PyData.depthAll]
  | a :: xs, h => by
    simp only [List.all_cons, Bool.and_eq_true] at h
    obtain ⟨h1, h2⟩ := flat_shape (xs := xs) (by simpa using h.2)
    refine ⟨by simp [PyData.canLayAll0, h.1.2, h1], ?_⟩
    have : a.depth = 0 := by cases a <;> first | (simp [PyData.depth]; done) | (have := h.1.1; cases this)
    simp [PyData.depthAll, this, h2]
theorem shaped_flat {xs : List AV} (h : (xs.all fun a => flat a && a.canLay0) = true) : SeqAt.shaped (.list xs) = true := by
  obtain ⟨h1, h2⟩ := flat_shape h
  simp [SeqAt.shaped, PyData.canLay0, PyData.depth, h1, h2]
theorem shaped_ints (xs : List Int) : SeqAt.shaped (.list (xs.map .int)) = true := shaped_flat (by simp [flat, PyData.canLay0])
theorem shaped_nats (xs : List Nat) : SeqAt.shaped (.list (xs.map fun (k : Nat) => .int (k : Int))) = true := shaped_flat (by simp [flat, PyData.canLay0])
theorem eqv_ints : ∀ ns ms : List Int, PyData.eqvAll (ns.map PyData.int) (ms.map PyData.int) = (ns == ms)
  | [], [] => rfl
  | [], _ :: _ => rfl
  | _ :: _, [] => rfl
  | a :: r, b :: t => by
    simp only [List.map_cons, PyData.eqvAll, PyData.eqv, eqv_ints r t]
    rfl
end Mine
namespace Mine
open PySem PySem.Calls PyProof.Rows
section
variable {X : Cx} {sc : Scope} {n : Nat} {f : AF} {P : Fl → AF → Prop}
/-- x, y = e₁, e₂ with y a cell -/
theorem Ex1.twoFC {x y : Str} {px py tp vp pos : Pos} {k k' : Nat} {e₁ e₂ : Expr} {a b : AV} (h1 : Ev X sc f.env n e₁ a) (h2 : Ev X sc f.env n e₂ b) (fa : flat a = true) (fb : flat b = true)
    (hx : sc.names.lookup x = some .local) (hy : sc.names.lookup y = some .cell) (hux : f.μ.lookup x = none) (huy : f.μ.lookup y = none)
    (hs : ∀ env, swapsWithSole [.Tuple [.Name x px, .Name y py] k tp] (.Tuple [e₁, e₂] k' vp) pos.line env = pure false)
    (hw : ∀ env, EnvOk sc env → swappedStores [.Tuple [.Name x px, .Name y py] k tp] (.Tuple [e₁, e₂] k' vp) env = pure none)
    (hs1 : ∀ env, starEach [e₁, e₂] env = (false, eval e₁ env) :: starEach [e₂] env) (hs2 : ∀ env, starEach [e₂] env = (false, eval e₂ env) :: starEach [] env)
    (hp : P .next ((f.set x a).set y b)) :
    Ex1 X sc n f (.Assign [.Tuple [.Name x px, .Name y py] k tp] (.Tuple [e₁, e₂] k' vp) pos) P := fun env Pr sp S A s E Q ok F kk => by
  obtain ⟨as, F⟩ := F
  refine Assign_Tuple ?_ (hs env) (hw env F.eo)
  refine wpAny_Tuple (wpAny_items_cons (h1 env S A s E _ (F.pre ok) fun va s₁ g₁ r₁ => wpAny_items_cons (h2 env S A s₁ E _ ((F.grow g₁).pre ok) fun vb s₂ g₂ r₂ => wpAny_items_nil ⟨by show 2 ≤ sizeLine; decide, ?_⟩) (hs2 env)) (hs1 env))
  refine wpAny_assign_Tuple (items := #[va, vb]) ok.handled ⟨_, Heap.get?_push_size _ rfl, rfl, _, rfl⟩ rfl rfl fun h' he => ?_
  have g : Grow s₂ { s₂ with heap := h' } := (Grow.push s₂ _ s₂.toks).trans (.heap (tk := s₂.toks) (ext_keep he))
  show wpAny X.M A (assignInOrder [PySem.assign (.Name x px) env, PySem.assign (.Name y py) env] [va, vb]) _ E _
  simp only [assignInOrder]
  have F₃ := ((F.grow g₁).grow g₂).grow g
  refine wpAny_bind (wpAny_holding (wpAny_assign_Name (F₃.store hx hux (r₁.flat fa) fun s₄ F₄ => ?_)))
  refine wpAny_bind (wpAny_holding (wpAny_assign_Name (F₄.storeC hy huy (r₂.flat fb) fun s₅ F₅ => wpAny_pure (kk .next _ s₅ .next hp ⟨as, F₅⟩ rfl))))
end
theorem cnt_count (c : Nat) : ∀ l : List Nat, cnt c l = ((l.count c : Nat) : Int)
  | [] => rfl
  | a :: l => by
    rw [cnt_cons, cnt_count c l, List.count_cons]
    by_cases h : a = c
    · simp [h]; omega
    · simp [h]
theorem count_S (l : List Nat) (c : Nat) : Txt.count (S l) (S [c]) = ((l.count c : Nat) : Int) := by
  rw [← cnt_count]; exact count_cnt (S l) c
/-- k times the sign c -/
def par (c : Nat) (k : Int) : List Nat := List.replicate k.toNat c
theorem mul_par (c : Nat) (k : Int) : Txt.mul (S [c]) k = S (par c k) := by
  rw [mul_rep]; unfold par
  congr 1
  induction k.toNat with
  | zero => rfl
  | succ m ih => rw [List.replicate_succ, List.flatten_cons, ih, List.replicate_succ]; rfl
theorem mulOk_one {c : Nat} {k : Int} (h0 : -1000 ≤ k) (h : k ≤ 1000) : MulOk (S [c]) k := by
  refine ⟨?_, fun h1 _ => ?_, fun _ _ => ?_⟩
  · rw [Bool.or_eq_false_iff]; exact ⟨decide_eq_false (by omega), decide_eq_false (by omega)⟩
  · rw [S_len]
    show ¬ ((1 : Nat) : Int) > _
    have : 1 ≤ (2 ^ 63 - 1) / k := by
      apply (Int.le_ediv_iff_mul_le (by omega)).mpr; omega
    omega
  · rw [S_len]
    show decide _ = false
    exact decide_eq_false (by unfold sizeLine; simp; omega)
theorem par_len (c : Nat) (k : Int) : (par c k).length = k.toNat := by simp [par]
theorem flatten_len {ls : List (List Nat)} {m : Nat} (h : ∀ p ∈ ls, p.length ≤ m) : ls.flatten.length ≤ ls.length * m := by
  induction ls with
  | nil => simp
  | cons a ls ih =>
    have := ih fun p hp => h p (List.mem_cons_of_mem _ hp)
    have h1 := h a (List.mem_cons_self ..)
    simp only [List.flatten_cons, List.length_append, List.length_cons, Nat.succ_mul]
    omega
end Mine
namespace Mine
open PySem PySem.Calls PyProof.Rows
abbrev pw : Program := PySem.Challenge.pw_rs0030_02
def dBody (p : Program) (i : Nat) : List Stmt := match p.main.body[i]? with | some (.FunctionDef _ _ b _ _ _ _ _ _ _) => b | _ => []
def dScope (p : Program) (i : Nat) : Scope := match p.main.body[i]? with | some (.FunctionDef _ _ _ _ _ _ sc _ _ _) => sc | _ => default
def dParams (p : Program) (i : Nat) : Arguments := match p.main.body[i]? with | some (.FunctionDef _ a _ _ _ _ _ _ _ _) => a | _ => default
theorem ofString_inj {a b : String} : Str.ofString a = Str.ofString b ↔ a = b := by
  constructor
  · intro h
    rw [Str.ofString_eq_toList, Str.ofString_eq_toList] at h
    have h1 : (a.toList.map Char.toNat) = (b.toList.map Char.toNat) := by simpa using h
    have : Function.Injective Char.toNat := fun x y h => Char.ext (UInt32.toNat_inj.mp h)
    exact String.toList_inj.mp ((List.map_inj_right (fun x y h => this h)).mp h1)
  · rintro rfl; rfl
theorem boot_len : bootBuiltins "len" = some (.builtin "len") := by decide +kernel
theorem boot_range : bootBuiltins "range" = some (.type "range") := by decide +kernel
theorem ofs_beq {a b : String} : (Str.ofString a == Str.ofString b) = (a == b) := by
  rw [Bool.eq_iff_iff]; simp [ofString_inj]
/-- names that no def of the text bears -/
structure Free (X : Cx) : Prop where
  free : ∀ x ∈ [Str.ofString "len", "range", "min", "str", "isinstance", "bool", "list", "sum", "enumerate"], X.mg x = none

theorem bi {X : Cx} (h : Free X) {sc : Scope} {x : String} {v : Value} (hm : Str.ofString x ∈ [Str.ofString "len", "range", "min", "str", "isinstance", "bool", "list", "sum", "enumerate"]) (hk : sc.names.lookup (Str.ofString x) = some .globalImplicit) (hv : bootBuiltins (Str.ofString x) = some v)
    (hn : (x == "__name__") = false := by decide) (hd : (x == "__debug__") = false := by decide) : Builtin? X sc (Str.ofString x) v :=
  ⟨hk, h.free _ hm, fun e => by rw [ofString_inj] at e; subst e; simp at hn, hv, by rw [ofs_beq]; exact hd⟩

/-- what the overlap table asks of its row -/
structure Row (X : Cx) (pf : AV) (N : Nat) (item : Nat → AV) (eq : Nat → Nat → Bool) : Prop where
  len : ∀ n, Fun X n (.builtin "len") [pf] (.int N)
  at_ : ∀ sc ρ n (e i : Expr) (pos : Pos) (k : Nat), Ev X sc ρ n e pf → Ev X sc ρ n i (.int k) → k < N → (∀ o v : Value, subscripted i false o v = operate [o, v] (getItem o v)) → Ev X sc ρ n (.Subscript e i pos) (item k)
  ne : ∀ n (i j : Nat), i < N → j < N → Op X n (compareOp .NotEq) (item i) (item j) (.bool (!eq i j))
  small : N ≤ 2 ^ 20

def inner (eq : Nat → Nat → Bool) (t : List Nat) (i : Nat) : Nat → Nat → Nat
  | 0, _ => 0
  | fu + 1, idx => if eq i idx then idx + 1 else if idx = 0 then 0 else inner eq t i fu (t.getD (idx - 1) 0)
def kstep (eq : Nat → Nat → Bool) (t : List Nat) (i : Nat) : List Nat := t.set i (inner eq t i (i + 1) (t.getD (i - 1) 0))
def kmpN (eq : Nat → Nat → Bool) (N : Nat) : Nat → List Nat
  | 0 => List.replicate N 0
  | k + 1 => kstep eq (kmpN eq N k) (k + 1)
def kmp (eq : Nat → Nat → Bool) (N : Nat) : List Nat := kmpN eq N (N - 1)
def nats (l : List Nat) : List AV := l.map fun (k : Nat) => PyData.int (k : Int)
theorem nats_len (l : List Nat) : (nats l).length = l.length := by simp [nats]
theorem nats_get (l : List Nat) (i : Nat) (h : i < l.length) : (nats l)[i]? = some (.int (l.getD i 0 : Nat)) := by simp [nats, h]
theorem nats_set (l : List Nat) (i k : Nat) : (nats l).set i (.int (k : Nat)) = nats (l.set i k) := by simp [nats, List.map_set]
theorem nats_flat (l : List Nat) : (nats l).all flat = true := by simp [nats, flat]

theorem inner_le {eq : Nat → Nat → Bool} {t : List Nat} {i : Nat} (ht : ∀ j, t.getD j 0 ≤ j) : ∀ fu idx, inner eq t i fu idx ≤ idx + 1
  | 0, _ => Nat.zero_le _
  | fu + 1, idx => by
    unfold inner
    split
    · exact Nat.le_refl _
    · split
      · exact Nat.zero_le _
      · have h1 := inner_le (eq := eq) (i := i) ht fu (t.getD (idx - 1) 0)
        have h2 := ht (idx - 1)
        omega
theorem kmpN_len (eq : Nat → Nat → Bool) (N : Nat) : ∀ k, (kmpN eq N k).length = N
  | 0 => by simp [kmpN]
  | k + 1 => by simp [kmpN, kstep, kmpN_len eq N k]
theorem kmpN_le (eq : Nat → Nat → Bool) (N : Nat) : ∀ k j, (kmpN eq N k).getD j 0 ≤ j
  | 0, j => by
    simp only [kmpN, List.getD_eq_getElem?_getD, List.getElem?_replicate]
    split <;> simp
  | k + 1, j => by
    have ih := kmpN_le eq N k
    simp only [kmpN, kstep, List.getD_eq_getElem?_getD, List.getElem?_set]
    split
    · rename_i h
      subst h
      split
      · have := inner_le (eq := eq) (i := k + 1) ih (k + 1 + 1) ((kmpN eq N k).getD k 0)
        have h2 := ih k
        simp only [Option.getD_some]
        simp only [Nat.add_sub_cancel, List.getD_eq_getElem?_getD] at this h2 ⊢
        omega
      · simp
    · have := ih j
      simpa only [List.getD_eq_getElem?_getD] using this

local macro_rules | `(tactic| walk_at "kind") => `(tactic| (first | rfl | decide +kernel))
local macro_rules | `(tactic| walk_at "lk") => `(tactic| ((conv => lhs; simp [AF.env, AF.plain, AF.set, AF.own, AF.put, ofString_inj, ofs_beq, List.lookup_cons, bindA, *]); first | done | rfl))

theorem Ev.eq {X : Cx} {sc : Scope} {ρ : Str → Option AV} {n : Nat} {e : Expr} {a b : AV} (h : Ev X sc ρ n e a) (he : a = b) : Ev X sc ρ n e b := he ▸ h
theorem EvN.eq {X : Cx} {sc : Scope} {ρ : Str → Option AV} {n : Nat} {e : Expr} {a b : List AV} (h : EvN X sc ρ n e a) (he : a = b) : EvN X sc ρ n e b := he ▸ h
theorem rangeL_up (a b : Int) : rangeL a b 1 = (List.range (b - a).toNat).map fun (i : Nat) => a + (i : Int) := by
  unfold rangeL
  have : (Builtin.Range.rangeSize a b 1).toNat = (b - a).toNat := by rw [rangeSize_one]; split <;> omega
  rw [this]; simp

set_option maxHeartbeats 1000000 in
theorem kmp_fun {X : Cx} (hF : Free X) {pf : AV} {N : Nat} {item : Nat → AV} {eq : Nat → Nat → Bool} (R : Row X pf N item eq) {n : Nat} :
    Ex X (dScope pw 1) n { ρ := bindA ["prefix"] [pf] fun _ => none, μ := [] } (dBody pw 1) fun fl _ => fl = .ret (.list (nats (kmp eq N))) := by
  have blen : Builtin? X (dScope pw 1) "len" (.builtin "len") := bi hF (by simp) (by rfl) boot_len
  have brange : Builtin? X (dScope pw 1) "range" (.type "range") := bi hF (by simp) (by rfl) boot_range
  have hN := R.small
  have lenE : ∀ (ρ : Str → Option AV) (np pp pos : Pos), ρ "prefix" = some pf → Ev X (dScope pw 1) ρ n (.Call (.Name "len" np) [.Name "prefix" pp] [] pos) (.int N) := fun ρ np pp pos hr =>
    Ev.callB blen (EvL.cons (Ev.local (by rfl) hr (by rfl)) EvL.nil fun _ => rfl) (R.len n) (fun _ => rfl) fun _ _ => rfl
  refine Ex.cons ?_
  refine Ex1.new (xs := nats (kmpN eq N 0)) ?_ (nats_flat _) (by rfl) (fun _ _ => rfl) ?_
  · refine EvN.eq (EvN.mul (k := N) (Ev.list (EvL.cons Ev.int EvL.nil fun _ => rfl) (by decide)) (lenE _ _ _ _ (by walk_at "lk")) (by omega) (by omega) (by simp; omega)) ?_
    simp [nats, kmpN]
  show Ex X (dScope pw 1) n _ _ _
  refine Ex.cons (Ex1.for (xs := (rangeL 1 N 1).map .int) (Iter.name (Iter.range2 brange (EvL.cons Ev.int (EvL.cons (lenE _ _ _ _ (by walk_at "lk")) EvL.nil fun _ => rfl) fun _ => rfl) (small_one (by decide) (by decide) (by omega) (by omega)) (fun _ => rfl) fun _ _ => rfl))
    (fun i f => f.ρ "prefix" = some pf ∧ f.μ = [(Str.ofString "table", nats (kmpN eq N i))]) ⟨by walk_at "lk", by rfl⟩ ?_ ?_ (fun _ _ => rfl))
  · rintro i f a hxa ⟨hp, hμ⟩
    have hi : i < N - 1 := by
      have := (List.getElem?_eq_some_iff.mp hxa).1
      rw [rangeL_up] at this; simp at this; omega
    have ha : a = .int ((i + 1 : Nat) : Int) := by
      have h1 := hxa
      rw [rangeL_up, List.map_map, List.getElem?_map, List.getElem?_range (by omega)] at h1
      have h2 := Option.some.inj h1
      rw [← h2]
      show PyData.int (1 + (i : Int)) = _
      congr 1; omega
    subst ha
    refine ⟨_, Takes.name (by rfl) (by rw [hμ]; rfl), ?_⟩
    have hT := kmpN_len eq N i
    have hle := kmpN_le eq N i
    generalize hTT : kmpN eq N i = T at *
    have hnext : kmpN eq N (i + 1) = T.set (i + 1) (inner eq T (i + 1) (i + 2) (T.getD i 0)) := by show kstep eq (kmpN eq N i) (i + 1) = _; rw [hTT]; rfl
    refine Ex.cons (Ex1.assign (a := .int ((T.getD i 0 : Nat) : Int)) ?_ (.inl rfl) (by rfl) (by rw [show (f.set _ _).μ = f.μ from rfl, hμ]; rfl) (fun _ _ => rfl) ?_)
    · refine Ev.sub_list (xs := nats T) (i := (i : Nat)) (Ev.local (by rfl) (by walk_at "lk") (by rfl)) (Ev.eq (Ev.binop (Ev.local (by rfl) (by walk_at "lk") (by rfl)) Ev.int Op.sub_int) ?_) (by omega) ?_ (by omega) fun _ _ => rfl
      · congr 1; omega
      · exact nats_get T i (by omega)
    show Ex X (dScope pw 1) n _ _ _
    refine Ex.cons (Ex1.while (fun k f => ∃ idx fu, k = idx ∧ idx ≤ i ∧ idx < fu ∧ inner eq T (i + 1) fu idx = inner eq T (i + 1) (i + 2) (T.getD i 0) ∧ f.ρ "prefix" = some pf ∧ f.ρ "i" = some (.int ((i + 1 : Nat) : Int)) ∧ f.ρ "idx" = some (.int (idx : Int)) ∧ f.μ = [(Str.ofString "table", nats T)])
      (T.getD i 0) ⟨T.getD i 0, i + 2, rfl, hle i, by have := hle i; omega, rfl, by walk_at "lk", by walk_at "lk", by walk_at "lk", hμ⟩ ?_)
    rintro idx f ⟨_, fu, rfl, hidx, hfu, hin, hp, hi', hx, hμ⟩
    obtain ⟨fu, rfl⟩ : ∃ fu', fu = fu' + 1 := ⟨fu - 1, by omega⟩
    refine ⟨!eq (i + 1) idx, Tr.cmp (R.at_ _ _ _ _ _ _ (i + 1) (Ev.local (by rfl) (by walk_at "lk") (by rfl)) (Ev.local (by rfl) (by walk_at "lk") (by rfl)) (by omega) fun _ _ => rfl)
      (R.at_ _ _ _ _ _ _ idx (Ev.local (by rfl) (by walk_at "lk") (by rfl)) (Ev.local (by rfl) (by walk_at "lk") (by rfl)) (by omega) fun _ _ => rfl) (R.ne n (i + 1) idx (by omega) (by omega)) rfl, fun hc => ?_, fun hc => ?_⟩
    · have hne : eq (i + 1) idx = false := by simpa using hc
      refine Ex.cons (Ex1.if (c := decide (idx = 0)) ?_ (fun h0 => ?_) (fun h0 => ?_))
      · refine Tr.cmp (c := decide (idx = 0)) (Ev.local (by rfl) (by walk_at "lk") (by rfl)) Ev.int ?_ rfl
        have : (((idx : Int) == 0) : Bool) = decide (idx = 0) := by rw [Bool.eq_iff_iff]; simp
        rw [← this]; exact Op.eq_int
      · have h0' : idx = 0 := by simpa using h0
        subst h0'
        refine Ex.cons (Ex1.setitem (xs := nats T) (k := ((i + 1 : Nat) : Int)) (by rw [hμ]; rfl) Ev.int rfl (Ev.local (by rfl) (by walk_at "lk") (by rfl)) (by omega) (by rw [nats_len]; omega) (by omega) (fun _ _ => rfl) (by rfl) ?_)
        refine Ex.cons (Ex1.brk ?_)
        refine Ex.nil ⟨hp, ?_⟩
        have hv : inner eq T (i + 1) (i + 2) (T.getD i 0) = 0 := by rw [← hin]; unfold inner; simp [hne]
        rw [hnext, hv]
        show f.μ.map _ = _
        rw [hμ]
        have := nats_set T (i + 1) 0
        simp [← this]
      · have h0' : idx ≠ 0 := by simpa using h0
        refine Ex.nil ?_
        refine Ex.cons (Ex1.assign (a := .int ((T.getD (idx - 1) 0 : Nat) : Int)) ?_ (.inl rfl) (by rfl) (by rw [hμ]; rfl) (fun _ _ => rfl) ?_)
        · refine Ev.sub_list (xs := nats T) (i := ((idx - 1 : Nat) : Int)) (Ev.local (by rfl) (by walk_at "lk") (by rfl)) (Ev.eq (Ev.binop (Ev.local (by rfl) (by walk_at "lk") (by rfl)) Ev.int Op.sub_int) ?_) (by omega) ?_ (by omega) fun _ _ => rfl
          · congr 1; omega
          · exact nats_get T (idx - 1) (by omega)
        · refine Ex.nil ⟨T.getD (idx - 1) 0, by have := hle (idx - 1); omega, T.getD (idx - 1) 0, fu, rfl, by have := hle (idx - 1); omega, by have := hle (idx - 1); omega, ?_, by walk_at "lk", by walk_at "lk", by walk_at "lk", hμ⟩
          rw [← hin]
          conv => rhs; unfold inner
          simp [hne, h0']
    · have heq : eq (i + 1) idx = true := by simpa using hc
      refine Ex.cons (Ex1.setitem (xs := nats T) (a := .int ((idx + 1 : Nat) : Int)) (k := ((i + 1 : Nat) : Int)) (by rw [hμ]; rfl) (Ev.eq (Ev.binop (Ev.local (by rfl) (by walk_at "lk") (by rfl)) Ev.int Op.add_int) (by rfl)) rfl (Ev.local (by rfl) (by walk_at "lk") (by rfl)) (by omega) (by rw [nats_len]; omega) (by omega) (fun _ _ => rfl) (by rfl) ?_)
      refine Ex.nil (Ex.nil ⟨hp, ?_⟩)
      have hv : inner eq T (i + 1) (i + 2) (T.getD i 0) = idx + 1 := by rw [← hin]; unfold inner; simp [heq]
      rw [hnext, hv]
      show f.μ.map _ = _
      rw [hμ]
      have := nats_set T (i + 1) (idx + 1)
      simp [← this]
  · rintro f ⟨hp, hμ⟩
    refine Ex.nil ?_
    refine Ex.cons (Ex1.ret (a := .list (nats (kmp eq N))) (Ev.local (by rfl) ?_ (by rfl)) rfl)
    have e : ((rangeL 1 N 1).map PyData.int).length = N - 1 := by rw [rangeL_up]; simp
    rw [e] at hμ
    unfold AF.env
    rw [hμ]
    rfl
end Mine
namespace Mine
open PySem PySem.Calls PyProof.Rows

/-- the escaped signs of a text: where each ends, and the sign -/
def esc : Nat → Bool → List Nat → List (Nat × List Nat)
  | i, true, [] => [(i - 1, [92])]
  | i, false, [] => []
  | i, true, c :: cs => (i, [92, c]) :: esc (i + 1) false cs
  | i, false, c :: cs => if c = 92 then esc (i + 1) true cs else (i, [c]) :: esc (i + 1) false cs
def escAV (p : Nat × List Nat) : AV := .tuple [.int (p.1 : Nat), .str ⟨p.2.toArray⟩]

def Cond (X : Cx) (W : Addr → Prop) (s s'' : Shared) : Prop := (∀ b o, W b → s.heap.get? b = some o → s''.heap.get? b = some o) ∧ Keep X.hb s''.heap
def NG (X : Cx) (B : Around) (Lg : Addr) : List (Nat × List Nat) → (Addr → Prop) → Shared → End → Shared → Prop
  | [], W, s₀, e, s' => match e with
    | .ret r => r = .ok (.ret .none) ∧ Step W (fun _ => False) s₀ s'
    | _ => False
  | a :: rest, W, s₀, e, s' => match e with
    | .susp v g l k c p fs => (End.susp v g l k c p fs).quiet = true ∧ Step W (fun _ => False) s₀ s' ∧ ∃ W' : Addr → Prop, W' Lg ∧ (∀ b, W' b → (s'.heap.get? b).isSome = true) ∧ (∀ b, W' b → ¬ W b → s₀.heap.get? b = none) ∧
        Rep s'.heap (fun b => ((s₀.heap.get? b).isSome = true ∧ ¬ W b) ∨ W' b) (escAV a) v ∧ ∀ s'', Cond X W' s' s'' → SegG X.M B (NG X B Lg rest W' s'') c (k (.send .none)) fs s''
    | _ => False

/-- room under a generator's frame -/
theorem ok_over1 {A : Around} {n : Nat} (h : Ok A (n + 2)) (body : List Stmt) (env : Env) : Ok (A.over (.func body env) []) n :=
  ⟨h.handled, by have := h.depth; show A.depth + 0 + 1 + n < _; omega, by have := h.units; show A.units + 0 + 3 + 100 + 10 * n < _; omega⟩
theorem ok_over2 {A : Around} {n : Nat} (h : Ok A (n + 2)) (t : Expr) (it : Value) (b o : List Stmt) (env env' : Env) (body : List Stmt) (k g l p kp) : Ok (A.over (.forLoop t it b o env) [.ret k none g l (.func body env') p kp]) n :=
  ⟨h.handled, by have := h.depth; show A.depth + (1 + 0) + 0 + n < _; omega, by have := h.units; show A.units + (3 + 0) + 0 + 100 + 10 * n < _; omega⟩

def sTarget : Stmt → Expr | .For t _ _ _ _ => t | _ => default
def sIter : Stmt → Expr | .For _ i _ _ _ => i | _ => default
def sBody : Stmt → List Stmt | .For _ _ b _ _ => b | .While _ b _ _ => b | .If _ b _ _ => b | _ => []
def sOrelse : Stmt → List Stmt | .For _ _ _ o _ => o | .While _ _ o _ => o | .If _ _ o _ => o | _ => []
def gFor : Stmt := (dBody pw 3).getD 2 default
def gT : Expr := sTarget gFor
def gLoop : List Stmt := sBody gFor

/-- the generator's frame anew, at a later state -/
theorem FSat.regen {X : Cx} {sc : Scope} {env : Env} {Pr : Addr → Prop} {sp : Shared} {S : Addr → Prop} {f : AF} {s s'' : Shared} (F : FSat X sc env Pr sp S f [] s) (hc : env.cells = []) (hfl : ∀ y a, f.ρ y = some a → flat a = true) (hμ : f.μ = []) (hb : Keep X.hb s''.heap)
    (hL : ∀ o, s.heap.get? env.locals = some o → s''.heap.get? env.locals = some o) {Pr' : Addr → Prop} {S' : Addr → Prop} (hp : ∀ b, Pr' b → (s''.heap.get? b).isSome = true) (hS : Live S' s''.heap) (hLp : ¬ Pr' env.locals) (hLs : ¬ S' env.locals) :
    FSat X sc env Pr' s'' S' f [] s'' := by
  obtain ⟨m, hm, h1, h2⟩ := F.nsl
  have own : ∀ b, Own env [] b → b = env.locals := fun b hb => by
    rcases hb with h | ⟨y, h⟩ | ⟨y, h⟩
    · exact h
    · cases h
    · rw [hc] at h; cases h
  refine ⟨F.eo, hb, hp, fun b o _ e => e, rfl, fun _ _ => rfl, Nat.le_refl _, id, hS, fun b h => ?_, fun b h => ?_, ⟨m, hm.at' hL, fun y a hy hr hu => ?_, fun y xs hy => (by rw [hμ] at hy; cases hy)⟩, fun y a hy hr => ?_, F.cells, fun y c hy => (by rw [hc] at hy; cases hy), F.cdist, fun y xs hy => (by rw [hμ] at hy; cases hy), F.dist, F.am⟩
  · rw [own b h]; exact ⟨hLp, (F.apart _ (.inl rfl)).2.1, hLs⟩
  · rw [own b h]; exact Heap.Ns.alive (hm.at' hL)
  · obtain ⟨v, hv, q⟩ := h1 y a hy hr hu
    exact ⟨v, hv, q.flat (hfl y a hr)⟩
  · obtain ⟨c, v, hc', _⟩ := F.cl y a hy hr
    rw [hc] at hc'; cases hc'

structure LF (X : Cx) (genv : Env) (x : Str) (e it : Addr) (i : Nat) (b : Bool) (s₀ : Shared) (S : Addr → Prop) (f : AF) (s : Shared) : Prop where
  F : FSat X (dScope pw 3) genv (fun c => (s₀.heap.get? c).isSome = true ∧ c ≠ genv.locals ∧ c ≠ e ∧ c ≠ it) s₀ S f [] s
  μ : f.μ = []
  fl : ∀ y a, f.ρ y = some a → flat a = true
  addr : f.ρ "addr" = some (.str x)
  esc : f.ρ "escape" = some (.bool b)
  pos : f.ρ "pos" = some (.int ((i - 1 : Nat) : Int))
def SE (e it : Addr) : Addr → Prop := fun c => False ∨ (c = e ∨ c = it)
structure LS (X : Cx) (genv : Env) (x : Str) (t : Tok) (e it : Addr) (i : Nat) (b : Bool) (s₀ : Shared) (f : AF) (s : Shared) : Prop where
  L : LF X genv x e it i b s₀ (SE e it) f s
  enum : ∃ old, IsEnum s.heap e it i old
  str : s.heap.IsStrIter it (strIterType x) x t i

/-- the private addresses -/
def GW (genv : Env) (e it : Addr) (c : Addr) : Prop := c = genv.locals ∨ c = e ∨ c = it

section
variable {X : Cx} {B : Around} {n : Nat} {genv : Env} {x : Str} {t : Tok} {e it : Addr}

theorem LF.step {i b s₀ S f s} (h : LF X genv x e it i b s₀ S f s) {W : Addr → Prop} (hW : ∀ c, GW genv e it c → W c ∨ s₀.heap.get? c = none) : Step W (fun _ => False) s₀ s := by
  refine ⟨fun c o hc e' => h.F.keep c o ?_ e', h.F.os, fun k hk _ => h.F.gens k hk, h.F.gsize, h.F.bare⟩
  have key : ∀ d, GW genv e it d → c ≠ d := by
    rintro d hd rfl
    rcases hW c hd with h' | h'
    · exact hc h'
    · rw [h'] at e'; cases e'
  exact ⟨by rw [e']; rfl, key _ (.inl rfl), key _ (.inr (.inl rfl)), key _ (.inr (.inr rfl))⟩
theorem LS.alive {i b s₀ f s} (h : LS X genv x t e it i b s₀ f s) : ∀ c, GW genv e it c → (s.heap.get? c).isSome = true := fun c hc => by
  rcases hc with rfl | hc
  · exact h.L.F.ol _ (.inl rfl)
  · exact h.L.F.live c (.inr hc)
theorem LS.resume {i b s₀ f s s''} (h : LS X genv x t e it i b s₀ f s) (hc : genv.cells = []) (hcd : Cond X (GW genv e it) s s'') : LS X genv x t e it i b s'' f s'' := by
  have al : ∀ c, GW genv e it c → (s''.heap.get? c).isSome = true := fun c hc => by
    obtain ⟨o, eo⟩ := Option.isSome_iff_exists.mp (h.alive c hc)
    rw [hcd.1 c o hc eo]; rfl
  refine ⟨⟨h.L.F.regen hc h.L.fl h.L.μ hcd.2 (fun o eo => hcd.1 _ o (.inl rfl) eo) (fun c hc => hc.1) (fun c hc => ?_) (fun hc => hc.2.1 rfl) (fun hc => ?_), h.L.μ, h.L.fl, h.L.addr, h.L.esc, h.L.pos⟩, ?_, ?_⟩
  · rcases hc with hc | hc
    · exact hc.elim
    · exact al c (.inr hc)
  · exact (h.L.F.apart _ (.inl rfl)).2.2 hc
  · obtain ⟨old, ho⟩ := h.enum; exact ⟨old, hcd.1 _ _ (.inr (.inl rfl)) ho⟩
  · obtain ⟨o, ho, r⟩ := h.str; exact ⟨o, hcd.1 _ _ (.inr (.inr rfl)) ho, r⟩
theorem LF.resume {i b s₀ S f s s''} (h : LF X genv x e it i b s₀ S f s) (hc : genv.cells = []) (hcd : Cond X (fun c => c = genv.locals) s s'') : LF X genv x e it i b s'' (fun _ => False) f s'' :=
  ⟨h.F.regen hc h.fl h.μ hcd.2 (fun o eo => hcd.1 _ o rfl eo) (fun c hc => hc.1) (fun c hc => hc.elim) (fun hc => hc.2.1 rfl) (fun hc => hc), h.μ, h.fl, h.addr, h.esc, h.pos⟩
/-- a yielded pair is new -/
theorem new_pair {s₀ s : Shared} {i b S f} (h : LF X genv x e it i b s₀ S f s) {W' : Addr → Prop} (hW' : ∀ c, W' c → (s.heap.get? c).isSome = true) (he : GW genv e it e → True) (hal : ∀ c, GW genv e it c → (s₀.heap.get? c).isSome = true → (s.heap.get? c).isSome = true) {u v : Tok} {j : Int} {y : Str} :
    Rep (s.heap.push (tobj [.int j u, .str y v] 0)) (fun c => (s₀.heap.get? c).isSome = true ∨ W' c) (.tuple [.int j, .str y]) (.ref s.heap.objs.size) := by
  simp only [Rep, RepL]
  refine ⟨s.heap.objs.size, [.int j u, .str y v], 0, rfl, fun hc => ?_, Heap.get?_push_size _ rfl, _, _, rfl, ⟨u, rfl⟩, _, _, rfl, ⟨v, rfl⟩, rfl⟩
  have dead := get?_size s.heap
  rcases hc with hc | hc
  · obtain ⟨o, ho⟩ := Option.isSome_iff_exists.mp hc
    by_cases hg : GW genv e it s.heap.objs.size
    · have := hal _ hg hc; rw [dead] at this; cases this
    · have := h.F.keep _ o ⟨hc, fun h => hg (.inl h), fun h => hg (.inr (.inl h)), fun h => hg (.inr (.inr h))⟩ ho
      rw [dead] at this; cases this
  · have := hW' _ hc; rw [dead] at this; cases this
theorem draws_str (hh : B.handled = none) : Draws X.prog X.w B it [it] x.cps.size (fun i v => ∃ c u, x.cps[i]? = some c ∧ v = .str ⟨#[c]⟩ u) (fun i h => h.IsStrIter it (strIterType x) x t i) := by
  unfold strIterType
  split
  · exact Draws.strAscii hh it x t
  · exact Draws.strWide hh it x t

local macro_rules | `(tactic| walk_at "lk2") => `(tactic| ((conv => lhs; simp [AF.env, AF.plain, AF.set, AF.own, AF.put, ofString_inj, ofs_beq, List.lookup_cons, bindA, *]); first | done | rfl))

theorem Lang.len1 (c : Nat) : (⟨#[c]⟩ : Str).length = 1 := rfl

theorem LF.grow {i b s₀ S f s s'} (h : LF X genv x e it i b s₀ S f s) (g : Grow s s') : LF X genv x e it i b s₀ S f s' := { h with F := h.F.grow g }
theorem LS.grow {i b s₀ f s s'} (h : LS X genv x t e it i b s₀ f s) (g : Grow s s') : LS X genv x t e it i b s₀ f s' :=
  ⟨h.L.grow g, (let ⟨o, ho⟩ := h.enum; ⟨o, g.keep _ _ ho⟩), let ⟨o, ho, r⟩ := h.str; ⟨o, g.keep _ _ ho, r⟩⟩
/-- a store into the generator's frame -/
theorem LS.store {i b s₀ f s} (h : LS X genv x t e it i b s₀ f s) {y : Str} {a : AV} {v : Value} (hy : (dScope pw 3).names.lookup y = some .local) (hfl : flat a = true) (r : Rep s.heap (Lk genv (SE e it) []) a v) {A : Around} {E : Value → Shared → Prop} {Q : Unit → Shared → Prop} {i' : Nat} {b' : Bool}
    (h1 : (f.set y a).ρ "addr" = some (.str x)) (h2 : (f.set y a).ρ "escape" = some (.bool b')) (h3 : (f.set y a).ρ "pos" = some (.int ((i' - 1 : Nat) : Int)))
    (k : ∀ s', LF X genv x e it i' b' s₀ (SE e it) (f.set y a) s' → (∃ old, IsEnum s'.heap e it i old) → s'.heap.IsStrIter it (strIterType x) x t i → Q () s') : wpAny X.M A (storeName genv y v) Q E s := by
  refine h.L.F.reref.store hy (by rw [h.L.μ]; rfl) r fun s' G => ?_
  have F' := h.L.F.back G
  have no : ∀ c, c = e ∨ c = it → ¬ Own genv [] c := fun c hc ho => (h.L.F.apart c ho).2.2 (.inr hc)
  refine k s' ⟨F', h.L.μ, fun z d hz => ?_, h1, h2, h3⟩ ?_ ?_
  · by_cases ez : z = y
    · subst ez
      have : d = a := by simpa [AF.set] using hz.symm
      rw [this]; exact hfl
    · exact h.L.fl z d (by simpa [AF.set, ez] using hz)
  · obtain ⟨old, ho⟩ := h.enum; exact ⟨old, G.keep _ _ ⟨by rw [ho]; rfl, no e (.inl rfl)⟩ ho⟩
  · obtain ⟨o, ho, r⟩ := h.str; exact ⟨o, G.keep _ _ ⟨by rw [ho]; rfl, no it (.inr rfl)⟩ ho, r⟩
/-- escape = True | False -/
theorem set_escape {i b s₀ f s} (h : LS X genv x t e it i b s₀ f s) {A : Around} {E : Value → Shared → Prop} {Q : Flow → Shared → Prop} {b' : Bool} {k : Nat} {p1 p2 p3 : Pos} (hq : ∀ f s', LS X genv x t e it i b' s₀ f s' → Q .next s') :
    wpAny X.M A (exec (.Assign [.Name "escape" p1] (.Constant (.bool b') k p2) p3) genv) Q E s := by
  refine wpAny_Assign_Name (wpAny_Constant_bool ?_) rfl
  refine h.store (a := .bool b') (i' := i) (b' := b') (by rfl) rfl (by simp [Rep]) ?_ ?_ ?_ fun s' L' h1 h2 => hq _ s' ⟨L', h1, h2⟩
  · have := h.L.addr; simpa [AF.set, ofString_inj] using this
  · simp [AF.set]
  · have := h.L.pos; simpa [AF.set, ofString_inj] using this

set_option maxHeartbeats 4000000 in
theorem gen_yield {c : Code} {fs : List Frame} {i : Nat} {b : Bool} {W : Addr → Prop} {s₀ : Shared} {f : AF} {s : Shared} {j : Nat} {y : List Nat} {rest : List (Nat × List Nat)} {K : Flow → Sem Fin} {H : Value → Sem Fin} {es : List Expr} {tk : Nat} {tp yp sp : Pos}
    (eo : EnvOk (dScope pw 3) genv) (okc : Ok (B.over c fs) n) (hfs : splitAtGen fs = none) (hfg : fs.any Frame.guarded = false) (hc : genv.cells = []) (hW : ∀ c, GW genv e it c → W c ∨ s₀.heap.get? c = none) (hW' : ∀ c, W c → GW genv e it c)
    (L : LS X genv x t e it i b s₀ f s) (he : EvL X (dScope pw 3) f.env n es [.int (j : Nat), .str ⟨y.toArray⟩])
    (hrest : ∀ s'', LS X genv x t e it i b s'' f s'' → SegG X.M B (NG X B genv.locals rest (GW genv e it) s'') c (K .next) fs s'') :
    SegG X.M B (NG X B genv.locals ((j, y) :: rest) W s₀) c ((exec (.Expr (.Yield (some (.Tuple es tk tp)) yp) sp) genv).wrap K H id id) fs s := by
  refine sg_Yield hfs ?_ (by rw [eo.scope]; rfl) (by unfold interactive; rw [eo.scope]; rfl)
  refine wpAny_Tuple (he genv _ (SE e it) _ s _ _ (L.L.F.pre okc) fun vs s₁ g₁ r₁ => ?_)
  simp only [RepL, Rep] at r₁
  obtain ⟨v1, ws, rfl, ⟨u, rfl⟩, v2, ws2, rfl, ⟨w, rfl⟩, rfl⟩ := r₁
  refine ⟨by show 2 ≤ sizeLine; decide, fun p l k hk => ?_⟩
  have L₁ := L.grow g₁
  have L₂ := L₁.grow (Grow.push s₁ (tobj [.int (j : Nat) u, .str ⟨y.toArray⟩ w] 0) s₁.toks)
  refine ⟨by simp [End.quiet, hfg], L₂.L.step hW, GW genv e it, .inl rfl, L₂.alive, fun c hc' hn => (hW c hc').resolve_left hn, ?_, fun s'' hcd => ?_⟩
  · exact (new_pair L₁.L L₁.alive (fun _ => trivial) fun c hc' _ => L₁.alive c hc').sub fun c hc' => hc'.imp (fun h => h.1) id
  · rw [hk]
    exact hrest s'' (L₂.resume hc hcd)

set_option maxHeartbeats 4000000 in
theorem gen_loop (ok : Ok B (n + 2)) (hc : genv.cells = []) (hei : e ≠ it) (hbe : ∀ c, c = e ∨ c = it → X.hb.get? c = none) {K : Flow → Sem Fin} {H : Value → Sem Fin} {gd : Bool → Bool} {lv : List Value → List Value} {fb : List Stmt} (hgd : gd false = false)
    (fin : ∀ i b W s₀ f s, 0 < i ∨ b = false → (∀ c, GW genv e it c → W c ∨ s₀.heap.get? c = none) → (∀ c, W c → GW genv e it c) → LF X genv x e it i b s₀ (fun _ => False) f s → SegG X.M B (NG X B genv.locals (esc i b []) W s₀) (.func fb genv) (K .next) [] s)
    : ∀ (cs : List Nat) (i : Nat) (b : Bool) (W : Addr → Prop) (s₀ : Shared) (f : AF) (s : Shared) (p : Pos), x.cps.toList.drop i = cs → i ≤ x.cps.size → (0 < i ∨ b = false) → (∀ c, GW genv e it c → W c ∨ s₀.heap.get? c = none) → (∀ c, W c → GW genv e it c) → LS X genv x t e it i b s₀ f s →
      SegG X.M B (NG X B genv.locals (esc i b cs) W s₀) (.forLoop gT (.ref e) gLoop [] genv) (X.M.den (.forLoop gT (.ref e) gLoop [] genv)) [.ret (backK genv K H gd lv) none (gd false) (lv []) (.func fb genv) p []] s := by
  have ok' : ∀ p, Ok (B.over (.forLoop gT (.ref e) gLoop [] genv) [.ret (backK genv K H gd lv) none (gd false) (lv []) (.func fb genv) p []]) n := fun p => ok_over2 ok _ _ _ _ _ _ _ _ _ _ _ _
  have hPr : ∀ s₀ : Shared, ∀ c, c = e ∨ c = it → ¬ ((s₀.heap.get? c).isSome = true ∧ c ≠ genv.locals ∧ c ≠ e ∧ c ≠ it) := fun s₀ c hc h => by
    rcases hc with hc | hc
    · exact h.2.2.1 hc
    · exact h.2.2.2 hc
  intro cs
  induction cs with
  | nil =>
    intro i b W s₀ f s p hdrop hle hib hW hW' L
    have hi : i = x.cps.size := by
      have := congrArg List.length hdrop
      simp at this; omega
    refine sg_forLoop fun E E' => ?_
    have Wk := WalksT.enumerateD (draws_str (X := X) (B := Around.in1 (B.over (.forLoop gT (.ref e) gLoop [] genv) [.ret (backK genv K H gd lv) none (gd false) (lv []) (.func fb genv) p []])) (x := x) (t := t) (it := it) (ok' p).handled) e hei (by simpa using hei) (by simp)
    refine Wk.done s _ _ (by rw [← hi]; exact ⟨L.enum, L.str⟩) fun h' tk hk => ?_
    have F₁ := L.L.F.last (wg := fun _ => False) (s' := { s with heap := h', toks := tk }) ⟨fun c o hc' e' => hk c o (fun hm => hc' (by simpa using hm)) e', rfl, fun _ _ _ => rfl, Nat.le_refl _, id⟩ (fun c hc' => ⟨hPr s₀ c hc', hbe c hc', fun h => h⟩) fun _ h => h.elim
    refine sg_leaf (.ok .next) ?_
    rw [backK_ok]
    exact fin i b W s₀ f _ hib hW hW' ⟨F₁, L.L.μ, L.L.fl, L.L.addr, L.L.esc, L.L.pos⟩
  | cons c cs ih =>
    intro i b W s₀ f s p hdrop hle hib hW hW' L
    have hi : i < x.cps.size := by
      have := congrArg List.length hdrop
      simp at this; omega
    have hci : x.cps[i]? = some c := by
      have := congrArg (fun l => l[0]?) hdrop
      simpa using this
    have hdrop' : x.cps.toList.drop (i + 1) = cs := by
      have := congrArg (List.drop 1) hdrop
      simpa [List.drop_drop] using this
    refine sg_forLoop fun E E' => ?_
    have Wk := WalksT.enumerateD (draws_str (X := X) (B := Around.in1 (B.over (.forLoop gT (.ref e) gLoop [] genv) [.ret (backK genv K H gd lv) none (gd false) (lv []) (.func fb genv) p []])) (x := x) (t := t) (it := it) (ok' p).handled) e hei (by simpa using hei) (by simp)
    refine Wk.item i s _ _ hi ⟨L.enum, L.str⟩ fun T vals h' tk hP hTs hT hmid hk => ?_
    obtain ⟨ti, v, ⟨c', u, hc', rfl⟩, rfl⟩ := hP
    rw [hci] at hc'; cases hc'
    -- the pair is drawn
    have no : ∀ c, c = e ∨ c = it → ¬ Own genv [] c := fun c hc ho => (L.L.F.apart c ho).2.2 (.inr hc)
    have F₁ : FSat X (dScope pw 3) genv (fun c => (s₀.heap.get? c).isSome = true ∧ c ≠ genv.locals ∧ c ≠ e ∧ c ≠ it) s₀ (SE e it) f [] { s with heap := h', toks := tk } :=
      L.L.F.step (wg := fun _ => False) (s' := { s with heap := h', toks := tk }) ⟨fun c o hc' e' => hk c o (fun hm => hc' (by simpa using hm)) e', rfl, fun _ _ _ => rfl, Nat.le_refl _, id⟩ (fun c h hn => absurd h hn) (fun c hc' => ⟨hPr s₀ c hc', hbe c hc', fun h => h⟩) (fun _ h => h.elim) fun c hc' => by
        obtain ⟨⟨y, hy⟩, ⟨o, ho, _⟩, _, _⟩ := hmid
        rcases hc' with rfl | rfl
        · show (h'.get? c).isSome = true; rw [hy]; rfl
        · show (h'.get? c).isSome = true; rw [ho]; rfl
    have hTw := Wk.apart i T h' hmid
    refine Wk.go _ _ _ i T _ _ _ hmid fun h'' hst hk' => ?_
    have F₂ : FSat X (dScope pw 3) genv (fun c => (s₀.heap.get? c).isSome = true ∧ c ≠ genv.locals ∧ c ≠ e ∧ c ≠ it) s₀ (SE e it) f [] { s with heap := h'', toks := tk } :=
      F₁.step (wg := fun _ => False) (s' := { s with heap := h'', toks := tk }) ⟨fun c o hc' e' => hk' c o (fun hm => hc' (by simpa using hm)) e', rfl, fun _ _ _ => rfl, Nat.le_refl _, id⟩ (fun c h hn => absurd h hn) (fun c hc' => ⟨hPr s₀ c hc', hbe c hc', fun h => h⟩) (fun _ h => h.elim) fun c hc' => by
        obtain ⟨⟨y, hy⟩, ⟨o, ho, _⟩⟩ := hst
        rcases hc' with rfl | rfl
        · show (h''.get? c).isSome = true; rw [hy]; rfl
        · show (h''.get? c).isSome = true; rw [ho]; rfl
    have hT₂ : h''.IsTuple T #[.int i ti, .str ⟨#[c]⟩ u] := let ⟨o, ho, r⟩ := hT; ⟨o, hk' T o hTw ho, r⟩
    refine wpAny_assign_Tuple (ok' p).handled hT₂ rfl rfl fun h₃ he₃ => ?_
    have g₃ : Grow { s with heap := h'', toks := tk } { s with heap := h₃, toks := tk } := .heap (tk := tk) (ext_keep he₃)
    have L₂ : LS X genv x t e it (i + 1) b s₀ f { s with heap := h'', toks := tk } → True := fun _ => trivial
    have F₃ := F₂.grow g₃
    -- both names are stored
    show wpAny X.M _ (assignInOrder [assign (.Name "pos" _) genv, assign (.Name "ch" _) genv] [.int i ti, .str ⟨#[c]⟩ u]) _ _ _
    simp only [assignInOrder]
    refine wpAny_bind (wpAny_holding (wpAny_assign_Name (F₃.reref.store (a := .int (i : Nat)) (by rfl) (by rw [L.L.μ]; rfl) (by simp [Rep]) fun s₄ G₄ => ?_)))
    have F₄ := F₃.back G₄
    refine wpAny_bind (wpAny_holding (wpAny_assign_Name (F₄.reref.store (a := .str ⟨#[c]⟩) (by rfl) (by rw [show (f.set _ _).μ = f.μ from rfl, L.L.μ]; rfl) (by simp [Rep]) fun s₅ G₅ => wpAny_pure ?_)))
    have F₅ := F₄.back G₅
    have L₅ : LS X genv x t e it (i + 1) b s₀ ((f.set "pos" (.int (i : Nat))).set "ch" (.str ⟨#[c]⟩)) s₅ := by
      refine ⟨⟨F₅, L.L.μ, fun z d hz => ?_, ?_, ?_, ?_⟩, ?_, ?_⟩
      · by_cases e1 : z = "ch"
        · subst e1
          have : d = .str ⟨#[c]⟩ := by simpa [AF.set] using hz.symm
          rw [this]; rfl
        · by_cases e2 : z = "pos"
          · subst e2
            have : d = .int (i : Nat) := by simpa [AF.set, ofString_inj] using hz.symm
            rw [this]; rfl
          · exact L.L.fl z d (by simpa [AF.set, e1, e2] using hz)
      · have := L.L.addr; simpa [AF.set, ofString_inj] using this
      · have := L.L.esc; simpa [AF.set, ofString_inj] using this
      · simp [AF.set, ofString_inj]
      · obtain ⟨old, ho⟩ := hst.1
        have h3 := he₃ _ _ (Nat.ne_of_lt (Heap.lt_size ho)) ho
        have h4 := G₄.keep _ _ ⟨by rw [h3]; rfl, no e (.inl rfl)⟩ h3
        exact ⟨old, G₅.keep _ _ ⟨by rw [h4]; rfl, no e (.inl rfl)⟩ h4⟩
      · obtain ⟨o, ho, r⟩ := hst.2
        have h3 := he₃ _ _ (Nat.ne_of_lt (Heap.lt_size ho)) ho
        have h4 := G₄.keep _ _ ⟨by rw [h3]; rfl, no it (.inr rfl)⟩ h3
        exact ⟨o, G₅.keep _ _ ⟨by rw [h4]; rfl, no it (.inr rfl)⟩ h4, r⟩
    clear L₂
    generalize hf5 : (f.set "pos" (.int (i : Nat))).set "ch" (.str ⟨#[c]⟩) = f5 at *
    have hposv : f5.ρ "pos" = some (.int (i : Nat)) := by rw [← hf5]; simp [AF.set, ofString_inj]
    have hchv : f5.ρ "ch" = some (.str ⟨#[c]⟩) := by rw [← hf5]; simp [AF.set]
    have envv : ∀ y, f5.env y = f5.ρ y := fun y => by unfold AF.env; rw [L₅.L.μ]; rfl
    have hfg : ([.ret (backK genv K H gd lv) none (gd false) (lv []) (.func fb genv) p []] : List Frame).any Frame.guarded = false := by simp [Frame.guarded, hgd]
    have go : ∀ b' W s₀ f s, (∀ c, GW genv e it c → W c ∨ s₀.heap.get? c = none) → (∀ c, W c → GW genv e it c) → LS X genv x t e it (i + 1) b' s₀ f s →
        SegG X.M B (NG X B genv.locals (esc (i + 1) b' cs) W s₀) (.forLoop gT (.ref e) gLoop [] genv) (loopK gT (.ref e) gLoop [] genv .next) [.ret (backK genv K H gd lv) none (gd false) (lv []) (.func fb genv) p []] s :=
      fun b' W s₀ f s h1 h2 h3 => sg_again rfl (ih (i + 1) b' W s₀ f s p hdrop' (by omega) (.inl (by omega)) h1 h2 h3)
    have all : ∀ s'' : Shared, ∀ c, GW genv e it c → GW genv e it c ∨ s''.heap.get? c = none := fun _ c h => .inl h
    have eo := L₅.L.F.eo
    refine sg_cons (sg_If ((Tr.val (Ev.local (by rfl) ((envv _).trans L₅.L.esc) (by rfl)) fun _ => rfl) genv (SE e it) _ s₅ _ _ (L₅.L.F.pre (ok' p)) fun s₆ g₆ => ?_))
    have L₆ := L₅.grow g₆
    cases b with
    | true =>
      rw [if_pos rfl]
      refine sg_cons ?_
      refine gen_yield (n := n) (rest := esc (i + 1) false cs) (y := [92, c]) eo (ok' p) rfl hfg hc hW hW' L₆ (EvL.cons (Ev.local (by rfl) ((envv _).trans hposv) (by rfl)) (EvL.cons (Ev.eq (Ev.binop Ev.str (Ev.local (by rfl) ((envv _).trans hchv) (by rfl)) (Op.add_str (by show 1 + 1 ≤ sizeLine; decide))) ?_) EvL.nil fun _ => rfl) fun _ => rfl) fun s'' L'' => ?_
      · congr 1
      · refine sg_cons (sg_wrap (set_escape L'' fun f' s' L' => ?_))
        exact go false _ s'' f' s' (all s'') (fun c h => h) L'
    | false =>
      rw [if_neg (by decide)]
      refine sg_cons (sg_If ((Tr.cmp (c := decide (c = 92)) (Ev.local (by rfl) ((envv _).trans hchv) (by rfl)) Ev.str ?_ rfl) genv (SE e it) _ s₆ _ _ (L₆.L.F.pre (ok' p)) fun s₇ g₇ => ?_))
      · have : ((⟨#[c]⟩ : Str) == Str.ofString "\\") = decide (c = 92) := by
          rw [Bool.eq_iff_iff, show Str.ofString "\\" = ⟨#[92]⟩ from by decide +kernel]; simp
        rw [← this]; exact Op.eq_str
      · have L₇ := L₆.grow g₇
        by_cases h92 : c = 92
        · rw [decide_eq_true h92, if_pos rfl]
          have hesc : esc i false (c :: cs) = esc (i + 1) true cs := by simp [esc, h92]
          rw [hesc]
          refine sg_cons (sg_wrap (set_escape L₇ fun f' s' L' => ?_))
          exact go true W s₀ f' s' hW hW' L'
        · rw [decide_eq_false h92, if_neg (by decide)]
          have hesc : esc i false (c :: cs) = (i, [c]) :: esc (i + 1) false cs := by simp [esc, h92]
          rw [hesc]
          refine sg_cons ?_
          refine gen_yield (n := n) eo (ok' p) rfl hfg hc hW hW' L₇ (EvL.cons (Ev.local (by rfl) ((envv _).trans hposv) (by rfl)) (EvL.cons (Ev.local (by rfl) ((envv _).trans hchv) (by rfl)) EvL.nil fun _ => rfl) fun _ => rfl) fun s'' L'' => ?_
          exact go false _ s'' _ s'' (all s'') (fun c h => h) L''
end
end Mine
namespace Mine
open PySem PySem.Calls PyProof.Rows

section
variable {X : Cx} {B : Around} {n : Nat} {genv : Env} {x : Str} {t : Tok} {e it : Addr}

theorem no_cells {sc : Scope} (h : (sc.names.all fun p => p.2 != .cell) = true) {y : Str} : sc.names.lookup y ≠ some .cell := fun e => by
  have := List.all_eq_true.mp h _ (mem_lookup e)
  simp at this
theorem no_free {sc : Scope} (h : (sc.names.all fun p => p.2 != .free) = true) {y : Str} : sc.names.lookup y ≠ some .free := fun e => by
  have := List.all_eq_true.mp h _ (mem_lookup e)
  simp at this

set_option maxHeartbeats 2000000 in
theorem gen_fin (eo : EnvOk (dScope pw 3) genv) (ok : Ok B (n + 2)) (hc : genv.cells = []) {fb : List Stmt} {H₀ : Value → Sem Fin} {ss : List Stmt} (hss : ss = (dBody pw 3).drop 3)
    : ∀ i b W s₀ f s, 0 < i ∨ b = false → (∀ c, GW genv e it c → W c ∨ s₀.heap.get? c = none) → (∀ c, W c → GW genv e it c) → LF X genv x e it i b s₀ (fun _ => False) f s →
      SegG X.M B (NG X B genv.locals (esc i b []) W s₀) (.func fb genv) ((execs ss genv).wrap funcK H₀ id id) [] s := by
  intro i b W s₀ f s hib hW hW' L
  subst hss
  have ok1 : Ok (B.over (.func fb genv) []) n := ok_over1 ok _ _
  have envv : ∀ y, f.env y = f.ρ y := fun y => by unfold AF.env; rw [L.μ]; rfl
  refine sg_cons (sg_If ((Tr.val (Ev.local (by rfl) ((envv _).trans L.esc) (by rfl)) fun _ => rfl) genv (fun _ => False) _ s _ _ (L.F.pre ok1) fun s₁ g₁ => ?_))
  have L₁ := L.grow g₁
  cases b with
  | false =>
    rw [if_neg (by decide)]
    exact sg_end (.ok (.ret .none)) ⟨rfl, L₁.step hW⟩
  | true =>
    rw [if_pos rfl]
    refine sg_cons ?_
    refine sg_Yield rfl ?_ (by rw [eo.scope]; rfl) (by unfold interactive; rw [eo.scope]; rfl)
    have he : ∀ p1 k p2, EvL X (dScope pw 3) f.env n [.Name "pos" p1, .Constant (.str "\\") k p2] [.int ((i - 1 : Nat) : Int), .str ⟨[92].toArray⟩] := fun p1 k p2 =>
      EvL.cons (Ev.local (by rfl) ((envv _).trans L.pos) (by rfl)) (EvL.cons (Ev.eq Ev.str (congrArg PyData.str (by decide +kernel))) EvL.nil fun _ => rfl) fun _ => rfl
    refine wpAny_Tuple (he _ _ _ genv _ (fun _ => False) _ s₁ _ _ (L₁.F.pre ok1) fun vs s₂ g₂ r₂ => ?_)
    simp only [RepL, Rep] at r₂
    obtain ⟨v1, ws, rfl, ⟨u, rfl⟩, v2, ws2, rfl, ⟨w, rfl⟩, rfl⟩ := r₂
    refine ⟨by show 2 ≤ sizeLine; decide, fun p l k hk => ?_⟩
    have L₂ := L₁.grow g₂
    have L₃ := L₂.grow (Grow.push s₂ (tobj [.int ((i - 1 : Nat) : Int) u, .str ⟨[92].toArray⟩ w] 0) s₂.toks)
    have hal : ∀ c, c = genv.locals → (s₂.heap.get? c).isSome = true := fun c hc => by rw [hc]; exact L₂.F.ol _ (.inl rfl)
    refine ⟨by simp [End.quiet], L₃.step hW, fun c => c = genv.locals, rfl, fun c hc => by rw [hc]; exact L₃.F.ol _ (.inl rfl), fun c hc hn => (hW c (.inl hc)).resolve_left hn, ?_, fun s'' hcd => ?_⟩
    · simp only [escAV, Rep, RepL]
      refine ⟨s₂.heap.objs.size, [.int ((i - 1 : Nat) : Int) u, .str ⟨[92].toArray⟩ w], 0, rfl, fun hc => ?_, Heap.get?_push_size _ rfl, _, _, rfl, ⟨u, rfl⟩, _, _, rfl, ⟨w, rfl⟩, rfl⟩
      have dead := get?_size s₂.heap
      rcases hc with ⟨hc1, hc2⟩ | hc
      · obtain ⟨o, ho⟩ := Option.isSome_iff_exists.mp hc1
        by_cases hg : GW genv e it s₂.heap.objs.size
        · rcases hW _ hg with h | h
          · exact hc2 h
          · rw [h] at ho; cases ho
        · have := L₂.F.keep _ o ⟨hc1, fun h => hg (.inl h), fun h => hg (.inr (.inl h)), fun h => hg (.inr (.inr h))⟩ ho
          rw [dead] at this; cases this
      · have := hal _ hc; rw [dead] at this; cases this
    · rw [hk]
      have L'' := L₃.resume hc hcd
      exact sg_end (.ok (.ret .none)) ⟨rfl, fun _ _ _ e => e, rfl, fun _ _ _ => rfl, Nat.le_refl _, id⟩

theorem gen_F0 {s : Shared} {m : Str → Option Value} (eo : EnvOk (dScope pw 3) genv) (hc : genv.cells = []) (hb : Keep X.hb s.heap) (hm : s.heap.Ns genv.locals m) (hma : m "addr" = some (.str x t)) (hbL : X.hb.get? genv.locals = none) :
    FSat X (dScope pw 3) genv (fun c => (s.heap.get? c).isSome = true ∧ c ≠ genv.locals) s (fun _ => False) ⟨bindA ["addr"] [.str x] fun _ => none, []⟩ [] s := by
  have own : ∀ b, Own genv [] b → b = genv.locals := fun b hb => by
    rcases hb with h | ⟨y, h⟩ | ⟨y, h⟩
    · exact h
    · cases h
    · rw [hc] at h; cases h
  refine ⟨eo, hb, fun c hc => hc.1, fun b o _ e => e, rfl, fun _ _ => rfl, Nat.le_refl _, id, fun c hc => hc.elim, fun b h => ?_, fun b h => ?_, ⟨m, hm, fun y a hy hr hu => ?_, fun y xs hy => (by cases hy)⟩, fun y a hy hr => ?_, fun y hy => absurd hy (no_cells (by rfl)), fun y c hy => (by rw [hc] at hy; cases hy), by rw [hc]; exact List.Pairwise.nil, fun y xs hy => (by cases hy), List.Pairwise.nil, rfl⟩
  · rw [own b h]; exact ⟨fun h => h.2 rfl, hbL, fun h => h⟩
  · rw [own b h]; exact Heap.Ns.alive hm
  · have hy' : y = "addr" := by
      have h1 : (if y = "addr" then some (PyData.str x) else none) = some a := hr
      split at h1
      · assumption
      · cases h1
    subst hy'
    have : a = .str x := by simpa [bindA] using hr.symm
    subst this
    exact ⟨_, hma, by simp [Rep]⟩
  · rcases hy with hy | hy
    · exact absurd hy (no_cells (by rfl))
    · exact absurd hy (no_free (by rfl))

theorem boot_enumerate : bootBuiltins "enumerate" = some (.type "enumerate") := by decide +kernel

theorem FSat.prSub {sc : Scope} {env : Env} {Pr Pr' : Addr → Prop} {sp : Shared} {S : Addr → Prop} {f : AF} {as : List (Str × Addr)} {s : Shared} (F : FSat X sc env Pr sp S f as s) (h : ∀ b, Pr' b → Pr b) : FSat X sc env Pr' sp S f as s :=
  { F with pr := fun b hb => F.pr b (h b hb), keep := fun b o hb e => F.keep b o (h b hb) e, apart := fun b hb => ⟨fun hp => (F.apart b hb).1 (h b hp), (F.apart b hb).2⟩ }

set_option maxHeartbeats 4000000 in
/-- the generator from its first waking on -/
theorem gen_start (hF : Free X) {s : Shared} {m : Str → Option Value} (eo : EnvOk (dScope pw 3) genv) (ok : Ok B (n + 2)) (hc : genv.cells = []) (hb : Keep X.hb s.heap) (hm : s.heap.Ns genv.locals m) (hma : m "addr" = some (.str x t)) (hbL : X.hb.get? genv.locals = none) :
    SegG X.M B (NG X B genv.locals (esc 0 false x.cps.toList) (fun c => c = genv.locals) s) (.func (dBody pw 3) genv) (X.M.den (.func (dBody pw 3) genv)) [] s := by
  have ok1 : Ok (B.over (.func (dBody pw 3) genv) []) n := ok_over1 ok _ _
  have F₀ := gen_F0 eo hc hb hm hma hbL
  refine sg_func ?_
  -- pos = 0
  refine sg_cons (sg_wrap (wpAny_Assign_Name (wpAny_Constant_int ?_) rfl))
  have g₀ : Grow s { s with toks := s.toks + 1 } := .toks _ _
  refine (F₀.grow g₀).store (a := .int 0) (by rfl) rfl (by simp [Rep]) fun s₁ F₁ => ?_
  -- escape = False
  refine sg_cons (sg_wrap (wpAny_Assign_Name (wpAny_Constant_bool ?_) rfl))
  refine F₁.store (a := .bool false) (by rfl) rfl (by simp [Rep]) fun s₂ F₂ => ?_
  generalize hf₂ : (AF.set (AF.set ⟨bindA ["addr"] [.str x] fun _ => none, []⟩ "pos" (.int 0)) "escape" (.bool false)) = f₂ at F₂
  have hμ : f₂.μ = [] := by rw [← hf₂]; rfl
  have envv : ∀ y, f₂.env y = f₂.ρ y := fun y => by unfold AF.env; rw [hμ]; rfl
  have h1 : f₂.ρ "addr" = some (.str x) := by rw [← hf₂]; simp [AF.set, ofString_inj, bindA]
  have h2 : f₂.ρ "escape" = some (.bool false) := by rw [← hf₂]; simp [AF.set]
  have h3 : f₂.ρ "pos" = some (.int ((0 - 1 : Nat) : Int)) := by rw [← hf₂]; simp [AF.set, ofString_inj]
  have hfl : ∀ y a, f₂.ρ y = some a → flat a = true := fun y a hy => by
    rw [← hf₂] at hy
    simp only [AF.set, bindA] at hy
    split at hy
    · cases hy; rfl
    · split at hy
      · cases hy; rfl
      · split at hy
        · cases hy; rfl
        · cases hy
  -- for pos, ch in enumerate(addr)
  have be : Builtin? X (dScope pw 3) "enumerate" (.type "enumerate") := bi hF (by simp) (by rfl) boot_enumerate
  refine sg_cons (sg_For (fun _ => rfl) ?_)
  refine Call_ (be.load (F₂.pre ok1) (PyProof.Rows.callWith_type1 ((EvL.cons (Ev.local (by rfl) ((envv _).trans h1) (by rfl)) EvL.nil fun _ => rfl) genv _ (fun _ => False) _ s₂ _ _ (F₂.pre ok1) fun vs s₃ g₃ r₃ => ?_)))
  simp only [RepL, Rep] at r₃
  obtain ⟨v, ws, rfl, ⟨u, rfl⟩, rfl⟩ := r₃
  refine call_enumerate_str fun h' hen hst hsz hk => ?_
  have F₃ := F₂.grow g₃
  have g₄ : Grow s₃ { s₃ with heap := h' } := .heap (tk := s₃.toks) hk
  generalize hit : s₃.heap.objs.size = it at *
  have hei : it + 1 ≠ it := by omega
  have dit : s₃.heap.get? it = none := get?_ge (by rw [hit]; exact Nat.le_refl _)
  have den : s₃.heap.get? (it + 1) = none := get?_ge (by rw [hit]; exact Nat.le_succ _)
  have F₄ : FSat X (dScope pw 3) genv (fun c => (s.heap.get? c).isSome = true ∧ c ≠ genv.locals) s (SE (it + 1) it) f₂ [] { s₃ with heap := h' } := F₃.lock g₄ (fun c => c = it + 1 ∨ c = it) fun c hc => by
    rcases hc with rfl | rfl
    · exact ⟨den, by show (h'.get? _).isSome = true; rw [hen]; rfl⟩
    · exact ⟨dit, by obtain ⟨o, ho, _⟩ := hst; show (h'.get? _).isSome = true; rw [ho]; rfl⟩
  have Wk := WalksT.enumerateD (draws_str (X := X) (B := Around.in1 (B.over (.func (dBody pw 3) genv) [])) (x := x) (t := u) (it := it) ok1.handled) (it + 1) hei (by simp) (by simp)
  refine Wk.self 0 _ _ _ ⟨⟨.none, hen⟩, hst⟩ fun p => ?_
  have L : LS X genv x u (it + 1) it 0 false s f₂ { s₃ with heap := h' } := ⟨⟨F₄.prSub fun c hc => ⟨hc.1, hc.2.1⟩, hμ, hfl, h1, h2, h3⟩, ⟨.none, hen⟩, hst⟩
  have dead : ∀ c, s₃.heap.get? c = none → X.hb.get? c = none ∧ (c ≠ genv.locals → s.heap.get? c = none) := fun c hd => by
    refine ⟨(F₃.dead' hd).2.2.1, fun hne => ?_⟩
    cases ec : s.heap.get? c with
    | none => rfl
    | some o => have := F₃.keep c o ⟨by rw [ec]; rfl, hne⟩ ec; rw [hd] at this; cases this
  have lneq : ∀ c, s₃.heap.get? c = none → c ≠ genv.locals := fun c hd h => by have := F₃.ol c (.inl h); rw [hd] at this; cases this
  refine gen_loop (n := n) ok hc hei (fun c hc => hc.elim (fun h => h ▸ (dead _ den).1) fun h => h ▸ (dead _ dit).1) rfl (gen_fin (n := n) eo ok hc rfl) x.cps.toList 0 false _ s f₂ _ p rfl (Nat.zero_le _) (.inr rfl) (fun c hc => ?_) (fun c hc => .inl hc) L
  rcases hc with hc | rfl | rfl
  · exact .inl hc
  · exact .inr ((dead _ den).2 (lneq _ den))
  · exact .inr ((dead _ dit).2 (lneq _ dit))

theorem setGen_gens {s : Shared} {g : Nat} {y : GenState} {k : Nat} (h : k ≠ g) : (s.setGen g y).gens[k]? = s.gens[k]? := by
  simp [Shared.setGen, Ne.symm h]
theorem setGen_size {s : Shared} {g : Nat} {y : GenState} : (s.setGen g y).gens.size = s.gens.size := by simp [Shared.setGen]
theorem setGen_at {s : Shared} {g : Nat} {y : GenState} (h : g < s.gens.size) : (s.setGen g y).gens[g]? = some y := by simp [Shared.setGen, h]
theorem setGen_bare {s : Shared} {g : Nat} {y : GenState} (hy : y.bare = true) (h : AllBare s.gens) : AllBare (s.setGen g y).gens := fun z hz => by
  simp only [Shared.setGen] at hz
  rcases Array.mem_or_eq_of_mem_setIfInBounds hz with h' | rfl
  · exact h z h'
  · exact hy

/-- where the generator stands after i draws -/
def GSt (X : Cx) (A : Around) (I : Addr) (g : Nat) (Lg : Addr) (out : List (Nat × List Nat)) (i : Nat) (W : Addr → Prop) (s : Shared) : Prop :=
  s.heap.IsGen I g ∧ ¬ W I ∧ W Lg ∧ (∀ c, W c → (s.heap.get? c).isSome = true) ∧ ∃ gs, s.gens[g]? = some gs ∧ gs.bare = true ∧ ∀ s'', Cond X W s s'' → GoesG X.M A.in1 (NG X A.in1 Lg (out.drop i) W s'') gs s''

theorem gen_it {A : Around} {S : Addr → Prop} {h₂ : Heap} {I : Addr} {g : Nat} {Lg : Addr} {out : List (Nat × List Nat)} (ok : Ok A n) (hI : (h₂.get? I).isSome = true) (hIS : ¬ S I) :
    ItD X A S h₂ I (fun c => c = Lg) (fun k => k = g) (out.map escAV) (GSt X A I g Lg out) where
  alive := fun i W s b st hb => st.2.2.2.1 b hb
  frame := fun i W s s' st hk hg => by
    obtain ⟨h1, h2, h3, h4, gs, h5, h6, h7⟩ := st
    have hI' : s'.heap.IsGen I g := let ⟨o, nm, qn, ho, r⟩ := h1; ⟨o, nm, qn, hk I o (.inl ⟨hI, hIS⟩) ho, r⟩
    refine ⟨hI', h2, h3, fun c hc => ?_, gs, (hg g rfl).trans h5, h6, fun s'' hcd => h7 s'' ⟨fun b o hb e => hcd.1 b o hb (hk b o (.inr hb) e), hcd.2⟩⟩
    obtain ⟨o, e⟩ := Option.isSome_iff_exists.mp (h4 c hc)
    rw [hk c o (.inr hc) e]; rfl
  item := fun O i W s Q E a hb hO hOW _ hx st hq => by
    obtain ⟨h1, h2, h3, h4, gs, h5, h6, h7⟩ := st
    obtain ⟨p, hp, rfl⟩ : ∃ p, out[i]? = some p ∧ escAV p = a := by simpa using hx
    have hd : out.drop i = p :: out.drop (i + 1) := by
      have hlt := (List.getElem?_eq_some_iff.mp hp).1
      rw [List.drop_eq_getElem_cons hlt]
      congr 1
      rw [List.getElem?_eq_getElem hlt] at hp; exact Option.some.inj hp
    have hgs : g < s.gens.size := (Array.getElem?_eq_some_iff.mp h5).1
    rw [hd] at h7
    refine next_gen ok.handled (X.nolimit.keeps hb) ok.room h1 h5 (h7 (s.setGen g .running) ⟨fun b o _ e => e, hb⟩) fun e s₁ he => ?_
    cases e with
    | ret r => exact he.elim
    | susp v g0 l k c p0 fs =>
      obtain ⟨q1, q2, W', q3, q4, q5, q6, q7⟩ := he
      refine ⟨q1, ?_⟩
      have hs1 : g < s₁.gens.size := by have := q2.gsize; rw [setGen_size] at this; omega
      obtain ⟨o, nm, qn, ho, r⟩ := id h1
      refine hq W' v _ ⟨⟨o, nm, qn, q2.keep I o h2 ho, r⟩, fun hw => ?_, q3, q4, _, setGen_at hs1, End.bare_of_quiet q1, fun s'' hcd => q7 s'' hcd⟩ (fun b hb => by rw [hb]; exact q3) ?_ q5 (q6.sub fun b hb => ?_)
      · have := q5 I hw h2; rw [show (s.setGen g GenState.running).heap.get? I = s.heap.get? I from rfl, ho] at this; cases this
      · refine ⟨q2.keep, q2.os, fun k hk hne => ?_, ?_, fun hbare => setGen_bare (End.bare_of_quiet q1) (q2.bare (setGen_bare rfl hbare))⟩
        · rw [setGen_gens hne, q2.gens k (by rw [setGen_size]; exact hk) (fun h => h), setGen_gens hne]
        · have := q2.gsize; rw [setGen_size] at this ⊢; exact this
      · rcases hb with hb | hb
        · exact .inr hb
        · exact .inl ⟨hO b hb, hOW b hb⟩
  done := fun W s Q E hb st hq => by
    obtain ⟨h1, h2, h3, h4, gs, h5, h6, h7⟩ := st
    have hd : out.drop (out.map escAV).length = [] := by simp
    rw [hd] at h7
    refine next_gen ok.handled (X.nolimit.keeps hb) ok.room h1 h5 (h7 (s.setGen g .running) ⟨fun b o _ e => e, hb⟩) fun e s₁ he => ?_
    cases e with
    | ret r =>
      obtain ⟨q1, q2⟩ := he
      refine ⟨rfl, q1, fun h' hk' => hq _ ⟨fun b o hb e => hk' b o (q2.keep b o hb e), q2.os, fun k hk hne => ?_, ?_, fun hbare => setGen_bare rfl (q2.bare (setGen_bare rfl hbare))⟩⟩
      · show (s₁.setGen g GenState.finished).gens[k]? = _
        rw [setGen_gens hne, q2.gens k (by rw [setGen_size]; exact hk) (fun h => h), setGen_gens hne]
      · show _ ≤ (s₁.setGen g GenState.finished).gens.size
        have := q2.gsize; rw [setGen_size] at this ⊢; exact this
    | susp v g0 l k c p0 fs => exact he.elim
  gob := fun i W s k st hk => by
    obtain ⟨_, _, _, _, gs, h5, _⟩ := st
    rw [hk]; exact (Array.getElem?_eq_some_iff.mp h5).1
theorem gen_goes {A : Around} {I : Addr} {g : Nat} {Lg : Addr} {out : List (Nat × List Nat)} {target : Expr} : Goes X A target I (GSt X A I g Lg out) := fun i W v s E Q st h => by
  obtain ⟨⟨o, nm, qn, ho, hcl, hd, _⟩, _⟩ := st
  unfold letOwnedTupleGo
  split
  · cases v <;> first
      | exact wpAny_pure h
      | (refine wpAny_bind (wpAny_load ho ?_)
         rw [hcl, hd]
         exact wpAny_pure h)
  · cases v <;> first
      | exact wpAny_pure h
      | (refine wpAny_bind (wpAny_load ho ?_)
         rw [hcl, hd]
         exact wpAny_pure h)
  · exact wpAny_pure h

set_option maxHeartbeats 4000000 in
/-- for .. in _iter_escaped_chars(..) -/
theorem iter_esc (hF : Free X) {sc : Scope} {ρ : Str → Option AV} {a : Addr} (hf : HasFn X "_iter_escaped_chars" (dParams pw 3) (dBody pw 3) (dScope pw 3) a) {target : Expr} {arg : Expr} {np pos : Pos} (hk : sc.names.lookup (Str.ofString "_iter_escaped_chars") = some .globalImplicit)
    (ha : Ev X sc ρ (n + 3) arg (.str x)) (hs : ∀ env, starEach [arg] env = [(false, eval arg env)]) : IterG X sc ρ (n + 3) target (.Call (.Name "_iter_escaped_chars" np) [arg] [] pos) ((esc 0 false x.cps.toList).map escAV) := fun env S A s E Q p k => by
  obtain ⟨o, pm, code, doc, ho, hdat, hcd⟩ := hf.o
  refine Call_ (Name_function_global (by rw [p.eo.scope]; exact p.eo.kind) (by unfold Env.kindOf; rw [p.eo.scope]; exact hk) (loadGlobal_global (mg := X.mg) (by rw [p.eo.globals]; exact X.g.keeps p.base) hf.g ?_) (by rfl))
  refine callWith_def hdat (args_cons (ha env S A s E _ p fun v s₁ g₁ r₁ => args_nil ⟨(p.grow g₁).base _ _ ho, ?_⟩) (hs env)) (hs env)
  simp only [Rep] at r₁
  obtain ⟨t, rfl⟩ := r₁
  have p₁ := p.grow g₁
  refine wpAny_call (codeAny_call_generator p.ok.room (p₁.base _ _ ho) hdat rfl rfl rfl (hcd.keeps p₁.base) ?_)
  rw [show bindArgs (docDef "_iter_escaped_chars" (dParams pw 3) (dBody pw 3) (dScope pw 3) pm code doc) ⟨[.str x t], []⟩ = pure [(Str.ofString "addr", Value.str x t)] from rfl]
  refine wpAny_pure (wpAny_newFunctionEnv (fun y hy hc => ?_) (fun y hy => ?_) (fun h₁ hns hsb => ⟨X.nolimit.keeps (p₁.base.trans ?_), ?_⟩) rfl)
  · have := List.all_eq_true.mp (show ((dScope pw 3).names.all fun p => p.2 != .cell) = true from rfl) y hy
    rw [hc] at this; simp at this
  · rw [List.mem_singleton.mp hy]; rfl
  · exact fun b o e => hsb.extBut b o (Nat.ne_of_lt (Heap.lt_size e)) (Heap.get?_push_of_some _ e)
  · dsimp only at hns hsb ⊢
    generalize hge : newEnv (docDef "_iter_escaped_chars" (dParams pw 3) (dBody pw 3) (dScope pw 3) pm code doc).scope s₁.heap.objs.size _ _ _ _ _ _ _ = genv
    have hloc : genv.locals = s₁.heap.objs.size := by rw [← hge]; rfl
    have eo : EnvOk (dScope pw 3) genv := ⟨by rw [← hge]; rfl, rfl, by rw [← hge]; rfl, by rw [← hge]; rfl⟩
    have hcl : genv.cells = [] := by rw [← hge]; rfl
    have kp : Keep s₁.heap h₁ := fun b o e => hsb.extBut b o (Nat.ne_of_lt (Heap.lt_size e)) (Heap.get?_push_of_some _ e)
    have dl : s₁.heap.get? genv.locals = none := by rw [hloc]; exact get?_size _
    have dI : s₁.heap.get? h₁.objs.size = none := by
      cases e : s₁.heap.get? h₁.objs.size with
      | none => rfl
      | some o => have := kp _ _ e; rw [get?_size] at this; cases this
    have dead : ∀ c, s₁.heap.get? c = none → s.heap.get? c = none := fun c hc => by
      cases e : s.heap.get? c with
      | none => rfl
      | some o => have := g₁.keep _ _ e; rw [hc] at this; cases this
    refine wpAny_pyIter_gen (g := s₁.gens.size) ⟨_, _, _, Heap.get?_push_size _ rfl, rfl, rfl, rfl⟩ ?_
    refine k h₁.objs.size _ (fun c => c = genv.locals) (fun j => j = s₁.gens.size) (GSt X A h₁.objs.size s₁.gens.size genv.locals (esc 0 false x.cps.toList)) ?_ (fun b hb => by rw [hb]; exact dead _ dl) (fun j hj => by rw [hj]; exact g₁.gsize) (gen_it p.ok ?_ ?_) gen_goes ?_
    · refine g₁.trans ⟨kp.trans (.push _ _), rfl, fun j hj => ?_, ?_, fun hb => AllBare.push hb rfl⟩
      · simp [Array.getElem?_push, Nat.ne_of_lt hj]
      · simp
    · show ((h₁.push _).get? h₁.objs.size).isSome = true
      rw [Heap.get?_push_size _ rfl]; rfl
    · exact p₁.bound.fresh dI
    · have hns' : (h₁.push { cls := Value.type "generator", data := Data.fields #[Value.int (↑s₁.gens.size) 0, Value.str (Str.ofString "_iter_escaped_chars") (s₁.toks + 1), Value.str (Str.ofString "_iter_escaped_chars") (s₁.toks + 1 + 1)] }).Ns genv.locals fun y => List.lookup y [(Str.ofString "addr", Value.str x t)].reverse := by
        rw [hloc]; exact hns.push _
      refine ⟨⟨_, _, _, Heap.get?_push_size _ rfl, rfl, rfl, rfl⟩, fun h => ?_, rfl, fun c hc => ?_, .fresh (.func (dBody pw 3) genv), by simp, rfl, fun s'' hcd => ?_⟩
      · have h' : h₁.objs.size = genv.locals := h
        have := hns.lt; rw [← hloc, ← h'] at this; exact Nat.lt_irrefl _ this
      · rw [show c = genv.locals from hc]; exact Heap.Ns.alive hns'
      · refine gen_start hF (n := n) eo ?_ hcl hcd.2 (hns'.at' fun o e => hcd.1 _ o rfl e) rfl ?_
        · exact p.ok.in1
        · cases e : X.hb.get? genv.locals with
          | none => rfl
          | some o => have := p₁.base _ _ e; rw [dl] at this; cases this
end
end Mine
namespace Mine
open PySem PySem.Calls PyProof.Rows

local macro_rules | `(tactic| walk_at "kind") => `(tactic| (first | rfl | decide +kernel))
local macro_rules | `(tactic| walk_at "lk") => `(tactic| ((conv => lhs; simp [AF.env, AF.plain, AF.set, AF.own, AF.put, ofString_inj, ofs_beq, List.lookup_cons, bindA, *]); first | done | rfl))

/-- a datum that may be none -/
def oAV : Option Nat → AV
  | none => .none
  | some k => .int (k : Nat)
abbrev sAV (l : List Nat) : AV := .str (S l)
abbrev SSt := Nat × Option Nat × List (List Nat)
def sStep (l : List Nat) (st : SSt) (it : Nat × List Nat) : SSt :=
  if it.2 = [34] then (match st.2.1 with | none => (st.1, some it.1, st.2.2) | some o => (it.1 + 1, none, if st.1 ≠ o then st.2.2 ++ [cut l st.1 o] else st.2.2)) else st
def sEnd (l : List Nat) (st : SSt) : List (List Nat) := if st.1 < l.length then st.2.2 ++ [l.drop st.1] else st.2.2
def stripL (l : List Nat) : List Nat := if 34 ∈ l then (sEnd l ((esc 0 false l).foldl (sStep l) (0, none, []))).flatten else l
def sAt (l : List Nat) (i : Nat) : SSt := ((esc 0 false l).take i).foldl (sStep l) (0, none, [])
theorem esc_len : ∀ (l : List Nat) (i : Nat) (b : Bool), (esc i b l).length ≤ l.length + 1
  | [], i, b => by cases b <;> simp [esc]
  | c :: cs, i, b => by
    cases b with
    | false =>
      simp only [esc]
      split
      · have := esc_len cs (i + 1) true; simp; omega
      · have := esc_len cs (i + 1) false; simp; omega
    | true => have := esc_len cs (i + 1) false; simp [esc]; omega
theorem sAt_succ {l : List Nat} {i : Nat} {it : Nat × List Nat} (h : (esc 0 false l)[i]? = some it) : sAt l (i + 1) = sStep l (sAt l i) it := by
  unfold sAt
  rw [List.take_add_one, h]
  simp
theorem sAt_all (l : List Nat) : sAt l (esc 0 false l).length = (esc 0 false l).foldl (sStep l) (0, none, []) := by unfold sAt; rw [List.take_length]
theorem sAt_ok (l : List Nat) : ∀ i, i ≤ (esc 0 false l).length → (sAt l i).2.2.length ≤ i ∧ ∀ p ∈ (sAt l i).2.2, p.length ≤ l.length
  | 0, _ => by simp [sAt]
  | i + 1, h => by
    obtain ⟨h1, h2⟩ := sAt_ok l i (by omega)
    rw [sAt_succ (List.getElem?_eq_getElem (by omega))]
    generalize sAt l i = st at *
    unfold sStep
    split
    · split
      · exact ⟨by simpa using by omega, h2⟩
      · rename_i o _
        dsimp only
        split
        · refine ⟨by simp; omega, fun p hp => ?_⟩
          rcases List.mem_append.mp hp with h | h
          · exact h2 p h
          · rw [List.mem_singleton.mp h]; unfold cut; simp; omega
        · exact ⟨by omega, h2⟩
    · exact ⟨by omega, h2⟩
theorem sum_le {ls : List (List Nat)} {k : Nat} (h : ∀ p ∈ ls, p.length ≤ k) : (ls.map List.length).sum ≤ ls.length * k := by
  induction ls with
  | nil => simp
  | cons a ls ih =>
    have := ih fun p hp => h p (List.mem_cons_of_mem _ hp)
    have h1 := h a (List.mem_cons_self ..)
    simp only [List.map_cons, List.sum_cons, List.length_cons, Nat.succ_mul]
    omega
theorem sEnd_ok (l : List Nat) (hl : l.length ≤ 1000) : ((sEnd l (sAt l (esc 0 false l).length)).map List.length).sum ≤ 2000000 := by
  obtain ⟨h1, h2⟩ := sAt_ok l _ (Nat.le_refl _)
  have h3 := esc_len l 0 false
  have : (sEnd l (sAt l (esc 0 false l).length)).length ≤ l.length + 2 ∧ ∀ p ∈ sEnd l (sAt l (esc 0 false l).length), p.length ≤ l.length := by
    unfold sEnd
    split
    · refine ⟨by simp; omega, fun p hp => ?_⟩
      rcases List.mem_append.mp hp with h | h
      · exact h2 p h
      · rw [List.mem_singleton.mp h]; simp
    · exact ⟨by omega, h2⟩
  have h4 := sum_le this.2
  have h5 : (sEnd l (sAt l (esc 0 false l).length)).length * l.length ≤ 1002 * 1000 := Nat.mul_le_mul (by omega) hl
  omega

theorem noInt {sc : Scope} {env : Env} (eo : EnvOk sc env) : interactive env = false := by unfold interactive; rw [eo.scope, eo.kind]; rfl
theorem S_get {l : List Nat} : (S l).cps.toList = l := rfl

set_option maxRecDepth 10000 in
set_option maxHeartbeats 1000000 in
theorem strip_ex {X : Cx} (hF : Free X) {aIt : Addr} (hIt : HasFn X "_iter_escaped_chars" (dParams pw 3) (dBody pw 3) (dScope pw 3) aIt) {l : List Nat} (hl : l.length ≤ 1000) {n : Nat} :
    Ex X (dScope pw 4) (n + 3) { ρ := bindA ["addr"] [sAV l] fun _ => none, μ := [] } (dBody pw 4) fun fl _ => fl = .ret (sAV (stripL l)) := by
  have blen : Builtin? X (dScope pw 4) "len" (.builtin "len") := bi hF (by simp) (by rfl) boot_len
  refine Ex.cons (Ex1.if (c := !decide (34 ∈ l)) ?_ (fun hc => ?_) (fun hc => ?_))
  · refine Tr.cmp (b := sAV l) Ev.str (Ev.local (by rfl) (by walk_at "lk") (by rfl)) ?_ (by rfl)
    rw [← contains_one]; exact Op.notin_str
  · refine Ex.cons (Ex1.ret (a := sAV l) (Ev.local (by rfl) (by walk_at "lk") (by rfl)) ?_)
    have : ¬ 34 ∈ l := by simpa using hc
    unfold stripL; rw [if_neg this]
  · have hin : 34 ∈ l := by simpa using hc
    refine Ex.nil ?_
    refine Ex.cons (Ex1.assign (a := .int 0) Ev.int (.inl rfl) (by rfl) (by rfl) (fun _ _ => rfl) ?_)
    refine Ex.cons (Ex1.assign (a := .none) Ev.none (.inl rfl) (by rfl) (by rfl) (fun _ _ => rfl) ?_)
    refine Ex.cons (Ex1.new (xs := []) (EvN.list EvL.nil (by decide)) rfl (by rfl) (fun _ _ => rfl) ?_)
    refine Ex.cons (Ex1.for (xs := (esc 0 false l).map escAV) (iter_esc hF hIt (x := S l) (by rfl) (Ev.local (by rfl) (by walk_at "lk") (by rfl)) fun _ => rfl)
      (fun i f => f.ρ "addr" = some (sAV l) ∧ f.ρ "start" = some (.int ((sAt l i).1 : Nat)) ∧ f.ρ "open_pos" = some (oAV (sAt l i).2.1) ∧ f.μ = [(Str.ofString "result", (sAt l i).2.2.map sAV)])
      ⟨by walk_at "lk", by walk_at "lk", by walk_at "lk", by rfl⟩ ?_ ?_ (fun _ _ => rfl))
    · rintro i f a hxa ⟨ha, hs, ho, hμ⟩
      rw [List.getElem?_map] at hxa
      obtain ⟨it, hit, rfl⟩ := Option.map_eq_some_iff.mp hxa
      have hi : i < (esc 0 false l).length := (List.getElem?_eq_some_iff.mp hit).1
      obtain ⟨ok1, ok2⟩ := sAt_ok l i (by omega)
      have hlen := esc_len l 0 false
      have hnext := sAt_succ hit
      generalize sAt l i = st at *
      obtain ⟨start, op, res⟩ := st
      obtain ⟨p, ch⟩ := it
      dsimp only at hs ho hμ ok1 ok2
      refine ⟨_, Takes.pair (by rfl) (by rfl) (by rw [hμ]; rfl) (by rw [hμ]; rfl), ?_⟩
      refine Ex.cons (Ex1.if (c := decide (ch = [34])) ?_ (fun hc => ?_) (fun hc => ?_))
      · refine Tr.cmp (a := .str (S ch)) (b := .str (S [34])) (Ev.local (by rfl) (by walk_at "lk") (by rfl)) Ev.str ?_ (by rfl)
        have : (S ch == S [34]) = decide (ch = [34]) := by rw [S_beq]; rw [Bool.eq_iff_iff]; simp
        rw [← this]; exact Op.eq_str
      · have hc' : ch = [34] := by simpa using hc
        subst hc'
        unfold sStep at hnext
        rw [if_pos rfl] at hnext
        cases op with
        | none =>
          dsimp only at hnext
          refine Ex.cons (Ex1.if (c := true) ?_ (fun _ => ?_) (fun h => by cases h))
          · exact Tr.cmp (Ev.local (by rfl) (by walk_at "lk") (by rfl)) Ev.none (Op.is_none (a := .none)) (by rfl)
          refine Ex.cons (Ex1.assign (a := .int (p : Nat)) (Ev.local (by rfl) (by walk_at "lk") (by rfl)) (.inl rfl) (by rfl) (by rw [show ((f.set _ _).set _ _).μ = f.μ from rfl, hμ]; rfl) (fun _ _ => rfl) ?_)
          refine Ex.nil (Ex.nil (Ex.nil ?_))
          rw [hnext]
          exact ⟨by walk_at "lk", by walk_at "lk", by walk_at "lk", hμ⟩
        | some o =>
          dsimp only at hnext
          refine Ex.cons (Ex1.if (c := false) ?_ (fun h => by cases h) (fun _ => ?_))
          · exact Tr.cmp (Ev.local (by rfl) (by walk_at "lk") (by rfl)) Ev.none (Op.is_none (a := .int (o : Nat))) (by rfl)
          have hsz : (cut l start o).length ≤ 1000 := by unfold cut; simp; omega
          refine Ex.cons (Ex1.if (c := (start : Int) != (o : Int)) ?_ (fun h => ?_) (fun h => ?_))
          · exact Tr.cmp (Ev.local (by rfl) (by walk_at "lk") (by rfl)) (Ev.local (by rfl) (by walk_at "lk") (by rfl)) Op.ne_int (by rfl)
          · have hne : start ≠ o := by simp at h; omega
            rw [if_pos hne] at hnext
            refine Ex.cons (Ex1.append (xs := res.map sAV) (a := sAV (cut l start o)) (by show f.μ.lookup _ = _; rw [hμ]; rfl) ?_ rfl (by rw [List.length_map]; unfold sizeLine; omega) (fun _ => rfl) (fun _ => rfl) (by rfl) (by rfl) (fun _ eo => noInt eo) ?_)
            · refine Ev.eq (Ev.slice_str (x := S l) (l := some (start : Nat)) (u := some (o : Nat)) (k := none) (Ev.local (by rfl) (by walk_at "lk") (by rfl)) (EvO.one (Ev.local (by rfl) (by walk_at "lk") (by rfl))) (EvO.one (Ev.local (by rfl) (by walk_at "lk") (by rfl))) EvO.nil (by rfl) (by rw [spick_ab, S_len]; unfold sizeLine; omega) fun _ _ => ⟨_, rfl⟩) ?_
              rw [spick_ab]
            have hμ' : (AF.put ((f.set "pos" (.int (p : Nat))).set "ch" (sAV [34])) "result" (res.map sAV ++ [sAV (cut l start o)])).μ = [(Str.ofString "result", (res ++ [cut l start o]).map sAV)] := by
              show f.μ.map _ = _
              rw [hμ]; simp
            refine Ex.nil ?_
            refine Ex.cons (Ex1.assign (a := .int ((p + 1 : Nat) : Int)) (Ev.eq (Ev.binop (a := .int (p : Nat)) (Ev.local (by rfl) (by walk_at "lk") (by rfl)) Ev.int Op.add_int) (by rfl)) (.inl rfl) (by rfl) (Eq.trans (congrArg (List.lookup _) hμ') rfl) (fun _ _ => rfl) ?_)
            refine Ex.cons (Ex1.assign (a := .none) Ev.none (.inl rfl) (by rfl) (Eq.trans (congrArg (List.lookup _) hμ') rfl) (fun _ _ => rfl) ?_)
            refine Ex.nil (Ex.nil (Ex.nil ?_))
            rw [hnext]
            exact ⟨by walk_at "lk", by walk_at "lk", by walk_at "lk", hμ'⟩
          · have hne : ¬ start ≠ o := by simp at h; omega
            rw [if_neg hne] at hnext
            refine Ex.nil ?_
            refine Ex.cons (Ex1.assign (a := .int ((p + 1 : Nat) : Int)) (Ev.eq (Ev.binop (a := .int (p : Nat)) (Ev.local (by rfl) (by walk_at "lk") (by rfl)) Ev.int Op.add_int) (by rfl)) (.inl rfl) (by rfl) (by show f.μ.lookup _ = _; rw [hμ]; rfl) (fun _ _ => rfl) ?_)
            refine Ex.cons (Ex1.assign (a := .none) Ev.none (.inl rfl) (by rfl) (by show f.μ.lookup _ = _; rw [hμ]; rfl) (fun _ _ => rfl) ?_)
            refine Ex.nil (Ex.nil (Ex.nil ?_))
            rw [hnext]
            exact ⟨by walk_at "lk", by walk_at "lk", by walk_at "lk", hμ⟩
      · have hc' : ¬ ch = [34] := by simpa using hc
        unfold sStep at hnext
        rw [if_neg hc'] at hnext
        refine Ex.nil (Ex.nil ?_)
        rw [hnext]
        exact ⟨by walk_at "lk", by walk_at "lk", by walk_at "lk", hμ⟩
    · rintro f ⟨ha, hs, ho, hμ⟩
      refine Ex.nil ?_
      rw [List.length_map] at hs hμ
      have hsum := sEnd_ok l hl
      have hok := sAt_ok l _ (Nat.le_refl (esc 0 false l).length)
      have hlen := esc_len l 0 false
      have hst : stripL l = (sEnd l (sAt l (esc 0 false l).length)).flatten := by unfold stripL; rw [if_pos hin, sAt_all]
      rw [hst]
      generalize sAt l (esc 0 false l).length = st at *
      obtain ⟨start, op, res⟩ := st
      dsimp only at hs hμ hok
      have jn : ∀ (g : AF) (ls : List (List Nat)) (p1 p2 p3 p4 : Pos) (k : Nat), (p2.endLine == p4.line) = true → (ls.map List.length).sum ≤ 2000000 → g.env "result" = some (.list (ls.map sAV)) → Ev X (dScope pw 4) g.env (n + 3) (.Call (.Attribute (.Constant (.str (S [])) k p1) "join" p2) [.Name "result" p3] [] p4) (sAV ls.flatten) := fun g ls p1 p2 p3 p4 k hp hs he => by
        have := Ev.join (X := X) (sc := dScope pw 4) (ρ := g.env) (n := n + 3) (x := S []) (ts := ls.map S) (apos := p2) (pos := p4) (o := .Constant (.str (S [])) k p1) (e := .Name "result" p3) Ev.str (Ev.local (by rfl) (by rw [he, List.map_map]; rfl) (by rfl)) (joinOk_of ls (by unfold sizeLine; omega)) (fun _ => rfl) (fun _ => rfl) hp
        rw [join_flat] at this
        exact this
      have hlE : ∀ (np pp pos : Pos), Ev X (dScope pw 4) f.env (n + 3) (.Call (.Name "len" np) [.Name "addr" pp] [] pos) (.int l.length) := fun np pp pos =>
        Ev.callB blen (EvL.cons (Ev.local (by rfl) (by walk_at "lk") (by rfl)) EvL.nil fun _ => rfl) (by have := Fun.len_str (X := X) (n := n + 3) (x := S l) (by rw [S_len]; omega); rw [S_len] at this; exact this) (fun _ => rfl) fun _ _ => rfl
      refine Ex.cons (Ex1.if (c := decide ((start : Int) < (l.length : Int))) ?_ (fun h => ?_) (fun h => ?_))
      · exact Tr.cmp (Ev.local (by rfl) (by walk_at "lk") (by rfl)) (hlE _ _ _) Op.lt_int (by rfl)
      · have hlt : start < l.length := by simpa using h
        have hE : sEnd l (start, op, res) = res ++ [l.drop start] := by unfold sEnd; rw [if_pos hlt]
        rw [hE] at hsum ⊢
        refine Ex.cons (Ex1.append (xs := res.map sAV) (a := sAV (l.drop start)) (by rw [hμ]; rfl) ?_ rfl (by rw [List.length_map]; unfold sizeLine; omega) (fun _ => rfl) (fun _ => rfl) (by rfl) (by rfl) (fun _ eo => noInt eo) ?_)
        · refine Ev.eq (Ev.slice_str (x := S l) (l := some (start : Nat)) (u := none) (k := none) (Ev.local (by rfl) (by walk_at "lk") (by rfl)) (EvO.one (Ev.local (by rfl) (by walk_at "lk") (by rfl))) EvO.nil EvO.nil (by rfl) (by rw [spick_a, S_len]; unfold sizeLine; simp; omega) fun _ _ => ⟨_, rfl⟩) ?_
          rw [spick_a]
        refine Ex.nil ?_
        refine Ex.cons (Ex1.ret (jn _ _ _ _ _ _ _ (by rfl) hsum ?_) rfl)
        have hμ' : (f.put "result" (res.map sAV ++ [sAV (l.drop start)])).μ = [(Str.ofString "result", (res ++ [l.drop start]).map sAV)] := by
          show f.μ.map _ = _
          rw [hμ]; simp
        unfold AF.env
        rw [hμ']; rfl
      · have hlt : ¬ start < l.length := by simpa using h
        have hE : sEnd l (start, op, res) = res := by unfold sEnd; rw [if_neg hlt]
        rw [hE] at hsum ⊢
        refine Ex.nil ?_
        refine Ex.cons (Ex1.ret (jn _ _ _ _ _ _ _ (by rfl) hsum ?_) rfl)
        unfold AF.env
        rw [hμ]; rfl
end Mine
namespace Mine
open PySem PySem.Calls PyProof.Rows

local macro_rules | `(tactic| walk_at "kind") => `(tactic| (first | rfl | decide +kernel))
local macro_rules | `(tactic| walk_at "lk") => `(tactic| ((conv => lhs; simp [AF.env, AF.plain, AF.set, AF.own, AF.put, ofString_inj, ofs_beq, List.lookup_cons, bindA, *]); first | done | rfl))

def chkL : Int → List (Nat × List Nat) → Bool
  | o, [] => o == 0
  | o, it :: r => if it.2 = [40] then chkL (o + 1) r else if it.2 = [41] then (if o - 1 < 0 then false else chkL (o - 1) r) else chkL o r
def checkL (l : List Nat) : Bool := chkL 0 (esc 0 false (stripL l))

theorem drop_at {α : Type} {l : List α} {i : Nat} {a : α} (h : l[i]? = some a) : l.drop i = a :: l.drop (i + 1) := by
  obtain ⟨hi, e⟩ := List.getElem?_eq_some_iff.mp h
  rw [List.drop_eq_getElem_cons hi, e]

theorem fnOk4 : FnOk "_strip_quoted_realnames" (dParams pw 4) (dBody pw 4) (dScope pw 4) where
  kind := rfl
  co := rfl
  gen := rfl
  bind := fun pm cd doc vs hv => by
    obtain ⟨a, rfl⟩ := List.length_eq_one_iff.mp (show vs.length = 1 from hv)
    rfl
  pk := by decide +kernel
  nd := by decide +kernel
theorem strip_fun {X : Cx} (hF : Free X) {aIt aSt : Addr} (hIt : HasFn X "_iter_escaped_chars" (dParams pw 3) (dBody pw 3) (dScope pw 3) aIt) (hSt : HasFn X "_strip_quoted_realnames" (dParams pw 4) (dBody pw 4) (dScope pw 4) aSt) {l : List Nat} (hl : l.length ≤ 1000) {n : Nat} :
    Fun X (n + 4) (.ref aSt) [sAV l] (sAV (stripL l)) := Fun.own hSt fnOk4 rfl (strip_ex hF hIt hl)

set_option maxRecDepth 10000 in
set_option maxHeartbeats 1000000 in
theorem check_ex {X : Cx} (hF : Free X) {aIt aSt : Addr} (hIt : HasFn X "_iter_escaped_chars" (dParams pw 3) (dBody pw 3) (dScope pw 3) aIt) (hSt : HasFn X "_strip_quoted_realnames" (dParams pw 4) (dBody pw 4) (dScope pw 4) aSt) {l : List Nat} (hl : l.length ≤ 1000) {n : Nat} :
    Ex X (dScope pw 5) (n + 4) { ρ := bindA ["addr"] [sAV l] fun _ => none, μ := [] } (dBody pw 5) fun fl _ => fl = .ret (.bool (checkL l)) := by
  refine Ex.cons (Ex1.assign (a := sAV (stripL l)) (Ev.callF hSt (by rfl) (by rfl) (EvL.cons (Ev.local (by rfl) (by walk_at "lk") (by rfl)) EvL.nil fun _ => rfl) (strip_fun hF hIt hSt hl) fun _ => rfl) (.inl rfl) (by rfl) (by rfl) (fun _ _ => rfl) ?_)
  refine Ex.cons (Ex1.assign (a := .int 0) Ev.int (.inl rfl) (by rfl) (by rfl) (fun _ _ => rfl) ?_)
  refine Ex.cons (Ex1.for (xs := (esc 0 false (stripL l)).map escAV) (iter_esc (n := n + 1) hF hIt (x := S (stripL l)) (by rfl) (Ev.local (by rfl) (by walk_at "lk") (by rfl)) fun _ => rfl)
      (fun i f => f.μ = [] ∧ ∃ o : Int, f.ρ "opens" = some (.int o) ∧ chkL o ((esc 0 false (stripL l)).drop i) = checkL l)
      ⟨rfl, 0, by walk_at "lk", rfl⟩ ?_ ?_ (fun _ _ => rfl))
  · rintro i f a hxa ⟨hμ, o, ho, hrest⟩
    rw [List.getElem?_map] at hxa
    obtain ⟨it, hit, rfl⟩ := Option.map_eq_some_iff.mp hxa
    rw [drop_at hit] at hrest
    obtain ⟨p, ch⟩ := it
    unfold chkL at hrest
    dsimp only at hrest
    refine ⟨_, Takes.pair (by rfl) (by rfl) (by rw [hμ]; rfl) (by rw [hμ]; rfl), ?_⟩
    have eqs : ∀ c : Nat, (S ch == S [c]) = decide (ch = [c]) := fun c => by rw [S_beq]; rw [Bool.eq_iff_iff]; simp
    refine Ex.cons (Ex1.if (c := decide (ch = [40])) ?_ (fun hc => ?_) (fun hc => ?_))
    · refine Tr.cmp (a := .str (S ch)) (b := .str (S [40])) (Ev.local (by rfl) (by walk_at "lk") (by rfl)) Ev.str ?_ (by rfl)
      rw [← eqs]; exact Op.eq_str
    · have hc' : ch = [40] := by simpa using hc
      rw [if_pos hc'] at hrest
      refine Ex.cons (Ex1.augAdd (a := o) (b := 1) (by rfl) (by walk_at "lk") (by show f.μ.lookup _ = _; rw [hμ]; rfl) Ev.int ?_)
      exact Ex.nil (Ex.nil ⟨hμ, o + 1, by walk_at "lk", hrest⟩)
    · have hc' : ¬ ch = [40] := by simpa using hc
      rw [if_neg hc'] at hrest
      refine Ex.cons (Ex1.if (c := decide (ch = [41])) ?_ (fun hd => ?_) (fun hd => ?_))
      · refine Tr.cmp (a := .str (S ch)) (b := .str (S [41])) (Ev.local (by rfl) (by walk_at "lk") (by rfl)) Ev.str ?_ (by rfl)
        rw [← eqs]; exact Op.eq_str
      · have hd' : ch = [41] := by simpa using hd
        rw [if_pos hd'] at hrest
        refine Ex.cons (Ex1.augSub (a := o) (b := 1) (by rfl) (by walk_at "lk") (by show f.μ.lookup _ = _; rw [hμ]; rfl) Ev.int ?_)
        refine Ex.cons (Ex1.if (c := decide (o - 1 < 0)) ?_ (fun he => ?_) (fun he => ?_))
        · exact Tr.cmp (Ev.local (by rfl) (by walk_at "lk") (by rfl)) Ev.int Op.lt_int (by rfl)
        · have he' : o - 1 < 0 := of_decide_eq_true he
          rw [if_pos he'] at hrest
          refine Ex.cons (Ex1.ret (a := .bool false) Ev.bool ?_)
          rw [hrest]
        · have he' : ¬ o - 1 < 0 := of_decide_eq_false he
          rw [if_neg he'] at hrest
          exact Ex.nil (Ex.nil (Ex.nil (Ex.nil ⟨hμ, o - 1, by walk_at "lk", hrest⟩)))
      · have hd' : ¬ ch = [41] := by simpa using hd
        rw [if_neg hd'] at hrest
        exact Ex.nil (Ex.nil (Ex.nil ⟨hμ, o, by walk_at "lk", hrest⟩))
  · rintro f ⟨hμ, o, ho, hrest⟩
    refine Ex.nil ?_
    rw [List.length_map, List.drop_length] at hrest
    unfold chkL at hrest
    refine Ex.cons (Ex1.ret (a := .bool (checkL l)) ?_ rfl)
    rw [← hrest]
    exact Ev.cmp (Ev.local (by rfl) (by walk_at "lk") (by rfl)) Ev.int Op.eq_int (by rfl)

theorem fnOk5 : FnOk "_check_parenthesis" (dParams pw 5) (dBody pw 5) (dScope pw 5) where
  kind := rfl
  co := rfl
  gen := rfl
  bind := fun pm cd doc vs hv => by
    obtain ⟨a, rfl⟩ := List.length_eq_one_iff.mp (show vs.length = 1 from hv)
    rfl
  pk := by decide +kernel
  nd := by decide +kernel
theorem check_fun {X : Cx} (hF : Free X) {aIt aSt aCk : Addr} (hIt : HasFn X "_iter_escaped_chars" (dParams pw 3) (dBody pw 3) (dScope pw 3) aIt) (hSt : HasFn X "_strip_quoted_realnames" (dParams pw 4) (dBody pw 4) (dScope pw 4) aSt) (hCk : HasFn X "_check_parenthesis" (dParams pw 5) (dBody pw 5) (dScope pw 5) aCk) {l : List Nat} (hl : l.length ≤ 1000) {n : Nat} :
    Fun X (n + 5) (.ref aCk) [sAV l] (.bool (checkL l)) := Fun.own hCk fnOk5 rfl (check_ex hF hIt hSt hl)
end Mine
namespace Mine
open PySem

/-- k is a border of the first m -/
def isB (eq : Nat → Nat → Bool) (m k : Nat) : Bool := (List.range k).all fun i => eq i (m - k + i)
/-- the proper borders of the first m, from above -/
def dueE (eq : Nat → Nat → Bool) (m : Nat) : List Nat := (List.range m).reverse.filter (isB eq m)
structure Eqv (eq : Nat → Nat → Bool) : Prop where
  refl : ∀ i, eq i i = true
  symm : ∀ i j, eq i j = eq j i
  trans : ∀ i j k, eq i j = true → eq i k = eq j k

theorem isB_succ (eq : Nat → Nat → Bool) {i k : Nat} (h : k < i) : isB eq (i + 1) (k + 1) = (isB eq i k && eq k i) := by
  unfold isB
  rw [List.range_succ, List.all_append]
  have e1 : i + 1 - (k + 1) = i - k := by omega
  have e2 : i - k + k = i := by omega
  simp [e1, e2]
theorem due_succ (eq : Nat → Nat → Bool) (i : Nat) : dueE eq (i + 1) = ((dueE eq i).filter fun k => eq k i).map (· + 1) ++ [0] := by
  unfold dueE
  rw [List.range_succ_eq_map, List.reverse_cons, List.filter_append, ← List.map_reverse, List.filter_map, List.filter_filter]
  have e0 : [0].filter (isB eq (i + 1)) = [0] := by simp [isB]
  rw [e0]
  congr 2
  apply List.filter_congr
  intro k hk
  have hk' : k < i := List.mem_range.mp (List.mem_reverse.mp hk)
  show isB eq (i + 1) (k + 1) = _
  rw [isB_succ eq hk', Bool.and_comm]
theorem due_zero (eq : Nat → Nat → Bool) : dueE eq 0 = [] := rfl
theorem due_mem {eq : Nat → Nat → Bool} {m k : Nat} (h : k ∈ dueE eq m) : k < m := List.mem_range.mp (List.mem_reverse.mp (List.mem_filter.mp h).1)
theorem due_len (eq : Nat → Nat → Bool) (m : Nat) : (dueE eq m).length ≤ m := by
  unfold dueE
  have := List.length_filter_le (isB eq m) (List.range m).reverse
  simpa using this
theorem due_ne {eq : Nat → Nat → Bool} {m : Nat} (h : 0 < m) : ∃ b r, dueE eq m = b :: r := by
  obtain ⟨i, rfl⟩ : ∃ i, m = i + 1 := ⟨m - 1, by omega⟩
  rw [due_succ]
  cases h : ((dueE eq i).filter fun k => eq k i).map (· + 1) with
  | nil => exact ⟨0, [], rfl⟩
  | cons b r => exact ⟨b, r ++ [0], rfl⟩
/-- behind a border come its own borders -/
theorem due_chain {eq : Nat → Nat → Bool} (E : Eqv eq) : ∀ m l₁ k l₂, dueE eq m = l₁ ++ k :: l₂ → l₂ = dueE eq k
  | 0, l₁, k, l₂, h => by rw [due_zero] at h; simp at h
  | i + 1, l₁, K, l₂, h => by
    rw [due_succ] at h
    rcases List.append_eq_append_iff.mp h with ⟨as, h1, h2⟩ | ⟨bs, h1, h2⟩
    · cases as with
      | nil =>
        simp at h2
        obtain ⟨rfl, rfl⟩ := h2
        rfl
      | cons a as => simp at h2
    · cases bs with
      | nil =>
        simp at h2
        obtain ⟨rfl, rfl⟩ := h2
        rfl
      | cons b bs =>
        simp only [List.cons_append, List.cons.injEq] at h2
        obtain ⟨rfl, h2⟩ := h2
        obtain ⟨f₁, r, hf, e1, e2⟩ := List.map_eq_append_iff.mp h1
        obtain ⟨k, f₂, hr, e3, e4⟩ := List.map_eq_cons_iff.mp e2
        subst hr
        obtain ⟨g₁, g₂, hg, e5, e6⟩ := List.filter_eq_append_iff.mp hf
        obtain ⟨g₃, g₄, hg', e7, e8, e9⟩ := List.filter_eq_cons_iff.mp e6
        have ih := due_chain E i (g₁ ++ g₃) k g₄ (by rw [hg, hg', List.append_assoc])
        subst e3
        rw [due_succ, h2, ← e4, ← e9, ih]
        congr 2
        apply List.filter_congr
        intro j hj
        rw [E.symm j i, E.symm j k]
        exact (E.trans k i j e8).symm
theorem due_head {eq : Nat → Nat → Bool} (E : Eqv eq) {m b : Nat} {r : List Nat} (h : dueE eq m = b :: r) : r = dueE eq b := due_chain E m [] b r h

/-- the table by now is right -/
def Right (eq : Nat → Nat → Bool) (T : List Nat) (k : Nat) : Prop := ∀ j, j ≤ k → j < T.length → T.getD j 0 = (dueE eq (j + 1)).headD 0
theorem inner_right {eq : Nat → Nat → Bool} (E : Eqv eq) {T : List Nat} {i : Nat} (hT : Right eq T (i - 1)) (hi : i ≤ T.length) : ∀ fu idx, idx < fu → idx < i → inner eq T i fu idx = (((idx :: dueE eq idx).find? (eq i)).map (· + 1)).getD 0
  | 0, idx, h, _ => by omega
  | fu + 1, idx, h, h' => by
    unfold inner
    cases he : eq i idx with
    | true => simp [he]
    | false =>
      simp only [Bool.false_eq_true, if_false, List.find?_cons, he]
      split
      · rename_i h0; subst h0; rfl
      · rename_i h0
        obtain ⟨b, r, hb⟩ := due_ne (eq := eq) (m := idx) (by omega)
        have hr := due_head E hb
        have hTb : T.getD (idx - 1) 0 = b := by
          rw [hT (idx - 1) (by omega) (by omega), show idx - 1 + 1 = idx by omega, hb]; rfl
        have hlt : b < idx := due_mem (eq := eq) (by rw [hb]; exact List.mem_cons_self ..)
        rw [hTb, inner_right E hT hi fu b (by omega) (by omega), hb, hr]
theorem find_head {eq : Nat → Nat → Bool} (E : Eqv eq) {i : Nat} : (((dueE eq i).find? (eq i)).map (· + 1)).getD 0 = (dueE eq (i + 1)).headD 0 := by
  rw [due_succ]
  have : ∀ l : List Nat, ((l.find? (eq i)).map (· + 1)).getD 0 = ((l.filter fun k => eq k i).map (· + 1) ++ [0]).headD 0 := by
    intro l
    induction l with
    | nil => rfl
    | cons a l ih =>
      rw [List.find?_cons, List.filter_cons, E.symm i a]
      cases h : eq a i with
      | true => simp
      | false => simpa using ih
  exact this _
theorem kmpN_right {eq : Nat → Nat → Bool} (E : Eqv eq) (N : Nat) : ∀ k, Right eq (kmpN eq N k) k
  | 0 => by
    intro j hj hl
    have : j = 0 := by omega
    subst this
    have e : dueE eq 1 = [0] := by rw [due_succ]; rfl
    rw [show 0 + 1 = 1 from rfl, e]
    simp only [kmpN, List.getD_eq_getElem?_getD, List.getElem?_replicate]
    split <;> rfl
  | k + 1 => by
    intro j hj hl
    have ih := kmpN_right E N k
    have hlen := kmpN_len eq N k
    rw [kmpN_len] at hl
    simp only [kmpN, kstep]
    by_cases hjk : j = k + 1
    · subst hjk
      rw [List.getD_eq_getElem?_getD, List.getElem?_set_self (by omega)]
      simp only [Option.getD_some, Nat.add_sub_cancel]
      obtain ⟨b, r, hb⟩ := due_ne (eq := eq) (m := k + 1) (by omega)
      have hr := due_head E hb
      have hTb : (kmpN eq N k).getD k 0 = b := by rw [ih k (by omega) (by omega), hb]; rfl
      have hlt : b < k + 1 := due_mem (eq := eq) (by rw [hb]; exact List.mem_cons_self ..)
      rw [hTb, inner_right E (by simpa using ih) (by omega) _ b (by omega) hlt, ← find_head E, hb, hr]
    · rw [List.getD_eq_getElem?_getD, List.getElem?_set_ne (by omega), ← List.getD_eq_getElem?_getD]
      exact ih j (by omega) (by omega)
theorem kmp_right {eq : Nat → Nat → Bool} (E : Eqv eq) {N j : Nat} (h : j < N) : (kmp eq N).getD j 0 = (dueE eq (j + 1)).headD 0 := by
  unfold kmp
  exact kmpN_right E N (N - 1) j (by omega) (by rw [kmpN_len]; exact h)
end Mine
namespace Mine
open PySem

/-- labels a and b become one -/
def mrg (lab : List Nat) (i j : Nat) : List Nat := lab.map fun x => if x = lab.getD j 0 then lab.getD i 0 else x
/-- the pairs that the borders B of m signs make equal -/
def prs (m : Nat) (B : List Nat) : List (Nat × Nat) := B.flatMap fun k => (List.range k).map fun i => (i, m - k + i)
def labs (m : Nat) (B : List Nat) : List Nat := (prs m B).foldl (fun lab p => mrg lab p.1 p.2) (List.range m)
def labE (lab : List Nat) (i j : Nat) : Bool := lab.getD i 0 == lab.getD j 0
theorem mrg_len (lab : List Nat) (i j : Nat) : (mrg lab i j).length = lab.length := by simp [mrg]
theorem mrg_get {lab : List Nat} {i j a : Nat} (ha : a < lab.length) : (mrg lab i j).getD a 0 = if lab.getD a 0 = lab.getD j 0 then lab.getD i 0 else lab.getD a 0 := by
  unfold mrg
  rw [List.getD_eq_getElem?_getD, List.getElem?_map, List.getElem?_eq_getElem ha]
  simp [List.getD_eq_getElem?_getD, ha]

theorem fold_ok {m : Nat} {r : Nat → Nat → Bool} (E : Eqv r) : ∀ (ps : List (Nat × Nat)) (lab : List Nat), lab.length = m → (∀ p ∈ ps, p.1 < m ∧ p.2 < m ∧ r p.1 p.2 = true) →
    (∀ a b, a < m → b < m → lab.getD a 0 = lab.getD b 0 → r a b = true) →
    let l := ps.foldl (fun lab p => mrg lab p.1 p.2) lab
    l.length = m ∧ (∀ a b, a < m → b < m → l.getD a 0 = l.getD b 0 → r a b = true) ∧ (∀ a b, a < m → b < m → lab.getD a 0 = lab.getD b 0 → l.getD a 0 = l.getD b 0) ∧ ∀ p ∈ ps, l.getD p.1 0 = l.getD p.2 0
  | [], lab, hl, hp, hs => ⟨hl, hs, fun _ _ _ _ h => h, fun p h => by cases h⟩
  | p :: ps, lab, hl, hp, hs => by
    obtain ⟨p1, p2, pr⟩ := hp p (List.mem_cons_self ..)
    have hs' : ∀ a b, a < m → b < m → (mrg lab p.1 p.2).getD a 0 = (mrg lab p.1 p.2).getD b 0 → r a b = true := by
      intro a b ha hb h
      rw [mrg_get (by omega), mrg_get (by omega)] at h
      split at h
      · rename_i h1
        split at h
        · rename_i h2; exact hs a b ha hb (h1.trans h2.symm)
        · have q1 := hs a p.2 ha p2 h1
          have q2 := hs p.1 b p1 hb h
          have q3 := E.trans p.1 b a q2
          rw [E.symm a b, ← q3, E.trans p.1 p.2 a pr, E.symm]; exact q1
      · split at h
        · rename_i h2
          have q1 := hs b p.2 hb p2 h2
          have q2 := hs a p.1 ha p1 h
          rw [E.trans a p.1 b q2, E.trans p.1 p.2 b pr, E.symm]; exact q1
        · exact hs a b ha hb h
    obtain ⟨k1, k2, k3, k4⟩ := fold_ok E ps (mrg lab p.1 p.2) (by rw [mrg_len]; exact hl) (fun q hq => hp q (List.mem_cons_of_mem _ hq)) hs'
    refine ⟨k1, k2, fun a b ha hb h => k3 a b ha hb ?_, fun q hq => ?_⟩
    · rw [mrg_get (by omega), mrg_get (by omega), h]
    · rcases List.mem_cons.mp hq with rfl | hq
      · apply k3 _ _ p1 p2
        rw [mrg_get (by omega), mrg_get (by omega), if_pos rfl]
        split <;> rfl
      · exact k4 q hq
theorem prs_mem {m : Nat} {B : List Nat} {p : Nat × Nat} (h : p ∈ prs m B) : ∃ k ∈ B, ∃ i, i < k ∧ p = (i, m - k + i) := by
  unfold prs at h
  obtain ⟨k, hk, h⟩ := List.mem_flatMap.mp h
  obtain ⟨i, hi, rfl⟩ := List.mem_map.mp h
  exact ⟨k, hk, i, List.mem_range.mp hi, rfl⟩
theorem mem_prs {m k i : Nat} {B : List Nat} (h : k ∈ B) (hi : i < k) : (i, m - k + i) ∈ prs m B :=
  List.mem_flatMap.mpr ⟨k, h, List.mem_map.mpr ⟨i, List.mem_range.mpr hi, rfl⟩⟩
theorem isB_at {eq : Nat → Nat → Bool} {m k : Nat} : isB eq m k = true ↔ ∀ i, i < k → eq i (m - k + i) = true := by
  unfold isB; rw [List.all_eq_true]; exact ⟨fun h i hi => h i (List.mem_range.mpr hi), fun h i hi => h i (List.mem_range.mp hi)⟩
/-- a row's borders are the borders of the labels that they make -/
theorem due_labs {eq : Nat → Nat → Bool} (E : Eqv eq) (m : Nat) : dueE (labE (labs m (dueE eq m))) m = dueE eq m := by
  have hp : ∀ p ∈ prs m (dueE eq m), p.1 < m ∧ p.2 < m ∧ eq p.1 p.2 = true := fun p hp => by
    obtain ⟨k, hk, i, hi, rfl⟩ := prs_mem hp
    have hk' := List.mem_filter.mp hk
    have hkm := due_mem hk
    exact ⟨by show i < m; omega, by show m - k + i < m; omega, isB_at.mp hk'.2 i hi⟩
  have h0 : ∀ a b, a < m → b < m → (List.range m).getD a 0 = (List.range m).getD b 0 → eq a b = true := fun a b ha hb h => by
    simp [List.getD_eq_getElem?_getD, ha, hb] at h
    subst h; exact E.refl a
  obtain ⟨k1, k2, k3, k4⟩ := fold_ok E (prs m (dueE eq m)) (List.range m) (by simp) hp h0
  have key : ∀ k ∈ (List.range m).reverse, isB (labE (labs m (dueE eq m))) m k = isB eq m k := fun k hk => by
    have hkm : k < m := List.mem_range.mp (List.mem_reverse.mp hk)
    rw [Bool.eq_iff_iff]
    constructor
    · intro h
      rw [isB_at] at h ⊢
      intro i hi
      have := h i hi
      unfold labE at this
      exact k2 i (m - k + i) (by omega) (by omega) (eq_of_beq this)
    · intro h
      have hd : k ∈ dueE eq m := List.mem_filter.mpr ⟨hk, h⟩
      rw [isB_at]
      intro i hi
      have := k4 _ (mem_prs (m := m) hd hi)
      unfold labE
      exact beq_iff_eq.mpr this
  unfold dueE at key ⊢
  exact List.filter_congr key
def subs : List Nat → List (List Nat)
  | [] => [[]]
  | a :: l => subs l ++ (subs l).map (a :: ·)
theorem filter_subs (p : Nat → Bool) : ∀ l : List Nat, l.filter p ∈ subs l
  | [] => by simp [subs]
  | a :: l => by
    have ih := filter_subs p l
    rw [List.filter_cons]
    unfold subs
    split
    · exact List.mem_append_right _ (List.mem_map.mpr ⟨_, ih, rfl⟩)
    · exact List.mem_append_left _ ih
/-- whatever holds of every set of borders that is one holds of a row's -/
theorem due_by {eq : Nat → Nat → Bool} (E : Eqv eq) {m : Nat} {P : List Nat → Bool} (h : ((subs (List.range m).reverse).all fun B => !(dueE (labE (labs m B)) m == B) || P B) = true) : P (dueE eq m) = true := by
  have := List.all_eq_true.mp h _ (filter_subs (isB eq m) (List.range m).reverse)
  have e := due_labs E m
  change (!(dueE (labE (labs m (dueE eq m))) m == dueE eq m) || P (dueE eq m)) = true at this
  rw [e] at this
  simpa using this
end Mine
namespace Mine
open PySem

def ones (k : Nat) : List Int := (List.replicate k [(1 : Int)]).flatten
def ovrL (bits : List Int) : List Int := (rangeL 1 bits.length 1).filter fun k => (bits.length : Int).fmod k == 0 && ((List.replicate ((bits.length : Int).fdiv k).toNat (bits.take k.toNat)).flatten == bits)
def bStep (bits : List Int) (size : Nat) : List Int :=
  if bits == [] then ([0] ++ ones size).take size
  else if size ≤ 2 * bits.length then ((List.replicate size (bits.take (size - bits.length))).flatten).take size
  else if ovrL (bits ++ ones (size - 2 * bits.length)) == [] then bits ++ ones (size - 2 * bits.length) ++ bits
  else bits ++ ones (size - 2 * bits.length - 1) ++ [0] ++ bits
def bitsL (sizes : List Nat) : List Int := sizes.foldl bStep []
def sizesL (due : List Nat) (size : Nat) : List Nat := (due.reverse.filter fun k => decide (0 < k)) ++ [size]
def kinds : List (List Nat) := [[40, 41], [40, 40, 41, 41]]
def treesL (due : List Nat) (size : Nat) : List (List Nat) := (bitsL (sizesL due size)).map fun b => kinds.getD b.toNat []
def reqB (row : List (List Nat)) (i j : Nat) : Bool := row.getD i [] == row.getD j []
def ceqB (l : List Nat) (i j : Nat) : Bool := l.getD i 0 == l.getD j 0
def edgesL (trees : List (List Nat)) : List Nat := (List.range (trees.length + 1)).map fun k => (trees.take k).flatten.length
def sgnL (trees : List (List Nat)) : List Nat := (edgesL trees).tail.map fun e => (kmp (ceqB trees.flatten) trees.flatten.length).getD (e - 1) 0
def ansN (rest : List Nat) : Nat → List Bool → List Bool
  | 0, a => a
  | f + 1, a => if a.getLast? == some true then a else if a.length < rest.length then ansN rest f (a ++ [checkL (rest.take (a.length + 1))]) else a
def cutN : Nat → List Nat → List (List Bool) → List (List Bool)
  | 0, _, cuts => cuts
  | f + 1, rest, cuts => if rest == [] then cuts else cutN f (rest.drop (ansN rest (rest.length + 1) []).length) (cuts ++ [ansN rest (rest.length + 1) []])
/-- every step of the bits' making stays within bounds -/
def bitsOk (sizes : List Nat) : Bool := (List.range sizes.length).all fun i => decide ((bitsL (sizes.take i)).length ≤ sizes.getD i 0) && decide (sizes.getD i 0 ≤ 20)
def okA (m : Nat) (B : List Nat) : Bool :=
  bitsOk (sizesL B m) && (bitsL (sizesL B m)).all (fun b => b == 0 || b == 1) && decide ((treesL B m).length = m) && (dueE (reqB (treesL B m)) m == B) &&
  (sgnL (treesL B m) == (kmp (reqB (treesL B m)) m).map fun k => (edgesL (treesL B m)).getD k 0)
def okB (m : Nat) (B : List Nat) : Bool :=
  (cutN 41 (treesL B m).flatten [] == (treesL B m).map fun t => List.replicate (t.length - 1) false ++ [true]) && !(checkL (treesL B m).flatten.reverse)
def allM (m : Nat) : Bool := (subs (List.range m).reverse).all fun B => !(dueE (labE (labs m B)) m == B) || okA m B
def allN (m : Nat) : Bool := (subs (List.range m).reverse).all fun B => !(dueE (labE (labs m B)) m == B) || okB m B
theorem gm0 : allM 0 = true := by decide +kernel
theorem gm1 : allM 1 = true := by decide +kernel
theorem gm2 : allM 2 = true := by decide +kernel
theorem gm3 : allM 3 = true := by decide +kernel
theorem gm4 : allM 4 = true := by decide +kernel
theorem gm5 : allM 5 = true := by decide +kernel
theorem gm6 : allM 6 = true := by decide +kernel
theorem gm7 : allM 7 = true := by decide +kernel
theorem gm8 : allM 8 = true := by decide +kernel
theorem gm9 : allM 9 = true := by decide +kernel
theorem gm10 : allM 10 = true := by decide +kernel
theorem hm1 : allN 1 = true := by decide +kernel
theorem hm2 : allN 2 = true := by decide +kernel
theorem hm3 : allN 3 = true := by decide +kernel
theorem hm4 : allN 4 = true := by decide +kernel
theorem hm5 : allN 5 = true := by decide +kernel
theorem hm6 : allN 6 = true := by decide +kernel
theorem hm7 : allN 7 = true := by decide +kernel
theorem hm8 : allN 8 = true := by decide +kernel
theorem hm9 : allN 9 = true := by decide +kernel
theorem hm10 : allN 10 = true := by decide +kernel
end Mine
namespace Mine
open PySem PySem.Calls PyProof.Rows

local macro_rules | `(tactic| walk_at "kind") => `(tactic| (first | rfl | decide +kernel))
local macro_rules | `(tactic| walk_at "lk") => `(tactic| ((conv => lhs; simp [AF.env, AF.plain, AF.set, AF.own, AF.put, ofString_inj, ofs_beq, List.lookup_cons, bindA, *]); first | done | rfl))

theorem boot_isinstance : bootBuiltins "isinstance" = some (.builtin "isinstance") := by decide +kernel
theorem boot_bool : bootBuiltins "bool" = some (.type "bool") := by decide +kernel
theorem boot_list : bootBuiltins "list" = some (.type "list") := by decide +kernel
theorem boot_sum : bootBuiltins "sum" = some (.builtin "sum") := by decide +kernel
theorem boot_str : bootBuiltins "str" = some (.type "str") := by decide +kernel

theorem mem_rangeL_up {a b i : Int} (h : i ∈ rangeL a b 1) : a ≤ i ∧ i < b := by
  rw [rangeL_up] at h
  obtain ⟨k, hk, rfl⟩ := List.mem_map.mp h
  have := List.mem_range.mp hk
  omega
theorem len_rangeL_up (a b : Int) : (rangeL a b 1).length = (b - a).toNat := by rw [rangeL_up]; simp
theorem nats_take (l : List Nat) (k : Nat) : nats (l.take k) = (nats l).take k := by unfold nats; rw [List.map_take]

/-- a table that is right as far as it goes -/
structure TabOk (eq : Nat → Nat → Bool) (T : List Nat) : Prop where
  e : Eqv eq
  right : ∀ j, j < T.length → T.getD j 0 = (dueE eq (j + 1)).headD 0
theorem TabOk.take {eq : Nat → Nat → Bool} (E : Eqv eq) {N m : Nat} : TabOk eq ((kmp eq N).take m) where
  e := E
  right := fun j hj => by
    have hlen : (kmp eq N).length = N := kmpN_len ..
    rw [List.length_take, hlen] at hj
    rw [List.getD_eq_getElem?_getD, List.getElem?_take, if_pos (by omega), ← List.getD_eq_getElem?_getD]
    exact kmp_right E (by omega)

set_option maxRecDepth 10000 in
set_option maxHeartbeats 1000000 in
theorem ends_ex {X : Cx} (hF : Free X) {eq : Nat → Nat → Bool} {T : List Nat} (TK : TabOk eq T) (hl : T.length ≤ 1000) {n : Nat} :
    Ex X (dScope pw 7) n { ρ := bindA ["table"] [.list (nats T)] fun _ => none, μ := [] } (dBody pw 7) fun fl _ => fl = .ret (.list (nats (dueE eq T.length))) := by
  have lenE : ∀ (ρ : Str → Option AV) (np pp pos : Pos), ρ "table" = some (.list (nats T)) → Ev X (dScope pw 7) ρ n (.Call (.Name "len" np) [.Name "table" pp] [] pos) (.int T.length) := fun ρ np pp pos hr =>
    Ev.callB (bi hF (by simp) (by rfl) boot_len) (EvL.cons (Ev.local (by rfl) hr (by rfl)) EvL.nil fun _ => rfl) (by have := Fun.len_list (X := X) (n := n) (xs := nats T) (by rw [nats_len]; omega); rwa [nats_len] at this) (fun _ => rfl) fun _ _ => rfl
  refine Ex.cons (Ex1.twoNF (xs := []) (b := .int (T.length : Nat)) ⟨fun _ => rfl, fun env eo => ?_, fun _ => rfl, fun _ => rfl⟩ (EvN.list EvL.nil (by decide)) (lenE _ _ _ _ (by walk_at "lk")) rfl rfl (by rfl) (by rfl) (by rfl) ?_)
  · unfold swappedStores Env.kindOf Env.blockKind; rw [eo.scope]; rfl
  refine Ex.cons (Ex1.while (fun k f => ∃ l, dueE eq T.length = l ++ dueE eq k ∧ k ≤ T.length ∧ f.ρ "table" = some (.list (nats T)) ∧ f.ρ "size" = some (.int (k : Nat)) ∧ f.μ = [(Str.ofString "ends", nats l)])
    T.length ⟨[], rfl, Nat.le_refl _, by walk_at "lk", by walk_at "lk", rfl⟩ ?_)
  rintro k f ⟨l, hd, hk, e1, e2, hμ⟩
  have hlen := congrArg List.length hd
  have hdl := due_len eq T.length
  rw [List.length_append] at hlen
  have endsE : f.env "ends" = some (.list (nats l)) := by unfold AF.env; rw [hμ]; rfl
  refine ⟨decide (0 < (k : Int)) && (decide ((l.length : Int) < T.length) && true), Tr.boolop (TrA.and (Tr.cmp (Ev.local (by rfl) (by walk_at "lk") (by rfl)) Ev.int Op.gt_int (by rfl)) fun _ => TrA.and (Tr.cmp ?_ (lenE _ _ _ _ (by walk_at "lk")) Op.lt_int (by rfl)) fun _ => TrA.and_nil), fun hc => ?_, fun hc => ?_⟩
  · refine Ev.callB (bi hF (by simp) (by rfl) boot_len) (EvL.cons (Ev.local (by rfl) endsE (by rfl)) EvL.nil fun _ => rfl) ?_ (fun _ => rfl) fun _ _ => rfl
    have := Fun.len_list (X := X) (n := n) (xs := nats l) (by rw [nats_len]; omega)
    rwa [nats_len] at this
  · have hk0 : 0 < k := by
      simp only [Bool.and_eq_true, decide_eq_true_eq] at hc; omega
    obtain ⟨b, r, hb⟩ := due_ne (eq := eq) hk0
    have hr := due_head TK.e hb
    have hbk : b < k := due_mem (eq := eq) (by rw [hb]; exact List.mem_cons_self ..)
    have hTb : T.getD (k - 1) 0 = b := by rw [TK.right (k - 1) (by omega), show k - 1 + 1 = k by omega, hb]; rfl
    refine Ex.cons (Ex1.assign (a := .int (b : Nat)) ?_ (.inl rfl) (by rfl) (by rw [hμ]; rfl) (fun _ _ => rfl) ?_)
    · refine Ev.sub_list (xs := nats T) (i := ((k - 1 : Nat) : Int)) (Ev.local (by rfl) (by walk_at "lk") (by rfl)) (Ev.eq (Ev.binop (a := .int (k : Nat)) (Ev.local (by rfl) (by walk_at "lk") (by rfl)) Ev.int Op.sub_int) (by congr 1; omega)) (by omega) ?_ (by omega) fun _ _ => rfl
      have := nats_get T (k - 1) (by omega)
      rw [hTb] at this
      exact this
    refine Ex.cons (Ex1.append (xs := nats l) (a := .int (b : Nat)) (by show f.μ.lookup _ = _; rw [hμ]; rfl) (Ev.local (by rfl) (by walk_at "lk") (by rfl)) rfl (by rw [nats_len]; unfold sizeLine; omega) (fun _ => rfl) (fun _ => rfl) (by rfl) (by rfl) (fun _ eo => noInt eo) ?_)
    refine Ex.nil ⟨b, hbk, l ++ [b], ?_, by omega, by walk_at "lk", by walk_at "lk", ?_⟩
    · rw [hd, hb, hr, List.append_assoc]; rfl
    · show f.μ.map _ = _
      rw [hμ]; simp [nats]
  · have hk0 : k = 0 := by
      cases Nat.eq_zero_or_pos k with
      | inl h => exact h
      | inr h =>
        obtain ⟨b, r, hb⟩ := due_ne (eq := eq) h
        rw [hb] at hlen
        simp only [List.length_cons] at hlen
        exfalso
        have h1 : decide (0 < (k : Int)) = true := decide_eq_true (by omega)
        have h2 : decide ((l.length : Int) < T.length) = true := decide_eq_true (by omega)
        rw [h1, h2] at hc; cases hc
    subst hk0
    rw [due_zero, List.append_nil] at hd
    refine Ex.nil (Ex.cons (Ex1.ret (a := .list (nats l)) (Ev.local (by rfl) endsE (by rfl)) ?_))
    rw [hd]
end Mine
namespace Mine
open PySem PySem.Calls PyProof.Rows

local macro_rules | `(tactic| walk_at "kind") => `(tactic| (first | rfl | decide +kernel))
local macro_rules | `(tactic| walk_at "lk") => `(tactic| ((conv => lhs; simp [AF.env, AF.plain, AF.set, AF.own, AF.put, ofString_inj, ofs_beq, List.lookup_cons, bindA, *]); first | done | rfl))

def ieq (r : List Int) (i j : Nat) : Bool := r.getD i 0 == r.getD j 0
theorem Eqv.of {α : Type} [BEq α] [LawfulBEq α] (f : Nat → α) : Eqv fun i j => f i == f j where
  refl := fun i => beq_self_eq_true _
  symm := fun i j => by rw [Bool.eq_iff_iff, beq_iff_eq, beq_iff_eq]; exact eq_comm
  trans := fun i j k h => by rw [eq_of_beq h]
theorem ieq_eqv (r : List Int) : Eqv (ieq r) := Eqv.of fun i => r.getD i 0
theorem due_congr {e e' : Nat → Nat → Bool} {m : Nat} (h : ∀ i j, i < m → j < m → e i j = e' i j) : dueE e m = dueE e' m := by
  unfold dueE
  refine List.filter_congr fun k hk => ?_
  have hkm : k < m := List.mem_range.mp (List.mem_reverse.mp hk)
  unfold isB
  rw [Bool.eq_iff_iff, List.all_eq_true, List.all_eq_true]
  constructor <;> intro q i hi
  · have := List.mem_range.mp hi
    rw [← h i (m - k + i) (by omega) (by omega)]; exact q i hi
  · have := List.mem_range.mp hi
    rw [h i (m - k + i) (by omega) (by omega)]; exact q i hi
theorem slice_isB (r : List Int) {k : Nat} (hk : k < r.length) : (r.take k == r.drop (r.length - k)) = isB (ieq r) r.length k := by
  rw [Bool.eq_iff_iff, beq_iff_eq, isB_at]
  constructor
  · intro h i hi
    have := congrArg (fun l => l.getD i 0) h
    simp only [List.getD_eq_getElem?_getD, List.getElem?_take, List.getElem?_drop, if_pos hi] at this
    unfold ieq
    simp only [List.getD_eq_getElem?_getD]
    exact beq_iff_eq.mpr this
  · intro h
    apply List.ext_getElem?
    intro i
    rw [List.getElem?_take, List.getElem?_drop]
    by_cases hi : i < k
    · rw [if_pos hi]
      have := eq_of_beq (h i hi)
      simp only [List.getD_eq_getElem?_getD] at this
      rw [List.getElem?_eq_getElem (by omega), List.getElem?_eq_getElem (by omega)] at this ⊢
      simpa using this
    · rw [if_neg hi, List.getElem?_eq_none (by omega)]
theorem down_small : ∀ m, m < 40 → Builtin.Range.small ((m : Nat) - 1 : Int) (-1) (-1) = true := by decide +kernel
theorem down_is : ∀ m, m < 40 → rangeL ((m : Nat) - 1 : Int) (-1) (-1) = (List.range m).reverse.map fun (k : Nat) => (k : Int) := by decide +kernel
theorem filter_nats (P : Nat → Bool) (l : List Nat) : (((l.map fun (k : Nat) => (k : Int)).filter fun i => P i.toNat).map fun i => PyData.int i) = nats (l.filter P) := by
  induction l with
  | nil => rfl
  | cons a l ih =>
    simp only [List.map_cons, List.filter_cons, Int.toNat_natCast]
    by_cases h : P a = true
    · rw [if_pos h, if_pos h, List.map_cons, ih]; rfl
    · rw [if_neg h, if_neg h, ih]

set_option maxRecDepth 10000 in
set_option maxHeartbeats 1000000 in
theorem due_ex {X : Cx} (hF : Free X) {r : List Int} (hl : r.length < 40) {n : Nat} :
    Ex X (dScope pw 10) n { ρ := bindA ["row"] [.list (r.map .int)] fun _ => none, μ := [] } (dBody pw 10) fun fl _ => fl = .ret (.list (nats (dueE (ieq r) r.length))) := by
  refine Ex.cons (Ex1.ret (a := .list (nats (dueE (ieq r) r.length))) ?_ rfl)
  unfold dueE
  rw [← filter_nats]
  have flen : Fun X n (.builtin "len") [.list (r.map .int)] (.int (r.length : Nat)) := by have := Fun.len_list (X := X) (n := n) (xs := r.map .int) (by rw [List.length_map]; omega); rwa [List.length_map] at this
  refine EvN.ev (EvN.compI (xs := (List.range r.length).reverse.map fun (k : Nat) => (k : Int)) (fun i => isB (ieq r) r.length i.toNat) (fun i => .int i) ?_ (CompOk.of ["row"] (by decide +kernel) (by simp; rfl)) (fun i hi => ?_) (fun i hi _ => ?_) (by simp; unfold sizeLine; omega) (fun _ _ => rfl))
  · rw [← down_is _ hl]
    exact Iter.range3 (bi hF (by simp) (by rfl) boot_range) (EvL.cons (Ev.binop (Ev.callB (bi hF (by simp) (by rfl) boot_len) (EvL.cons (Ev.cell (by rfl) (by walk_at "lk") (by rfl)) EvL.nil fun _ => rfl) flen (fun _ => rfl) fun _ _ => rfl) Ev.int Op.sub_int) (EvL.cons (Ev.neg Ev.int) (EvL.cons (Ev.neg Ev.int) EvL.nil fun _ => rfl) fun _ => rfl) fun _ => rfl)
      (by decide) (PyProof.noPylong_of_log2 (by decide)) (down_small _ hl) (fun _ => rfl) fun _ _ => rfl
  · obtain ⟨k, hk, rfl⟩ := List.mem_map.mp hi
    have hkm : k < r.length := List.mem_range.mp (List.mem_reverse.mp hk)
    refine TrL.one ?_
    rw [Int.toNat_natCast, ← slice_isB r hkm]
    refine Tr.cmp (a := .list ((r.take k).map .int)) (b := .list ((r.drop (r.length - k)).map .int)) ?_ ?_ ?_ (by rfl)
    · refine Ev.eq (Ev.slice_list (xs := r.map .int) (l := none) (u := some (k : Nat)) (k := none) (Ev.cell (by rfl) (by rfl) (by rfl)) EvO.nil (EvO.one (Ev.local (by rfl) (by rfl) (by rfl))) EvO.nil (by simp) (by unfold sizeLine; simp; omega) fun _ _ => ⟨_, rfl⟩) ?_
      rw [pick_b, List.map_take]
    · refine Ev.eq (Ev.slice_list (xs := r.map .int) (l := some ((r.length - k : Nat) : Int)) (u := none) (k := none) (Ev.cell (by rfl) (by rfl) (by rfl)) (EvO.one (Ev.eq (Ev.binop (a := .int (r.length : Nat)) (b := .int (k : Nat)) (Ev.callB (bi hF (by simp) (by rfl) boot_len) (EvL.cons (Ev.cell (by rfl) (by rfl) (by rfl)) EvL.nil fun _ => rfl) flen (fun _ => rfl) fun _ _ => rfl) (Ev.local (by rfl) (by rfl) (by rfl)) Op.sub_int) (by congr 1; omega))) EvO.nil EvO.nil (by simp) (by unfold sizeLine; simp; omega) fun _ _ => ⟨_, rfl⟩) ?_
      rw [pick_a, List.map_drop]
    · have := Op.eq (X := X) (n := n) (shaped_ints (r.take k)) (shaped_ints (r.drop (r.length - k)))
      have e : PyData.eqv (.list ((r.take k).map .int)) (.list ((r.drop (r.length - k)).map .int)) = (r.take k == r.drop (r.length - k)) := by
        show PyData.eqvAll _ _ = _
        rw [eqv_ints]
      rw [← e]; exact this
  · exact Ev.local (by rfl) (by rfl) (by rfl)

set_option maxRecDepth 10000 in
set_option maxHeartbeats 1000000 in
theorem numbers_ex {X : Cx} (hF : Free X) {table : List Int} (hl : table.length ≤ 1000) {n : Nat} :
    Ex X (dScope pw 12) n { ρ := bindA ["table", "size"] [.list (table.map .int), .int (table.length : Nat)] fun _ => none, μ := [] } (dBody pw 12) fun fl _ => fl = .ret (.bool true) := by
  refine Ex.cons (Ex1.ret (a := .bool true) ?_ rfl)
  refine Ev.and (c := true) (d := true) (Ev.isinst (bi hF (by simp) (by rfl) boot_isinstance) (bi hF (by simp) (by rfl) boot_list) (Ev.local (by rfl) (by walk_at "lk") (by rfl)) isi_list_list (fun _ => rfl)) fun _ => ?_
  refine Ev.and (c := true) (d := true) ?_ fun _ => Ev.bool1 ?_
  · refine Ev.eq (Ev.cmp (a := .int (table.length : Nat)) (b := .int (table.length : Nat)) (Ev.callB (bi hF (by simp) (by rfl) boot_len) (EvL.cons (Ev.local (by rfl) (by walk_at "lk") (by rfl)) EvL.nil fun _ => rfl) (by have := Fun.len_list (X := X) (n := n) (xs := table.map .int) (by rw [List.length_map]; omega); rwa [List.length_map] at this) (fun _ => rfl) fun _ _ => rfl) (Ev.local (by rfl) (by walk_at "lk") (by rfl)) Op.eq_int (by rfl)) (by rw [beq_self_eq_true])
  · refine Ev.cmp (a := .list []) (b := .list []) ?_ (Ev.list EvL.nil (by decide)) (Op.eq (by rfl) (by rfl)) (by rfl)
    refine EvN.ev (EvN.eq (EvN.compI (xs := table) (fun _ => false) (fun i => .int i) (Iter.list (Ev.local (by rfl) (by walk_at "lk") (by rfl))) (CompOk.of [] (by decide +kernel) (by simp)) (fun i hi => ?_) (fun _ _ h => by cases h) (by unfold sizeLine; omega) (fun _ _ => rfl)) (by simp))
    exact TrL.one (Tr.val (Ev.isinst (bi hF (by simp) (by rfl) boot_isinstance) (bi hF (by simp) (by rfl) boot_bool) (Ev.local (by rfl) (by rfl) (by rfl)) isi_int_bool (fun _ => rfl)) fun _ => rfl)

set_option maxRecDepth 10000 in
set_option maxHeartbeats 1000000 in
theorem over_ex {X : Cx} (hF : Free X) {bits : List Int} (hl : bits.length ≤ 100) {n : Nat} :
    Ex X (dScope pw 8) n { ρ := bindA ["bits"] [.list (bits.map .int)] fun _ => none, μ := [] } (dBody pw 8) fun fl _ => fl = .ret (.bool (!(ovrL bits == []))) := by
  refine Ex.cons (Ex1.assignC (a := .int (bits.length : Nat)) (Ev.callB (bi hF (by simp) (by rfl) boot_len) (EvL.cons (Ev.cell (by rfl) (by walk_at "lk") (by rfl)) EvL.nil fun _ => rfl) (by have := Fun.len_list (X := X) (n := n) (xs := bits.map .int) (by rw [List.length_map]; omega); rwa [List.length_map] at this) (fun _ => rfl) fun _ _ => rfl) (.inl rfl) (by rfl) (by rfl) (fun _ _ => rfl) ?_)
  refine Ex.cons (Ex1.ret (a := .bool (!(ovrL bits == []))) ?_ rfl)
  refine Ev.cmp (a := .list ((ovrL bits).map .int)) (b := .list ([].map PyData.int)) ?_ (Ev.list EvL.nil (by decide)) ?_ (by rfl)
  · refine EvN.ev (EvN.compI (xs := rangeL 1 bits.length 1) (fun k => (bits.length : Int).fmod k == 0 && ((List.replicate ((bits.length : Int).fdiv k).toNat (bits.take k.toNat)).flatten == bits)) (fun k => .int k)
      (Iter.range2 (bi hF (by simp) (by rfl) boot_range) (EvL.cons Ev.int (EvL.cons (Ev.cell (by rfl) (by rfl) (by rfl)) EvL.nil fun _ => rfl) fun _ => rfl) (small_one (by decide) (by decide) (by omega) (by omega)) (fun _ => rfl) fun _ _ => rfl)
      (CompOk.of ["size", "bits"] (by decide +kernel) ?_) (fun k hk => ?_) (fun k hk _ => ?_) (by rw [len_rangeL_up]; unfold sizeLine; omega) (fun _ _ => rfl))
    · intro y hy
      rcases List.mem_cons.mp hy with rfl | hy
      · rfl
      · rw [List.mem_singleton.mp hy]; rfl
    · obtain ⟨hk1, hk2⟩ := mem_rangeL_up hk
      obtain ⟨j, rfl⟩ : ∃ j : Nat, k = (j : Nat) := ⟨k.toNat, by omega⟩
      refine TrL.one (Tr.boolop (TrA.and (Tr.cmp (Ev.binop (Ev.cell (by rfl) (by rfl) (by rfl)) (Ev.local (by rfl) (by rfl) (by rfl)) (Op.mod_int (by omega))) Ev.int Op.eq_int (by rfl)) fun _ => ?_))
      rw [← Bool.and_true ((List.replicate ((bits.length : Int).fdiv (j : Nat)).toNat (bits.take ((j : Nat) : Int).toNat)).flatten == bits)]
      refine TrA.and ?_ fun _ => TrA.and_nil
      have hq : 0 ≤ (bits.length : Int).fdiv (j : Nat) ∧ (bits.length : Int).fdiv (j : Nat) ≤ bits.length := by
        rw [Int.fdiv_eq_ediv_of_nonneg _ (by omega)]
        exact ⟨Int.ediv_nonneg (by omega) (by omega), Int.ediv_le_self _ (by omega)⟩
      have hsz : ((bits.map PyData.int).take j).length * ((bits.length : Int).fdiv (j : Nat)).toNat ≤ 100 * 100 := Nat.mul_le_mul (by simp; omega) (by omega)
      refine Tr.cmp (a := .list (((List.replicate ((bits.length : Int).fdiv (j : Nat)).toNat (bits.take ((j : Nat) : Int).toNat)).flatten).map .int)) (b := .list (bits.map .int)) ?_ (Ev.cell (by rfl) (by rfl) (by rfl)) ?_ (by rfl)
      · refine Ev.eq (Ev.binop (a := .list ((bits.map .int).take j)) (b := .int ((bits.length : Int).fdiv (j : Nat))) (Ev.eq (Ev.slice_list (xs := bits.map .int) (l := none) (u := some (j : Nat)) (k := none) (Ev.cell (by rfl) (by rfl) (by rfl)) EvO.nil (EvO.one (Ev.local (by rfl) (by rfl) (by rfl))) EvO.nil (by simp) (by unfold sizeLine; simp; omega) fun _ _ => ⟨_, rfl⟩) (by rw [pick_b])) (Ev.binop (Ev.cell (by rfl) (by rfl) (by rfl)) (Ev.local (by rfl) (by rfl) (by rfl)) (Op.floordiv_int (by omega) (PyProof.noPylong_of_log2 ?_))) (Op.mul_list (by omega) (by omega) (by omega))) ?_
        · have : (j : Int).natAbs = j := by omega
          rw [this]
          exact Nat.lt_of_le_of_lt (Nat.log2_le_self j) (by omega)
        · rw [Int.toNat_natCast, List.map_flatten, List.map_replicate, List.map_take]
      · have := Op.eq (X := X) (n := n) (shaped_ints ((List.replicate ((bits.length : Int).fdiv (j : Nat)).toNat (bits.take ((j : Nat) : Int).toNat)).flatten)) (shaped_ints bits)
        have e : PyData.eqv (.list (((List.replicate ((bits.length : Int).fdiv (j : Nat)).toNat (bits.take ((j : Nat) : Int).toNat)).flatten).map .int)) (.list (bits.map .int)) = ((List.replicate ((bits.length : Int).fdiv (j : Nat)).toNat (bits.take ((j : Nat) : Int).toNat)).flatten == bits) := by
          show PyData.eqvAll _ _ = _
          rw [eqv_ints]
        rw [← e]; exact this
    · exact Ev.local (by rfl) (by rfl) (by rfl)
  · have := Op.ne (X := X) (n := n) (shaped_ints (ovrL bits)) (shaped_ints [])
    have e : PyData.eqv (.list ((ovrL bits).map .int)) (.list ([].map PyData.int)) = (ovrL bits == []) := by
      show PyData.eqvAll _ _ = _
      rw [eqv_ints]
    rw [← e]; exact this
end Mine
namespace Mine
open PySem PySem.Calls PyProof.Rows

local macro_rules | `(tactic| walk_at "kind") => `(tactic| (first | rfl | decide +kernel))
local macro_rules | `(tactic| walk_at "lk") => `(tactic| ((conv => lhs; simp [AF.env, AF.plain, AF.set, AF.own, AF.put, ofString_inj, ofs_beq, List.lookup_cons, bindA, *]); first | done | rfl))

theorem fnOk8 : FnOk "_law_over_and_over" (dParams pw 8) (dBody pw 8) (dScope pw 8) where
  kind := rfl
  co := rfl
  gen := rfl
  bind := fun pm cd doc vs hv => by
    match vs, (show vs.length = 1 from hv) with
    | [a], _ => rfl
  pk := by decide +kernel
  nd := by decide +kernel
theorem over_fun {X : Cx} (hF : Free X) {a8 : Addr} (f8 : HasFn X "_law_over_and_over" (dParams pw 8) (dBody pw 8) (dScope pw 8) a8) {bits : List Int} (hl : bits.length ≤ 100) {n : Nat} : Fun X (n + 1) (.ref a8) [.list (bits.map .int)] (.bool (!(ovrL bits == []))) := Fun.own f8 fnOk8 rfl (over_ex hF hl)
theorem ones_len (k : Nat) : (ones k).length = k := by unfold ones; simp
theorem bitsL_succ {sizes : List Nat} {i s : Nat} (h : sizes[i]? = some s) : bitsL (sizes.take (i + 1)) = bStep (bitsL (sizes.take i)) s := by
  unfold bitsL; rw [List.take_add_one, h]; simp

set_option maxRecDepth 10000 in
set_option maxHeartbeats 2000000 in
theorem bits_ex {X : Cx} (hF : Free X) {a8 : Addr} (f8 : HasFn X "_law_over_and_over" (dParams pw 8) (dBody pw 8) (dScope pw 8) a8) {sizes : List Nat} (hok : bitsOk sizes = true) {n : Nat} :
    Ex X (dScope pw 9) (n + 1) { ρ := bindA ["sizes"] [.list (nats sizes)] fun _ => none, μ := [] } (dBody pw 9) fun fl _ => fl = .ret (.list ((bitsL sizes).map .int)) := by
  refine Ex.cons (Ex1.assign (a := .list []) (Ev.list EvL.nil (by decide)) (.inr rfl) (by rfl) (by rfl) (fun _ _ => rfl) ?_)
  refine Ex.cons (Ex1.for (xs := nats sizes) (Iter.name (Iter.list (Ev.local (by rfl) (by walk_at "lk") (by rfl))))
    (fun i f => f.μ = [] ∧ f.ρ "bits" = some (.list ((bitsL (sizes.take i)).map .int))) ⟨rfl, by walk_at "lk"⟩ ?_ ?_ (fun _ _ => rfl))
  · rintro i f a hxa ⟨hμ, hb⟩
    unfold nats at hxa
    rw [List.getElem?_map] at hxa
    obtain ⟨s, hs, rfl⟩ := Option.map_eq_some_iff.mp hxa
    have hi := (List.getElem?_eq_some_iff.mp hs).1
    have hk := List.all_eq_true.mp hok i (List.mem_range.mpr hi)
    simp only [Bool.and_eq_true, decide_eq_true_eq] at hk
    have hgd : sizes.getD i 0 = s := by rw [List.getD_eq_getElem?_getD, hs]; rfl
    rw [hgd] at hk
    obtain ⟨hle, hs20⟩ := hk
    have hnext := bitsL_succ hs
    generalize bitsL (sizes.take i) = bits at *
    refine ⟨_, Takes.name (by rfl) (by rw [hμ]; rfl), ?_⟩
    have lenE : ∀ (ρ : Str → Option AV) (np pp pos : Pos), ρ "bits" = some (.list (bits.map .int)) → Ev X (dScope pw 9) ρ (n + 1) (.Call (.Name "len" np) [.Name "bits" pp] [] pos) (.int (bits.length : Nat)) := fun ρ np pp pos hr =>
      Ev.callB (bi hF (by simp) (by rfl) boot_len) (EvL.cons (Ev.local (by rfl) hr (by rfl)) EvL.nil fun _ => rfl) (by have := Fun.len_list (X := X) (n := n + 1) (xs := bits.map .int) (by rw [List.length_map]; omega); rwa [List.length_map] at this) (fun _ => rfl) fun _ _ => rfl
    refine Ex.cons (Ex1.assign (a := .int ((s : Nat) - 2 * (bits.length : Nat) : Int)) ?_ (.inl rfl) (by rfl) (by show f.μ.lookup _ = _; rw [hμ]; rfl) (fun _ _ => rfl) ?_)
    · exact Ev.binop (Ev.local (by rfl) (by walk_at "lk") (by rfl)) (Ev.binop Ev.int (lenE _ _ _ _ (by walk_at "lk")) (Op.mul_int (IntMulOk.of_left (by decide)))) Op.sub_int
    have onesE : ∀ (ρ : Str → Option AV) (e : Expr) (p1 p2 p3 : Pos) (kk : Nat) (k : Nat), k ≤ 20 → Ev X (dScope pw 9) ρ (n + 1) e (.int (k : Nat)) → Ev X (dScope pw 9) ρ (n + 1) (.BinOp (.List [.Constant (.int 1) kk p1] p2) .Mult e p3) (.list ((ones k).map .int)) := fun ρ e p1 p2 p3 kk k hk he => by
      refine Ev.eq (Ev.binop (a := .list [.int 1]) (b := .int (k : Nat)) (Ev.list (EvL.cons Ev.int EvL.nil fun _ => rfl) (by decide)) he (Op.mul_list (by omega) (by omega) (by simp; omega))) ?_
      rw [Int.toNat_natCast]; unfold ones; rw [List.map_flatten, List.map_replicate]; rfl
    have fin : ∀ (nb : List Int) (e : Expr) (p1 p2 : Pos), nb = bStep bits s → Ev X (dScope pw 9) (((f.set "size" (.int (s : Nat))).set "gap" (.int ((s : Nat) - 2 * (bits.length : Nat) : Int))).env) (n + 1) e (.list (nb.map .int)) → (∀ env, EnvOk (dScope pw 9) env → swapsWith e (some (.Name "bits" p1)) p2.line env = pure false) →
        Ex X (dScope pw 9) (n + 1) ((f.set "size" (.int (s : Nat))).set "gap" (.int ((s : Nat) - 2 * (bits.length : Nat) : Int))) [.Assign [.Name "bits" p1] e p2] (fun fl f' => fl = .next ∧ f'.μ = [] ∧ f'.ρ "bits" = some (.list ((bitsL (sizes.take (i + 1))).map .int))) := fun nb e p1 p2 hnb he hsw => by
      refine Ex.cons (Ex1.assign (a := .list (nb.map .int)) he (.inr hμ) (by rfl) (by show f.μ.lookup _ = _; rw [hμ]; rfl) hsw ?_)
      refine Ex.nil ⟨rfl, hμ, ?_⟩
      rw [hnext, ← hnb]
      simp [AF.set]
    have bitsE : ∀ (p : Pos), Ev X (dScope pw 9) (((f.set "size" (.int (s : Nat))).set "gap" (.int ((s : Nat) - 2 * (bits.length : Nat) : Int))).env) (n + 1) (.Name "bits" p) (.list (bits.map .int)) := fun p => Ev.local (by rfl) (by clear hnext fin; walk_at "lk") (by rfl)
    have sizeE : ∀ (p : Pos), Ev X (dScope pw 9) (((f.set "size" (.int (s : Nat))).set "gap" (.int ((s : Nat) - 2 * (bits.length : Nat) : Int))).env) (n + 1) (.Name "size" p) (.int (s : Nat)) := fun p => Ev.local (by rfl) (by clear hnext fin bitsE; walk_at "lk") (by rfl)
    have gapE : ∀ (p : Pos), Ev X (dScope pw 9) (((f.set "size" (.int (s : Nat))).set "gap" (.int ((s : Nat) - 2 * (bits.length : Nat) : Int))).env) (n + 1) (.Name "gap" p) (.int ((s : Nat) - 2 * (bits.length : Nat) : Int)) := fun p => Ev.local (by rfl) (by clear hnext fin bitsE sizeE; walk_at "lk") (by rfl)
    have lenG : ∀ (np pp pos : Pos), Ev X (dScope pw 9) (((f.set "size" (.int (s : Nat))).set "gap" (.int ((s : Nat) - 2 * (bits.length : Nat) : Int))).env) (n + 1) (.Call (.Name "len" np) [.Name "bits" pp] [] pos) (.int (bits.length : Nat)) := fun np pp pos => lenE _ _ _ _ (by clear hnext fin bitsE sizeE gapE; walk_at "lk")
    refine Ex.cons (Ex1.if (c := bits == []) ?_ (fun hc => ?_) (fun hc => ?_))
    · refine Tr.cmp (a := .list (bits.map .int)) (b := .list ([].map PyData.int)) (bitsE _) (Ev.list EvL.nil (by decide)) ?_ (by rfl)
      have := Op.eq (X := X) (n := n + 1) (shaped_ints bits) (shaped_ints [])
      have e : PyData.eqv (.list (bits.map .int)) (.list ([].map PyData.int)) = (bits == []) := by
        show PyData.eqvAll _ _ = _
        rw [eqv_ints]
      rw [← e]; exact this
    · refine Ex.mono (fin (([0] ++ ones s).take s) _ _ _ (by unfold bStep; rw [if_pos hc]) ?_ fun _ _ => rfl) fun fl f' h => by obtain ⟨rfl, h1, h2⟩ := h; exact Ex.nil ⟨h1, h2⟩
      refine Ev.eq (Ev.slice_list (xs := ([0] ++ ones s).map .int) (l := none) (u := some (s : Nat)) (k := none) ?_ EvO.nil (EvO.one (sizeE _)) EvO.nil (by simp) (by unfold sizeLine; rw [List.length_map, List.length_append, ones_len]; simp; omega) fun _ _ => ⟨_, rfl⟩) (by rw [pick_b, List.map_take])
      rw [List.map_append]
      exact Ev.binop (Ev.list (EvL.cons Ev.int EvL.nil fun _ => rfl) (by decide)) (onesE _ _ _ _ _ _ s (by omega) (sizeE _)) (Op.add_list (by rw [List.length_map, ones_len]; unfold sizeLine; simp; omega))
    · have hne : ¬ (bits == []) = true := by rw [hc]; decide
      refine Ex.cons (Ex1.if (c := decide (((s : Nat) - 2 * (bits.length : Nat) : Int) ≤ 0)) (Tr.cmp (gapE _) Ev.int Op.le_int (by rfl)) (fun hd => ?_) (fun hd => ?_))
      · have hd' : s ≤ 2 * bits.length := by have := of_decide_eq_true hd; omega
        refine Ex.mono (fin (((List.replicate s (bits.take (s - bits.length))).flatten).take s) _ _ _ (by unfold bStep; rw [if_neg hne, if_pos hd']) ?_ fun _ _ => rfl) fun fl f' h => by obtain ⟨rfl, h1, h2⟩ := h; exact Ex.nil (Ex.nil ⟨h1, h2⟩)
        have hlen : ((List.replicate s (bits.take (s - bits.length))).flatten).length ≤ 400 := by
          rw [List.length_flatten, List.map_replicate, List.sum_replicate_nat, List.length_take]
          have : s * min (s - bits.length) bits.length ≤ 20 * 20 := Nat.mul_le_mul hs20 (by omega)
          omega
        refine Ev.eq (Ev.slice_list (xs := ((List.replicate s (bits.take (s - bits.length))).flatten).map .int) (l := none) (u := some (s : Nat)) (k := none) ?_ EvO.nil (EvO.one (sizeE _)) EvO.nil (by simp) (by unfold sizeLine; rw [List.length_map]; omega) fun _ _ => ⟨_, rfl⟩) (by rw [pick_b, List.map_take])
        have hsz : ((bits.map PyData.int).take (s - bits.length)).length * ((s : Nat) : Int).toNat ≤ 20 * 20 := Nat.mul_le_mul (by simp; omega) (by omega)
        refine Ev.eq (Ev.binop (a := .list ((bits.map .int).take (s - bits.length))) (b := .int (s : Nat)) (Ev.eq (Ev.slice_list (xs := bits.map .int) (l := none) (u := some ((s - bits.length : Nat) : Int)) (k := none) (bitsE _) EvO.nil (EvO.one (Ev.eq (Ev.binop (a := .int (s : Nat)) (b := .int (bits.length : Nat)) (sizeE _) (lenG _ _ _) Op.sub_int) (by congr 1; omega))) EvO.nil (by simp) (by unfold sizeLine; simp; omega) fun _ _ => ⟨_, rfl⟩) (by rw [pick_b])) (sizeE _) (Op.mul_list (by omega) (by omega) (by omega))) ?_
        rw [Int.toNat_natCast, List.map_flatten, List.map_replicate, List.map_take]
      · have hd' : ¬ s ≤ 2 * bits.length := by have := of_decide_eq_false hd; omega
        have hgap : ((s : Nat) - 2 * (bits.length : Nat) : Int) = ((s - 2 * bits.length : Nat) : Int) := by omega
        have gapN : ∀ (p : Pos), Ev X (dScope pw 9) (((f.set "size" (.int (s : Nat))).set "gap" (.int ((s : Nat) - 2 * (bits.length : Nat) : Int))).env) (n + 1) (.Name "gap" p) (.int ((s - 2 * bits.length : Nat) : Int)) := fun p => Ev.eq (gapE p) (by rw [hgap])
        refine Ex.cons (Ex1.if (c := !(ovrL (bits ++ ones (s - 2 * bits.length)) == [])) ?_ (fun he => ?_) (fun he => ?_))
        · refine Tr.val ?_ fun _ => rfl
          refine Ev.callF f8 (by rfl) (by rfl) (EvL.cons ?_ EvL.nil fun _ => rfl) (over_fun hF f8 (bits := bits ++ ones (s - 2 * bits.length)) (by rw [List.length_append, ones_len]; omega)) fun _ => rfl
          rw [List.map_append]
          exact Ev.binop (bitsE _) (onesE _ _ _ _ _ _ _ (by omega) (gapN _)) (Op.add_list (by rw [List.length_map, List.length_map, ones_len]; unfold sizeLine; omega))
        · have he' : ¬ (ovrL (bits ++ ones (s - 2 * bits.length)) == []) = true := by intro h; rw [h] at he; cases he
          refine Ex.mono (fin (bits ++ ones (s - 2 * bits.length - 1) ++ [0] ++ bits) _ _ _ (by unfold bStep; rw [if_neg hne, if_neg hd', if_neg he']) ?_ fun _ _ => rfl) fun fl f' h => by obtain ⟨rfl, h1, h2⟩ := h; exact Ex.nil (Ex.nil (Ex.nil ⟨h1, h2⟩))
          rw [List.map_append, List.map_append, List.map_append]
          have g1 : ∀ (p p2 p3 : Pos) (kk : Nat), Ev X (dScope pw 9) (((f.set "size" (.int (s : Nat))).set "gap" (.int ((s : Nat) - 2 * (bits.length : Nat) : Int))).env) (n + 1) (.BinOp (.Name "gap" p) .Sub (.Constant (.int 1) kk p2) p3) (.int ((s - 2 * bits.length - 1 : Nat) : Int)) := fun p p2 p3 kk => Ev.eq (Ev.binop (gapN _) Ev.int Op.sub_int) (by congr 1; omega)
          refine Ev.binop (Ev.binop (Ev.binop (bitsE _) (onesE _ _ _ _ _ _ _ (by omega) (g1 _ _ _ _)) (Op.add_list ?_)) (Ev.list (EvL.cons Ev.int EvL.nil fun _ => rfl) (by decide)) (Op.add_list ?_)) (bitsE _) (Op.add_list ?_) <;> (simp only [List.length_append, List.length_map, ones_len, List.length_cons, List.length_nil]; unfold sizeLine; omega)
        · have he' : (ovrL (bits ++ ones (s - 2 * bits.length)) == []) = true := by simpa using he
          refine Ex.mono (fin (bits ++ ones (s - 2 * bits.length) ++ bits) _ _ _ (by unfold bStep; rw [if_neg hne, if_neg hd', if_pos he']) ?_ fun _ _ => rfl) fun fl f' h => by obtain ⟨rfl, h1, h2⟩ := h; exact Ex.nil (Ex.nil (Ex.nil ⟨h1, h2⟩))
          rw [List.map_append, List.map_append]
          refine Ev.binop (Ev.binop (bitsE _) (onesE _ _ _ _ _ _ _ (by omega) (gapN _)) (Op.add_list ?_)) (bitsE _) (Op.add_list ?_) <;> (simp only [List.length_append, List.length_map, ones_len, List.length_cons, List.length_nil]; unfold sizeLine; omega)
  · rintro f ⟨hμ, hb⟩
    rw [nats_len, List.take_length] at hb
    exact Ex.nil (Ex.cons (Ex1.ret (Ev.local (by rfl) (by walk_at "lk") (by rfl)) rfl))
end Mine
namespace Mine
open PySem PySem.Calls PyProof.Rows

local macro_rules | `(tactic| walk_at "kind") => `(tactic| (first | rfl | decide +kernel))
local macro_rules | `(tactic| walk_at "lk") => `(tactic| ((conv => lhs; simp [AF.env, AF.plain, AF.set, AF.own, AF.put, ofString_inj, ofs_beq, List.lookup_cons, bindA, *]); first | done | rfl))

theorem fnOk9 : FnOk "_law_bits" (dParams pw 9) (dBody pw 9) (dScope pw 9) where
  kind := rfl
  co := rfl
  gen := rfl
  bind := fun pm cd doc vs hv => by
    match vs, (show vs.length = 1 from hv) with
    | [a], _ => rfl
  pk := by decide +kernel
  nd := by decide +kernel
set_option maxRecDepth 10000 in
set_option maxHeartbeats 2000000 in
theorem trees_ex {X : Cx} (hF : Free X) {a8 a9 : Addr} (f8 : HasFn X "_law_over_and_over" (dParams pw 8) (dBody pw 8) (dScope pw 8) a8) (f9 : HasFn X "_law_bits" (dParams pw 9) (dBody pw 9) (dScope pw 9) a9) {due : List Nat} {m : Nat} (hd : due.length ≤ 1000) (hok : bitsOk (sizesL due m) = true) (h01 : ∀ b ∈ bitsL (sizesL due m), b = 0 ∨ b = 1) (hbl : (bitsL (sizesL due m)).length ≤ 1000) {n : Nat} :
    Ex X (dScope pw 11) (n + 2) { ρ := bindA ["due", "size"] [.list (nats due), .int (m : Nat)] fun _ => none, μ := [] } (dBody pw 11) fun fl _ => fl = .ret (.list ((treesL due m).map sAV)) := by
  refine Ex.cons (Ex1.ret (a := .list ((treesL due m).map sAV)) ?_ rfl)
  unfold treesL
  rw [List.map_map]
  refine EvN.ev (EvN.mapI (xs := bitsL (sizesL due m)) _ (Iter.list ?_) (CompOk.of [] (by decide +kernel) (by simp)) (fun b hb => ?_) (by unfold sizeLine; omega) (fun _ _ => rfl))
  · refine Ev.callF f9 (by rfl) (by rfl) (EvL.cons ?_ EvL.nil fun _ => rfl) (Fun.own f9 fnOk9 rfl (bits_ex hF f8 hok)) fun _ => rfl
    unfold sizesL
    rw [show nats ((due.reverse.filter fun k => decide (0 < k)) ++ [m]) = nats (due.reverse.filter fun k => decide (0 < k)) ++ nats [m] by simp [nats]]
    refine Ev.binop (a := .list (nats (due.reverse.filter fun k => decide (0 < k)))) (b := .list (nats [m])) ?_ (Ev.list (EvL.cons (Ev.local (by rfl) (by walk_at "lk") (by rfl)) EvL.nil fun _ => rfl) (by show 1 ≤ sizeLine; decide)) (Op.add_list ?_)
    · rw [← filter_nats]
      refine EvN.ev (EvN.compI (xs := due.reverse.map fun (k : Nat) => (k : Int)) (fun i => decide (0 < i.toNat)) (fun i => .int i) (Iter.list ?_) (CompOk.of [] (by decide +kernel) (by simp)) (fun i hi => ?_) (fun i hi _ => Ev.local (by rfl) (by rfl) (by rfl)) (by unfold sizeLine; simp; omega) (fun _ _ => rfl))
      · refine Ev.eq (Ev.slice_list (xs := nats due) (l := none) (u := none) (k := some (-1)) (Ev.local (by rfl) (by walk_at "lk") (by rfl)) EvO.nil EvO.nil (EvO.one (Ev.neg Ev.int)) (by simp) (by rw [nats_len]; unfold sizeLine; omega) fun _ _ => ⟨_, rfl⟩) ?_
        rw [pick_rev]; unfold nats; rw [List.map_map, List.map_reverse]; rfl
      · obtain ⟨k, hk, rfl⟩ := List.mem_map.mp hi
        refine TrL.one (Tr.cmp (Ev.local (by rfl) (by rfl) (by rfl)) Ev.int ?_ (by rfl))
        have : decide (0 < ((k : Nat) : Int).toNat) = decide ((0 : Int) < ((k : Nat) : Int)) := by rw [Int.toNat_natCast, decide_eq_decide]; omega
        rw [this]; exact Op.gt_int
    · rw [nats_len, nats_len]
      have := List.length_filter_le (fun k => decide (0 < k)) due.reverse
      unfold sizeLine; simp at this ⊢; omega
  · refine Ev.sub_list (xs := kinds.map sAV) (i := b) (Ev.list (EvL.cons Ev.str (EvL.cons Ev.str EvL.nil fun _ => rfl) fun _ => rfl) (by show 2 ≤ sizeLine; decide)) (Ev.local (by rfl) (by rfl) (by rfl)) ?_ ?_ ?_ fun _ _ => rfl
    · rcases h01 b hb with rfl | rfl <;> decide
    · rcases h01 b hb with rfl | rfl <;> rfl
    · rcases h01 b hb with rfl | rfl <;> decide
theorem nats_intsN (l : List Nat) : nats l = (l.map fun (k : Nat) => (k : Int)).map .int := by unfold nats; rw [List.map_map]; rfl
theorem strs_row {X : Cx} {row : List (List Nat)} (h : row.length ≤ 1000) : Row X (.list (row.map sAV)) row.length (fun k => sAV (row.getD k [])) (reqB row) where
  len := fun n => by have := Fun.len_list (X := X) (n := n) (xs := row.map sAV) (by rw [List.length_map]; omega); rwa [List.length_map] at this
  at_ := fun sc ρ n e i pos k he hi hk hs => Ev.sub_list (xs := row.map sAV) he hi (by omega) (by simp [hk]) (by omega) hs
  ne := fun n i j hi hj => by
    have := Op.ne_str (X := X) (n := n) (a := S (row.getD i [])) (b := S (row.getD j []))
    have e : (S (row.getD i []) != S (row.getD j [])) = !reqB row i j := by unfold reqB; rw [bne, S_beq]
    rwa [e] at this
  small := by omega
theorem ints_row {X : Cx} {row : List Int} (h : row.length ≤ 1000) : Row X (.list (row.map .int)) row.length (fun k => .int (row.getD k 0)) (ieq row) where
  len := fun n => by have := Fun.len_list (X := X) (n := n) (xs := row.map .int) (by rw [List.length_map]; omega); rwa [List.length_map] at this
  at_ := fun sc ρ n e i pos k he hi hk hs => Ev.sub_list (xs := row.map .int) he hi (by omega) (by simp [hk]) (by omega) hs
  ne := fun n i j hi hj => Op.ne_int (X := X) (n := n) (a := row.getD i 0) (b := row.getD j 0)
  small := by omega
theorem text_row {X : Cx} {l : List Nat} (h : l.length ≤ 1000) : Row X (sAV l) l.length (fun k => sAV [l.getD k 0]) (ceqB l) where
  len := fun n => by have := Fun.len_str (X := X) (n := n) (x := S l) (by rw [S_len]; omega); rwa [S_len] at this
  at_ := fun sc ρ n e i pos k he hi hk hs => Ev.sub_str (x := S l) he hi (by omega) (by simp [S, hk]) (by omega) hs
  ne := fun n i j hi hj => by
    have := Op.ne_str (X := X) (n := n) (a := S [l.getD i 0]) (b := S [l.getD j 0])
    have e : (S [l.getD i 0] != S [l.getD j 0]) = !ceqB l i j := by unfold ceqB; rw [bne, S_beq, Bool.not_eq_eq_eq_not, Bool.not_not, Bool.eq_iff_iff]; simp
    rwa [e] at this
  small := by omega
theorem req_eqv (row : List (List Nat)) : Eqv (reqB row) := Eqv.of fun i => row.getD i []

section
variable {X : Cx} {sc : Scope} {n : Nat} {f : AF} {P : Fl → AF → Prop}
/-- x, y = e₁, e₂ with y a cell, any data -/
theorem Ex1.twoPC {x y : Str} {px py tp vp pos : Pos} {k k' : Nat} {e₁ e₂ : Expr} {a b : AV} (h1 : Ev X sc f.plain n e₁ a) (h2 : Ev X sc f.plain n e₂ b)
    (hx : sc.names.lookup x = some .local) (hy : sc.names.lookup y = some .cell) (hux : f.μ.lookup x = none) (huy : f.μ.lookup y = none)
    (hs : ∀ env, swapsWithSole [.Tuple [.Name x px, .Name y py] k tp] (.Tuple [e₁, e₂] k' vp) pos.line env = pure false)
    (hw : ∀ env, EnvOk sc env → swappedStores [.Tuple [.Name x px, .Name y py] k tp] (.Tuple [e₁, e₂] k' vp) env = pure none)
    (hs1 : ∀ env, starEach [e₁, e₂] env = (false, eval e₁ env) :: starEach [e₂] env) (hs2 : ∀ env, starEach [e₂] env = (false, eval e₂ env) :: starEach [] env)
    (hp : P .next ((f.set x a).set y b)) :
    Ex1 X sc n f (.Assign [.Tuple [.Name x px, .Name y py] k tp] (.Tuple [e₁, e₂] k' vp) pos) P := fun env Pr sp S A s E Q ok F kk => by
  obtain ⟨as, F⟩ := F
  refine Assign_Tuple ?_ (hs env) (hw env F.eo)
  refine wpAny_Tuple (wpAny_items_cons (h1 env (Lk env S as) A s E _ (F.preL ok) fun va s₁ g₁ r₁ => wpAny_items_cons (h2 env (Lk env S as) A s₁ E _ ((F.grow g₁).preL ok) fun vb s₂ g₂ r₂ => wpAny_items_nil ⟨by show 2 ≤ sizeLine; decide, ?_⟩) (hs2 env)) (hs1 env))
  refine wpAny_assign_Tuple (items := #[va, vb]) ok.handled ⟨_, Heap.get?_push_size _ rfl, rfl, _, rfl⟩ rfl rfl fun h' he => ?_
  have g : Grow s₂ { s₂ with heap := h' } := (Grow.push s₂ _ s₂.toks).trans (.heap (tk := s₂.toks) (ext_keep he))
  show wpAny X.M A (assignInOrder [PySem.assign (.Name x px) env, PySem.assign (.Name y py) env] [va, vb]) _ E _
  simp only [assignInOrder]
  have F₃ := ((F.grow g₁).grow g₂).grow g
  refine wpAny_bind (wpAny_holding (wpAny_assign_Name (F₃.reref.store hx hux ((r₁.keep g₂.keep).keep g.keep) fun s₄ G₄ => ?_)))
  have F₄ := F₃.back G₄
  have rb : Rep s₄.heap (Lk env S as) b vb := (r₂.keep g.keep).mono fun c o hc e => ⟨hc, G₄.keep c o ⟨by rw [e]; rfl, fun ho => hc (.inr ho)⟩ e⟩
  refine wpAny_bind (wpAny_holding (wpAny_assign_Name (F₄.storeC hy huy rb fun s₅ F₅ => wpAny_pure (kk .next _ s₅ .next hp ⟨as, F₅⟩ rfl))))
end
end Mine
namespace Mine
open PySem PySem.Calls PyProof.Rows

local macro_rules | `(tactic| walk_at "kind") => `(tactic| (first | rfl | decide +kernel))
local macro_rules | `(tactic| walk_at "lk") => `(tactic| ((conv => lhs; simp [AF.env, AF.plain, AF.set, AF.own, AF.put, ofString_inj, ofs_beq, List.lookup_cons, bindA, *]); first | done | rfl))

theorem fnOk1 : FnOk "_generate_overlap_table" (dParams pw 1) (dBody pw 1) (dScope pw 1) where
  kind := rfl
  co := rfl
  gen := rfl
  bind := fun pm cd doc vs hv => by
    match vs, (show vs.length = 1 from hv) with
    | [a], _ => rfl
  pk := by decide +kernel
  nd := by decide +kernel
theorem fnOk7 : FnOk "_law_ends" (dParams pw 7) (dBody pw 7) (dScope pw 7) where
  kind := rfl
  co := rfl
  gen := rfl
  bind := fun pm cd doc vs hv => by
    match vs, (show vs.length = 1 from hv) with
    | [a], _ => rfl
  pk := by decide +kernel
  nd := by decide +kernel
theorem fnOk10 : FnOk "_law_due" (dParams pw 10) (dBody pw 10) (dScope pw 10) where
  kind := rfl
  co := rfl
  gen := rfl
  bind := fun pm cd doc vs hv => by
    match vs, (show vs.length = 1 from hv) with
    | [a], _ => rfl
  pk := by decide +kernel
  nd := by decide +kernel
theorem fnOk11 : FnOk "_law_trees" (dParams pw 11) (dBody pw 11) (dScope pw 11) where
  kind := rfl
  co := rfl
  gen := rfl
  bind := fun pm cd doc vs hv => by
    match vs, (show vs.length = 2 from hv) with
    | [a, b], _ => rfl
  pk := by decide +kernel
  nd := by decide +kernel
theorem fnOk12 : FnOk "_law_numbers" (dParams pw 12) (dBody pw 12) (dScope pw 12) where
  kind := rfl
  co := rfl
  gen := rfl
  bind := fun pm cd doc vs hv => by
    match vs, (show vs.length = 2 from hv) with
    | [a, b], _ => rfl
  pk := by decide +kernel
  nd := by decide +kernel
structure FnsM (X : Cx) (a : Nat → Addr) : Prop where
  f1 : HasFn X "_generate_overlap_table" (dParams pw 1) (dBody pw 1) (dScope pw 1) (a 1)
  f3 : HasFn X "_iter_escaped_chars" (dParams pw 3) (dBody pw 3) (dScope pw 3) (a 3)
  f4 : HasFn X "_strip_quoted_realnames" (dParams pw 4) (dBody pw 4) (dScope pw 4) (a 4)
  f5 : HasFn X "_check_parenthesis" (dParams pw 5) (dBody pw 5) (dScope pw 5) (a 5)
  f7 : HasFn X "_law_ends" (dParams pw 7) (dBody pw 7) (dScope pw 7) (a 7)
  f8 : HasFn X "_law_over_and_over" (dParams pw 8) (dBody pw 8) (dScope pw 8) (a 8)
  f9 : HasFn X "_law_bits" (dParams pw 9) (dBody pw 9) (dScope pw 9) (a 9)
  f10 : HasFn X "_law_due" (dParams pw 10) (dBody pw 10) (dScope pw 10) (a 10)
  f11 : HasFn X "_law_trees" (dParams pw 11) (dBody pw 11) (dScope pw 11) (a 11)
  f12 : HasFn X "_law_numbers" (dParams pw 12) (dBody pw 12) (dScope pw 12) (a 12)
section
variable {X : Cx} (hF : Free X) {a : Nat → Addr} (L : FnsM X a) {n : Nat}
include hF L
theorem table_fun {pf : AV} {N : Nat} {item : Nat → AV} {eq : Nat → Nat → Bool} (R : Row X pf N item eq) : Fun X (n + 1) (.ref (a 1)) [pf] (.list (nats (kmp eq N))) := Fun.own L.f1 fnOk1 rfl (kmp_fun hF R)
theorem ends_fun {eq : Nat → Nat → Bool} {T : List Nat} (TK : TabOk eq T) (hl : T.length ≤ 1000) : Fun X (n + 1) (.ref (a 7)) [.list (nats T)] (.list (nats (dueE eq T.length))) := Fun.own L.f7 fnOk7 rfl (ends_ex hF TK hl)
theorem due_fun {r : List Int} (hl : r.length < 40) : Fun X (n + 1) (.ref (a 10)) [.list (r.map .int)] (.list (nats (dueE (ieq r) r.length))) := Fun.own L.f10 fnOk10 rfl (due_ex hF hl)
theorem trees_fun {due : List Nat} {m : Nat} (hd : due.length ≤ 1000) (hok : bitsOk (sizesL due m) = true) (h01 : ∀ b ∈ bitsL (sizesL due m), b = 0 ∨ b = 1) (hbl : (bitsL (sizesL due m)).length ≤ 1000) : Fun X (n + 3) (.ref (a 11)) [.list (nats due), .int (m : Nat)] (.list ((treesL due m).map sAV)) := Fun.own L.f11 fnOk11 rfl (trees_ex hF L.f8 L.f9 hd hok h01 hbl)
theorem numbers_fun {t : List Nat} {m : Nat} (hm : t.length = m) (hl : t.length ≤ 1000) : Fun X (n + 1) (.ref (a 12)) [.list (nats t), .int (m : Nat)] (.bool true) := by
  subst hm
  have := numbers_ex hF (X := X) (n := n) (table := t.map fun (k : Nat) => (k : Int)) (by simpa using hl)
  rw [← nats_intsN, List.length_map] at this
  exact Fun.own L.f12 fnOk12 rfl this
end
theorem kmp_len (eq : Nat → Nat → Bool) (N : Nat) : (kmp eq N).length = N := kmpN_len ..
theorem kmp_lt {eq : Nat → Nat → Bool} {N j : Nat} (h : j < N) : (kmp eq N).getD j 0 ≤ j := kmpN_le ..
theorem eqv_nats (l l' : List Nat) : PyData.eqv (.list (nats l)) (.list (nats l')) = (l == l') := by
  show PyData.eqvAll _ _ = _
  rw [nats_intsN, nats_intsN, eqv_ints, Bool.eq_iff_iff, beq_iff_eq, beq_iff_eq]
  exact ⟨fun h => (List.map_inj_right (fun a b h => by omega)).mp h, fun h => by rw [h]⟩
theorem shaped_n (l : List Nat) : SeqAt.shaped (.list (nats l)) = true := by rw [nats_intsN]; exact shaped_ints _

structure TOk (trees : List (List Nat)) (due : List Nat) : Prop where
  len : trees.length ≤ 20
  each : ∀ t ∈ trees, t.length ≤ 4
  pos : ∀ t ∈ trees, 1 ≤ t.length
  due : dueE (reqB trees) trees.length = due
  sgn : sgnL trees = (kmp (reqB trees) trees.length).map fun k => (edgesL trees).getD k 0
theorem edges_len (trees : List (List Nat)) : (edgesL trees).length = trees.length + 1 := by unfold edgesL; simp
theorem edges_at {trees : List (List Nat)} {k : Nat} (h : k ≤ trees.length) : (edgesL trees).getD k 0 = (trees.take k).flatten.length := by
  unfold edgesL
  rw [List.getD_eq_getElem?_getD, List.getElem?_map, List.getElem?_range (by omega)]; rfl

set_option maxRecDepth 10000 in
set_option maxHeartbeats 2000000 in
theorem alike_ex {X : Cx} (hF : Free X) {a : Nat → Addr} (L : FnsM X a) {trees : List (List Nat)} {due : List Nat} (K : TOk trees due) {n : Nat} :
    Ex X (dScope pw 13) (n + 1) { ρ := bindA ["trees", "due"] [.list (trees.map sAV), .list (nats due)] fun _ => none, μ := [] } (dBody pw 13) fun fl _ => fl = .ret (.bool true) := by
  obtain ⟨k1, k2, k2', k3, k4⟩ := K
  have hfl : ∀ j, (trees.take j).flatten.length ≤ 80 := fun j => by
    have h1 := flatten_len (ls := trees.take j) (m := 4) fun p hp => k2 p (List.mem_of_mem_take hp)
    have h2 : (trees.take j).length * 4 ≤ 20 * 4 := Nat.mul_le_mul_right _ (by simp; omega)
    omega
  have hfl0 : trees.flatten.length ≤ 80 := by have := hfl trees.length; rwa [List.take_length] at this
  refine Ex.cons (Ex1.assign (a := sAV trees.flatten) ?_ (.inl rfl) (by rfl) (by rfl) (fun _ _ => rfl) ?_)
  · exact Ev.eq (Ev.join (x := S []) (ts := trees.map S) Ev.str (Ev.cell (by rfl) (by rw [List.map_map]; rfl) (by rfl)) (joinOk_of _ (by rw [← List.length_flatten]; unfold sizeLine; omega)) (fun _ => rfl) (fun _ => rfl) (by rfl)) (by rw [join_flat])
  refine Ex.cons (Ex1.twoPC (a := .list (nats (kmp (reqB trees) trees.length))) (b := .list (nats (kmp (ceqB trees.flatten) trees.flatten.length))) ?_ ?_ (by rfl) (by rfl) (by rfl) (by rfl) (fun _ => rfl) (fun env eo => ?_) (fun _ => rfl) (fun _ => rfl) ?_)
  · exact Ev.callF L.f1 (by rfl) (by rfl) (EvL.cons (Ev.cell (by rfl) (by rfl) (by rfl)) EvL.nil fun _ => rfl) (table_fun hF L (strs_row (by omega))) fun _ => rfl
  · exact Ev.callF L.f1 (by rfl) (by rfl) (EvL.cons (Ev.local (by rfl) (by rfl) (by rfl)) EvL.nil fun _ => rfl) (table_fun hF L (text_row (by omega))) fun _ => rfl
  · unfold swappedStores Env.kindOf Env.blockKind; rw [eo.scope]; rfl
  have lenT : Fun X (n + 1) (.builtin "len") [.list (trees.map sAV)] (.int (trees.length : Nat)) := by have := Fun.len_list (X := X) (n := n + 1) (xs := trees.map sAV) (by rw [List.length_map]; omega); rwa [List.length_map] at this
  refine Ex.cons (Ex1.if (c := false) ?_ (fun h => by cases h) (fun _ => ?_))
  · refine Tr.boolop (TrA.or (c := false) (d := false) ?_ fun _ => TrA.or (c := false) (d := false) ?_ fun _ => TrA.or (c := false) (d := false) ?_ fun _ => TrA.or_nil)
    · exact Tr.not (c := true) (Tr.val (Ev.callF L.f12 (by rfl) (by rfl) (EvL.cons (Ev.local (by rfl) (by rfl) (by rfl)) (EvL.cons (Ev.callB (bi hF (by simp) (by rfl) boot_len) (EvL.cons (Ev.cell (by rfl) (by rfl) (by rfl)) EvL.nil fun _ => rfl) lenT (fun _ => rfl) fun _ _ => rfl) EvL.nil fun _ => rfl) fun _ => rfl) (numbers_fun hF L (kmp_len _ _) (by rw [kmp_len]; omega)) fun _ => rfl) fun _ => rfl)
    · exact Tr.not (c := true) (Tr.val (Ev.callF L.f12 (by rfl) (by rfl) (EvL.cons (Ev.cell (by rfl) (by rfl) (by rfl)) (EvL.cons (Ev.callB (bi hF (by simp) (by rfl) boot_len) (EvL.cons (Ev.local (by rfl) (by rfl) (by rfl)) EvL.nil fun _ => rfl) (by have := Fun.len_str (X := X) (n := n + 1) (x := S trees.flatten) (by rw [S_len]; omega); rwa [S_len] at this) (fun _ => rfl) fun _ _ => rfl) EvL.nil fun _ => rfl) fun _ => rfl) (numbers_fun hF L (kmp_len _ _) (by rw [kmp_len]; omega)) fun _ => rfl) fun _ => rfl)
    · refine Tr.cmp (a := .list (nats due)) (b := .list (nats due)) ?_ (Ev.local (by rfl) (by rfl) (by rfl)) ?_ (by rfl)
      · have tk : TabOk (reqB trees) ((kmp (reqB trees) trees.length).take trees.length) := TabOk.take (req_eqv trees)
        have ef := ends_fun hF L (n := n) tk (by rw [List.length_take, kmp_len]; omega)
        rw [List.take_of_length_le (by rw [kmp_len]; exact Nat.le_refl _), kmp_len, k3] at ef
        exact Ev.callF L.f7 (by rfl) (by rfl) (EvL.cons (Ev.local (by rfl) (by rfl) (by rfl)) EvL.nil fun _ => rfl) ef fun _ => rfl
      · have := Op.ne (X := X) (n := n + 1) (shaped_n due) (shaped_n due)
        rw [eqv_nats, beq_self_eq_true] at this
        exact this
  refine Ex.nil ?_
  refine Ex.cons (Ex1.assignC (a := .list (nats (edgesL trees))) ?_ (.inr rfl) (by rfl) (by rfl) (fun env eo => by unfold swapsWith Env.kindOf Env.blockKind; rw [eo.scope]; rfl) ?_)
  · have e : nats (edgesL trees) = ((List.range (trees.length + 1)).map fun (k : Nat) => (k : Int)).map fun i => PyData.int ((trees.take i.toNat).flatten.length : Nat) := by
      unfold nats edgesL; rw [List.map_map, List.map_map]; rfl
    rw [e]
    refine EvN.ev (EvN.mapI (xs := (List.range (trees.length + 1)).map fun (k : Nat) => (k : Int)) _ ?_ (CompOk.of ["trees"] (by decide +kernel) (by simp; rfl)) (fun i hi => ?_) (by simp; unfold sizeLine; omega) (fun _ _ => rfl))
    · have e2 : ((List.range (trees.length + 1)).map fun (k : Nat) => (k : Int)) = rangeL 0 ((trees.length : Nat) + 1 : Int) 1 := by
        rw [rangeL_up, show (((trees.length : Nat) + 1 : Int) - 0).toNat = trees.length + 1 by omega]
        exact List.map_congr_left fun k _ => by omega
      rw [e2]
      exact Iter.range1 (bi hF (by simp) (by rfl) boot_range) (EvL.cons (Ev.binop (Ev.callB (bi hF (by simp) (by rfl) boot_len) (EvL.cons (Ev.cell (by rfl) (by rfl) (by rfl)) EvL.nil fun _ => rfl) lenT (fun _ => rfl) fun _ _ => rfl) Ev.int Op.add_int) EvL.nil fun _ => rfl) (small_one (by decide) (by decide) (by omega) (by omega)) (fun _ => rfl)
    · obtain ⟨k, hk, rfl⟩ := List.mem_map.mp hi
      rw [Int.toNat_natCast]
      refine Ev.callB (bi hF (by simp) (by rfl) boot_len) (EvL.cons (a := sAV (trees.take k).flatten) ?_ EvL.nil fun _ => rfl) (by have := Fun.len_str (X := X) (n := n + 1) (x := S (trees.take k).flatten) (by rw [S_len]; have := hfl k; omega); rwa [S_len] at this) (fun _ => rfl) fun _ _ => rfl
      refine Ev.eq (Ev.join (x := S []) (ts := (trees.take k).map S) Ev.str ?_ (joinOk_of _ (by rw [← List.length_flatten]; have := hfl k; unfold sizeLine; omega)) (fun _ => rfl) (fun _ => rfl) (by rfl)) (by rw [join_flat])
      refine Ev.eq (Ev.slice_list (xs := trees.map sAV) (l := none) (u := some (k : Nat)) (k := none) (Ev.cell (by rfl) (by rfl) (by rfl)) EvO.nil (EvO.one (Ev.local (by rfl) (by rfl) (by rfl))) EvO.nil (by simp) (by unfold sizeLine; simp; omega) fun _ _ => ⟨_, rfl⟩) ?_
      rw [pick_b, List.map_map, ← List.map_take]
      rfl
  refine Ex.cons (Ex1.ret (a := .bool true) ?_ rfl)
  refine Ev.cmp (a := .list (nats (sgnL trees))) (b := .list (nats (sgnL trees))) ?_ ?_ ?_ (by rfl)
  · have e : nats (sgnL trees) = (((edgesL trees).tail.map fun (k : Nat) => (k : Int)).map fun i => PyData.int ((kmp (ceqB trees.flatten) trees.flatten.length).getD (i.toNat - 1) 0 : Nat)) := by
      unfold nats sgnL; rw [List.map_map, List.map_map]; rfl
    rw [e]
    refine EvN.ev (EvN.mapI (xs := (edgesL trees).tail.map fun (k : Nat) => (k : Int)) _ (Iter.list ?_) (CompOk.of ["signs"] (by decide +kernel) (by simp; rfl)) (fun i hi => ?_) (by simp [edges_len]; unfold sizeLine; omega) (fun _ _ => rfl))
    · refine Ev.eq (Ev.slice_list (xs := nats (edgesL trees)) (l := some ((1 : Nat) : Int)) (u := none) (k := none) (Ev.cell (by rfl) (by rfl) (by rfl)) (EvO.one Ev.int) EvO.nil EvO.nil (by simp) (by rw [nats_len, edges_len]; unfold sizeLine; omega) fun _ _ => ⟨_, rfl⟩) ?_
      rw [pick_a, ← nats_intsN]; unfold nats; rw [← List.map_drop, List.drop_one]
    · obtain ⟨e, he, rfl⟩ := List.mem_map.mp hi
      have hb : 1 ≤ e ∧ e ≤ trees.flatten.length := by
        obtain ⟨j, hj⟩ := List.getElem?_of_mem he
        rw [List.getElem?_tail] at hj
        have hjl := (List.getElem?_eq_some_iff.mp hj).1
        rw [edges_len] at hjl
        have e1 := edges_at (trees := trees) (k := j + 1) (by omega)
        rw [List.getD_eq_getElem?_getD, hj] at e1
        have e2 : e = (trees.take (j + 1)).flatten.length := e1
        have e3 : trees.flatten.length = (trees.take (j + 1)).flatten.length + (trees.drop (j + 1)).flatten.length := by
          rw [← List.length_append, ← List.flatten_append, List.take_append_drop]
        cases trees with
        | nil => simp at hjl
        | cons t ts =>
          have := k2' t (List.mem_cons_self ..)
          rw [List.take_succ_cons, List.flatten_cons, List.length_append] at e2
          refine ⟨by omega, ?_⟩
          rw [e3, List.take_succ_cons, List.flatten_cons, List.length_append]
          omega
      rw [Int.toNat_natCast]
      refine Ev.sub_list (xs := nats (kmp (ceqB trees.flatten) trees.flatten.length)) (i := ((e - 1 : Nat) : Int)) (Ev.cell (by rfl) (by rfl) (by rfl)) (Ev.eq (Ev.binop (a := .int (e : Nat)) (Ev.local (by rfl) (by rfl) (by rfl)) Ev.int Op.sub_int) (by congr 1; omega)) (by omega) ?_ (by omega) fun _ _ => rfl
      exact nats_get _ (e - 1) (by rw [kmp_len]; omega)
  · have e : nats (sgnL trees) = (((kmp (reqB trees) trees.length).map fun (k : Nat) => (k : Int)).map fun i => PyData.int ((edgesL trees).getD i.toNat 0 : Nat)) := by
      rw [k4]; unfold nats; rw [List.map_map, List.map_map]; rfl
    rw [e]
    refine EvN.ev (EvN.mapI (xs := (kmp (reqB trees) trees.length).map fun (k : Nat) => (k : Int)) _ (Iter.list (Ev.local (by rfl) (by rw [← nats_intsN]; rfl) (by rfl))) (CompOk.of ["edges"] (by decide +kernel) (by simp; rfl)) (fun i hi => ?_) (by rw [List.length_map, kmp_len]; unfold sizeLine; omega) (fun _ _ => rfl))
    obtain ⟨k, hk, rfl⟩ := List.mem_map.mp hi
    have hkl : k < trees.length := by
      obtain ⟨j, hj⟩ := List.getElem?_of_mem hk
      have hjl := (List.getElem?_eq_some_iff.mp hj).1
      rw [kmp_len] at hjl
      have := kmp_lt (eq := reqB trees) hjl
      rw [List.getD_eq_getElem?_getD, hj] at this
      have e : k ≤ j := this
      omega
    rw [Int.toNat_natCast]
    refine Ev.sub_list (xs := nats (edgesL trees)) (i := ((k : Nat) : Int)) (Ev.cell (by rfl) (by rfl) (by rfl)) (Ev.local (by rfl) (by rfl) (by rfl)) (by omega) ?_ (by omega) fun _ _ => rfl
    exact nats_get _ k (by rw [edges_len]; omega)
  · have := Op.eq (X := X) (n := n + 1) (shaped_n (sgnL trees)) (shaped_n (sgnL trees))
    rw [eqv_nats, beq_self_eq_true] at this
    exact this
end Mine
namespace Mine
open PySem PySem.Calls PyProof.Rows

local macro_rules | `(tactic| walk_at "kind") => `(tactic| (first | rfl | decide +kernel))
local macro_rules | `(tactic| walk_at "lk") => `(tactic| ((conv => lhs; simp [AF.env, AF.plain, AF.set, AF.own, AF.put, ofString_inj, ofs_beq, List.lookup_cons, bindA, *]); first | done | rfl))

theorem EvN.mapU {X : Cx} {sc : Scope} {ρ : Str → Option AV} {n : Nat} {α : Type} (mk : α → AV) (un : AV → α) (hun : ∀ a, un (mk a) = a) {elt iter : Expr} {x : Str} {px pos : Pos} {scope : Scope} {xs : List α} (g : α → AV) (hi : Iter X sc ρ n iter (xs.map mk)) (ho : CompOk sc scope ρ x)
    (he : ∀ i ∈ xs, Ev X (relab sc scope) (ρc sc scope ρ x (mk i)) n elt (g i)) (hsz : xs.length ≤ sizeLine) (hs : ∀ env y, foldedSetIterable iter env y = pure y) :
    EvN X sc ρ n (.ListComp elt [⟨.Name x px, iter, [], 0⟩] scope pos) (xs.map g) := by
  have := EvN.comp (elt := elt) (pos := pos) (px := px) (fun _ => true) (fun a => g (un a)) hi ho (fun _ _ => TrL.nil) (fun a ha _ => by obtain ⟨i, hi, rfl⟩ := List.mem_map.mp ha; rw [hun]; exact he i hi) (by simpa using hsz) hs
  rw [List.filter_eq_self.mpr fun _ _ => rfl, List.map_map] at this
  have e : (fun a => g (un a)) ∘ mk = g := by funext a; show g (un (mk a)) = g a; rw [hun]
  rwa [e] at this
def unB : AV → Bool
  | .bool b => b
  | _ => false
def strB (b : Bool) : AV := .str (if b then "True" else "False")
def cAV (l : List Bool) : AV := .list (l.map strB)
theorem put_self {f : AF} {x : Str} {xs ys : List AV} (h : f.μ.lookup x = some ys) : (f.put x xs).μ.lookup x = some xs := by
  show (f.μ.map _).lookup x = _
  revert h
  generalize f.μ = μ
  induction μ with
  | nil => intro h; simp at h
  | cons p μ ih =>
    intro h
    obtain ⟨y, zs⟩ := p
    by_cases e : y = x
    · subst e; simp [List.lookup_cons]
    · have e' : (x == y) = false := by simpa using fun h => e h.symm
      simp only [List.map_cons, if_neg e, List.lookup_cons, e'] at h ⊢
      exact ih h
theorem put_ne {f : AF} {x y : Str} {xs : List AV} (hxy : y ≠ x) : (f.put x xs).μ.lookup y = f.μ.lookup y := by
  show (f.μ.map _).lookup y = _
  generalize f.μ = μ
  induction μ with
  | nil => rfl
  | cons p μ ih =>
    obtain ⟨z, zs⟩ := p
    by_cases e : z = x
    · subst e
      have e' : (y == z) = false := by simpa using hxy
      simp only [List.map_cons, if_true, List.lookup_cons, e']
      exact ih
    · simp only [List.map_cons, if_neg e, List.lookup_cons]
      rw [ih]
theorem env_of {f : AF} {x : Str} {xs : List AV} (h : f.μ.lookup x = some xs) : f.env x = some (.list xs) := by unfold AF.env; rw [h]
theorem env_ρ {f : AF} {x : Str} {a : AV} (h : f.μ.lookup x = none) (h' : f.ρ x = some a) : f.env x = some a := by unfold AF.env; rw [h]; exact h'
theorem last_eqv (a : List Bool) : PyData.eqv (.list ((a.map PyData.bool).drop (a.length - 1))) (.list [.bool true]) = (a.getLast? == some true) := by
  rcases List.eq_nil_or_concat a with rfl | ⟨l, b, rfl⟩
  · rfl
  · rw [List.concat_eq_append]
    have e : (l ++ [b]).length - 1 = (l.map PyData.bool).length := by simp
    rw [e, List.map_append, List.drop_left]
    cases b <;> simp [PyData.eqv, PyData.eqvAll]
theorem shaped_bools (a : List Bool) : SeqAt.shaped (.list (a.map .bool)) = true := shaped_flat (by simp [flat, PyData.canLay0])
theorem ansN_ge (rest : List Nat) : ∀ f a, a.length ≤ (ansN rest f a).length
  | 0, a => Nat.le_refl _
  | f + 1, a => by
    unfold ansN
    split
    · exact Nat.le_refl _
    · split
      · have := ansN_ge rest f (a ++ [checkL (rest.take (a.length + 1))])
        simp at this; omega
      · exact Nat.le_refl _
theorem ansN_le (rest : List Nat) : ∀ f a, a.length ≤ rest.length → (ansN rest f a).length ≤ rest.length
  | 0, a, h => h
  | f + 1, a, h => by
    unfold ansN
    split
    · exact h
    · split
      · exact ansN_le rest f _ (by simp; omega)
      · exact h
theorem ansN_pos {rest : List Nat} (h : rest ≠ []) : 1 ≤ (ansN rest (rest.length + 1) []).length := by
  unfold ansN
  have : 0 < rest.length := List.length_pos_iff.mpr h
  rw [if_neg (by decide), if_pos (show ([] : List Bool).length < rest.length from this)]
  exact ansN_ge rest rest.length ([] ++ [checkL (rest.take (([] : List Bool).length + 1))])

set_option maxRecDepth 10000 in
set_option maxHeartbeats 2000000 in
theorem cut_ex {X : Cx} (hF : Free X) {a : Nat → Addr} (L : FnsM X a) {l : List Nat} (hl : l.length ≤ 100) {n : Nat} :
    Ex X (dScope pw 14) (n + 5) { ρ := bindA ["text"] [sAV l] fun _ => none, μ := [] } (dBody pw 14) fun fl _ => fl = .ret (.list ((cutN (l.length + 1) l []).map cAV)) := by
  refine Ex.cons (Ex1.twoNF (xs := []) (b := sAV l) ⟨fun _ => rfl, fun env eo => ?_, fun _ => rfl, fun _ => rfl⟩ (EvN.list EvL.nil (by decide)) (Ev.local (by rfl) (by walk_at "lk") (by rfl)) rfl rfl (by rfl) (by rfl) (by rfl) ?_)
  · unfold swappedStores Env.kindOf Env.blockKind; rw [eo.scope]; rfl
  refine Ex.cons (Ex1.while (fun k f => ∃ rest cuts fu, k = rest.length ∧ rest.length < fu ∧ cuts.length + rest.length ≤ 100 ∧ cutN fu rest cuts = cutN (l.length + 1) l [] ∧ f.μ.lookup (Str.ofString "cuts") = some (cuts.map cAV) ∧ f.μ.lookup (Str.ofString "rest") = none ∧ f.ρ "rest" = some (sAV rest))
    l.length ⟨l, [], l.length + 1, rfl, by omega, by simpa using hl, rfl, rfl, rfl, by walk_at "lk"⟩ ?_)
  rintro k f ⟨rest, cuts, fu, rfl, hfu, hcl, hcut, hc, hrn, hr⟩
  obtain ⟨fu, rfl⟩ : ∃ fu', fu = fu' + 1 := ⟨fu - 1, by omega⟩
  rw [show cutN (fu + 1) rest cuts = if rest == [] then cuts else cutN fu (rest.drop (ansN rest (rest.length + 1) []).length) (cuts ++ [ansN rest (rest.length + 1) []]) from rfl] at hcut
  refine ⟨!(rest == []), Tr.cmp (a := sAV rest) (b := sAV []) (Ev.local (by rfl) (env_ρ hrn hr) (by rfl)) Ev.str ?_ (by rfl), fun hd => ?_, fun hd => ?_⟩
  · rw [← S_beq]; exact Op.ne_str
  · have hne : ¬ (rest == []) = true := by intro h; rw [h] at hd; cases hd
    have hne' : rest ≠ [] := fun h => hne (by rw [h]; rfl)
    rw [if_neg hne] at hcut
    refine Ex.cons (Ex1.new (xs := []) (EvN.list EvL.nil (by decide)) rfl (by rfl) (fun _ _ => rfl) ?_)
    have c0 : (f.own "answers" []).μ.lookup (Str.ofString "cuts") = some (cuts.map cAV) := hc
    have r0 : (f.own "answers" []).μ.lookup (Str.ofString "rest") = none := hrn
    refine Ex.cons (Ex1.while (fun k f => ∃ ans fv, k + ans.length = rest.length + 1 ∧ k ≤ fv ∧ ans.length ≤ rest.length ∧ ansN rest fv ans = ansN rest (rest.length + 1) [] ∧ f.μ.lookup (Str.ofString "answers") = some (ans.map .bool) ∧ f.μ.lookup (Str.ofString "cuts") = some (cuts.map cAV) ∧ f.μ.lookup (Str.ofString "rest") = none ∧ f.ρ "rest" = some (sAV rest))
      (rest.length + 1) ⟨[], rest.length + 1, by simp, Nat.le_refl _, by simp, rfl, rfl, c0, r0, hr⟩ ?_)
    rintro k g ⟨ans, fv, hk, hfv, hal, han, ga, gc, grn, gr⟩
    obtain ⟨fv, rfl⟩ : ∃ fv', fv = fv' + 1 := ⟨fv - 1, by omega⟩
    rw [show ansN rest (fv + 1) ans = if ans.getLast? == some true then ans else if ans.length < rest.length then ansN rest fv (ans ++ [checkL (rest.take (ans.length + 1))]) else ans from rfl] at han
    have lenA : ∀ (np pp pos : Pos), Ev X (dScope pw 14) g.env (n + 5) (.Call (.Name "len" np) [.Name "answers" pp] [] pos) (.int (ans.length : Nat)) := fun np pp pos =>
      Ev.callB (bi hF (by simp) (by rfl) boot_len) (EvL.cons (Ev.local (by rfl) (env_of ga) (by rfl)) EvL.nil fun _ => rfl) (by have := Fun.len_list (X := X) (n := n + 5) (xs := ans.map .bool) (by rw [List.length_map]; omega); rwa [List.length_map] at this) (fun _ => rfl) fun _ _ => rfl
    refine ⟨!(ans.getLast? == some true) && (decide ((ans.length : Int) < rest.length) && true), Tr.boolop (TrA.and (Tr.cmp (a := .list ((ans.map PyData.bool).drop (ans.length - 1))) (b := .list [.bool true]) ?_ (Ev.list (EvL.cons Ev.bool EvL.nil fun _ => rfl) (by decide)) ?_ (by rfl)) fun _ => TrA.and (Tr.cmp (lenA _ _ _) ?_ Op.lt_int (by rfl)) fun _ => TrA.and_nil), fun he => ?_, fun he => ?_⟩
    · refine Ev.eq (Ev.slice_list (xs := ans.map .bool) (l := some (-((1 : Nat) : Int))) (u := none) (k := none) (Ev.local (by rfl) (env_of ga) (by rfl)) (EvO.one (Ev.neg Ev.int)) EvO.nil EvO.nil (by simp) (by unfold sizeLine; simp; omega) fun _ _ => ⟨_, rfl⟩) ?_
      rw [pick_m _ _ (by decide), List.length_map]
    · rw [← last_eqv]
      refine Op.ne ?_ (by rfl)
      rw [← List.map_drop]; exact shaped_bools _
    · exact Ev.callB (bi hF (by simp) (by rfl) boot_len) (EvL.cons (Ev.local (by rfl) (env_ρ grn gr) (by rfl)) EvL.nil fun _ => rfl) (by have := Fun.len_str (X := X) (n := n + 5) (x := S rest) (by rw [S_len]; omega); rwa [S_len] at this) (fun _ => rfl) fun _ _ => rfl
    · simp only [Bool.and_eq_true, Bool.not_eq_true', decide_eq_true_eq] at he
      have hlt : ans.length < rest.length := by omega
      rw [if_neg (by rw [he.1]; decide), if_pos hlt] at han
      refine Ex.cons (Ex1.append (xs := ans.map .bool) (a := .bool (checkL (rest.take (ans.length + 1)))) ga ?_ rfl (by rw [List.length_map]; unfold sizeLine; omega) (fun _ => rfl) (fun _ => rfl) (by rfl) (by rfl) (fun _ eo => noInt eo) ?_)
      · refine Ev.callF L.f5 (by rfl) (by rfl) (EvL.cons ?_ EvL.nil fun _ => rfl) (check_fun hF L.f3 L.f4 L.f5 (n := n) (l := rest.take (ans.length + 1)) (by simp; omega)) fun _ => rfl
        refine Ev.eq (Ev.slice_str (x := S rest) (l := none) (u := some ((ans.length + 1 : Nat) : Int)) (k := none) (Ev.local (by rfl) (env_ρ grn gr) (by rfl)) EvO.nil (EvO.one (Ev.eq (Ev.binop (a := .int (ans.length : Nat)) (lenA _ _ _) Ev.int Op.add_int) (by rfl))) EvO.nil (by rfl) (by rw [spick_b, S_len]; unfold sizeLine; simp; omega) fun _ _ => ⟨_, rfl⟩) ?_
        rw [spick_b]
      refine Ex.nil ⟨k - 1, by omega, ans ++ [checkL (rest.take (ans.length + 1))], fv, by simp; omega, by omega, by simp; omega, han, ?_, ?_, ?_, gr⟩
      · rw [put_self ga]; simp
      · rw [put_ne (by rw [Ne, ofString_inj]; decide)]; exact gc
      · rw [put_ne (by rw [Ne, ofString_inj]; decide)]; exact grn
    · have hA : ans = ansN rest (rest.length + 1) [] := by
        rw [← han]
        cases h1 : (ans.getLast? == some true) with
        | true => rw [if_pos rfl]
        | false =>
          rw [if_neg (by decide)]
          rw [h1] at he
          have h2 : ¬ ans.length < rest.length := fun h => by
            have : decide ((ans.length : Int) < rest.length) = true := decide_eq_true (by omega)
            rw [this] at he; cases he
          rw [if_neg h2]
      rw [← hA] at hcut
      have hpos : 1 ≤ ans.length := by rw [hA]; exact ansN_pos hne'
      refine Ex.nil ?_
      refine Ex.cons (Ex1.appendN (xs := cuts.map cAV) (zs := ans.map strB) gc ?_ (by simp [strB, flat]) (by rw [List.length_map]; unfold sizeLine; omega) (fun _ => rfl) (fun _ => rfl) (by rfl) (by rfl) (fun _ eo => noInt eo) ?_)
      · refine EvN.mapU PyData.bool unB (fun _ => rfl) (xs := ans) strB (Iter.list (Ev.local (by rfl) (env_of ga) (by rfl))) (CompOk.of [] (by decide +kernel) (by simp)) (fun b hb => ?_) (by unfold sizeLine; omega) (fun _ _ => rfl)
        exact Ev.callT (bi hF (by simp) (by rfl) boot_str) (EvL.cons (Ev.local (by rfl) (by rfl) (by rfl)) EvL.nil fun _ => rfl) Fun.str_bool (fun _ => rfl) fun _ _ => rfl
      have ga' : (g.put "cuts" (cuts.map cAV ++ [.list (ans.map strB)])).μ.lookup (Str.ofString "answers") = some (ans.map .bool) := by rw [put_ne (by rw [Ne, ofString_inj]; decide)]; exact ga
      have grn' : (g.put "cuts" (cuts.map cAV ++ [.list (ans.map strB)])).μ.lookup (Str.ofString "rest") = none := by rw [put_ne (by rw [Ne, ofString_inj]; decide)]; exact grn
      have gr' : (g.put "cuts" (cuts.map cAV ++ [.list (ans.map strB)])).ρ "rest" = some (sAV rest) := gr
      have gc' : (g.put "cuts" (cuts.map cAV ++ [.list (ans.map strB)])).μ.lookup (Str.ofString "cuts") = some ((cuts ++ [ans]).map cAV) := by rw [put_self gc]; simp [cAV]
      refine Ex.cons (Ex1.assign (a := sAV (rest.drop ans.length)) ?_ (.inl rfl) (by rfl) grn' (fun _ _ => rfl) ?_)
      · refine Ev.eq (Ev.slice_str (x := S rest) (l := some ((ans.length : Nat) : Int)) (u := none) (k := none) (Ev.local (by rfl) (env_ρ grn' gr') (by rfl)) (EvO.one (Ev.callB (bi hF (by simp) (by rfl) boot_len) (EvL.cons (Ev.local (by rfl) (env_of ga') (by rfl)) EvL.nil fun _ => rfl) (by have := Fun.len_list (X := X) (n := n + 5) (xs := ans.map .bool) (by rw [List.length_map]; omega); rwa [List.length_map] at this) (fun _ => rfl) fun _ _ => rfl)) EvO.nil EvO.nil (by rfl) (by rw [spick_a, S_len]; unfold sizeLine; simp; omega) fun _ _ => ⟨_, rfl⟩) ?_
        rw [spick_a]
      refine Ex.nil ⟨(rest.drop ans.length).length, by simp; omega, rest.drop ans.length, cuts ++ [ans], fu, rfl, by simp; omega, by simp; omega, hcut, gc', grn', ?_⟩
      simp [AF.set]
  · have he : (rest == []) = true := by simpa using hd
    rw [if_pos he] at hcut
    refine Ex.nil (Ex.cons (Ex1.ret (a := .list (cuts.map cAV)) (Ev.local (by rfl) (env_of hc) (by rfl)) ?_))
    rw [hcut]
end Mine
namespace Mine
open PySem PySem.Calls PyProof.Rows

local macro_rules | `(tactic| walk_at "kind") => `(tactic| (first | rfl | decide +kernel))
local macro_rules | `(tactic| walk_at "lk") => `(tactic| ((conv => lhs; simp [AF.env, AF.plain, AF.set, AF.own, AF.put, ofString_inj, ofs_beq, List.lookup_cons, bindA, *]); first | done | rfl))

/-- y = [.. for x in ..] over ints -/
theorem Ex1.assignMapI {X : Cx} {sc : Scope} {n : Nat} {f : AF} {P : Fl → AF → Prop} {y : Str} {py spos : Pos} {elt iter : Expr} {x : Str} {px pos : Pos} {scope : Scope} {xs : List Int} (g : Int → AV) (hi : Iter X sc f.plain n iter (xs.map .int)) (ho : CompOk sc scope f.plain x)
    (he : ∀ i ∈ xs, Ev X (relab sc scope) (ρc sc scope f.plain x (.int i)) n elt (g i)) (hsz : xs.length ≤ sizeLine) (hs : ∀ env y, foldedSetIterable iter env y = pure y)
    (hy : sc.names.lookup y = some .local) (hu : f.μ.lookup y = none) (hsw : ∀ env, EnvOk sc env → swapsWith (.ListComp elt [⟨.Name x px, iter, [], 0⟩] scope pos) (some (.Name y py)) spos.line env = pure true)
    (hp : P .next (f.set y (.list (xs.map g)))) : Ex1 X sc n f (.Assign [.Name y py] (.ListComp elt [⟨.Name x px, iter, [], 0⟩] scope pos) spos) P := by
  refine Ex1.assignComp (fun _ => true) (fun a => g (aI a)) hi ho (fun _ _ => TrL.nil) (fun a ha _ => ?_) (by simpa using hsz) hs hy hu hsw ?_
  · obtain ⟨i, hi, rfl⟩ := List.mem_map.mp ha; exact he i hi
  · rw [List.filter_eq_self.mpr fun _ _ => rfl, List.map_map]; exact hp
theorem fnOk13 : FnOk "_law_alike" (dParams pw 13) (dBody pw 13) (dScope pw 13) where
  kind := rfl
  co := rfl
  gen := rfl
  bind := fun pm cd doc vs hv => by
    match vs, (show vs.length = 2 from hv) with
    | [a, b], _ => rfl
  pk := by decide +kernel
  nd := by decide +kernel
theorem fnOk14 : FnOk "_law_cut" (dParams pw 14) (dBody pw 14) (dScope pw 14) where
  kind := rfl
  co := rfl
  gen := rfl
  bind := fun pm cd doc vs hv => by
    match vs, (show vs.length = 1 from hv) with
    | [a], _ => rfl
  pk := by decide +kernel
  nd := by decide +kernel
structure FnsN (X : Cx) (a : Nat → Addr) : Prop extends FnsM X a where
  f13 : HasFn X "_law_alike" (dParams pw 13) (dBody pw 13) (dScope pw 13) (a 13)
  f14 : HasFn X "_law_cut" (dParams pw 14) (dBody pw 14) (dScope pw 14) (a 14)
theorem fmod_rng {a b : Int} (hb : 0 < b) : 0 ≤ a.fmod b ∧ a.fmod b < b := by
  rw [Int.fmod_eq_emod_of_nonneg _ (by omega)]
  exact ⟨Int.emod_nonneg _ (by omega), Int.emod_lt_of_pos _ hb⟩
theorem cutN_fuel : ∀ f f' rest cuts, rest.length < f → rest.length < f' → cutN f rest cuts = cutN f' rest cuts
  | 0, _, _, _, h, _ => by omega
  | _, 0, _, _, _, h => by omega
  | f + 1, f' + 1, rest, cuts, h, h' => by
    unfold cutN
    cases e : (rest == []) with
    | true => rfl
    | false =>
      simp only [Bool.false_eq_true, if_false]
      have hne : rest ≠ [] := fun q => by rw [q] at e; cases e
      have hp := ansN_pos hne
      have hl : 0 < rest.length := List.length_pos_iff.mpr hne
      exact cutN_fuel f f' _ _ (by simp; omega) (by simp; omega)
theorem allM_at {m : Nat} (h : m ≤ 10) : allM m = true := by
  have : m = 0 ∨ m = 1 ∨ m = 2 ∨ m = 3 ∨ m = 4 ∨ m = 5 ∨ m = 6 ∨ m = 7 ∨ m = 8 ∨ m = 9 ∨ m = 10 := by omega
  rcases this with rfl | rfl | rfl | rfl | rfl | rfl | rfl | rfl | rfl | rfl | rfl
  exact gm0; exact gm1; exact gm2; exact gm3; exact gm4; exact gm5; exact gm6; exact gm7; exact gm8; exact gm9; exact gm10
theorem allN_at {m : Nat} (h0 : 1 ≤ m) (h : m ≤ 10) : allN m = true := by
  have : m = 1 ∨ m = 2 ∨ m = 3 ∨ m = 4 ∨ m = 5 ∨ m = 6 ∨ m = 7 ∨ m = 8 ∨ m = 9 ∨ m = 10 := by omega
  rcases this with rfl | rfl | rfl | rfl | rfl | rfl | rfl | rfl | rfl | rfl
  exact hm1; exact hm2; exact hm3; exact hm4; exact hm5; exact hm6; exact hm7; exact hm8; exact hm9; exact hm10
structure FaA (m : Nat) (B : List Nat) : Prop where
  bits : bitsOk (sizesL B m) = true
  b01 : ∀ b ∈ bitsL (sizesL B m), b = 0 ∨ b = 1
  len : (treesL B m).length = m
  blen : (bitsL (sizesL B m)).length = m
  tok : m ≤ 20 → TOk (treesL B m) B
  each : ∀ t ∈ treesL B m, 1 ≤ t.length ∧ t.length ≤ 4
theorem faA {eq : Nat → Nat → Bool} (E : Eqv eq) {m : Nat} (h : m ≤ 10) : FaA m (dueE eq m) := by
  have h1 := due_by E (P := okA m) (allM_at h)
  unfold okA at h1
  simp only [Bool.and_eq_true, beq_iff_eq, decide_eq_true_eq, List.all_eq_true, Bool.or_eq_true] at h1
  obtain ⟨⟨⟨⟨h1, h2⟩, h3⟩, h4⟩, h5⟩ := h1
  have hb : (bitsL (sizesL (dueE eq m) m)).length = m := by have := h3; unfold treesL at this; rwa [List.length_map] at this
  have he : ∀ t ∈ treesL (dueE eq m) m, 1 ≤ t.length ∧ t.length ≤ 4 := fun t ht => by
    unfold treesL at ht
    obtain ⟨b, hb, rfl⟩ := List.mem_map.mp ht
    rcases h2 b hb with rfl | rfl <;> decide
  exact ⟨h1, h2, h3, hb, fun hm => ⟨by omega, fun t ht => (he t ht).2, fun t ht => (he t ht).1, by rw [h3]; exact h4, by rw [h3]; exact h5⟩, he⟩
theorem faB {eq : Nat → Nat → Bool} (E : Eqv eq) {m : Nat} (h0 : 1 ≤ m) (h : m ≤ 10) : cutN 41 (treesL (dueE eq m) m).flatten [] = (treesL (dueE eq m) m).map (fun t => List.replicate (t.length - 1) false ++ [true]) ∧ checkL (treesL (dueE eq m) m).flatten.reverse = false := by
  have h1 := due_by E (P := okB m) (allN_at h0 h)
  unfold okB at h1
  simp only [Bool.and_eq_true, beq_iff_eq, Bool.not_eq_true'] at h1
  exact h1
theorem lay_strB (l : List Bool) : PyData.canLayAll0 (l.map strB) = true ∧ PyData.depthAll (l.map strB) = 0 := flat_shape (by
  rw [List.all_eq_true]
  intro x hx
  obtain ⟨b, _, rfl⟩ := List.mem_map.mp hx
  cases b <;> decide +kernel)
theorem lay_cuts : ∀ c : List (List Bool), PyData.canLayAll0 (c.map cAV) = true ∧ PyData.depthAll (c.map cAV) ≤ 1
  | [] => by simp [PyData.canLayAll0, PyData.depthAll]
  | l :: c => by
    obtain ⟨h1, h2⟩ := lay_cuts c
    obtain ⟨h3, h4⟩ := lay_strB l
    refine ⟨by simp [PyData.canLayAll0, cAV, PyData.canLay0, h1, h3], ?_⟩
    simp only [List.map_cons, PyData.depthAll, cAV, PyData.depth, h4]
    omega
theorem shaped_cuts (c : List (List Bool)) : SeqAt.shaped (.list (c.map cAV)) = true := by
  obtain ⟨h1, h2⟩ := lay_cuts c
  simp only [SeqAt.shaped, PyData.canLay0, PyData.depth, h1, Bool.true_and]
  exact decide_eq_true (by omega)
def unS : AV → List Nat
  | .str x => x.cps.toList
  | _ => []
def takenL (ns : List Int) : List Int := if ns == [] then [0, 1, 0, 2, 0, 1, 0, 0] else ns.take 10
theorem taken_len (ns : List Int) : 1 ≤ (takenL ns).length ∧ (takenL ns).length ≤ 10 := by
  unfold takenL
  split
  · decide
  · rename_i h
    have : ns ≠ [] := fun q => h (by rw [q]; rfl)
    have : 0 < ns.length := List.length_pos_iff.mpr this
    simp; omega

set_option maxRecDepth 10000 in
set_option maxHeartbeats 2000000 in
theorem law_ex {X : Cx} (hF : Free X) {a : Nat → Addr} (L : FnsN X a) {ns : List Int} (hns : ns.length ≤ 100000) {n : Nat} :
    Ex X (dScope pw 15) (n + 6) { ρ := bindA ["script"] [.list (ns.map .int)] fun _ => none, μ := [] } (dBody pw 15) fun fl _ => fl = .ret (.bool true) := by
  refine Ex.cons (Ex1.assign (a := .list ((takenL ns).map .int)) ?_ (.inr rfl) (by rfl) (by rfl) (fun _ _ => rfl) ?_)
  · refine Ev.ifexp (c := !(ns == [])) (Tr.cmp (a := .list (ns.map .int)) (b := .list ([].map PyData.int)) (Ev.local (by rfl) (by rfl) (by rfl)) (Ev.list EvL.nil (by decide)) ?_ (by rfl)) (fun hc => ?_) (fun hc => ?_)
    · have := Op.ne (X := X) (n := n + 6) (shaped_ints ns) (shaped_ints [])
      have e : PyData.eqv (.list (ns.map .int)) (.list ([].map PyData.int)) = (ns == []) := by
        show PyData.eqvAll _ _ = _
        rw [eqv_ints]
      rw [← e]; exact this
    · have hne : ¬ (ns == []) = true := by intro h; rw [h] at hc; cases hc
      unfold takenL
      rw [if_neg hne, List.map_take]
      exact Ev.eq (Ev.slice_list (xs := ns.map .int) (l := none) (u := some ((10 : Nat) : Int)) (k := none) (Ev.local (by rfl) (by rfl) (by rfl)) EvO.nil (EvO.one Ev.int) EvO.nil (by simp) (by unfold sizeLine; simp; omega) fun _ _ => ⟨_, rfl⟩) (by rw [pick_b])
    · have he : (ns == []) = true := by simpa using hc
      unfold takenL
      rw [if_pos he]
      exact Ev.list (EvL.cons Ev.int (EvL.cons Ev.int (EvL.cons Ev.int (EvL.cons Ev.int (EvL.cons Ev.int (EvL.cons Ev.int (EvL.cons Ev.int (EvL.cons Ev.int EvL.nil fun _ => rfl) fun _ => rfl) fun _ => rfl) fun _ => rfl) fun _ => rfl) fun _ => rfl) fun _ => rfl) fun _ => rfl) (by decide)
  have htl := taken_len ns
  generalize takenL ns = tk at *
  have r4 := fmod_rng (a := tk.sum) (b := 4) (by decide)
  obtain ⟨kd, hkd⟩ : ∃ kd, ([3, 4, 0, 2] : List Int)[(tk.sum.fmod 4).toNat]? = some kd := ⟨_, List.getElem?_eq_getElem (by show _ < 4; omega)⟩
  have hkd0 : 0 ≤ kd := by
    have := List.mem_of_getElem? hkd
    simp only [List.mem_cons, List.not_mem_nil, or_false] at this
    omega
  refine Ex.cons (Ex1.assignC (a := .int kd) ?_ (.inl rfl) (by rfl) (by rfl) (fun _ _ => rfl) ?_)
  · exact Ev.sub_list (xs := ([3, 4, 0, 2] : List Int).map .int) (i := tk.sum.fmod 4) (Ev.list (EvL.cons Ev.int (EvL.cons Ev.int (EvL.cons Ev.int (EvL.cons Ev.int EvL.nil fun _ => rfl) fun _ => rfl) fun _ => rfl) fun _ => rfl) (by decide)) (Ev.binop (Ev.callB (bi hF (by simp) (by rfl) boot_sum) (EvL.cons (Ev.local (by rfl) (by rfl) (by rfl)) EvL.nil fun _ => rfl) Fun.sum_ints (fun _ => rfl) fun _ _ => rfl) Ev.int (Op.mod_int (by decide))) r4.1 (by rw [List.getElem?_map, hkd]; rfl) (by omega) fun _ _ => rfl
  refine Ex.cons (Ex1.assignMapI (xs := tk) (fun y => .int (if 0 < kd then y.fmod kd else y)) (Iter.list (Ev.local (by rfl) (by rfl) (by rfl))) (CompOk.of ["kind"] (by decide +kernel) (by simp; rfl)) (fun y hy => ?_) (by unfold sizeLine; omega) (fun _ _ => rfl) (by rfl) (by rfl) (fun env eo => by unfold swapsWith Env.kindOf Env.blockKind; rw [eo.scope]; rfl) ?_)
  · refine Ev.ifexp (c := decide (0 < kd)) (Tr.cmp (Ev.cell (by rfl) (by rfl) (by rfl)) Ev.int Op.gt_int (by rfl)) (fun hc => ?_) (fun hc => ?_)
    · rw [if_pos (of_decide_eq_true hc)]
      exact Ev.binop (Ev.local (by rfl) (by rfl) (by rfl)) (Ev.cell (by rfl) (by rfl) (by rfl)) (Op.mod_int (by have := of_decide_eq_true hc; omega))
    · rw [if_neg (of_decide_eq_false hc)]
      exact Ev.local (by rfl) (by rfl) (by rfl)
  obtain ⟨r, hr⟩ : ∃ r : List Int, r = tk.map fun y => if 0 < kd then y.fmod kd else y := ⟨_, rfl⟩
  have er : (tk.map fun y => PyData.int (if 0 < kd then y.fmod kd else y)) = r.map .int := by rw [hr, List.map_map]; rfl
  have hrl : 1 ≤ r.length ∧ r.length ≤ 10 := by rw [hr, List.length_map]; exact htl
  rw [er]
  clear er hr
  have E := ieq_eqv r
  have hkl : (kmp (ieq r) r.length).length = r.length := kmp_len _ _
  refine Ex.cons (Ex1.assign (a := .list (nats (kmp (ieq r) r.length))) (Ev.callF L.f1 (by rfl) (by rfl) (EvL.cons (Ev.local (by rfl) (by rfl) (by rfl)) EvL.nil fun _ => rfl) (table_fun hF L.toFnsM (ints_row (by omega))) fun _ => rfl) (.inr rfl) (by rfl) (by rfl) (fun _ _ => rfl) ?_)
  have lenR : Fun X (n + 6) (.builtin "len") [.list (r.map .int)] (.int (r.length : Nat)) := by have := Fun.len_list (X := X) (n := n + 6) (xs := r.map .int) (by rw [List.length_map]; omega); rwa [List.length_map] at this
  refine Ex.cons (Ex1.if (c := false) ?_ (fun h => by cases h) (fun _ => ?_))
  · exact Tr.not (c := true) (Tr.val (Ev.callF L.f12 (by rfl) (by rfl) (EvL.cons (Ev.local (by rfl) (by rfl) (by rfl)) (EvL.cons (Ev.callB (bi hF (by simp) (by rfl) boot_len) (EvL.cons (Ev.local (by rfl) (by rfl) (by rfl)) EvL.nil fun _ => rfl) lenR (fun _ => rfl) fun _ _ => rfl) EvL.nil fun _ => rfl) fun _ => rfl) (numbers_fun hF L.toFnsM hkl (by rw [hkl]; omega)) fun _ => rfl) fun _ => rfl)
  refine Ex.nil ?_
  have dueT : ∀ m, m ≤ r.length → dueE (ieq (r.take m)) (r.take m).length = dueE (ieq r) m := fun m hm => by
    rw [List.length_take, Nat.min_eq_left hm]
    refine due_congr fun i j hi hj => ?_
    unfold ieq
    simp only [List.getD_eq_getElem?_getD, List.getElem?_take, if_pos hi, if_pos hj]
  refine Ex.cons (Ex1.for (xs := (rangeL 0 ((r.length : Nat) + 1 : Int) 1).map .int) (Iter.name (Iter.range1 (bi hF (by simp) (by rfl) boot_range) (EvL.cons (Ev.binop (Ev.callB (bi hF (by simp) (by rfl) boot_len) (EvL.cons (Ev.local (by rfl) (by rfl) (by rfl)) EvL.nil fun _ => rfl) lenR (fun _ => rfl) fun _ _ => rfl) Ev.int Op.add_int) EvL.nil fun _ => rfl) (small_one (by decide) (by decide) (by omega) (by omega)) (fun _ => rfl)))
    (fun i f => f.μ = [] ∧ f.ρ "drawn" = some (.list (r.map .int)) ∧ f.ρ "told" = some (.list (nats (kmp (ieq r) r.length)))) ⟨rfl, by rfl, by rfl⟩ ?_ ?_ (fun _ _ => rfl))
  · rintro i f b hxa ⟨hμ, e1, e2⟩
    rw [List.getElem?_map] at hxa
    obtain ⟨mi, hmi, rfl⟩ := Option.map_eq_some_iff.mp hxa
    have hm := mem_rangeL_up (List.mem_of_getElem? hmi)
    obtain ⟨m, rfl⟩ : ∃ m : Nat, mi = (m : Nat) := ⟨mi.toNat, by omega⟩
    have hmr : m ≤ r.length := by omega
    have FA := faA E (m := m) (by omega)
    have hBl := due_len (ieq r) m
    refine ⟨_, Takes.name (by rfl) (by rw [hμ]; rfl), ?_⟩
    have df := due_fun hF L.toFnsM (n := n + 5) (r := r.take m) (by simp; omega)
    rw [dueT m hmr] at df
    have ef := ends_fun hF L.toFnsM (n := n + 5) (TabOk.take (N := r.length) (m := m) E) (by rw [List.length_take, hkl]; omega)
    rw [List.length_take, hkl, Nat.min_eq_left hmr] at ef
    have tf := trees_fun hF L.toFnsM (n := n + 3) (due := dueE (ieq r) m) (m := m) (by omega) FA.bits FA.b01 (by rw [FA.blen]; omega)
    have af : Fun X (n + 6) (.ref (a 13)) [.list ((treesL (dueE (ieq r) m) m).map sAV), .list (nats (dueE (ieq r) m))] (.bool true) := Fun.own L.f13 fnOk13 rfl (alike_ex hF L.toFnsM (n := n + 4) (FA.tok (by omega)))
    generalize dueE (ieq r) m = B at *
    refine Ex.cons (Ex1.assign (a := .list (nats B)) ?_ (.inr hμ) (by rfl) (by show f.μ.lookup _ = _; rw [hμ]; rfl) (fun _ _ => rfl) ?_)
    · refine Ev.callF L.f10 (by rfl) (by rfl) (EvL.cons ?_ EvL.nil fun _ => rfl) df fun _ => rfl
      exact Ev.eq (Ev.slice_list (xs := r.map .int) (l := none) (u := some (m : Nat)) (k := none) (Ev.local (by rfl) (by walk_at "lk") (by rfl)) EvO.nil (EvO.one (Ev.local (by rfl) (by walk_at "lk") (by rfl))) EvO.nil (by simp) (by unfold sizeLine; simp; omega) fun _ _ => ⟨_, rfl⟩) (by rw [pick_b, List.map_take])
    refine Ex.cons (Ex1.if (c := false) ?_ (fun h => by cases h) (fun _ => ?_))
    · refine Tr.boolop (TrA.or (c := false) (d := false) ?_ fun _ => TrA.or (c := false) (d := false) ?_ fun _ => TrA.or_nil)
      · refine Tr.cmp (a := .list (nats B)) (b := .list (nats B)) ?_ (Ev.local (by rfl) (by walk_at "lk") (by rfl)) ?_ (by rfl)
        · refine Ev.callF L.f7 (by rfl) (by rfl) (EvL.cons ?_ EvL.nil fun _ => rfl) ef fun _ => rfl
          exact Ev.eq (Ev.slice_list (xs := nats (kmp (ieq r) r.length)) (l := none) (u := some (m : Nat)) (k := none) (Ev.local (by rfl) (by walk_at "lk") (by rfl)) EvO.nil (EvO.one (Ev.local (by rfl) (by walk_at "lk") (by rfl))) EvO.nil (by simp) (by rw [nats_len, hkl]; unfold sizeLine; omega) fun _ _ => ⟨_, rfl⟩) (by rw [pick_b, nats_take])
        · have := Op.ne (X := X) (n := n + 6) (shaped_n B) (shaped_n B)
          rw [eqv_nats, beq_self_eq_true] at this
          exact this
      · refine Tr.not (c := true) (Tr.val (Ev.callF L.f13 (by rfl) (by rfl) (EvL.cons (Ev.callF L.f11 (by rfl) (by rfl) (EvL.cons (Ev.local (by rfl) (by walk_at "lk") (by rfl)) (EvL.cons (Ev.local (by rfl) (by walk_at "lk") (by rfl)) EvL.nil fun _ => rfl) fun _ => rfl) tf fun _ => rfl) (EvL.cons (Ev.local (by rfl) (by walk_at "lk") (by rfl)) EvL.nil fun _ => rfl) fun _ => rfl) af fun _ => rfl) fun _ => rfl)
    exact Ex.nil (Ex.nil ⟨hμ, by walk_at "lk", by walk_at "lk"⟩)
  · rintro f ⟨hμ, e1, e2⟩
    refine Ex.nil ?_
    have FA := faA E (m := r.length) (by omega)
    obtain ⟨fb1, fb2⟩ := faB E (m := r.length) hrl.1 hrl.2
    have hBl := due_len (ieq r) r.length
    have df := due_fun hF L.toFnsM (n := n + 5) (r := r) (by omega)
    have tf := trees_fun hF L.toFnsM (n := n + 3) (due := dueE (ieq r) r.length) (m := r.length) (by omega) FA.bits FA.b01 (by rw [FA.blen]; omega)
    have flen := FA.len
    have feach := FA.each
    refine Ex.cons (Ex1.assign (a := .list ((treesL (dueE (ieq r) r.length) r.length).map sAV)) ?_ (.inr hμ) (by rfl) (by rw [hμ]; rfl) (fun _ _ => rfl) ?_)
    · exact Ev.callF L.f11 (by rfl) (by rfl) (EvL.cons (Ev.callF L.f10 (by rfl) (by rfl) (EvL.cons (Ev.local (by rfl) (by walk_at "lk") (by rfl)) EvL.nil fun _ => rfl) df fun _ => rfl) (EvL.cons (Ev.callB (bi hF (by simp) (by rfl) boot_len) (EvL.cons (Ev.local (by rfl) (by walk_at "lk") (by rfl)) EvL.nil fun _ => rfl) lenR (fun _ => rfl) fun _ _ => rfl) EvL.nil fun _ => rfl) fun _ => rfl) tf fun _ => rfl
    clear tf df FA
    generalize treesL (dueE (ieq r) r.length) r.length = forest at *
    have hfl : forest.flatten.length ≤ 40 := by
      have h1 := flatten_len (ls := forest) (m := 4) fun p hp => (feach p hp).2
      omega
    have jn : ∀ (g : AF) (p1 p2 p3 p4 : Pos) (k : Nat), (p2.endLine == p4.line) = true → g.env "forest" = some (.list (forest.map sAV)) → Ev X (dScope pw 15) g.env (n + 6) (.Call (.Attribute (.Constant (.str (S [])) k p1) "join" p2) [.Name "forest" p3] [] p4) (sAV forest.flatten) := fun g p1 p2 p3 p4 k hp he => by
      have := Ev.join (X := X) (sc := dScope pw 15) (ρ := g.env) (n := n + 6) (x := S []) (ts := forest.map S) (apos := p2) (pos := p4) (o := .Constant (.str (S [])) k p1) (e := .Name "forest" p3) Ev.str (Ev.local (by rfl) (by rw [he, List.map_map]; rfl) (by rfl)) (joinOk_of _ (by rw [← List.length_flatten]; unfold sizeLine; omega)) (fun _ => rfl) (fun _ => rfl) hp
      rw [join_flat] at this
      exact this
    have forE : (f.set "forest" (.list (forest.map sAV))).env "forest" = some (.list (forest.map sAV)) := by clear fb1 fb2 jn; walk_at "lk"
    refine Ex.cons (Ex1.if (c := false) ?_ (fun h => by cases h) (fun _ => ?_))
    · refine Tr.cmp (a := .list ((cutN 41 forest.flatten []).map cAV)) (b := .list ((forest.map fun t => List.replicate (t.length - 1) false ++ [true]).map cAV)) ?_ ?_ ?_ (by rfl)
      · have cf : Fun X (n + 6) (.ref (a 14)) [sAV forest.flatten] (.list ((cutN (forest.flatten.length + 1) forest.flatten []).map cAV)) := Fun.own L.f14 fnOk14 rfl (cut_ex hF L.toFnsM (by omega))
        rw [cutN_fuel (forest.flatten.length + 1) 41 forest.flatten [] (by omega) (by omega)] at cf
        exact Ev.callF L.f14 (by rfl) (by rfl) (EvL.cons (jn _ _ _ _ _ _ (by rfl) forE) EvL.nil fun _ => rfl) cf fun _ => rfl
      · rw [List.map_map]
        refine EvN.ev (EvN.mapU (fun t => sAV t) unS (fun _ => rfl) (xs := forest) _ (Iter.list (Ev.local (by rfl) forE (by rfl))) (CompOk.of [] (by decide +kernel) (by simp)) (fun t ht => ?_) (by unfold sizeLine; omega) (fun _ _ => rfl))
        have htl := feach t ht
        refine Ev.eq (Ev.binop (a := .list (List.replicate (t.length - 1) [strB false]).flatten) (b := .list [strB true]) (Ev.eq (Ev.binop (a := .list [strB false]) (b := .int ((t.length - 1 : Nat) : Int)) (Ev.list (EvL.cons Ev.str EvL.nil fun _ => rfl) (by show 1 ≤ sizeLine; decide)) (Ev.eq (Ev.binop (a := .int (t.length : Nat)) (Ev.callB (bi hF (by simp) (by rfl) boot_len) (EvL.cons (Ev.local (by rfl) (by rfl) (by rfl)) EvL.nil fun _ => rfl) (by have := Fun.len_str (X := X) (n := n + 6) (x := S t) (by rw [S_len]; omega); rwa [S_len] at this) (fun _ => rfl) fun _ _ => rfl) Ev.int Op.sub_int) (by congr 1; omega)) (Op.mul_list (by omega) (by omega) (by simp; omega))) (by rw [Int.toNat_natCast])) (Ev.list (EvL.cons Ev.str EvL.nil fun _ => rfl) (by show 1 ≤ sizeLine; decide)) (Op.add_list (by simp; unfold sizeLine; omega))) ?_
        show PyData.list _ = PyData.list _
        congr 1
        rw [List.map_append, List.map_replicate]
        congr 1
        generalize t.length - 1 = k
        induction k with
        | zero => rfl
        | succ k ih => rw [List.replicate_succ, List.flatten_cons, ih, List.replicate_succ]; rfl
      · rw [fb1]
        have := Op.ne (X := X) (n := n + 6) (shaped_cuts (forest.map fun t => List.replicate (t.length - 1) false ++ [true])) (shaped_cuts (forest.map fun t => List.replicate (t.length - 1) false ++ [true]))
        rw [SeqAt.eqv_refl _ (SeqAt.canLay_of_shaped (shaped_cuts _))] at this
        exact this
    refine Ex.nil (Ex.cons (Ex1.ret (a := .bool true) ?_ rfl))
    have ck := check_fun hF L.f3 L.f4 L.f5 (n := n + 1) (l := forest.flatten.reverse) (by rw [List.length_reverse]; omega)
    rw [fb2] at ck
    refine Ev.cmp (a := .bool false) (b := .bool false) (Ev.callF L.f5 (by rfl) (by rfl) (EvL.cons ?_ EvL.nil fun _ => rfl) ck fun _ => rfl) Ev.bool Op.is_bool (by rfl)
    exact Ev.eq (Ev.slice_str (x := S forest.flatten) (l := none) (u := none) (k := some (-1)) (jn _ _ _ _ _ _ (by rfl) forE) EvO.nil EvO.nil (EvO.one (Ev.neg Ev.int)) (by rfl) (by rw [spick_rev, S_len, List.length_reverse]; unfold sizeLine; omega) fun _ _ => ⟨_, rfl⟩) (by rw [spick_rev])
end Mine
namespace Mine
open PySem PySem.Calls PyProof.Rows PySem.W PySem.W.X PySem.W.ZRun

theorem script_obj {R : WRecords} {w : World} {s₀ s₁ : Shared} {ns : List Int} {a : Addr} {as : List Addr} (L : Laid R w s₀ s₁ [ofPy (PyData.list (ns.map PyData.int))] [.ref a] as) : ∃ vs n, s₁.heap.get? a = some (lobj vs n) := by
  obtain ⟨ord, _, e⟩ := L.laid
  simp only [ofPy, layAllW, layW] at e
  cases q : layAllW R (classAt s₀.heap) w.params ord (ofPys (List.map PyData.int ns)) s₀ with
  | none => rw [q] at e; cases e
  | some r =>
    rw [q] at e
    simp only [Option.some.injEq, Prod.mk.injEq, List.cons.injEq, Value.ref.injEq] at e
    obtain ⟨⟨ea, _⟩, es⟩ := e
    refine ⟨r.1, 0, ?_⟩
    rw [← es, ← ea]
    exact Heap.get?_push_size _ rfl
theorem repL_ints {h : Heap} {S : Addr → Prop} : ∀ {vs : List Value} {ns : List Int}, IntsAre vs ns → RepL h S (ns.map .int) vs
  | _, _, .nil => RepL.nil
  | _, _, .cons n t r => RepL.cons (by simp only [Rep]; exact ⟨t, rfl⟩) (repL_ints r)
theorem ok_caller : Ok callerA 7 := ⟨rfl, by decide +kernel, by decide +kernel⟩

theorem fnOk15 : FnOk "law" (dParams pw 15) (dBody pw 15) (dScope pw 15) where
  kind := rfl
  co := rfl
  gen := rfl
  bind := fun pm cd doc vs hv => by
    match vs, (show vs.length = 1 from hv) with
    | [a], _ => rfl
  pk := by decide +kernel
  nd := by decide +kernel
def dPos (p : Program) (i : Nat) : Pos := match p.main.body[i]? with | some (.FunctionDef _ _ _ _ _ _ _ _ _ q) => q | _ => default
def freeNames : List Str := [Str.ofString "len", "range", "min", "str", "isinstance", "bool", "list", "sum", "enumerate"]

set_option maxRecDepth 10000 in
theorem finish {vw : Program} {loose : List Str} {mean : ExcName → Option Value} {cl : Str → Option Addr} {mean' : ExcName → Option Value} {mg mb : Str → Option Value} {w : World} {s₁ : Shared} (T : Top vw loose mean mg mb s₁.heap) (hvw : recsOf vw = recsOf pw)
    (hfree : ∀ x ∈ freeNames, x ∉ startupNames ∧ x ∉ loose ∧ x ∉ (recsOf vw).map (·.name) ∧ x ∉ (litsOf vw).map (·.1) ∧ x ∉ (clssOf vw loose).map (·.name))
    {ns : List Int} {vals : List Value} {f a : Addr} (hobj : ∃ vs n, s₁.heap.get? a = some (lobj vs n)) (hL : s₁.heap.IsList a vals.toArray) (hi : IntsAre vals ns) (hlen : ¬ (63 : Int) < ns.length) (hmg : mg "law" = some (.ref f)) (hg : s₁.gens = #[]) {E : Value → Shared → Prop} :
    wpAny (model pw w) callerA (call (.ref f) [.ref a]) (fun v s' => GoodWG PySem.Challenge.rw_rs0030_02.row.claim cl mean' [ofPy (PyData.list (List.map PyData.int ns))] s₁ (.ok (.ret v)) s') E s₁ := by
  let X : Cx := ⟨pw, w, s₁.heap, mg, mb, T.g, T.b, T.nolimit, T.builtins⟩
  have hF : Free X := ⟨fun x hx => by obtain ⟨h1, h2, h3, h4, h5⟩ := hfree x hx; exact T.free x h1 h2 h3 h4 h5⟩
  have hfn := T.fn
  rw [hvw] at hfn
  obtain ⟨a1, g1⟩ : ∃ b, HasFn X "_generate_overlap_table" (dParams pw 1) (dBody pw 1) (dScope pw 1) b := by
    obtain ⟨b, o, pm, code, doc, h1, h2, h3, h4⟩ := hfn ⟨"_generate_overlap_table", dParams pw 1, dBody pw 1, dScope pw 1, dPos pw 1⟩ (List.mem_of_getElem? (i := 0) rfl)
    exact ⟨b, h1, o, pm, code, doc, h2, h3, h4⟩
  obtain ⟨a3, g3⟩ : ∃ b, HasFn X "_iter_escaped_chars" (dParams pw 3) (dBody pw 3) (dScope pw 3) b := by
    obtain ⟨b, o, pm, code, doc, h1, h2, h3, h4⟩ := hfn ⟨"_iter_escaped_chars", dParams pw 3, dBody pw 3, dScope pw 3, dPos pw 3⟩ (List.mem_of_getElem? (i := 1) rfl)
    exact ⟨b, h1, o, pm, code, doc, h2, h3, h4⟩
  obtain ⟨a4, g4⟩ : ∃ b, HasFn X "_strip_quoted_realnames" (dParams pw 4) (dBody pw 4) (dScope pw 4) b := by
    obtain ⟨b, o, pm, code, doc, h1, h2, h3, h4⟩ := hfn ⟨"_strip_quoted_realnames", dParams pw 4, dBody pw 4, dScope pw 4, dPos pw 4⟩ (List.mem_of_getElem? (i := 2) rfl)
    exact ⟨b, h1, o, pm, code, doc, h2, h3, h4⟩
  obtain ⟨a5, g5⟩ : ∃ b, HasFn X "_check_parenthesis" (dParams pw 5) (dBody pw 5) (dScope pw 5) b := by
    obtain ⟨b, o, pm, code, doc, h1, h2, h3, h4⟩ := hfn ⟨"_check_parenthesis", dParams pw 5, dBody pw 5, dScope pw 5, dPos pw 5⟩ (List.mem_of_getElem? (i := 3) rfl)
    exact ⟨b, h1, o, pm, code, doc, h2, h3, h4⟩
  obtain ⟨a7, g7⟩ : ∃ b, HasFn X "_law_ends" (dParams pw 7) (dBody pw 7) (dScope pw 7) b := by
    obtain ⟨b, o, pm, code, doc, h1, h2, h3, h4⟩ := hfn ⟨"_law_ends", dParams pw 7, dBody pw 7, dScope pw 7, dPos pw 7⟩ (List.mem_of_getElem? (i := 4) rfl)
    exact ⟨b, h1, o, pm, code, doc, h2, h3, h4⟩
  obtain ⟨a8, g8⟩ : ∃ b, HasFn X "_law_over_and_over" (dParams pw 8) (dBody pw 8) (dScope pw 8) b := by
    obtain ⟨b, o, pm, code, doc, h1, h2, h3, h4⟩ := hfn ⟨"_law_over_and_over", dParams pw 8, dBody pw 8, dScope pw 8, dPos pw 8⟩ (List.mem_of_getElem? (i := 5) rfl)
    exact ⟨b, h1, o, pm, code, doc, h2, h3, h4⟩
  obtain ⟨a9, g9⟩ : ∃ b, HasFn X "_law_bits" (dParams pw 9) (dBody pw 9) (dScope pw 9) b := by
    obtain ⟨b, o, pm, code, doc, h1, h2, h3, h4⟩ := hfn ⟨"_law_bits", dParams pw 9, dBody pw 9, dScope pw 9, dPos pw 9⟩ (List.mem_of_getElem? (i := 6) rfl)
    exact ⟨b, h1, o, pm, code, doc, h2, h3, h4⟩
  obtain ⟨a10, g10⟩ : ∃ b, HasFn X "_law_due" (dParams pw 10) (dBody pw 10) (dScope pw 10) b := by
    obtain ⟨b, o, pm, code, doc, h1, h2, h3, h4⟩ := hfn ⟨"_law_due", dParams pw 10, dBody pw 10, dScope pw 10, dPos pw 10⟩ (List.mem_of_getElem? (i := 7) rfl)
    exact ⟨b, h1, o, pm, code, doc, h2, h3, h4⟩
  obtain ⟨a11, g11⟩ : ∃ b, HasFn X "_law_trees" (dParams pw 11) (dBody pw 11) (dScope pw 11) b := by
    obtain ⟨b, o, pm, code, doc, h1, h2, h3, h4⟩ := hfn ⟨"_law_trees", dParams pw 11, dBody pw 11, dScope pw 11, dPos pw 11⟩ (List.mem_of_getElem? (i := 8) rfl)
    exact ⟨b, h1, o, pm, code, doc, h2, h3, h4⟩
  obtain ⟨a12, g12⟩ : ∃ b, HasFn X "_law_numbers" (dParams pw 12) (dBody pw 12) (dScope pw 12) b := by
    obtain ⟨b, o, pm, code, doc, h1, h2, h3, h4⟩ := hfn ⟨"_law_numbers", dParams pw 12, dBody pw 12, dScope pw 12, dPos pw 12⟩ (List.mem_of_getElem? (i := 9) rfl)
    exact ⟨b, h1, o, pm, code, doc, h2, h3, h4⟩
  obtain ⟨a13, g13⟩ : ∃ b, HasFn X "_law_alike" (dParams pw 13) (dBody pw 13) (dScope pw 13) b := by
    obtain ⟨b, o, pm, code, doc, h1, h2, h3, h4⟩ := hfn ⟨"_law_alike", dParams pw 13, dBody pw 13, dScope pw 13, dPos pw 13⟩ (List.mem_of_getElem? (i := 10) rfl)
    exact ⟨b, h1, o, pm, code, doc, h2, h3, h4⟩
  obtain ⟨a14, g14⟩ : ∃ b, HasFn X "_law_cut" (dParams pw 14) (dBody pw 14) (dScope pw 14) b := by
    obtain ⟨b, o, pm, code, doc, h1, h2, h3, h4⟩ := hfn ⟨"_law_cut", dParams pw 14, dBody pw 14, dScope pw 14, dPos pw 14⟩ (List.mem_of_getElem? (i := 11) rfl)
    exact ⟨b, h1, o, pm, code, doc, h2, h3, h4⟩
  obtain ⟨a15, g15⟩ : ∃ b, HasFn X "law" (dParams pw 15) (dBody pw 15) (dScope pw 15) b := by
    obtain ⟨b, o, pm, code, doc, h1, h2, h3, h4⟩ := hfn ⟨"law", dParams pw 15, dBody pw 15, dScope pw 15, dPos pw 15⟩ (List.mem_of_getElem? (i := 12) rfl)
    exact ⟨b, h1, o, pm, code, doc, h2, h3, h4⟩
  have e15 : a15 = f := by
    have := g15.g.symm.trans hmg
    injection this with q; injection q
  subst e15
  let ad : Nat → Addr := fun i => match i with | 1 => a1 | 3 => a3 | 4 => a4 | 5 => a5 | 7 => a7 | 8 => a8 | 9 => a9 | 10 => a10 | 11 => a11 | 12 => a12 | 13 => a13 | 14 => a14 | _ => a15
  have L : FnsN X ad := ⟨⟨g1, g3, g4, g5, g7, g8, g9, g10, g11, g12⟩, g13, g14⟩
  have fl : Fun X (0 + 7) (.ref a15) [.list (ns.map .int)] (.bool true) := Fun.own g15 fnOk15 rfl (law_ex hF L (by omega))
  obtain ⟨vs, k, ho⟩ := hobj
  obtain ⟨o, ho', _, k', hd⟩ := hL
  rw [ho] at ho'
  have hov := Option.some.inj ho'
  rw [← hov] at hd
  have hvs : vs.toArray = vals.toArray := by
    have : Data.seq vs.toArray k = Data.seq vals.toArray k' := hd
    injection this
  have hvs' : vs = vals := by simpa using hvs
  subst hvs'
  refine fl (fun _ => False) callerA s₁ E _ [.ref a] ok_caller (Keep.refl _) (fun _ h => h.elim) (RepL.cons ?_ RepL.nil) fun v s' gr r => ?_
  · simp only [Rep]
    exact ⟨a, vs, k, rfl, id, ho, repL_ints hi⟩
  · simp only [Rep] at r
    subst r
    refine ⟨.inl ⟨.bool true, .bool true, [], rfl, fun cls => ?_, .bool true, ?_, fun _ => ⟨List.nodup_nil, fun _ h => by cases h⟩⟩, .of_keep gr.keep, gr.os, gr.bare ?_⟩
    · rfl
    · show (WShape.has [] (.bool true) .bool && WTm.holds [] (.eq .res (.lit (.bool true))) { args := _, res := some (.bool true), after := _ }) = true
      rw [Bool.and_eq_true]
      constructor
      · simp [WShape.has, WShape.arms]
      · simp [WTm.holds, WTm.value, PySem.W.same]
    · exact .of_eq hg
end Mine
open PySem PySem.W PySem.W.X PySem.W.ZRun PyProof.Rows
set_option maxRecDepth 100000 in
set_option maxHeartbeats 0 in
theorem PySem.Challenge.cw_rs0030_02_holds : PySem.Challenge.rw_rs0030_02.Holds := by
  w_on; o_law; z_head; (case hw => w_witness2)
  k_fill
  intro w s₀ s₁ mg mb G y fa o pm cd doc dV kV ho hd hcd hD hmg hg args vals as L hpre hlay hrd hwl hlo
  z_open y L KX ZH ZN ZT
  refine Ground.open G ?_
  intro T B D TE TW
  wrow_args hpre hlay hrd hwl hlo
  obtain ⟨hat, hsz⟩ := script_at L
  have hobj := Mine.script_obj L
  have htk := script_toks L ZT
  rw [ZN] at hat hsz
  subst hat
  x_fa T KX hmg
  all_lens
  exact Mine.finish T rfl (by decide +kernel) hobj (by assumption) (by assumption) (by assumption) hmg hg
