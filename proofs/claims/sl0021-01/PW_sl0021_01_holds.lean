import PyProof.Rows.All
import Wide.All
import OpenK.AllK
import Wide.FinOn
import PySem.Challenge.RW_sl0021_01
open PySem PySem.W PyProof.Rows PySem.Calls
set_option Elab.async false
set_option maxRecDepth 100000
set_option linter.unusedVariables false
namespace Mine

/-- what the symbolic values hang on -/
structure Rho where
  code : Nat
  script : Addr

/-- symbolic ints: what they are is told by the code -/
inductive IE where
  | bit (p i : Nat)
  | const (k : Int)
  | add (x y : IE)
  | sub (x y : IE)
  | mul (x y : IE)
  | pick (l : List Int) (d : Int) (j : IE)
  | div (x : IE)
noncomputable def IE.den (e : IE) (ρ : Rho) : Int :=
  IE.rec (fun p i => ((ρ.code / 16 ^ p / 2 ^ i % 2 : Nat) : Int)) (fun k => k) (fun _ _ a b => a + b) (fun _ _ a b => a - b) (fun _ _ a b => a * b) (fun l d _ a => l.getD a.toNat d) (fun _ a => a / 16) e
inductive BE where
  | isIn (x : IE) (ks : List Int)
  | not (b : BE)
  | and (a b : BE)
  | tt (b : Bool)
noncomputable def BE.den (b : BE) (ρ : Rho) : Bool :=
  BE.rec (fun x ks => ks.any fun k => x.den ρ == k) (fun _ v => !v) (fun _ _ u v => u && v) (fun v => v) b
/-- a str out of a table -/
noncomputable def ssD (tab : List Str) (d : Str) (j : IE) (ρ : Rho) : Str := tab.getD (j.den ρ).toNat d

/-- outcomes of the evaluator: a tree -/
inductive Res (α : Type) where
  | fail
  | leaf (a : α)
  | ite (b : BE) (x y : Res α)
  | req (p : BE) (x : Res α)

noncomputable def Res.bnd {α β : Type} : Res α → (α → Res β) → Res β
  | .fail, _ => .fail
  | .leaf a, f => f a
  | .ite b x y, f => .ite b (x.bnd f) (y.bnd f)
  | .req p x, f => .req p (x.bnd f)

noncomputable def Res.sat {α : Type} : Res α → Rho → (α → Prop) → Prop
  | .fail, _, _ => False
  | .leaf a, _, q => q a
  | .ite b x y, ρ, q => (b.den ρ = true → x.sat ρ q) ∧ (b.den ρ = false → y.sat ρ q)
  | .req p x, ρ, q => p.den ρ = true ∧ x.sat ρ q

theorem Res.bnd_sat {α β : Type} {ρ : Rho} {x : Res α} {f : α → Res β} {q : β → Prop} : (x.bnd f).sat ρ q ↔ x.sat ρ fun a => (f a).sat ρ q := by
  induction x with
  | fail => exact Iff.rfl
  | leaf a => exact Iff.rfl
  | ite b x y ihx ihy => simp only [Res.bnd, Res.sat, ihx, ihy]
  | req p x ih => simp only [Res.bnd, Res.sat, ih]

theorem Res.sat_mono {α : Type} {ρ : Rho} {x : Res α} {q q' : α → Prop} (h : x.sat ρ q) (hq : ∀ a, q a → q' a) : x.sat ρ q' := by
  induction x with
  | fail => exact h
  | leaf a => exact hq a h
  | ite b x y ihx ihy => exact ⟨fun e => ihx (h.1 e), fun e => ihy (h.2 e)⟩
  | req p x ih => exact ⟨h.1, ih h.2⟩

/-- the evaluator's values -/
inductive V where
  | int (i : Int)
  | si (lo hi : Int) (f : IE)
  | flt (b : UInt64)
  | str (s : Str)
  | ss (tab : List Str) (d : Str) (j : IE)
  | sb (f : BE)
  | ref (i : Nat)
  | old
  | val (v : Value)

abbrev Ad := List (Option Addr)
noncomputable def adr (ad : Ad) (i : Nat) : Option Addr := match ad[i]? with
  | some a => a
  | none => none
theorem adr_lt {ad : Ad} {i : Nat} {a : Addr} (e : adr ad i = some a) : i < ad.length := by
  unfold adr at e
  split at e
  · rename_i q; exact (List.getElem?_eq_some_iff.mp q).1
  · cases e
theorem adr_app {ad : Ad} {x : Option Addr} (i : Nat) : adr (ad ++ [x]) i = if i = ad.length then x else adr ad i := by
  unfold adr
  by_cases h : i < ad.length
  · rw [List.getElem?_append_left h, if_neg (Nat.ne_of_lt h)]
  · by_cases h2 : i = ad.length
    · subst h2; simp
    · have h3 : (ad ++ [x])[i]? = none := by
        rw [List.getElem?_eq_none_iff]; simp; omega
      have h4 : ad[i]? = none := by rw [List.getElem?_eq_none_iff]; omega
      rw [h3, h4, if_neg h2]
theorem adr_kill {ad : Ad} (k i : Nat) : adr (ad.set k none) i = if i = k then none else adr ad i := by
  unfold adr
  by_cases h : i = k
  · subst h
    rw [if_pos rfl]
    by_cases h2 : i < ad.length
    · rw [List.getElem?_set_self h2]
    · have : (ad.set i none)[i]? = none := by rw [List.getElem?_eq_none_iff, List.length_set]; omega
      rw [this]
  · rw [List.getElem?_set_ne (Ne.symm h), if_neg h]
structure Le (ad ad' : Ad) : Prop where
  len : ad.length ≤ ad'.length
  eq : ∀ i, i < ad.length → adr ad' i = adr ad i
noncomputable def Has (ad : Ad) (a : Addr) : Prop := ∃ i, adr ad i = some a
theorem Le.refl (ad : Ad) : Le ad ad := ⟨Nat.le_refl _, fun _ _ => rfl⟩
theorem Le.trans {a b c : Ad} (h : Le a b) (k : Le b c) : Le a c := ⟨Nat.le_trans h.len k.len, fun i hi => (k.eq i (Nat.lt_of_lt_of_le hi h.len)).trans (h.eq i hi)⟩
theorem Le.of {ad ad' : Ad} (h : Le ad ad') {i : Nat} {a : Addr} (e : adr ad i = some a) : adr ad' i = some a := (h.eq i (adr_lt e)).trans e
theorem Has.le {ad ad' : Ad} {a : Addr} (h : Le ad ad') : Has ad a → Has ad' a := fun ⟨i, e⟩ => ⟨i, h.of e⟩
theorem Le.app (ad : Ad) (x : Option Addr) : Le ad (ad ++ [x]) := ⟨by rw [List.length_append]; omega, fun i hi => by rw [adr_app, if_neg (Nat.ne_of_lt hi)]⟩
theorem Le.kill {ad ad' : Ad} (h : Le ad ad') {k : Nat} (hk : ad.length ≤ k) : Le ad (ad'.set k none) :=
  ⟨by rw [List.length_set]; exact h.len, fun i hi => by rw [adr_kill, if_neg (Nat.ne_of_lt (Nat.lt_of_lt_of_le hi hk))]; exact h.eq i hi⟩

noncomputable def VR (ρ : Rho) (ad : Ad) : V → Value → Prop
  | .int i, v => ∃ t, v = .int i t
  | .si lo hi f, v => (∃ t, v = .int (f.den ρ) t) ∧ lo ≤ f.den ρ ∧ f.den ρ ≤ hi
  | .flt b, v => ∃ t, v = .float b t
  | .str s, v => ∃ t, v = .str s t
  | .ss tab d j, v => (∃ t, v = .str (ssD tab d j ρ) t) ∧ (ssD tab d j ρ).length ≤ 1000
  | .sb f, v => v = .bool (f.den ρ)
  | .ref i, v => ∃ a, adr ad i = some a ∧ v = .ref a
  | .old, v => v = .ref ρ.script
  | .val w, v => v = w

variable {ρ : Rho}
theorem VR.mono {ad ad' : Ad} (h : Le ad ad') : ∀ {v : V} {x : Value}, VR ρ ad v x → VR ρ ad' v x
  | .int _, _, e => e
  | .si .., _, e => e
  | .flt _, _, e => e
  | .str _, _, e => e
  | .ss .., _, e => e
  | .sb _, _, e => e
  | .ref _, _, ⟨a, e, r⟩ => ⟨a, h.of e, r⟩
  | .old, _, e => e
  | .val _, _, e => e

/-- lists of values -/
inductive VRs ρ (ad : Ad) : List V → List Value → Prop
  | nil : VRs ρ ad [] []
  | cons {v x vs xs} : VR ρ ad v x → VRs ρ ad vs xs → VRs ρ ad (v :: vs) (x :: xs)

theorem VRs.mono {ad ad' : Ad} (h : Le ad ad') {vs : List V} {xs : List Value} (H : VRs ρ ad vs xs) : VRs ρ ad' vs xs := by
  induction H with
  | nil => exact .nil
  | cons a _ ih => exact .cons (a.mono h) ih
theorem VRs.length {ad : Ad} {vs : List V} {xs : List Value} (H : VRs ρ ad vs xs) : vs.length = xs.length := by
  induction H with
  | nil => rfl
  | cons _ _ ih => simp [ih]
theorem VRs.get {ad : Ad} {vs : List V} {xs : List Value} (H : VRs ρ ad vs xs) : ∀ {i : Nat} {v : V}, vs[i]? = some v → ∃ x, xs[i]? = some x ∧ VR ρ ad v x := by
  induction H with
  | nil => intro i v e; simp at e
  | cons a _ ih =>
    intro i v e
    cases i with
    | zero => simp at e; subst e; exact ⟨_, by simp, a⟩
    | succ i => simp at e; obtain ⟨x, ex, r⟩ := ih e; exact ⟨x, by simpa using ex, r⟩
theorem VRs.get_none {ad : Ad} {vs : List V} {xs : List Value} (H : VRs ρ ad vs xs) {i : Nat} (e : vs[i]? = none) : xs[i]? = none := by
  rw [List.getElem?_eq_none_iff] at e ⊢; rw [← H.length]; exact e
theorem VRs.append {ad : Ad} {vs ws : List V} {xs ys : List Value} (H : VRs ρ ad vs xs) (K : VRs ρ ad ws ys) : VRs ρ ad (vs ++ ws) (xs ++ ys) := by
  induction H with
  | nil => exact K
  | cons a _ ih => exact .cons a ih
theorem VRs.set {ad : Ad} {vs : List V} {xs : List Value} (H : VRs ρ ad vs xs) {v : V} {x : Value} (hv : VR ρ ad v x) : ∀ i, VRs ρ ad (vs.set i v) (xs.set i x) := by
  induction H with
  | nil => intro i; exact .nil
  | cons a t ih => intro i; cases i with
    | zero => exact .cons hv t
    | succ i => exact .cons a (ih i)
theorem VRs.drop {ad : Ad} {vs : List V} {xs : List Value} (H : VRs ρ ad vs xs) : ∀ n, VRs ρ ad (vs.drop n) (xs.drop n) := by
  induction H with
  | nil => intro n; simp; exact .nil
  | cons a t ih => intro n; cases n with
    | zero => exact .cons a t
    | succ n => exact ih n
theorem VRs.take {ad : Ad} {vs : List V} {xs : List Value} (H : VRs ρ ad vs xs) : ∀ n, VRs ρ ad (vs.take n) (xs.take n) := by
  induction H with
  | nil => intro n; simp; exact .nil
  | cons a t ih => intro n; cases n with
    | zero => exact .nil
    | succ n => exact .cons a (ih n)
theorem VRs.reverse {ad : Ad} {vs : List V} {xs : List Value} (H : VRs ρ ad vs xs) : VRs ρ ad vs.reverse xs.reverse := by
  induction H with
  | nil => exact .nil
  | cons a _ ih => simp only [List.reverse_cons]; exact ih.append (.cons a .nil)

/-- a list with flags: the kept ones -/
noncomputable def kept (ρ : Rho) : List (BE × V) → List V
  | [] => []
  | (b, v) :: r => match b.den ρ with
    | true => v :: kept ρ r
    | false => kept ρ r

/-- own objects -/
inductive O where
  | ns (kvs : List (Str × V))
  | cell (v : Option V)
  | list (vs : List V)
  | arr (vs : List V)
  | flist (vs : List (BE × V))
  | tuple (vs : List V)
  | range (a b c : Int)
  | fn (params : List Str) (body : List Stmt) (scope : Scope) (cells : List (Str × Nat))
  | other

noncomputable def Lst (ρ : Rho) (ad : Ad) (o : Obj) (cls : String) (vs : List V) : Prop :=
  ∃ xs n, o = { cls := .type cls, dict := none, data := .seq xs n, slots := #[] } ∧ VRs ρ ad vs xs.toList

noncomputable def plainArgs (params : List Str) (a : Arguments) : Prop := a.posonlyargs = [] ∧ a.args.map (·.arg) = params ∧ a.vararg = none ∧ a.kwonlyargs = [] ∧ a.kwarg = none ∧ a.kw_defaults = [] ∧ a.defaults = []

/-- what an object of the heap is, for an own object -/
noncomputable def OR (ρ : Rho) (ad : Ad) (h : Heap) (o : Obj) : O → Prop
  | .ns kvs => ∃ es ep, o.data = .dict es ep ∧ StrKeys es ∧ ∀ x, match kvs.lookup x with
      | some v => ∃ y, nsFind es x = some y ∧ VR ρ ad v y
      | none => nsFind es x = none
  | .cell v => match v with
      | some v => ∃ y, o.data = .cell (some y) ∧ VR ρ ad v y
      | none => o.data = .cell none
  | .list vs => Lst ρ ad o "list" vs
  | .arr vs => o.cls = .type "list" ∧ ∃ xs n, o.data = .seq xs n ∧ VRs ρ ad vs xs.toList
  | .flist vs => Lst ρ ad o "list" (kept ρ vs)
  | .tuple vs => Lst ρ ad o "tuple" vs
  | .range a b c => ∃ t u v, o = { cls := .type "range", dict := none, data := .fields #[.int a t, .int b u, .int c v], slots := #[] }
  | .fn params body scope cells => ∃ fd, o.data = .func fd ∧ plainArgs params fd.params ∧ fd.body = .stmts body ∧ fd.scope = scope ∧ fd.globals = mainGlobals ∧ fd.builtins = builtinsNs ∧
      fd.defaults = .none ∧ fd.kwdefaults = .none ∧
      (∃ c co vs t, fd.code = .ref c ∧ ¬ Has ad c ∧ h.get? c = some co ∧ co.data = .fields vs ∧ vs[1]? = some (.str fd.qualname t)) ∧
      (∀ x i, cells.lookup x = some i → ∃ a, adr ad i = some a ∧ fd.closure.lookup x = some a)
  | .other => True

theorem Lst.mono {ad ad' : Ad} {o : Obj} {cls : String} {vs : List V} (h : Le ad ad') (H : Lst ρ ad o cls vs) : Lst ρ ad' o cls vs :=
  let ⟨xs, n, e, r⟩ := H; ⟨xs, n, e, r.mono h⟩

theorem OR.step {ad ad' : Ad} {h h' : Heap} {ob : Obj} (hp : Le ad ad') (hk : ∀ b x, ¬ Has ad b → h.get? b = some x → h'.get? b = some x)
    (hn : ∀ a, Has ad' a → Has ad a ∨ h.get? a = none) : ∀ {o : O}, OR ρ ad h ob o → OR ρ ad' h' ob o
  | .ns kvs, ⟨es, ep, e, k, H⟩ => ⟨es, ep, e, k, fun x => by
      have := H x
      cases q : kvs.lookup x with
      | some v => rw [q] at this; obtain ⟨y, e, r⟩ := this; exact ⟨y, e, r.mono hp⟩
      | none => rw [q] at this; exact this⟩
  | .cell v, H => by
      cases v with
      | some v => obtain ⟨y, e, r⟩ := H; exact ⟨y, e, r.mono hp⟩
      | none => exact H
  | .list _, H => Lst.mono hp H
  | .arr _, ⟨c, xs, n, e, r⟩ => ⟨c, xs, n, e, r.mono hp⟩
  | .flist _, H => Lst.mono hp H
  | .tuple _, H => Lst.mono hp H
  | .range .., H => H
  | .fn .., ⟨fd, e, p1, p2, p3, p4, p5, p6, p7, ⟨c, co, vs, t, q1, q2, q3, q5⟩, p9⟩ =>
      ⟨fd, e, p1, p2, p3, p4, p5, p6, p7, ⟨c, co, vs, t, q1, fun hc => (hn c hc).elim q2 (fun z => by rw [q3] at z; cases z), hk _ _ q2 q3, q5⟩,
        fun x i hx => let ⟨a, e1, e2⟩ := p9 x i hx; ⟨a, hp.of e1, e2⟩⟩
  | .other, H => H

/-- a nested def's code: its outer code object, its table, the def's place, its qualified name -/
structure CodeAt where
  c : Addr
  P : Addr
  pos : Pos
  qual : Str

/-- what the run stands on: the top (fixed), the base of the run at hand -/
structure Bs where
  ρ : Rho
  T : Heap
  lo : Nat
  codes : List CodeAt
  h₀ : Heap
  n0 : Nat

noncomputable def TabHas (h : Heap) (k : CodeAt) (c' : Addr) : Prop := ∃ ps, h.IsCode k.c k.P ps ∧ codeAmong k.pos ps.toList = some (.ref c')

noncomputable def TabOk (b : Heap) (ad : Ad) (h : Heap) (k : CodeAt) : Prop :=
  ¬ Has ad k.c ∧ ¬ Has ad k.P ∧ ∃ ps, h.IsCode k.c k.P ps ∧ h.TableAt k.c k.P ps ∧
    (ps = #[] ∨ ∃ c', codeAmong k.pos ps.toList = some (.ref c') ∧ ¬ Has ad c' ∧ (∃ co vs t, h.get? c' = some co ∧ co.data = .fields vs ∧ vs[1]? = some (.str k.qual t)) ∧ (b.get? c' = none ∨ TabHas b k c'))

structure Rep (B : Bs) (led : List O) (ad : Ad) (h : Heap) : Prop where
  len : led.length = ad.length
  obj : ∀ (i : Nat) (o : O), led[i]? = some o → match adr ad i with
    | some a => ∃ ob, h.get? a = some ob ∧ OR B.ρ ad h ob o
    | none => o = .other
  inj : ∀ (i j : Nat) (a : Addr), adr ad i = some a → adr ad j = some a → i = j
  low : ∀ (a : Addr), Has ad a → a < B.lo → B.T.get? a = none
  top : ∀ b o, B.T.get? b = some o → b < B.lo → b ∉ B.codes.map (·.P) → h.get? b = some o
  keep : ∀ b o, B.h₀.get? b = some o → b ∉ B.codes.map (·.P) → ¬ Has ad b → h.get? b = some o
  fresh : ∀ (i : Nat) (a : Addr), B.n0 ≤ i → adr ad i = some a → B.h₀.get? a = none
  n0 : B.n0 ≤ led.length
  tabs : ∀ k ∈ B.codes, TabOk B.h₀ ad h k

section
variable {B : Bs} {led : List O} {ad : Ad} {h h' : Heap}

theorem Rep.at (R : Rep B led ad h) {i : Nat} {a : Addr} (e : adr ad i = some a) : ∃ o ob, led[i]? = some o ∧ h.get? a = some ob ∧ OR B.ρ ad h ob o := by
  have hl : i < led.length := by rw [R.len]; exact adr_lt e
  have := R.obj i led[i] (List.getElem?_eq_getElem hl)
  rw [e] at this
  obtain ⟨ob, q1, q2⟩ := this
  exact ⟨led[i], ob, List.getElem?_eq_getElem hl, q1, q2⟩

theorem Rep.there (R : Rep B led ad h) {a : Addr} (ha : Has ad a) : ∃ ob, h.get? a = some ob := by
  obtain ⟨i, e⟩ := ha
  obtain ⟨o, ob, _, q, _⟩ := R.at e
  exact ⟨ob, q⟩

theorem Rep.get (R : Rep B led ad h) {i : Nat} {o : O} (e : led[i]? = some o) (hne : o ≠ .other) : ∃ a ob, adr ad i = some a ∧ h.get? a = some ob ∧ OR B.ρ ad h ob o := by
  have := R.obj i o e
  cases q : adr ad i with
  | some a => rw [q] at this; obtain ⟨ob, q1, q2⟩ := this; exact ⟨a, ob, rfl, q1, q2⟩
  | none => rw [q] at this; exact absurd this hne

theorem Rep.of (R : Rep B led ad h) {i : Nat} {o : O} {a : Addr} (e : led[i]? = some o) (ha : adr ad i = some a) : ∃ ob, h.get? a = some ob ∧ OR B.ρ ad h ob o := by
  have := R.obj i o e
  rw [ha] at this; exact this

theorem TabOk.step {b : Heap} {ad ad' : Ad} {k : CodeAt} (H : TabOk b ad h k) (hk : ∀ b x, ¬ Has ad b → h.get? b = some x → h'.get? b = some x) (hn : ∀ a, Has ad' a → Has ad a ∨ h.get? a = none) : TabOk b ad' h' k := by
  obtain ⟨h1, h2, ps, i, t, r⟩ := H
  obtain ⟨o, vs, file, tf, flags, tg, inF, text, tt, op, e1, r1, r2, r3, r4, r5, r6, e2, r7⟩ := i
  have nin : ∀ b x, ¬ Has ad b → h.get? b = some x → ¬ Has ad' b := fun b x hb e hb' => (hn b hb').elim hb fun z => by rw [e] at z; cases z
  refine ⟨nin _ _ h1 e1, nin _ _ h2 e2, ps, ⟨o, vs, file, tf, flags, tg, inF, text, tt, op, hk _ _ h1 e1, r1, r2, r3, r4, r5, r6, hk _ _ h2 e2, r7⟩, ?_, ?_⟩
  · obtain ⟨⟨oc, vc, hoc, hcc⟩, htP⟩ := t
    exact ⟨⟨oc, vc, hk _ _ h1 hoc, hcc⟩, hk _ _ h2 htP⟩
  · rcases r with r | ⟨c', q1, q2, q3, q4⟩
    · exact .inl r
    · obtain ⟨o2, vs2, t2, g2, rr⟩ := q3
      exact .inr ⟨c', q1, nin _ _ q2 g2, ⟨o2, vs2, t2, hk _ _ q2 g2, rr⟩, q4⟩

/-- any step of the heap: what is not own stands -/
theorem Rep.move (R : Rep B led ad h) {led' : List O} {ad' : Ad} (hlen : led'.length = ad'.length) (hle : led.length ≤ led'.length) (hk : ∀ b x, ¬ Has ad b → h.get? b = some x → h'.get? b = some x)
    (hn : ∀ a, Has ad' a → Has ad a ∨ h.get? a = none) (hold : ∀ b, Has ad b → ¬ Has ad' b → B.h₀.get? b = none) (hf : ∀ (i : Nat) (a : Addr), B.n0 ≤ i → adr ad' i = some a → adr ad i = some a ∨ h.get? a = none)
    (hi : ∀ (i j : Nat) (a : Addr), adr ad' i = some a → adr ad' j = some a → i = j)
    (ho : ∀ (i : Nat) (o : O), led'[i]? = some o → match adr ad' i with
      | some a => ∃ ob, h'.get? a = some ob ∧ OR B.ρ ad' h' ob o
      | none => o = .other) : Rep B led' ad' h' := by
  have hT : ∀ b o, B.T.get? b = some o → b < B.lo → ¬ Has ad b := fun b o e hb hm => by rw [R.low b hm hb] at e; cases e
  have new : ∀ x, h.get? x = none → B.h₀.get? x = none := fun x hx => by
    cases e : B.h₀.get? x with
    | none => rfl
    | some o =>
      exfalso
      by_cases h1 : Has ad x
      · obtain ⟨ob, q⟩ := R.there h1; rw [hx] at q; cases q
      · by_cases h2 : x ∈ B.codes.map (·.P)
        · obtain ⟨k, hkm, rfl⟩ := List.mem_map.mp h2
          obtain ⟨_, _, ps, _, ⟨_, t⟩, _⟩ := R.tabs k hkm
          rw [hx] at t; cases t
        · rw [R.keep x o e h2 h1] at hx; cases hx
  refine ⟨hlen, ho, hi, fun a ha hl => (hn a ha).elim (fun z => R.low a z hl) fun z => ?_, fun b o e hb hP => hk b o (hT b o e hb) (R.top b o e hb hP), fun b o e hP hb => ?_,
    fun i a hni e => (hf i a hni e).elim (fun z => R.fresh i a hni z) fun z => new a z, Nat.le_trans R.n0 hle, fun k hkm => (R.tabs k hkm).step hk hn⟩
  · cases e : B.T.get? a with
    | none => rfl
    | some o =>
      exfalso
      by_cases h2 : a ∈ B.codes.map (·.P)
      · obtain ⟨k, hkm, rfl⟩ := List.mem_map.mp h2
        obtain ⟨_, _, ps, _, ⟨_, t⟩, _⟩ := R.tabs k hkm
        rw [z] at t; cases t
      · rw [R.top a o e hl h2] at z; cases z
  · by_cases hm : Has ad b
    · rw [hold b hm hb] at e; cases e
    · exact hk b o hm (R.keep b o e hP hm)

theorem Rep.ext (R : Rep B led ad h) (hk : ∀ b x, h.get? b = some x → h'.get? b = some x) : Rep B led ad h' :=
  R.move R.len (Nat.le_refl _) (fun b x _ => hk b x) (fun _ ha => .inl ha) (fun b h1 h2 => absurd h1 h2) (fun _ _ _ e => .inl e) R.inj fun i o e => by
    have := R.obj i o e
    cases q : adr ad i with
    | some a => rw [q] at this; obtain ⟨ob, q1, q2⟩ := this; exact ⟨ob, hk _ _ q1, q2.step (Le.refl _) (fun b x _ => hk b x) fun _ ha => .inl ha⟩
    | none => rw [q] at this; exact this

/-- one own object changes -/
theorem Rep.upd (R : Rep B led ad h) {i : Nat} {a : Addr} {o' : O} (ha : adr ad i = some a) (hk : ∀ b x, b ≠ a → h.get? b = some x → h'.get? b = some x)
    (ho : ∃ ob, h'.get? a = some ob ∧ OR B.ρ ad h' ob o') : Rep B (led.set i o') ad h' := by
  have ham : Has ad a := ⟨i, ha⟩
  have hk' : ∀ b x, ¬ Has ad b → h.get? b = some x → h'.get? b = some x := fun b x hb e => hk b x (fun z => hb (z ▸ ham)) e
  refine R.move (by rw [List.length_set]; exact R.len) (by rw [List.length_set]; exact Nat.le_refl _) hk' (fun _ ha => .inl ha) (fun b h1 h2 => absurd h1 h2) (fun _ _ _ e => .inl e) R.inj fun j o e => ?_
  by_cases hj : j = i
  · subst hj
    rw [ha]
    rw [List.getElem?_set_self (by rw [R.len]; exact adr_lt ha)] at e
    cases e; exact ho
  · rw [List.getElem?_set_ne (Ne.symm hj)] at e
    have := R.obj j o e
    cases q : adr ad j with
    | some c =>
      rw [q] at this; obtain ⟨ob, q1, q2⟩ := this
      exact ⟨ob, hk c ob (fun z => hj (R.inj j i a (z ▸ q) ha)) q1, q2.step (Le.refl _) hk' fun _ ha => .inl ha⟩
    | none => rw [q] at this; exact this

/-- a new own object -/
theorem Rep.add (R : Rep B led ad h) {x : Addr} {o : O} (hx : h.get? x = none) (hk : ∀ b y, h.get? b = some y → h'.get? b = some y)
    (ho : ∃ ob, h'.get? x = some ob ∧ OR B.ρ (ad ++ [some x]) h' ob o) : Rep B (led ++ [o]) (ad ++ [some x]) h' := by
  have hxa : ∀ i, adr ad i ≠ some x := fun i e => by obtain ⟨ob, q⟩ := R.there ⟨i, e⟩; rw [hx] at q; cases q
  have hn : ∀ a, Has (ad ++ [some x]) a → Has ad a ∨ h.get? a = none := fun a ⟨i, e⟩ => by
    rw [adr_app] at e
    split at e
    · cases e; exact .inr hx
    · exact .inl ⟨i, e⟩
  refine R.move (by rw [List.length_append, List.length_append, R.len]; rfl) (by rw [List.length_append]; omega) (fun b x _ => hk b x) hn (fun b h1 h2 => absurd (h1.le (Le.app _ _)) h2) (fun i a _ e => ?_) (fun i j a e1 e2 => ?_) fun j o' e => ?_
  · rw [adr_app] at e
    split at e
    · cases e; exact .inr hx
    · exact .inl e
  · rw [adr_app] at e1 e2
    split at e1 <;> split at e2
    · rename_i z1 z2; rw [z1, z2]
    · cases e1; exact absurd e2 (hxa j)
    · cases e2; exact absurd e1 (hxa i)
    · exact R.inj i j a e1 e2
  · rw [adr_app]
    by_cases hj : j = ad.length
    · rw [if_pos hj]
      rw [hj, ← R.len] at e
      rw [List.getElem?_append_right (Nat.le_refl _), Nat.sub_self] at e
      cases e; exact ho
    · rw [if_neg hj]
      have hj' : j < led.length := by
        have := (List.getElem?_eq_some_iff.mp e).1
        rw [List.length_append] at this
        have h1 : [o].length = 1 := rfl
        rw [R.len] at this ⊢; omega
      rw [List.getElem?_append_left hj'] at e
      have := R.obj j o' e
      cases q : adr ad j with
      | some c => rw [q] at this; obtain ⟨ob, q1, q2⟩ := this; exact ⟨ob, hk _ _ q1, q2.step (Le.app _ _) (fun b y _ => hk b y) hn⟩
      | none => rw [q] at this; exact this

/-- nothing but the ones after it speaks of i -/
noncomputable def noRefV (i : Nat) : V → Bool
  | .ref j => !Nat.beq i j
  | _ => true
noncomputable def noRefO (i : Nat) : O → Bool
  | .ns kvs => kvs.all fun p => noRefV i p.2
  | .cell (some v) => noRefV i v
  | .cell none => true
  | .list vs => vs.all (noRefV i)
  | .arr vs => vs.all (noRefV i)
  | .flist vs => vs.all fun p => noRefV i p.2
  | .tuple vs => vs.all (noRefV i)
  | .range .. => true
  | .fn _ _ _ cells => cells.all fun p => !Nat.beq i p.2
  | .other => true

theorem VR.kill {i : Nat} : ∀ {v : V} {x : Value}, noRefV i v = true → VR ρ ad v x → VR ρ (ad.set i none) v x
  | .int _, _, _, e => e
  | .si .., _, _, e => e
  | .flt _, _, _, e => e
  | .str _, _, _, e => e
  | .ss .., _, _, e => e
  | .sb _, _, _, e => e
  | .ref j, _, hn, ⟨a, e, r⟩ => ⟨a, by
      have : j ≠ i := by
        rintro rfl
        simp [noRefV] at hn
      rw [adr_kill, if_neg this]; exact e, r⟩
  | .old, _, _, e => e
  | .val _, _, _, e => e
theorem VRs.kill {i : Nat} {vs : List V} {xs : List Value} (H : VRs ρ ad vs xs) (hn : vs.all (noRefV i) = true) : VRs ρ (ad.set i none) vs xs := by
  induction H with
  | nil => exact .nil
  | cons a _ ih =>
    rw [List.all_cons, Bool.and_eq_true] at hn
    exact .cons (a.kill hn.1) (ih hn.2)
theorem Lst.kill {i : Nat} {o : Obj} {cls : String} {vs : List V} (H : Lst ρ ad o cls vs) (hn : vs.all (noRefV i) = true) : Lst ρ (ad.set i none) o cls vs :=
  let ⟨xs, n, e, r⟩ := H; ⟨xs, n, e, r.kill hn⟩
theorem mem_lk {α : Type} {l : List (Str × α)} {x : Str} {v : α} (e : l.lookup x = some v) : ∃ y, (y, v) ∈ l := by
  induction l with
  | nil => cases e
  | cons p r ih =>
    obtain ⟨y, w⟩ := p
    rw [List.lookup_cons] at e
    split at e
    · cases e; exact ⟨y, .head _⟩
    · obtain ⟨z, hz⟩ := ih e; exact ⟨z, .tail _ hz⟩
theorem Has.kill {i : Nat} {c : Addr} : Has (ad.set i none) c → Has ad c := fun ⟨j, e⟩ => by
  rw [adr_kill] at e
  split at e
  · cases e
  · exact ⟨j, e⟩

theorem OR.kill {i : Nat} {a : Addr} {ob : Obj} (_ha : adr ad i = some a) (hk : ∀ b x, ¬ Has ad b → h.get? b = some x → h'.get? b = some x) : ∀ {o : O}, noRefO i o = true → OR ρ ad h ob o → OR ρ (ad.set i none) h' ob o
  | .ns kvs, hn, ⟨es, ep, e, k, H⟩ => ⟨es, ep, e, k, fun x => by
      have := H x
      cases q : kvs.lookup x with
      | some v =>
        rw [q] at this; obtain ⟨y, e, r⟩ := this
        obtain ⟨z, hz⟩ := mem_lk q
        exact ⟨y, e, r.kill (List.all_eq_true.mp hn _ hz)⟩
      | none => rw [q] at this; exact this⟩
  | .cell v, hn, H => by
      cases v with
      | some v => obtain ⟨y, e, r⟩ := H; exact ⟨y, e, r.kill hn⟩
      | none => exact H
  | .list _, hn, H => Lst.kill H hn
  | .arr _, hn, ⟨c, xs, n, e, r⟩ => ⟨c, xs, n, e, r.kill hn⟩
  | .flist vs, hn, H => Lst.kill H (by
      have hn : (vs.all fun p => noRefV i p.2) = true := hn
      clear H
      induction vs with
      | nil => rfl
      | cons p r ih =>
        obtain ⟨b, v⟩ := p
        rw [List.all_cons, Bool.and_eq_true] at hn
        unfold kept
        split
        · rw [List.all_cons, Bool.and_eq_true]; exact ⟨hn.1, ih hn.2 hn.2⟩
        · exact ih hn.2 hn.2)
  | .tuple _, hn, H => Lst.kill H hn
  | .range .., _, H => H
  | .fn .., hn, ⟨fd, e, p1, p2, p3, p4, p5, p6, p7, ⟨c, co, vs, t, q1, q2, q3, q5⟩, p9⟩ =>
      ⟨fd, e, p1, p2, p3, p4, p5, p6, p7, ⟨c, co, vs, t, q1, fun hc => q2 hc.kill, hk _ _ q2 q3, q5⟩,
        fun x j hx => let ⟨a, e1, e2⟩ := p9 x j hx; ⟨a, by
          obtain ⟨z, hz⟩ := mem_lk hx
          have h1 := List.all_eq_true.mp hn _ hz
          have : j ≠ i := by rintro rfl; simp at h1
          rw [adr_kill, if_neg this]; exact e1, e2⟩⟩
  | .other, _, H => H

/-- an own object is forgotten -/
theorem Rep.kill (R : Rep B led ad h) {i : Nat} {a : Addr} (ha : adr ad i = some a) (hi : B.n0 ≤ i) (hk : ∀ b x, b ≠ a → h.get? b = some x → h'.get? b = some x)
    (hno : (led.set i .other).all (noRefO i) = true) : Rep B (led.set i .other) (ad.set i none) h' := by
  have ham : Has ad a := ⟨i, ha⟩
  have hk' : ∀ b x, ¬ Has ad b → h.get? b = some x → h'.get? b = some x := fun b x hb e => hk b x (fun z => hb (z ▸ ham)) e
  refine R.move (by rw [List.length_set, List.length_set]; exact R.len) (by rw [List.length_set]; exact Nat.le_refl _) hk' (fun c hc => .inl hc.kill) (fun b hb hnb => ?_) (fun j c _ e => ?_) (fun j k c e1 e2 => ?_) fun j o e => ?_
  · obtain ⟨j, e⟩ := hb
    by_cases hj : j = i
    · subst hj; exact R.fresh _ _ hi e
    · exact absurd ⟨j, by rw [adr_kill, if_neg hj]; exact e⟩ hnb
  · rw [adr_kill] at e
    split at e
    · cases e
    · exact .inl e
  · rw [adr_kill] at e1 e2
    split at e1 <;> split at e2 <;> first | cases e1; done | cases e2; done | exact R.inj j k c e1 e2
  · rw [adr_kill]
    have hno' := List.all_eq_true.mp hno o (List.mem_of_getElem? e)
    by_cases hj : j = i
    · subst hj
      rw [if_pos rfl]
      rw [List.getElem?_set_self (by rw [R.len]; exact adr_lt ha)] at e
      cases e; rfl
    · rw [if_neg hj]
      rw [List.getElem?_set_ne (Ne.symm hj)] at e
      have := R.obj j o e
      cases q : adr ad j with
      | some c =>
        rw [q] at this; obtain ⟨ob, q1, q2⟩ := this
        exact ⟨ob, hk c ob (fun z => hj (R.inj j i a (z ▸ q) ha)) q1, q2.kill ha hk' hno'⟩
      | none => rw [q] at this; exact this

/-- the heap at hand as the base -/
theorem Rep.rebase (R : Rep B led ad h) : Rep { B with h₀ := h, n0 := led.length } led ad h := by
  refine ⟨R.len, R.obj, R.inj, R.low, R.top, fun b o e _ _ => e, fun i a hi e => ?_, Nat.le_refl _, fun k hk => ?_⟩
  · have := adr_lt e; rw [← R.len] at this; exact absurd this (Nat.not_lt.mpr hi)
  · obtain ⟨h1, h2, ps, i, t, r⟩ := R.tabs k hk
    exact ⟨h1, h2, ps, i, t, r.imp id fun ⟨c', q1, q2, q3, _⟩ => ⟨c', q1, q2, q3, .inr ⟨ps, i, q1⟩⟩⟩

theorem IsCode.unique {c P : Addr} {ps ps' : Array Value} (x : h.IsCode c P ps) (y : h.IsCode c P ps') : ps = ps' := by
  obtain ⟨_, _, _, _, _, _, _, _, _, op, _, _, _, _, _, _, _, e2, d2, _⟩ := x
  obtain ⟨_, _, _, _, _, _, _, _, _, op', _, _, _, _, _, _, _, e2', d2', _⟩ := y
  rw [e2] at e2'; cases e2'
  rw [d2] at d2'; cases d2'; rfl

/-- back to the elder base: what the run from h on made -/
theorem Rep.unbase {led' : List O} {ad' : Ad} (R : Rep B led ad h) (R' : Rep { B with h₀ := h, n0 := led.length } led' ad' h') (hl : Le ad ad') : Rep B led' ad' h' := by
  have new : ∀ x, h.get? x = none → B.h₀.get? x = none := fun x hx => by
    cases e : B.h₀.get? x with
    | none => rfl
    | some o =>
      exfalso
      by_cases h1 : Has ad x
      · obtain ⟨ob, q⟩ := R.there h1; rw [hx] at q; cases q
      · by_cases h2 : x ∈ B.codes.map (·.P)
        · obtain ⟨k, hkm, rfl⟩ := List.mem_map.mp h2
          obtain ⟨_, _, ps, _, ⟨_, t⟩, _⟩ := R.tabs k hkm
          rw [hx] at t; cases t
        · rw [R.keep x o e h2 h1] at hx; cases hx
  refine ⟨R'.len, R'.obj, R'.inj, R'.low, R'.top, fun b o e hP hb => ?_, fun i a hi e => ?_, Nat.le_trans R.n0 R'.n0, fun k hk => ?_⟩
  · have hb' : ¬ Has ad b := fun z => hb (z.le hl)
    exact R'.keep b o (R.keep b o e hP hb') hP hb
  · by_cases h1 : i < ad.length
    · rw [hl.eq i h1] at e; exact R.fresh i a hi e
    · exact new a (R'.fresh i a (by show led.length ≤ i; rw [R.len]; omega) e)
  · obtain ⟨h1, h2, ps, i, t, r⟩ := R'.tabs k hk
    obtain ⟨_, _, ps0, i0, t0, r0⟩ := R.tabs k hk
    refine ⟨h1, h2, ps, i, t, r.imp id fun ⟨c', q1, q2, q3, q4⟩ => ⟨c', q1, q2, q3, ?_⟩⟩
    rcases q4 with q4 | ⟨ps1, i1, q5⟩
    · exact .inl (new c' q4)
    · have : ps1 = ps0 := IsCode.unique i1 i0
      subst this
      rcases r0 with r0 | ⟨c0, p1, _, _, p4⟩
      · subst r0; simp [codeAmong] at q5
      · rw [q5] at p1; cases p1; exact p4

theorem triples_no {l : List Value} (h : TriplesOk l) {q : Str} {t : Tok} : l[1]? ≠ some (.str q t) := by
  fun_cases TriplesOk l with
  | case1 => intro e; cases e
  | case2 => intro e; cases e
  | case3 => exact absurd h (by simp_all [TriplesOk])

/-- a run of its own: nothing of what stood is touched -/
theorem Rep.apart {led' : List O} {ad' : Ad} (R : Rep B led ad h) (R' : Rep { B with h₀ := h, n0 := 0 } led' ad' h') : Rep B led ad h' := by
  have nh : ∀ a ob, h.get? a = some ob → ¬ Has ad' a := fun a ob e ⟨i, q⟩ => by
    have := R'.fresh i a (Nat.zero_le _) q
    rw [e] at this; cases this
  have nP : ∀ a, Has ad a → a ∉ B.codes.map (·.P) := fun a ha hm => by
    obtain ⟨k, hk, rfl⟩ := List.mem_map.mp hm
    exact (R.tabs k hk).2.1 ha
  have kp : ∀ a ob, h.get? a = some ob → a ∉ B.codes.map (·.P) → h'.get? a = some ob := fun a ob e hP => R'.keep a ob e hP (nh a ob e)
  have kc : ∀ a (ob : Obj) vs q t, h.get? a = some ob → ob.data = .fields vs → vs[1]? = some (.str q t) → h'.get? a = some ob := fun a ob vs q t e hd hv => kp a ob e fun hm => by
    obtain ⟨k, hk, rfl⟩ := List.mem_map.mp hm
    obtain ⟨_, _, ps, ic, ⟨_, t⟩, _⟩ := R.tabs k hk
    rw [e] at t; cases t; cases hd
    obtain ⟨_, _, _, _, _, _, _, _, _, op, _, _, _, _, _, _, _, e2, d2, tr, _⟩ := ic
    rw [e] at e2; cases e2; cases d2
    exact triples_no tr (by rw [Array.getElem?_toList]; exact hv)
  refine ⟨R.len, fun i o e => ?_, R.inj, R.low, R'.top, fun b o e hP hb => kp b o (R.keep b o e hP hb) hP, R.fresh, R.n0, fun k hk => ?_⟩
  · have := R.obj i o e
    cases q : adr ad i with
    | some a =>
      rw [q] at this; obtain ⟨ob, q1, q2⟩ := this
      refine ⟨ob, kp a ob q1 (nP a ⟨i, q⟩), ?_⟩
      cases o with
      | fn ps b sc cl =>
        obtain ⟨fd, e, p1, p2, p3, p4, p5, p6, p7, ⟨c, co, vs, t, z1, z2, z3, z4, z5⟩, p9⟩ := q2
        exact ⟨fd, e, p1, p2, p3, p4, p5, p6, p7, ⟨c, co, vs, t, z1, z2, kc c co vs _ t z3 z4 z5, z4, z5⟩, p9⟩
      | _ => exact q2
    | none => rw [q] at this; exact this
  · obtain ⟨h1, h2, ps0, i0, t0, r0⟩ := R.tabs k hk
    obtain ⟨_, _, ps, i, t, r⟩ := R'.tabs k hk
    have done : ∀ c', h.get? c' = none ∨ TabHas h k c' → ¬ Has ad c' ∧ (B.h₀.get? c' = none ∨ TabHas B.h₀ k c') := fun c' q4 => by
      rcases q4 with q4 | ⟨ps1, i1, q5⟩
      · refine ⟨fun hm => by (obtain ⟨ob, z⟩ := R.there hm; rw [q4] at z; cases z), .inl ?_⟩
        cases e : B.h₀.get? c' with
        | none => rfl
        | some o =>
          exfalso
          by_cases z1 : Has ad c'
          · obtain ⟨ob, q⟩ := R.there z1; rw [q4] at q; cases q
          · by_cases z2 : c' ∈ B.codes.map (·.P)
            · obtain ⟨k', hkm, rfl⟩ := List.mem_map.mp z2
              obtain ⟨_, _, ps, _, ⟨_, t⟩, _⟩ := R.tabs k' hkm
              rw [q4] at t; cases t
            · rw [R.keep c' o e z2 z1] at q4; cases q4
      · have : ps1 = ps0 := IsCode.unique i1 i0
        subst this
        rcases r0 with r0 | ⟨c0, p1, p2, _, p4⟩
        · subst r0; simp [codeAmong] at q5
        · rw [q5] at p1; cases p1; exact ⟨p2, p4⟩
    exact ⟨h1, h2, ps, i, t, r.imp id fun ⟨c', q1, _, q3, q4⟩ => ⟨c', q1, (done c' q4).1, q3, (done c' q4).2⟩⟩

/-- an object that is nobody's turns -/
structure Loose (B : Bs) (ad : Ad) (h : Heap) (x : Addr) : Prop where
  off : ¬ Has ad x
  base : B.h₀.get? x = none
  top : x < B.lo → B.T.get? x = none
  there : ∃ ob, h.get? x = some ob ∧ ob.cls ≠ .none ∧ ob.cls ≠ .type "code" ∧ ∀ vs q t, ob.data = .fields vs → vs[1]? ≠ some (.str q t)

theorem Rep.loose (R : Rep B led ad h) {x : Addr} (L : Loose B ad h x) (hk : ∀ b y, b ≠ x → h.get? b = some y → h'.get? b = some y) : Rep B led ad h' := by
  obtain ⟨ox, hox, hc1, hc2, hc3⟩ := L.there
  have hne : ∀ a, Has ad a → a ≠ x := fun a ha z => L.off (z ▸ ha)
  have hcode : ∀ c (co : Obj) vs q t, h.get? c = some co → co.data = .fields vs → vs[1]? = some (.str q t) → h'.get? c = some co := fun c co vs q t e1 e2 e3 => hk c co (by rintro rfl; rw [hox] at e1; cases e1; exact hc3 _ _ _ e2 e3) e1
  refine ⟨R.len, fun i o e => ?_, R.inj, R.low, fun b o e hb hP => hk b o (by rintro rfl; rw [L.top hb] at e; cases e) (R.top b o e hb hP), fun b o e hP hb => hk b o (by rintro rfl; rw [L.base] at e; cases e) (R.keep b o e hP hb), R.fresh, R.n0, fun k hkm => ?_⟩
  · have := R.obj i o e
    cases q : adr ad i with
    | some a =>
      rw [q] at this; obtain ⟨ob, q1, q2⟩ := this
      refine ⟨ob, hk a ob (hne a ⟨i, q⟩) q1, ?_⟩
      cases o with
      | fn ps b sc cl =>
        obtain ⟨fd, e, p1, p2, p3, p4, p5, p6, p7, ⟨c, co, vs, t, z1, z2, z3, z4, z5⟩, p9⟩ := q2
        exact ⟨fd, e, p1, p2, p3, p4, p5, p6, p7, ⟨c, co, vs, t, z1, z2, hcode c co vs _ t z3 z4 z5, z4, z5⟩, p9⟩
      | _ => exact q2
    | none => rw [q] at this; exact this
  · obtain ⟨h1, h2, ps, i, t, r⟩ := R.tabs k hkm
    have hcx : k.c ≠ x := by
      obtain ⟨⟨oc, vc, hoc, hcc, _⟩, _⟩ := t
      rintro rfl; rw [hox] at hoc; cases hoc; exact hc2 hcc
    have hPx : k.P ≠ x := by
      rintro rfl
      have := t.2
      rw [hox] at this; cases this; exact hc1 rfl
    refine ⟨h1, h2, ps, ?_, ?_, r.imp id fun ⟨c', q1, q2, ⟨co, vs, tt, q3, q4, q5⟩, q6⟩ => ⟨c', q1, q2, ⟨co, vs, tt, hcode c' co vs _ tt q3 q4 q5, q4, q5⟩, q6⟩⟩
    · obtain ⟨o, vs, file, tf, flags, tg, inF, text, tt, op, e1, r1, r2, r3, r4, r5, r6, e2, r7⟩ := i
      exact ⟨o, vs, file, tf, flags, tg, inF, text, tt, op, hk _ _ hcx e1, r1, r2, r3, r4, r5, r6, hk _ _ hPx e2, r7⟩
    · obtain ⟨⟨oc, vc, hoc, hcc⟩, htP⟩ := t
      exact ⟨⟨oc, vc, hk _ _ hcx hoc, hcc⟩, hk _ _ hPx htP⟩
end
end Mine

namespace Mine

abbrev St := List O
inductive Flw where
  | next
  | ret (v : V)

structure Cx where
  scope : Scope
  ns : Nat
  cells : List (Str × Nat)
  code : Value
  qual : Str

structure FnRec where
  params : List Str
  body : List Stmt
  scope : Scope
  code : Value
  qual : Str

structure Cfg where
  glob : Str → Option V
  fns : Addr → Option FnRec
  cut : Addr → List V → St → Option (Res (V × St))
  pur : Addr → Bool
  codes : List CodeAt

structure Evs where
  ev : Cx → Expr → St → Res (V × St)
  tst : Cx → Expr → St → Res (Bool × St)
  exs : Cx → List Stmt → St → Res (Flw × St)
  call : V → List V → St → Res (V × St)

noncomputable def vTrue : V := .val (.bool true)
noncomputable def vFalse : V := .val (.bool false)
noncomputable def vBool (b : Bool) : V := .val (.bool b)
noncomputable def vNone : V := .val .none

noncomputable def dbg : Str := Str.ofString "__debug__"

-- names
noncomputable def loadN (c : Cfg) (cx : Cx) (x : Str) (st : St) : Res (V × St) :=
  match x == dbg with
  | true => .fail
  | false =>
    match cx.scope.names.lookup x with
    | some .local => match st[cx.ns]? with
      | some (.ns kvs) => match kvs.lookup x with
        | some v => .leaf (v, st)
        | none => .fail
      | _ => .fail
    | some .cell => match cx.cells.lookup x with
      | some i => match st[i]? with
        | some (.cell (some v)) => .leaf (v, st)
        | _ => .fail
      | none => .fail
    | some .free => match x == Str.ofString "__classdict__" with
      | true => .fail
      | false => match cx.cells.lookup x with
        | some i => match st[i]? with
          | some (.cell (some v)) => .leaf (v, st)
          | _ => .fail
        | none => .fail
    | some .globalImplicit => match c.glob x with
      | some v => .leaf (v, st)
      | none => .fail
    | _ => .fail

noncomputable def putKV (x : Str) (v : V) : List (Str × V) → List (Str × V)
  | [] => [(x, v)]
  | (y, w) :: r => match x == y with
    | true => (x, v) :: r
    | false => (y, w) :: putKV x v r

noncomputable def storeN (cx : Cx) (x : Str) (v : V) (st : St) : Res St :=
  match cx.scope.names.lookup x with
  | some .local => match st[cx.ns]? with
    | some (.ns kvs) => .leaf (st.set cx.ns (.ns (putKV x v kvs)))
    | _ => .fail
  | some .cell => match cx.cells.lookup x with
    | some i => match st[i]? with
      | some (.cell _) => .leaf (st.set i (.cell (some v)))
      | _ => .fail
    | none => .fail
  | _ => .fail

-- operators
/-- a frame stands at i -/
noncomputable def hasFr (i : Nat) (st : St) : Bool := match st[i]? with
  | some (.ns _) => true
  | _ => false

noncomputable def smallI (x : Int) : Bool := decide (x.natAbs < 2 ^ 64)

noncomputable def intOp : Operator → Int → Int → Option Int
  | .Add, x, y => some (x + y)
  | .Sub, x, y => some (x - y)
  | .Mult, x, y => match smallI x with | true => some (x * y) | false => none
  | .FloorDiv, x, y => match y == 0, smallI y with | false, true => some (x.fdiv y) | _, _ => none
  | .Mod, x, y => match y == 0 with | false => some (x.fmod y) | _ => none
  | .Pow, x, y => match decide (0 ≤ y ∧ y ≤ 1000), smallI x with | true, true => some (x ^ y.toNat) | _, _ => none
  | .LShift, x, y => match decide (0 ≤ y ∧ y ≤ 1000), smallI x with | true, true => some (x * 2 ^ y.toNat) | _, _ => none
  | .RShift, x, y => match decide (0 ≤ y) with | true => some (x.fdiv (2 ^ y.toNat)) | _ => none
  | .BitXor, x, y => some (Builtin.bitXor x y)
  | _, _, _ => none

noncomputable def fltOp : Operator → UInt64 → UInt64 → Option UInt64
  | .Add, x, y => some (Float64.add x y)
  | .Sub, x, y => some (Float64.sub x y)
  | .Mult, x, y => some (Float64.mul x y)
  | .Div, x, y => match Float64.isZero y with | false => some (Float64.div x y) | true => none
  | .Mod, x, y => match Float64.isZero y with | false => some (Float64.divmod x y).2 | true => none
  | _, _, _ => none

noncomputable def min4 (a b c d : Int) : Int := min (min a b) (min c d)
noncomputable def max4 (a b c d : Int) : Int := max (max a b) (max c d)

/-- symbolic ints with their bounds -/
noncomputable def symOp : Operator → Int → Int → IE → Int → Int → IE → Option V
  | .Add, l1, h1, x, l2, h2, y => some (.si (l1 + l2) (h1 + h2) (.add x y))
  | .Sub, l1, h1, x, l2, h2, y => some (.si (l1 - h2) (h1 - l2) (.sub x y))
  | .Mult, l1, h1, x, l2, h2, y => match smallI l1, smallI h1 with
    | true, true => some (.si (min4 (l1 * l2) (l1 * h2) (h1 * l2) (h1 * h2)) (max4 (l1 * l2) (l1 * h2) (h1 * l2) (h1 * h2)) (.mul x y))
    | _, _ => none
  | _, _, _, _, _, _, _ => none

noncomputable def lstOf : Option O → Option (List V)
  | some (.list vs) => some vs
  | some (.arr vs) => some vs
  | _ => none

noncomputable def newO (o : O) (st : St) : Res (V × St) := .leaf (.ref st.length, st ++ [o])

noncomputable def shortS (s : Str) : Bool := decide (s.length ≤ 1000)

noncomputable def binV (op : Operator) (a b : V) (st : St) : Res (V × St) :=
  match a, b with
  | .int x, .int y => match op with
    | .Div => match y == 0, smallI x with
      | false, true => .leaf (.flt (Float64.ofFrac (decide (x < 0) != decide (y < 0)) x.natAbs y.natAbs), st)
      | _, _ => .fail
    | op => match intOp op x y with | some z => .leaf (.int z, st) | none => .fail
  | .flt x, .flt y => match fltOp op x y with | some z => .leaf (.flt z, st) | none => .fail
  | .flt x, .int y => match op, smallI y with | .Mult, true => .leaf (.flt (Float64.mul x (Float64.ofInt y)), st) | _, _ => .fail
  | .str x, .str y => match op, shortS x, shortS y with | .Add, true, true => .leaf (.str (x ++ y), st) | _, _, _ => .fail
  | .si l h x, .si l' h' y => match symOp op l h x l' h' y with | some v => .leaf (v, st) | none => .fail
  | .si l h x, .int y => match symOp op l h x y y (.const y) with | some v => .leaf (v, st) | none => .fail
  | .int x, .si l' h' y => match symOp op x x (.const x) l' h' y with | some v => .leaf (v, st) | none => .fail
  | .ref k, .int n => match op, st[k]? with
    | .Mult, some (.list [.int z]) => match decide (0 ≤ n ∧ n ≤ 1000) with
      | true => newO (.arr (List.replicate n.toNat (.int z))) st
      | false => .fail
    | _, _ => .fail
  | _, _ => .fail

noncomputable def unV (op : UnaryOp) (a : V) (st : St) : Res (V × St) :=
  match op, a with
  | .USub, .int x => .leaf (.int (-x), st)
  | .Invert, .int x => .leaf (.int (Builtin.bitNot x), st)
  | _, _ => .fail

noncomputable def occIn (y x : Str) : Bool := !(Builtin.Str.occurrences x y 0 x.length 1).isEmpty

/-- a number, symbolic -/
noncomputable def numOf : V → Option IE
  | .int i => some (.const i)
  | .si _ _ f => some f
  | _ => none
noncomputable def numsOf : List V → Option (List IE)
  | [] => some []
  | v :: r => match numOf v, numsOf r with
    | some f, some l => some (f :: l)
    | _, _ => none
noncomputable def eqNums (ρ : Rho) : List IE → List IE → Bool
  | [], [] => true
  | x :: r, y :: t => x.den ρ == y.den ρ && eqNums ρ r t
  | _, _ => false
noncomputable def eqB : List IE → List IE → BE
  | [], [] => .tt true
  | x :: r, y :: t => .and (.isIn (.sub x y) [0]) (eqB r t)
  | _, _ => .tt false
noncomputable def anyB (x : List IE) : List (List IE) → BE
  | [] => .tt false
  | y :: r => .not (.and (.not (eqB y x)) (.not (anyB x r)))
noncomputable def emptyB : List (BE × V) → BE
  | [] => .tt true
  | (b, _) :: r => .and (.not b) (emptyB r)
noncomputable def indS (k s : Str) : Int := match s == k with
  | true => 1
  | false => 0
noncomputable def eqS (tab : List Str) (d : Str) (j : IE) (k : Str) : BE := .isIn (.pick (tab.map (indS k)) (indS k d) j) [1]
/-- the lists of numbers that the items of a list are -/
noncomputable def rowsOf (st : St) : List V → Option (List (List IE))
  | [] => some []
  | .ref k :: r => match st[k]? with
    | some (.list vs) => match numsOf vs, rowsOf st r with
      | some l, some ls => some (l :: ls)
      | _, _ => none
    | _ => none
  | _ :: _ => none

noncomputable def cmpV (op : CmpOp) (a b : V) (st : St) : Res (V × St) :=
  match a, b with
  | .int x, .int y => match op with
    | .Eq => .leaf (vBool (x == y), st)
    | .NotEq => .leaf (vBool (x != y), st)
    | .Lt => .leaf (vBool (decide (x < y)), st)
    | .LtE => .leaf (vBool (decide (x ≤ y)), st)
    | .Gt => .leaf (vBool (decide (y < x)), st)
    | .GtE => .leaf (vBool (decide (y ≤ x)), st)
    | _ => .fail
  | .flt x, .flt y => match op with
    | .Eq => .leaf (vBool (Float64.cmp x y == some .eq), st)
    | .LtE => .leaf (vBool (Float64.cmp x y == some .lt || Float64.cmp x y == some .eq), st)
    | _ => .fail
  | .str x, .str y => match op with
    | .Eq => .leaf (vBool (x == y), st)
    | .NotEq => .leaf (vBool (x != y), st)
    | .In => .leaf (vBool (occIn x y), st)
    | .NotIn => .leaf (vBool (!occIn x y), st)
    | _ => .fail
  | .ss tab d j, .str y => match op with
    | .Eq => .leaf (.sb (eqS tab d j y), st)
    | .NotEq => .leaf (.sb (.not (eqS tab d j y)), st)
    | _ => .fail
  | .si _ _ x, .int y => match op with
    | .Eq => .leaf (.sb (.isIn x [y]), st)
    | _ => .fail
  | .sb x, .val (.bool y) => match op with
    | .Eq => .leaf (.sb (match y with | true => x | false => .not x), st)
    | _ => .fail
  | .ref a, .ref b => match op, st[a]?, st[b]? with
    | .Eq, some (.flist vs), some (.list []) => .leaf (.sb (emptyB vs), st)
    | .Eq, some (.tuple vs), some (.tuple ws) => match numsOf vs, numsOf ws with
      | some x, some y => .leaf (.sb (eqB x y), st)
      | _, _ => .fail
    | .In, some (.list vs), some (.list ws) => match numsOf vs, rowsOf st ws with
      | some x, some ys => match ws.all fun w => noRefV a w with
        | true => .leaf (.sb (anyB x ys), st)
        | false => .fail
      | _, _ => .fail
    | _, _, _ => .fail
  | _, _ => .fail

noncomputable def truV : V → St → Res Bool
  | .int x, _ => .leaf (x != 0)
  | .str s, _ => match shortS s with | true => .leaf ((s.length : Int) != 0) | false => .fail
  | .sb b, _ => .ite b (.leaf true) (.leaf false)
  | .val (.bool b), _ => .leaf b
  | .val .none, _ => .leaf false
  | .ref k, st => match lstOf st[k]? with
    | some vs => match decide (vs.length ≤ 1000) with | true => .leaf ((vs.length : Int) != 0) | false => .fail
    | none => .fail
  | _, _ => .fail

/-- the place of an index -/
noncomputable def placeOf (n : Nat) (k : Int) : Option Nat :=
  match decide (0 ≤ k ∧ k < 1000000) with
  | true => some k.toNat
  | false => match decide (-(n : Int) ≤ k ∧ k < 0 ∧ n ≤ 1000) with
    | true => some (n + k).toNat
    | false => none

noncomputable def strsOf : List V → Option (List Str)
  | [] => some []
  | .str s :: r => match shortS s, strsOf r with | true, some l => some (s :: l) | _, _ => none
  | _ :: _ => none

noncomputable def itemV (a i : V) (st : St) : Res (V × St) :=
  match a, i with
  | .ref k, .int j => match lstOf st[k]? with
    | some vs => match placeOf vs.length j with
      | some p => match vs[p]? with | some v => .leaf (v, st) | none => .fail
      | none => .fail
    | none => .fail
  | .ref k, .si lo hi j => match lstOf st[k]? with
    | some vs => match strsOf vs, decide (0 ≤ lo ∧ hi < vs.length ∧ vs.length ≤ 1000) with
      | some l, true => .leaf (.ss l Str.empty j, st)
      | _, _ => .fail
    | none => .fail
  | .str s, .int j => match decide (-(s.length : Int) ≤ j ∧ j < s.length), shortS s with
    | true, true => .leaf (.str (Txt.item s j), st)
    | _, _ => .fail
  | _, _ => .fail

noncomputable def partV : V → Option (Option Int)
  | .int i => some (some i)
  | .val .none => some none
  | _ => none

noncomputable def sliceV (fr : Nat) (a lo hi sp : V) (st : St) : Res (V × St) :=
  match partV lo, partV hi, sp with
  | some l, some h, .val .none => match a with
    | .str s => match shortS s, hasFr fr st with | true, true => .leaf (.str (Txt.slice s l h), st) | _, _ => .fail
    | .ss tab d j => match hasFr fr st with | true => .leaf (.ss (tab.map fun s => Txt.slice s l h) (Txt.slice d l h) j, st) | false => .fail
    | .ref k => match lstOf st[k]?, l, h with
      | some vs, none, some n => match decide (0 ≤ n ∧ n ≤ 1000 ∧ vs.length ≤ 1000) with
        | true => newO (.list (vs.take n.toNat)) st
        | false => .fail
      | _, _, _ => .fail
    | _ => .fail
  | _, _, _ => .fail

noncomputable def setItemV (a i v : V) (st : St) : Res St :=
  match a, i with
  | .ref k, .int j => match lstOf st[k]? with
    | some vs => match decide (0 ≤ j ∧ j < vs.length ∧ j < 1000000) with
      | true => .leaf (st.set k (.arr (vs.set j.toNat v)))
      | false => .fail
    | none => .fail
  | _, _ => .fail

noncomputable def rangeL (a b c : Int) : List V := (rangeInts a c (Builtin.Range.rangeSize a b c).toNat).map .int

noncomputable def bLen (a : V) (st : St) : Res (V × St) := match a with
  | .str s => match shortS s with | true => .leaf (.int s.length, st) | false => .fail
  | .ref k => match lstOf st[k]? with
    | some vs => match decide (vs.length ≤ 1000) with | true => .leaf (.int vs.length, st) | false => .fail
    | none => .fail
  | _ => .fail
noncomputable def bTwo (id : String) (a b : V) (st : St) : Res (V × St) := match a with
  | .int x => match b with
    | .int y => match id == "min" with
      | true => .leaf (.int (if y < x then y else x), st)
      | false => match id == "divmod" with
        | true => match y == 0 || !smallI y with
          | false => newO (.tuple [.int (x.fdiv y), .int (x.fmod y)]) st
          | true => .fail
        | false => .fail
    | _ => .fail
  | _ => .fail
noncomputable def bThree (id : String) (a b c : V) (st : St) : Res (V × St) := match a with
  | .flt x => match b with
    | .flt y => match c with
      | .flt z => match id == "max" with
        | true => .leaf (.flt (
            let m := match Float64.cmp x y == some .lt with | true => y | false => x
            match Float64.cmp m z == some .lt with | true => z | false => m), st)
        | false => match id == "min" with
          | true => .leaf (.flt (
              let m := match Float64.cmp y x == some .lt with | true => y | false => x
              match Float64.cmp z m == some .lt with | true => z | false => m), st)
          | false => .fail
      | _ => .fail
    | _ => .fail
  | _ => .fail
noncomputable def builtinF (fr : Nat) (id : String) (args : List V) (st : St) : Res (V × St) := match args with
  | [a] => match id == "len" with | true => bLen a st | false => .fail
  | [a, b] => match hasFr fr st with | true => bTwo id a b st | false => .fail
  | [a, b, c] => bThree id a b c st
  | _ => .fail
noncomputable def tOne (fr : Nat) (t : String) (a : V) (st : St) : Res (V × St) := match a with
  | .int n => match t == "range" with
    | true => match decide (0 ≤ n ∧ n ≤ 1000) with | true => newO (.range 0 n 1) st | false => .fail
    | false => .fail
  | .ref k => match t == "list" with
    | true => match st[k]? with
      | some (.range a b c) => match decide (0 ≤ a ∧ a ≤ 1000 ∧ 0 ≤ b ∧ b ≤ 1000 ∧ 0 < c ∧ c ≤ 1000) with
        | true => match hasFr fr st with | true => newO (.list (rangeL a b c)) st | false => .fail
        | false => .fail
      | _ => .fail
    | false => .fail
  | .flt x => match t == "int" with
    | true => match Float64.decode x with
      | .fin sg m e => .leaf (.int (Float64.truncOf sg m e), st)
      | _ => .fail
    | false => .fail
  | _ => .fail
noncomputable def tThree (t : String) (a b c : V) (st : St) : Res (V × St) := match a with
  | .int a => match b with
    | .int b => match c with
      | .int c => match t == "range" with
        | true => match decide (0 ≤ a ∧ a ≤ 1000 ∧ 0 ≤ b ∧ b ≤ 1000 ∧ 0 < c ∧ c ≤ 1000) with
          | true => newO (.range a b c) st
          | false => .fail
        | false => .fail
      | _ => .fail
    | _ => .fail
  | _ => .fail
noncomputable def typeF (fr : Nat) (t : String) (args : List V) (st : St) : Res (V × St) := match args with
  | [a] => tOne fr t a st
  | [a, b, c] => tThree t a b c st
  | _ => .fail
noncomputable def builtinV (fr : Nat) (f : Value) (args : List V) (st : St) : Res (V × St) := match f with
  | .builtin id => builtinF fr id args st
  | .type t => typeF fr t args st
  | _ => .fail

/-- the method of a value -/
noncomputable def methList (name : Str) : Option String := match name == Str.ofString "append" with
  | true => some "list.append"
  | false => match name == Str.ofString "reverse" with
    | true => some "list.reverse"
    | false => match name == Str.ofString "count" with
      | true => some "list.count"
      | false => none
noncomputable def methStr (name : Str) : Option String := match name == Str.ofString "upper" with
  | true => some "str.upper"
  | false => match name == Str.ofString "lower" with
    | true => some "str.lower"
    | false => match name == Str.ofString "join" with
      | true => some "str.join"
      | false => match name == Str.ofString "split" with
        | true => some "str.split"
        | false => match name == Str.ofString "find" with
          | true => some "str.find"
          | false => none
noncomputable def methId (name : Str) (o : V) (st : St) : Option String :=
  match o with
  | .ref k => match st[k]? with
    | some (.list _) => methList name
    | _ => none
  | .str _ => methStr name
  | .int _ => match name == Str.ofString "bit_length" with
    | true => some "int.bit_length"
    | false => none
  | _ => none

/-- strs, some symbolic -/
noncomputable def anyStrs : List V → Option (List (List Str × Str × IE))
  | [] => some []
  | .str s :: r => (anyStrs r).map (([], s, .const 0) :: ·)
  | .ss tab d j :: r => (anyStrs r).map ((tab, d, j) :: ·)
  | _ :: _ => none
noncomputable def cntE (k : Str) : List (List Str × Str × IE) → IE
  | [] => .const 0
  | (tab, d, j) :: r => .add (.pick (tab.map (indS k)) (indS k d) j) (cntE k r)
noncomputable def strAt (ρ : Rho) (p : List Str × Str × IE) : Str := ssD p.1 p.2.1 p.2.2 ρ

noncomputable def cntS (k : Str) : List Str → Int
  | [] => 0
  | s :: r => match s == k with | true => 1 + cntS k r | false => cntS k r

noncomputable def mApp (id : String) (k : Nat) (v : V) (st : St) : Res (V × St) := match st[k]? with
  | some (.list vs) => match decide (vs.length ≤ 1000) with
    | true => match id == "list.append" with
      | true => .leaf (vNone, st.set k (.list (vs ++ [v])))
      | false => match id == "list.count" with
        | true => match v with
          | .str z => match anyStrs vs with
            | some l => .leaf (.si 0 l.length (cntE z l), st)
            | none => .fail
          | _ => .fail
        | false => .fail
    | false => .fail
  | _ => .fail
noncomputable def mRev (id : String) (k : Nat) (st : St) : Res (V × St) := match id == "list.reverse" with
  | true => match st[k]? with
    | some (.list vs) => match decide (vs.length ≤ 1000) with
      | true => .leaf (vNone, st.set k (.list vs.reverse))
      | false => .fail
    | _ => .fail
  | false => .fail
noncomputable def mStr0 (id : String) (s : Str) (st : St) : Res (V × St) := match shortS s with
  | true => match id == "str.upper" with
    | true => .leaf (.str (Txt.upper s), st)
    | false => match id == "str.lower" with
      | true => .leaf (.str (Txt.lower s), st)
      | false => .fail
  | false => .fail
noncomputable def mJoin (id : String) (s : Str) (k : Nat) (st : St) : Res (V × St) := match id == "str.join" with
  | true => match lstOf st[k]? with
    | some vs => match strsOf vs with
      | some l => match JoinOk s l with
        | true => .leaf (.str (Txt.join s l), st)
        | false => .fail
      | none => .fail
    | none => .fail
  | false => .fail
noncomputable def mSplit (id : String) (s t : Str) (st : St) : Res (V × St) := match id == "str.split" && shortS s && !(t.length == 0) with
  | true => match decide ((Txt.split s t).length ≤ 1000) with
    | true => newO (.list ((Txt.split s t).map .str)) st
    | false => .fail
  | false => .fail
noncomputable def mFind (id : String) (s t : Str) (i j : Int) (st : St) : Res (V × St) := match id == "str.find" with
  | true => match decide (0 ≤ i ∧ i ≤ 1000 ∧ 0 ≤ j ∧ j ≤ 1000) with
    | true => .leaf (.int (match Builtin.Str.occurrences s t i.toNat (min j.toNat s.length) 1 with | k :: _ => (k : Int) | [] => -1), st)
    | false => .fail
  | false => .fail
noncomputable def mStr1 (id : String) (s : Str) (a : V) (st : St) : Res (V × St) := match a with
  | .ref k => mJoin id s k st
  | .str t => mSplit id s t st
  | _ => .fail
noncomputable def mStr3 (id : String) (s : Str) (a b c : V) (st : St) : Res (V × St) := match a with
  | .str t => match b with
    | .int i => match c with
      | .int j => mFind id s t i j st
      | _ => .fail
    | _ => .fail
  | _ => .fail
noncomputable def methC (id : String) (o : V) (args : List V) (st : St) : Res (V × St) :=
  match o with
  | .ref k => match args with
    | [v] => mApp id k v st
    | [] => mRev id k st
    | _ => .fail
  | .str s => match args with
    | [] => mStr0 id s st
    | [a] => mStr1 id s a st
    | [a, b, c] => mStr3 id s a b c st
    | _ => .fail
  | .int x => match args with
    | [] => match id == "int.bit_length" with
      | true => .leaf (.int (Builtin.Int.intBits x), st)
      | false => .fail
    | _ => .fail
  | _ => .fail

noncomputable def plainB (a : Arguments) : Bool := a.posonlyargs.isEmpty && a.vararg.isNone && a.kwonlyargs.isEmpty && a.kwarg.isNone && a.kw_defaults.isEmpty && a.defaults.isEmpty && a.args.all (·.annotation.isNone)

noncomputable def evOpt (r : Evs) (cx : Cx) : Option Expr → St → Res (V × St)
  | none, st => .leaf (vNone, st)
  | some e, st => r.ev cx e st

noncomputable def evL (r : Evs) (cx : Cx) : List Expr → St → Res (List V × St)
  | [], st => .leaf ([], st)
  | e :: es, st => (r.ev cx e st).bnd fun p => (evL r cx es p.2).bnd fun q => .leaf (p.1 :: q.1, q.2)

noncomputable def noStar : List Expr → Bool
  | [] => true
  | .Starred .. :: _ => false
  | _ :: r => noStar r

inductive It where
  | lst (l i : Nat)
  | rng (x left step : Int)
  | str (s : Str) (i : Nat)
  | rev (l : Nat) (i : Int)

/-- an iterator over a value -/
noncomputable def iterV (a : V) (st : St) : Res It :=
  match a with
  | .ref k => match st[k]? with
    | some (.list _) => .leaf (.lst k 0)
    | some (.arr _) => .leaf (.lst k 0)
    | some (.range x y z) => match decide (0 ≤ x ∧ x ≤ 1000 ∧ 0 ≤ y ∧ y ≤ 1000 ∧ 0 < z ∧ z ≤ 1000) with
      | true => .leaf (.rng x (Builtin.Range.rangeSize x y z) z)
      | false => .fail
    | _ => .fail
  | .str s => match s.cps.all (· < 128) with | true => .leaf (.str s 0) | false => .fail
  | _ => .fail

/-- one draw: the item, or the end -/
noncomputable def drawV (it : It) (st : St) : Res (Option (V × It)) :=
  match it with
  | .lst l i => match lstOf st[l]? with
    | some vs => match vs[i]? with
      | some v => .leaf (some (v, .lst l (i + 1)))
      | none => .leaf none
    | none => .fail
  | .rng x left step => match decide (0 < left) with
    | true => .leaf (some (.int x, .rng (x + step) (left - 1) step))
    | false => .leaf none
  | .str s i => match s.cps[i]? with
    | some c => .leaf (some (.str ⟨#[c]⟩, .str s (i + 1)))
    | none => .leaf none
  | .rev l i => match lstOf st[l]? with
    | some vs => match decide (0 ≤ i ∧ i < 1000000) with
      | true => match vs[i.toNat]? with
        | some v => .leaf (some (v, .rev l (i - 1)))
        | none => .fail
      | false => match decide (i = -1) with
        | true => .leaf none
        | false => .fail
    | none => .fail

noncomputable def forV (r : Evs) (cx : Cx) (x : Str) (body : List Stmt) : Nat → It → St → Res (Flw × St)
  | 0, _, _ => .fail
  | n + 1, it, st => (drawV it st).bnd fun p => match p with
    | none => .leaf (.next, st)
    | some (v, it') => (storeN cx x v st).bnd fun st1 => (r.exs cx body st1).bnd fun q => match q.1 with
      | .next => forV r cx x body n it' q.2
      | .ret v => .leaf (.ret v, q.2)

noncomputable def whileV (r : Evs) (cx : Cx) (test : Expr) (body : List Stmt) : Nat → St → Res (Flw × St)
  | 0, _ => .fail
  | n + 1, st => (r.tst cx test st).bnd fun p => match p.1 with
    | false => .leaf (.next, p.2)
    | true => (r.exs cx body p.2).bnd fun q => match q.1 with
      | .next => whileV r cx test body n q.2
      | .ret v => .leaf (.ret v, q.2)

/-- assignment to a target -/
noncomputable def asgAll (f : Expr → V → St → Res St) : List Expr → List V → St → Res St
  | [], [], st => .leaf st
  | t :: ts, v :: vs, st => (f t v st).bnd fun st1 => asgAll f ts vs st1
  | _, _, _ => .fail

noncomputable def notSlice : Expr → Bool
  | .Slice .. => false
  | _ => true

noncomputable def isName : Expr → Bool
  | .Name .. => true
  | _ => false

noncomputable def asgName (cx : Cx) : Expr → V → St → Res St
  | .Name x _, v, st => storeN cx x v st
  | _, _, _ => .fail


noncomputable def relabelS (scope outer : Scope) : Scope :=
  { scope with names := scope.names.map fun (n, k) => if (k == .free && outer.kind == .function && outer.names.lookup n == some .cell) then (n, .cell) else (n, k) }

/-- the cells that a scope closes over -/
noncomputable def closA (cells : List (Str × Nat)) : List (Str × NameKind) → List (Str × Nat) → Option (List (Str × Nat))
  | [], acc => some acc
  | (n, k) :: r, acc => match k == .free with
    | true => match cells.lookup n with
      | some i => closA cells r ((n, i) :: acc)
      | none => none
    | false => closA cells r acc

noncomputable def layA : List (Str × NameKind) → List (Str × Nat) → St → List (Str × Nat) × St
  | [], acc, st => (acc, st)
  | (n, k) :: r, acc, st => match k == .cell with
    | true => layA r ((n, st.length) :: acc) (st ++ [.cell none])
    | false => layA r acc st

noncomputable def storeAll (cx : Cx) : List (Str × V) → St → Res St
  | [], st => .leaf st
  | (x, v) :: r, st => (storeN cx x v st).bnd fun st1 => storeAll cx r st1

noncomputable def newCx (scope : Scope) (cells : List (Str × Nat)) (code : Value) (qual : Str) (st : St) : Cx × St :=
  let q := layA scope.names cells (st ++ [.ns []])
  (⟨scope, st.length, q.1, code, qual⟩, q.2)

noncomputable def bindsA (params : List Str) (args : List V) : List (Str × V) := params.filterMap fun n => ((params.zip args).lookup n).map (n, ·)

noncomputable def isFun (s : Scope) : Bool := match s.kind, s.isGenerator, s.isCoroutine with
  | .function, false, false => true
  | _, _, _ => false

noncomputable def callBody (r : Evs) (f : FnRec) (cells : List (Str × Nat)) (args : List V) (st : St) : Res (V × St) :=
  match isFun f.scope, decide (args.length = f.params.length), f.params.all fun n => ((f.params.zip args).lookup n).isSome with
  | true, true, true =>
    let q := newCx f.scope cells f.code f.qual st
    (storeAll q.1 (bindsA f.params args) q.2).bnd fun st1 => (r.exs q.1 f.body st1).bnd fun p => match p.1 with
      | .next => .leaf (vNone, p.2)
      | .ret v => .leaf (v, p.2)
  | _, _, _ => .fail

noncomputable def flat : V → Bool
  | .ref _ => false
  | _ => true

noncomputable def callV (c : Cfg) (r : Evs) (f : V) (args : List V) (st : St) : Res (V × St) :=
  match f with
  | .val (.ref a) => match c.cut a args st with
    | some x => x
    | none => match c.fns a with
      | some fr => match c.pur a, args.all flat with
        | true, true => (callBody r fr [] args []).bnd fun p => match flat p.1 with
          | true => .leaf (p.1, st)
          | false => .fail
        | _, _ => callBody r fr [] args st
      | none => .fail
  | .ref k => match st[k]? with
    | some (.fn params body scope cells) => callBody r ⟨params, body, scope, .none, Str.empty⟩ cells args st
    | _ => .fail
  | _ => .fail

noncomputable def okIter : Expr → Bool
  | .Set .. => false
  | _ => true

/-- the loop of a comprehension without tests -/
noncomputable def compV (r : Evs) (cx : Cx) (x : Str) (elt : Expr) (a : Nat) : Nat → It → St → Res St
  | 0, _, _ => .fail
  | n + 1, it, st => (drawV it st).bnd fun p => match p with
    | none => .leaf st
    | some (v, it') => (storeN cx x v st).bnd fun st1 => (r.ev cx elt st1).bnd fun q => match q.2[a]? with
      | some (.list vs) => match decide (vs.length ≤ 1000) with
        | true => compV r cx x elt a n it' (q.2.set a (.list (vs ++ [q.1])))
        | false => .fail
      | _ => .fail

/-- the loop of a comprehension with one test: the items are flagged -/
noncomputable def compT (c : Cfg) (r : Evs) (cx : Cx) (x : Str) (l : Expr) (op : CmpOp) (y : Expr) (z : Str) (a : Nat) : Nat → It → St → Res St
  | 0, _, _ => .fail
  | n + 1, it, st => (drawV it st).bnd fun p => match p with
    | none => .leaf st
    | some (v, it') => (storeN cx x v st).bnd fun st1 => (r.ev cx l st1).bnd fun u => (r.ev cx y u.2).bnd fun w => (cmpV op u.1 w.1 w.2).bnd fun t => match t.1 with
      | .sb b => (loadN c cx z t.2).bnd fun q => match t.2[a]? with
        | some (.flist vs) => match decide (vs.length ≤ 1000) with
          | true => compT c r cx x l op y z a n it' (t.2.set a (.flist (vs ++ [(b, q.1)])))
          | false => .fail
        | _ => .fail
      | _ => .fail

noncomputable def killO (k : Nat) (st : St) : Res St :=
  let st' := st.set k .other
  match st'.all (noRefO k), st[k]? with
  | true, some (.ns _) => .leaf st'
  | _, _ => .fail

noncomputable def useV (cx : Cx) (use : Option Str) (a : Nat) (st : St) : Res St :=
  match use with
  | none => .leaf st
  | some y => storeN cx y (.ref a) st

noncomputable def namesOk (s : Scope) : Bool := s.names.all fun y => y.2 != .local || s.names.lookup y.1 == some .local

noncomputable def compBody (c : Cfg) (r : Evs) (cx : Cx) (elt : Expr) (x : Str) (ifs : List Expr) (a : Nat) (it : It) (st : St) : Res St :=
  match ifs with
  | [] => compV r cx x elt a 64 it (st ++ [.list [], .ns []])
  | [.Compare l [op] [y] _] => match behindInMarks op y, elt with
    | false, .Name z _ => compT c r cx x l op y z a 64 it (st ++ [.flist [], .ns []])
    | _, _ => .fail
  | _ => .fail

noncomputable def compE (c : Cfg) (r : Evs) (cx : Cx) (elt : Expr) (x : Str) (iter : Expr) (ifs : List Expr) (scope : Scope) (use : Option Str) (st : St) : Res (Nat × St) :=
  match okIter iter, closA cx.cells scope.names [], isFun scope, scope.names.all fun y => y.2 != .cell, namesOk scope with
  | true, some cl, true, true, true => (r.ev cx iter st).bnd fun p => (iterV p.1 p.2).bnd fun it =>
      (compBody c r ⟨relabelS scope cx.scope, p.2.length + 1, cl, cx.code, cx.qual⟩ elt x ifs p.2.length it p.2).bnd fun st1 => (useV cx use p.2.length st1).bnd fun st2 => (killO (p.2.length + 1) st2).bnd fun st3 => .leaf (p.2.length, st3)
  | _, _, _, _, _ => .fail

noncomputable def isComp : Expr → Bool
  | .ListComp .. => true
  | .SetComp .. => true
  | .DictComp .. => true
  | _ => false

noncomputable def swapComp (cx : Cx) (y : Str) (py : Pos) (scope : Scope) (pos : Pos) : Bool :=
  cx.scope.names.lookup y == some .local && py.line == pos.line && !(scope.names.any fun (n, k) => n == y && (k == .local || k == .cell))

noncomputable def swapOf (cx : Cx) (ts : List Expr) : List Str :=
  let line := (ts.head?.map (·.pos.line)).getD 0
  ts.filterMap fun
    | .Name id pos => if cx.scope.names.lookup id == some .local && pos.line == line then some id else none
    | _ => none

/-- the names of a swap of stores -/
noncomputable def swapNames (cx : Cx) (ts vs : List Expr) : Option (List Str) :=
  match !(ts.length == 2 || ts.length == 3) || vs.length != ts.length, vs.any (fun | .Starred .. => true | _ => false),
    (swapOf cx ts).length != ts.length || (swapOf cx ts).eraseDups.length != (swapOf cx ts).length, vs.all (foldedForSure 8), vs.all (constantsAlone 8) with
  | false, false, false, false, false => some (swapOf cx ts)
  | _, _, _, _, _ => none

noncomputable def isCall : Expr → Bool
  | .Call .. => true
  | _ => false

/-- += and its like, of ints -/
noncomputable def augV (op : Operator) (a b : V) (st : St) : Res (V × St) :=
  match a, b with
  | .int x, .int y => match op with
    | .Add => .leaf (.int (x + y), st)
    | .Sub => .leaf (.int (x - y), st)
    | .LShift => match decide (0 ≤ y ∧ y ≤ 1000), smallI x with | true, true => .leaf (.int (x * 2 ^ y.toNat), st) | _, _ => .fail
    | .RShift => match decide (0 ≤ y) with | true => .leaf (.int (x.fdiv (2 ^ y.toNat)), st) | _ => .fail
    | _ => .fail
  | .si l h x, .si l' h' y => match op with
    | .Add => .leaf (.si (l + l') (h + h') (.add x y), st)
    | _ => .fail
  | .si l h x, .int y => match op with
    | .Add => .leaf (.si (l + y) (h + y) (.add x (.const y)), st)
    | _ => .fail
  | .int x, .si l' h' y => match op with
    | .Add => .leaf (.si (x + l') (x + h') (.add (.const x) y), st)
    | _ => .fail
  | _, _ => .fail

noncomputable def nameOf : Expr → Option Str
  | .Name x _ => some x
  | _ => none
theorem nameOf_eq {e : Expr} {x : Str} (h : nameOf e = some x) : ∃ p, e = .Name x p := by
  cases e with
  | Name y p => cases h; exact ⟨p, rfl⟩
  | _ => cases h
/-- the one 'for' of a comprehension -/
noncomputable def genOf : List Comprehension → Option (Str × Expr × List Expr)
  | [g] => match nameOf g.target with
    | some x => match g.is_async == 0 with
      | true => some (x, g.iter, g.ifs)
      | false => none
    | none => none
  | _ => none
theorem genOf_eq {gs : List Comprehension} {x : Str} {iter : Expr} {ifs : List Expr} (h : genOf gs = some (x, iter, ifs)) : ∃ p, gs = [⟨.Name x p, iter, ifs, 0⟩] := by
  cases gs with
  | nil => cases h
  | cons g r => cases r with
    | cons g' r => cases h
    | nil =>
      obtain ⟨t, i, f, a⟩ := g
      unfold genOf at h
      dsimp only at h
      split at h
      · rename_i y hy
        obtain ⟨p, rfl⟩ := nameOf_eq hy
        split at h
        · rename_i ha
          cases h
          rw [eq_of_beq ha]; exact ⟨p, rfl⟩
        · cases h
      · cases h
noncomputable def exTupTup (r : Evs) (cx : Cx) (ts : List Expr) (vs : List Expr) (v : Expr) (st : St) : Res (Flw × St) := match swapNames cx ts vs with
  | some names => (r.ev cx v st).bnd fun p => match p.1 with
    | .ref i => match p.2[i]? with
      | some (.tuple ws) => match decide (ws.length = names.length) with
        | true => (storeAll cx (names.reverse.zip ws.reverse) p.2).bnd fun st1 => .leaf (.next, st1)
        | false => .fail
      | _ => .fail
    | _ => .fail
  | none => .fail
noncomputable def exTupCall (r : Evs) (cx : Cx) (ts : List Expr) (v : Expr) (st : St) : Res (Flw × St) := (r.ev cx v st).bnd fun p => match p.1 with
  | .ref i => match p.2[i]? with
    | some (.tuple ws) => match decide (ws.length = ts.length) && ts.all isName with
      | true => (asgAll (asgName cx) ts ws p.2).bnd fun st1 => .leaf (.next, st1)
      | false => .fail
    | _ => .fail
  | _ => .fail
noncomputable def exNameC (c : Cfg) (r : Evs) (cx : Cx) (y : Str) (py : Pos) (v : Expr) (st : St) : Res (Flw × St) := match v with
  | .ListComp elt gens scope pos => match genOf gens with
    | some (x, iter, ifs) => match swapComp cx y py scope pos with
      | true => (compE c r cx elt x iter ifs scope (some y) st).bnd fun p => .leaf (.next, p.2)
      | false => .fail
    | none => .fail
  | _ => .fail
noncomputable def exTup (r : Evs) (cx : Cx) (ts : List Expr) (v : Expr) (st : St) : Res (Flw × St) := match v with
  | .Tuple vs k pos => exTupTup r cx ts vs (.Tuple vs k pos) st
  | .Call f as ks pos => match ks with
    | [] => exTupCall r cx ts (.Call f as [] pos) st
    | _ => .fail
  | _ => .fail
noncomputable def exAsg1 (c : Cfg) (r : Evs) (cx : Cx) (t v : Expr) (st : St) : Res (Flw × St) := match t with
  | .Name y py => match isComp v with
    | false => (r.ev cx v st).bnd fun p => (storeN cx y p.1 p.2).bnd fun st1 => .leaf (.next, st1)
    | true => exNameC c r cx y py v st
  | .Tuple ts _ _ => exTup r cx ts v st
  | .Subscript o i _ => match isComp v with
    | false => (r.ev cx v st).bnd fun p => (r.ev cx o p.2).bnd fun q => (r.ev cx i q.2).bnd fun w => (setItemV q.1 w.1 p.1 w.2).bnd fun st1 => .leaf (.next, st1)
    | true => .fail
  | _ => .fail
noncomputable def exAsg2 (r : Evs) (cx : Cx) (t u v : Expr) (st : St) : Res (Flw × St) := match nameOf t with
  | some y => match nameOf u with
    | some z => match isComp v with
      | false => (r.ev cx v st).bnd fun p => (storeN cx y p.1 p.2).bnd fun st1 => (storeN cx z p.1 st1).bnd fun st2 => .leaf (.next, st2)
      | true => .fail
    | none => .fail
  | none => .fail
noncomputable def exAug (c : Cfg) (r : Evs) (cx : Cx) (t : Expr) (op : Operator) (v : Expr) (st : St) : Res (Flw × St) := match t with
  | .Name x _ => (loadN c cx x st).bnd fun p => (r.ev cx v p.2).bnd fun q => (augV op p.1 q.1 q.2).bnd fun w => (storeN cx x w.1 w.2).bnd fun st1 => .leaf (.next, st1)
  | .Subscript o i _ => match notSlice i with
    | false => .fail
    | true => (r.ev cx o st).bnd fun p => (r.ev cx i p.2).bnd fun q => (itemV p.1 q.1 q.2).bnd fun w => (r.ev cx v w.2).bnd fun z => (augV op w.1 z.1 z.2).bnd fun y => (setItemV p.1 q.1 y.1 y.2).bnd fun st1 => .leaf (.next, st1)
  | _ => .fail
/-- a call of a name with one argument -/
noncomputable def revOf : Expr → Option (Str × Expr)
  | .Call f as ks _ => match nameOf f with
    | some x => match as with
      | [e] => match ks with
        | [] => some (x, e)
        | _ => none
      | _ => none
    | none => none
  | _ => none
theorem revOf_eq {e : Expr} {x : Str} {a : Expr} (h : revOf e = some (x, a)) : ∃ p q, e = .Call (.Name x p) [a] [] q := by
  cases e with
  | Call f as ks q =>
    unfold revOf at h
    dsimp only at h
    split at h
    · rename_i y hy
      obtain ⟨p, rfl⟩ := nameOf_eq hy
      split at h
      · split at h
        · cases h; exact ⟨p, q, rfl⟩
        · cases h
      · cases h
    · cases h
  | _ => cases h
noncomputable def exForRev (c : Cfg) (r : Evs) (cx : Cx) (x f : Str) (e : Expr) (b : List Stmt) (st : St) : Res (Flw × St) := match noStar [e] with
  | false => .fail
  | true => (loadN c cx f st).bnd fun p => match p.1 with
    | .val (.type t) => match t == "reversed" with
      | true => (r.ev cx e p.2).bnd fun q => match q.1 with
        | .ref k => match lstOf q.2[k]? with
          | some vs => match decide (vs.length ≤ 1000) with
            | true => forV r cx x b 64 (.rev k ((vs.length : Int) - 1)) q.2
            | false => .fail
          | none => .fail
        | _ => .fail
      | false => (r.ev cx e p.2).bnd fun q => (builtinV cx.ns (.type t) [q.1] q.2).bnd fun w => (iterV w.1 w.2).bnd fun it => forV r cx x b 64 it w.2
    | _ => .fail
noncomputable def exFor (c : Cfg) (r : Evs) (cx : Cx) (t iter : Expr) (b e : List Stmt) (st : St) : Res (Flw × St) := match nameOf t with
  | some x => match e with
    | [] => match revOf iter with
      | some (f, a) => exForRev c r cx x f a b st
      | none => match okIter iter with
        | true => (r.ev cx iter st).bnd fun p => (iterV p.1 p.2).bnd fun it => forV r cx x b 64 it p.2
        | false => .fail
    | _ => .fail
  | none => .fail
noncomputable def exExpr (r : Evs) (cx : Cx) (e : Expr) (st : St) : Res (Flw × St) := match isCall e with
  | true => (r.ev cx e st).bnd fun p => match p.1 with
    | .val .none => .leaf (.next, p.2)
    | _ => .fail
  | false => .fail
noncomputable def exDef (c : Cfg) (cx : Cx) (name : Str) (args : Arguments) (body : List Stmt) (scope : Scope) (pos : Pos) (st : St) : Res (Flw × St) := match closA cx.cells scope.names [] with
  | some cl => match cx.code with
    | .ref a => match plainB args && cx.scope.names.lookup name != some .globalExplicit with
      | true => match c.codes.find? fun k => k.c == a && k.pos == pos && k.qual == cx.qual ++ name with
        | some _ => (newO (.fn (args.args.map (·.arg)) body scope cl) st).bnd fun p => (storeN cx name p.1 p.2).bnd fun st1 => .leaf (.next, st1)
        | none => .fail
      | false => .fail
    | _ => .fail
  | none => .fail
noncomputable def noneL {α : Type} : List α → Bool
  | [] => true
  | _ => false
noncomputable def noneO {α : Type} : Option α → Bool
  | none => true
  | _ => false
theorem noneL_eq {α : Type} {l : List α} (h : noneL l = true) : l = [] := by cases l <;> first | rfl | (cases h)
theorem noneO_eq {α : Type} {l : Option α} (h : noneO l = true) : l = none := by cases l <;> first | rfl | (cases h)
noncomputable def exS (c : Cfg) (r : Evs) (cx : Cx) (s : Stmt) (st : St) : Res (Flw × St) :=
  match s with
  | .Assign ts v _ => match ts with
    | [t] => exAsg1 c r cx t v st
    | [t, u] => exAsg2 r cx t u v st
    | _ => .fail
  | .AugAssign t op v _ => exAug c r cx t op v st
  | .If t b o _ => (r.tst cx t st).bnd fun p => match p.1 with
    | true => r.exs cx b p.2
    | false => r.exs cx o p.2
  | .While t b e _ => match noneL e with
    | true => whileV r cx t b 20 st
    | false => .fail
  | .For t iter b e _ => exFor c r cx t iter b e st
  | .Return o _ => match o with
    | some e => (r.ev cx e st).bnd fun p => .leaf (.ret p.1, p.2)
    | none => .leaf (.ret vNone, st)
  | .Expr e _ => exExpr r cx e st
  | .Assert t m _ => match noneO m with
    | true => (r.tst cx t st).bnd fun p => match p.1 with
      | true => .leaf (.next, p.2)
      | false => .fail
    | false => .fail
  | .FunctionDef name args body ds rt tp scope cl bnd' pos => match noneL ds && noneO rt && noneL tp && noneO cl && bnd' == name with
    | true => exDef c cx name args body scope pos st
    | false => .fail
  | _ => .fail

noncomputable def exL (c : Cfg) (r : Evs) (cx : Cx) : List Stmt → St → Res (Flw × St)
  | [], st => .leaf (.next, st)
  | s :: rest, st => (exS c r cx s st).bnd fun p => match p.1 with
    | .next => exL c r cx rest p.2
    | .ret v => .leaf (.ret v, p.2)

noncomputable def notCall : Expr → Bool
  | .Call .. => false
  | _ => true

noncomputable def callF (fr : Nat) (r : Evs) (f : V) (args : List V) (st : St) : Res (V × St) :=
  match f with
  | .val (.builtin id) => builtinV fr (.builtin id) args st
  | .val (.type t) => builtinV fr (.type t) args st
  | f => r.call f args st

noncomputable def evK (k : Const) (st : St) : Res (V × St) := match k with
  | .int i => .leaf (.int i, st)
  | .float b => .leaf (.flt b, st)
  | .str s => .leaf (.str s, st)
  | .none => .leaf (vNone, st)
  | .bool b => .leaf (vBool b, st)
  | _ => .fail
noncomputable def isSetE : Expr → Bool
  | .Set .. => true
  | _ => false
noncomputable def one {α : Type} : List α → Option α
  | [a] => some a
  | _ => none
theorem one_eq {α : Type} {l : List α} {a : α} (h : one l = some a) : l = [a] := by
  cases l with
  | nil => cases h
  | cons x r => cases r <;> first | (cases h; rfl) | (cases h)
noncomputable def evCmp (r : Evs) (cx : Cx) (l : Expr) (op : CmpOp) (y : Expr) (st : St) : Res (V × St) := match isSetE y with
  | true => .fail
  | false => (r.ev cx l st).bnd fun p => (r.ev cx y p.2).bnd fun q => cmpV op p.1 q.1 q.2
noncomputable def evMeth (r : Evs) (cx : Cx) (o : Expr) (name : Str) (apos : Pos) (as : List Expr) (pos : Pos) (st : St) : Res (V × St) := match noStar as && decide (as.length < 20) && apos.endLine == pos.line && notCall o with
  | true => (r.ev cx o st).bnd fun p => match methId name p.1 p.2 with
    | some id => (evL r cx as p.2).bnd fun q => methC id p.1 q.1 q.2
    | none => .fail
  | false => .fail
noncomputable def evFn (r : Evs) (cx : Cx) (f : Expr) (as : List Expr) (st : St) : Res (V × St) := match noStar as && decide (as.length < 20) with
  | true => (r.ev cx f st).bnd fun p => (evL r cx as p.2).bnd fun q => callF cx.ns r p.1 q.1 q.2
  | false => .fail
noncomputable def attrOf : Expr → Option (Expr × Str × Pos)
  | .Attribute o name apos => some (o, name, apos)
  | _ => none
noncomputable def sliceOf : Expr → Option (Option Expr × Option Expr × Option Expr)
  | .Slice lo hi sp _ => some (lo, hi, sp)
  | _ => none
noncomputable def evBool (r : Evs) (cx : Cx) (op : BoolOp) (x y : Expr) (st : St) : Res (V × St) := (r.ev cx x st).bnd fun p => (truV p.1 p.2).bnd fun b => match op, b with
  | .And, false => .leaf p
  | .Or, true => .leaf p
  | _, _ => r.ev cx y p.2
noncomputable def evE (c : Cfg) (r : Evs) (cx : Cx) (e : Expr) (st : St) : Res (V × St) :=
  match e with
  | .Constant k _ _ => evK k st
  | .Name x _ => loadN c cx x st
  | .BinOp l op y _ => (r.ev cx l st).bnd fun p => (r.ev cx y p.2).bnd fun q => binV op p.1 q.1 q.2
  | .UnaryOp op x _ => (r.ev cx x st).bnd fun p => unV op p.1 p.2
  | .Compare l ops ys _ => match one ops with
    | some op => match one ys with
      | some y => evCmp r cx l op y st
      | none => .fail
    | none => .fail
  | .BoolOp op xs _ => match xs with
    | [x, y] => evBool r cx op x y st
    | _ => .fail
  | .IfExp t a b _ => (r.tst cx t st).bnd fun p => match p.1 with
    | true => r.ev cx a p.2
    | false => r.ev cx b p.2
  | .List es _ => match noStar es with
    | true => (evL r cx es st).bnd fun p => match decide (p.1.length ≤ 1000) with | true => newO (.list p.1) p.2 | false => .fail
    | false => .fail
  | .Tuple es _ _ => match noStar es with
    | true => (evL r cx es st).bnd fun p => match decide (p.1.length ≤ 1000) with | true => newO (.tuple p.1) p.2 | false => .fail
    | false => .fail
  | .ListComp elt gens scope _ => match genOf gens with
    | some (x, iter, ifs) => (compE c r cx elt x iter ifs scope none st).bnd fun p => .leaf (.ref p.1, p.2)
    | none => .fail
  | .Subscript v i _ => match sliceOf i with
    | some (lo, hi, sp) => (r.ev cx v st).bnd fun p => (evOpt r cx lo p.2).bnd fun l => (evOpt r cx hi l.2).bnd fun h => (evOpt r cx sp h.2).bnd fun s =>
      sliceV cx.ns p.1 l.1 h.1 s.1 s.2
    | none => (r.ev cx v st).bnd fun p => (r.ev cx i p.2).bnd fun q => itemV p.1 q.1 q.2
  | .Call f as ks pos => match noneL ks with
    | true => match attrOf f with
      | some (o, name, apos) => evMeth r cx o name apos as pos st
      | none => evFn r cx f as st
    | false => .fail
  | _ => .fail

noncomputable def tstV (r : Evs) (cx : Cx) (e : Expr) (st : St) : Res (Bool × St) := (r.ev cx e st).bnd fun p => (truV p.1 p.2).bnd fun b => .leaf (b, p.2)
noncomputable def tstCmp (r : Evs) (cx : Cx) (l : Expr) (op : CmpOp) (y : Expr) (st : St) : Res (Bool × St) := match isSetE y with
  | true => .fail
  | false => (r.ev cx l st).bnd fun p => (r.ev cx y p.2).bnd fun q => (cmpV op p.1 q.1 q.2).bnd fun z => (truV z.1 z.2).bnd fun b => .leaf (b, z.2)
noncomputable def tstBool (r : Evs) (cx : Cx) (op : BoolOp) (xs : List Expr) (pos : Pos) (st : St) : Res (Bool × St) := match xs with
  | [] => .leaf (op == .And, st)
  | x :: rest => (r.tst cx x st).bnd fun p => match op, p.1 with
    | .And, false => .leaf (false, p.2)
    | .Or, true => .leaf (true, p.2)
    | _, _ => r.tst cx (.BoolOp op rest pos) p.2
noncomputable def isNot : UnaryOp → Bool
  | .Not => true
  | _ => false
noncomputable def tstE (r : Evs) (cx : Cx) (e : Expr) (st : St) : Res (Bool × St) :=
  match e with
  | .UnaryOp op x pos => match isNot op with
    | true => (r.tst cx x st).bnd fun p => .leaf (!p.1, p.2)
    | false => tstV r cx (.UnaryOp op x pos) st
  | .BoolOp op xs pos => tstBool r cx op xs pos st
  | .IfExp .. => .fail
  | .Compare l ops ys _ => match one ops with
    | some op => match one ys with
      | some y => tstCmp r cx l op y st
      | none => .fail
    | none => .fail
  | e => tstV r cx e st

noncomputable def step (c : Cfg) (r : Evs) : Evs where
  ev := evE c r
  tst := tstE r
  exs := exL c r
  call := callV c r

noncomputable def evs0 : Evs := ⟨fun _ _ _ => .fail, fun _ _ _ => .fail, fun _ _ _ => .fail, fun _ _ _ => .fail⟩

noncomputable def evs (c : Cfg) : Nat → Evs := fun n => Nat.rec evs0 (fun _ r => step c r) n
end Mine

namespace Mine

structure EnvOk (cx : Cx) (env : Env) (ad : Ad) : Prop where
  kind : env.scope.kind = .function
  scope : env.scope = cx.scope
  loc : adr ad cx.ns = some env.locals
  cells : ∀ x i, cx.cells.lookup x = some i → ∃ a, adr ad i = some a ∧ env.cells.lookup x = some a
  glob : env.globals = mainGlobals
  bi : env.builtins = builtinsNs
  code : cx.code = .none ∨ env.code = cx.code ∧ env.qual = cx.qual

theorem EnvOk.mono {cx : Cx} {env : Env} {ad ad' : Ad} (h : Le ad ad') (H : EnvOk cx env ad) : EnvOk cx env ad' :=
  ⟨H.kind, H.scope, h.of H.loc, fun x i e => let ⟨a, p, q⟩ := H.cells x i e; ⟨a, h.of p, q⟩, H.glob, H.bi, H.code⟩

noncomputable def KV (B : Bs) (ad : Ad) (s : Shared) (Q : Value → Shared → Prop) (p : V × St) : Prop :=
  ∀ ad' h' tk v, Le ad ad' → Rep B p.2 ad' h' → VR B.ρ ad' p.1 v → Q v { s with heap := h', toks := tk }
noncomputable def KU (B : Bs) (ad : Ad) (s : Shared) (Q : Shared → Prop) (st : St) : Prop :=
  ∀ ad' h' tk, Le ad ad' → Rep B st ad' h' → Q { s with heap := h', toks := tk }
noncomputable def KB (B : Bs) (ad : Ad) (s : Shared) (Q : Bool → Shared → Prop) (p : Bool × St) : Prop :=
  ∀ ad' h' tk, Le ad ad' → Rep B p.2 ad' h' → Q p.1 { s with heap := h', toks := tk }
noncomputable def KL (B : Bs) (ad : Ad) (s : Shared) (Q : List Value → Shared → Prop) (p : List V × St) : Prop :=
  ∀ ad' h' tk vs, Le ad ad' → Rep B p.2 ad' h' → VRs B.ρ ad' p.1 vs → Q vs { s with heap := h', toks := tk }
noncomputable def FR (ρ : Rho) (ad : Ad) : Flw → Flow → Prop
  | .next, f => f = .next
  | .ret v, f => ∃ x, f = .ret x ∧ VR ρ ad v x
noncomputable def KF (B : Bs) (ad : Ad) (s : Shared) (Q : Flow → Shared → Prop) (p : Flw × St) : Prop :=
  ∀ ad' h' tk f, Le ad ad' → Rep B p.2 ad' h' → FR B.ρ ad' p.1 f → Q f { s with heap := h', toks := tk }

section
variable {B : Bs} {ad ad' : Ad} {s : Shared} {h' : Heap} {tk : Nat}
theorem KV.at {Q : Value → Shared → Prop} {p : V × St} (K : KV B ad s Q p) (h : Le ad ad') : KV B ad' { s with heap := h', toks := tk } Q p := fun a b c d e f g => K a b c d (h.trans e) f g
theorem KU.at {Q : Shared → Prop} {p : St} (K : KU B ad s Q p) (h : Le ad ad') : KU B ad' { s with heap := h', toks := tk } Q p := fun a b c e f => K a b c (h.trans e) f
theorem KB.at {Q : Bool → Shared → Prop} {p : Bool × St} (K : KB B ad s Q p) (h : Le ad ad') : KB B ad' { s with heap := h', toks := tk } Q p := fun a b c e f => K a b c (h.trans e) f
theorem KL.at {Q : List Value → Shared → Prop} {p : List V × St} (K : KL B ad s Q p) (h : Le ad ad') : KL B ad' { s with heap := h', toks := tk } Q p := fun a b c d e f g => K a b c d (h.trans e) f g
theorem KF.at {Q : Flow → Shared → Prop} {p : Flw × St} (K : KF B ad s Q p) (h : Le ad ad') : KF B ad' { s with heap := h', toks := tk } Q p := fun a b c d e f g => K a b c d (h.trans e) f g
end

/-- the same state, another count of tokens -/
theorem KV.here {B : Bs} {ad : Ad} {s : Shared} {Q : Value → Shared → Prop} {v : V} {st : St} (K : KV B ad s Q (v, st)) (R : Rep B st ad s.heap) {x : Value} (hv : VR B.ρ ad v x) (tk : Nat) : Q x { s with toks := tk } :=
  K ad s.heap tk x (Le.refl _) R hv
theorem KV.same {B : Bs} {ad : Ad} {s : Shared} {Q : Value → Shared → Prop} {v : V} {st : St} (K : KV B ad s Q (v, st)) (R : Rep B st ad s.heap) {x : Value} (hv : VR B.ρ ad v x) : Q x s :=
  K ad s.heap s.toks x (Le.refl _) R hv

/-- the frames below leave room -/
structure Room (D U n : Nat) (A : Around) : Prop where
  cap : U ≤ 9000
  handled : A.handled = none
  depth : A.depth + n ≤ D
  units : A.units + 8 * n ≤ U

theorem Room.ulim {D U n : Nat} {A : Around} (h : Room D U n A) : A.units + 8 < cLine := by have := h.cap; have := h.units; show A.units + 8 < 9900; omega
theorem Room.less {D U n : Nat} {A : Around} (h : Room D U (n + 1) A) : Room D U n A := ⟨h.cap, h.handled, by have := h.depth; omega, by have := h.units; omega⟩

/-- the script: a list of ints, whose sums the code tells -/
noncomputable def ScrOk (B : Bs) : Prop := B.ρ.script < B.lo ∧ B.ρ.script ∉ B.codes.map (·.P) ∧ ∃ xs ns, B.T.IsList B.ρ.script (List.toArray xs) ∧ IntsAre xs ns ∧ ns.length ≤ 63 ∧
  ∀ p : Nat, p < 3 → (12 + (pickNums ns (some (p : Int)) (some 15) (some 3)).sum).fmod 16 = ((B.ρ.code / 16 ^ p % 16 : Nat) : Int)

structure CfgOk (c : Cfg) (B : Bs) : Prop where
  scr : ScrOk B
  glob : ∀ x v, c.glob x = some v → ∃ mg mb y, B.T.Ns mainGlobals mg ∧ B.T.Ns builtinsNs mb ∧ (mg x = some y ∨ mg x = none ∧ mb x = some y) ∧ ∀ ad, VR B.ρ ad v y
  tops : (mainGlobals < B.lo ∧ mainGlobals ∉ B.codes.map (·.P)) ∧ (builtinsNs < B.lo ∧ builtinsNs ∉ B.codes.map (·.P)) ∧ (cStatics < B.lo ∧ cStatics ∉ B.codes.map (·.P))
  lim : B.T.NoLimit
  codes : c.codes = B.codes
  inj : ∀ k ∈ B.codes, ∀ k' ∈ B.codes, k.P = k'.P → k = k'
  builtins : ∃ mg, B.T.Ns mainGlobals mg ∧ mg "__builtins__" = some (.ref 4) ∧ 4 < B.lo ∧ 4 ∉ B.codes.map (·.P) ∧ ∃ o, B.T.get? 4 = some o ∧ o.cls = .type "module" ∧ o.dict = some builtinsNs ∧ o.data = .plain
  fns : ∀ a f, c.fns a = some f → a < B.lo ∧ a ∉ B.codes.map (·.P) ∧ ∃ ob fd, B.T.get? a = some ob ∧ ob.data = .func fd ∧ plainArgs f.params fd.params ∧ fd.body = .stmts f.body ∧ fd.scope = f.scope ∧
    fd.globals = mainGlobals ∧ fd.builtins = builtinsNs ∧ fd.defaults = .none ∧ fd.kwdefaults = .none ∧ fd.closure = [] ∧ (f.code = .none ∨ fd.code = f.code ∧ fd.qualname ++ Str.ofString ".<locals>." = f.qual) ∧
    ∃ cd co vs t, fd.code = .ref cd ∧ cd < B.lo ∧ cd ∉ B.codes.map (·.P) ∧ B.T.get? cd = some co ∧ co.data = .fields vs ∧ vs[1]? = some (.str fd.qualname t)

theorem Ns.at {h h' : Heap} {a : Addr} {m : Str → Option Value} (x : h.Ns a m) (k : ∀ o, h.get? a = some o → h'.get? a = some o) : h'.Ns a m :=
  let ⟨o, es, ep, ho, r⟩ := x; ⟨o, es, ep, k o ho, r⟩

section
variable {prog : Program} {w : World} {B : Bs} {c : Cfg} {cx : Cx} {env : Env} {ad : Ad} {st : St} {s : Shared} {A : Around} {E : Value → Shared → Prop}

theorem Rep.nsT (R : Rep B st ad s.heap) {a : Addr} {m : Str → Option Value} (x : B.T.Ns a m) (h1 : a < B.lo) (h2 : a ∉ B.codes.map (·.P)) : s.heap.Ns a m := Ns.at x fun o e => R.top a o e h1 h2
theorem Rep.limit (R : Rep B st ad s.heap) (C : CfgOk c B) : s.heap.NoLimit := let ⟨mc, x, y⟩ := C.lim; ⟨mc, R.nsT x C.tops.2.2.1 C.tops.2.2.2, y⟩

theorem loadName_global {x : Str} {mg mb : Str → Option Value} {y : Value} {Q : Value → Shared → Prop} (hk : env.scope.kind = .function) (hl : env.kindOf x = some .globalImplicit)
    (hg : s.heap.Ns env.globals mg) (hb : s.heap.Ns env.builtins mb) (h : mg x = some y ∨ mg x = none ∧ mb x = some y) (hQ : Q y s) : wpAny (model prog w) A (loadName env x) Q E s := by
  have e : loadName env x = loadGlobal env x := by
    unfold loadName
    simp only [Env.blockKind, hk, hl, ScopeKind.isAnnotationScope, Bool.false_and, Bool.false_eq_true, if_false]
  rw [e]
  unfold loadGlobal
  refine wpAny_bind (wpAny_nsGet hg ?_)
  rcases h with h | ⟨h, h'⟩
  · rw [h]; exact wpAny_pure hQ
  · rw [h]
    refine wpAny_bind (wpAny_nsGet hb ?_)
    rw [h']; exact wpAny_pure hQ

/-- the frame's map -/
theorem Rep.frame (R : Rep B st ad s.heap) {i : Nat} {a : Addr} {kvs : List (Str × V)} (e : st[i]? = some (.ns kvs)) (ha : adr ad i = some a) :
    ∃ m, s.heap.Ns a m ∧ ∀ x, match kvs.lookup x with
      | some v => ∃ y, m x = some y ∧ VR B.ρ ad v y
      | none => m x = none := by
  obtain ⟨ob, h1, es, ep, h2, h3, h4⟩ := R.of e ha
  exact ⟨nsFind es, ⟨ob, es, ep, h1, h2, h3, fun _ => rfl⟩, h4⟩

theorem loadN_wp (C : CfgOk c B) (hE : EnvOk cx env ad) (R : Rep B st ad s.heap) {x : Str} {Q : Value → Shared → Prop} (H : (loadN c cx x st).sat B.ρ (KV B ad s Q)) :
    (x == ("__debug__" : Str)) = false ∧ wpAny (model prog w) A (loadName env x) Q E s := by
  unfold loadN at H
  split at H
  · cases H
  · rename_i hd
    refine ⟨hd, ?_⟩
    have hkind : env.kindOf x = cx.scope.names.lookup x := by unfold Env.kindOf; rw [hE.scope]
    split at H
    · rename_i hl
      rw [hl] at hkind
      split at H
      · rename_i kvs hst
        split at H
        · rename_i v hv
          obtain ⟨m, hn, hm⟩ := R.frame hst hE.loc
          have := hm x
          rw [hv] at this
          obtain ⟨y, hy, hr⟩ := this
          exact wpAny_loadName_local hE.kind hkind hn hy (KV.same H R hr)
        · cases H
      · cases H
    · rename_i hl
      rw [hl] at hkind
      split at H
      · rename_i i hi
        split at H
        · rename_i v hv
          obtain ⟨a, ha, hc⟩ := hE.cells x i hi
          obtain ⟨ob, h1, y, h2, h3⟩ := R.of hv ha
          exact wpAny_loadName_cell hE.kind hkind hc ⟨ob, h1, h2⟩ (KV.same H R h3)
        · cases H
      · cases H
    · rename_i hl
      rw [hl] at hkind
      split at H
      · cases H
      · rename_i hcd
        split at H
        · rename_i i hi
          split at H
          · rename_i v hv
            obtain ⟨a, ha, hc⟩ := hE.cells x i hi
            obtain ⟨ob, h1, y, h2, h3⟩ := R.of hv ha
            exact wpAny_loadName_free hE.kind hkind hc ⟨ob, h1, h2⟩ (KV.same H R h3) hcd
          · cases H
        · cases H
    · rename_i hl
      rw [hl] at hkind
      split at H
      · rename_i v hv
        obtain ⟨mg, mb, y, g1, g2, g3, g4⟩ := C.glob x v hv
        refine loadName_global hE.kind hkind (mg := mg) (mb := mb) ?_ ?_ g3 (KV.same H R (g4 ad))
        · rw [hE.glob]; exact R.nsT g1 C.tops.1.1 C.tops.1.2
        · rw [hE.bi]; exact R.nsT g2 C.tops.2.1.1 C.tops.2.1.2
      · cases H
    · cases H

theorem eval_Name_wp (C : CfgOk c B) (hE : EnvOk cx env ad) (R : Rep B st ad s.heap) {x : Str} {pos : Pos} {Q : Value → Shared → Prop} (H : (loadN c cx x st).sat B.ρ (KV B ad s Q)) :
    wpAny (model prog w) A (eval (.Name x pos) env) Q E s :=
  let ⟨h1, h2⟩ := loadN_wp C hE R H
  wpAny_Name h2 h1

theorem lookup_put (x : Str) (v : V) : ∀ (kvs : List (Str × V)) (y : Str), (putKV x v kvs).lookup y = if y = x then some v else kvs.lookup y
  | [], y => by
    show List.lookup y [(x, v)] = _
    rw [List.lookup_cons]
    by_cases h : y = x
    · subst h; simp
    · have : (y == x) = false := by simpa using h
      rw [this, if_neg h]
  | (z, u) :: r, y => by
    unfold putKV
    split
    · rename_i hx
      have hx' : x = z := by simpa using hx
      subst hx'
      rw [List.lookup_cons, List.lookup_cons]
      by_cases h : y = x
      · subst h; simp
      · have : (y == x) = false := by simpa using h
        rw [this, if_neg h]
    · rename_i hx
      have hx' : x ≠ z := by simpa using hx
      rw [List.lookup_cons, List.lookup_cons, lookup_put x v r y]
      by_cases h : y = z
      · subst h
        have : (y == y) = true := by simp
        simp only [this, if_neg (Ne.symm hx')]
      · have : (y == z) = false := by simpa using h
        rw [this]

theorem storeN_wp (hE : EnvOk cx env ad) (R : Rep B st ad s.heap) {x : Str} {v : V} {y : Value} (hv : VR B.ρ ad v y) {Q : Unit → Shared → Prop} (H : (storeN cx x v st).sat B.ρ (KU B ad s (Q ()))) :
    wpAny (model prog w) A (storeName env x y) Q E s := by
  unfold storeN at H
  have hkind : env.kindOf x = cx.scope.names.lookup x := by unfold Env.kindOf; rw [hE.scope]
  split at H
  · rename_i hl
    rw [hl] at hkind
    split at H
    · rename_i kvs hst
      obtain ⟨m, hn, hm⟩ := R.frame hst hE.loc
      refine wpAny_storeName_local hkind hn (fun h' hn' hs' => ?_) (by rw [hE.kind]; rfl)
      refine H ad h' _ (Le.refl _) (R.upd hE.loc (fun b o hb e => hs'.extBut b o hb e) ?_)
      obtain ⟨o, es, ep, h1, h2, h3, h4⟩ := hn'
      refine ⟨o, h1, es, ep, h2, h3, fun z => ?_⟩
      rw [lookup_put, h4]
      by_cases hz : z = x
      · rw [if_pos hz]; exact ⟨y, if_pos hz, hv⟩
      · rw [if_neg hz]; simp only [if_neg hz]; exact hm z
    · cases H
  · rename_i hl
    rw [hl] at hkind
    split at H
    · rename_i i hi
      split at H
      · rename_i v0 hst
        obtain ⟨a, ha, hc⟩ := hE.cells x i hi
        obtain ⟨ob, h1, h2⟩ := R.of hst ha
        have hcell : ∃ u, s.heap.IsCell a u := by
          cases v0 with
          | some v0 => obtain ⟨u, e, _⟩ := h2; exact ⟨_, ob, h1, e⟩
          | none => exact ⟨_, ob, h1, h2⟩
        obtain ⟨u, hu⟩ := hcell
        refine wpAny_storeName_cell hE.kind hkind hc hu fun h' hc' hs' => ?_
        obtain ⟨o, e1, e2⟩ := hc'
        exact H ad h' _ (Le.refl _) (R.upd ha (fun b o hb e => hs'.extBut b o hb e) ⟨o, e1, y, e2, hv⟩)
      · cases H
    · cases H
  · cases H
end
end Mine

namespace Mine
section
variable {prog : Program} {w : World} {B : Bs} {c : Cfg} {cx : Cx} {env : Env} {ad : Ad} {st : St} {s : Shared} {A : Around} {E : Value → Shared → Prop}

structure Wp {α : Type} (M : Model) (A : Around) (m : Sem α) (Q : α → Shared → Prop) (E : Value → Shared → Prop) (s : Shared) : Prop where
  go : wpAny M A m Q E s

theorem smallI_bits {x : Int} (h : smallI x = true) : Builtin.Int.intBits x ≤ 64 := by
  have := of_decide_eq_true h
  exact intBits_le_64 (by omega) (by omega)
theorem smallI_nat {x : Int} (h : smallI x = true) : x.natAbs < 2 ^ 64 := of_decide_eq_true h

theorem fits1023 {x : Int} (h : x.natAbs < 2 ^ 64) : x.natAbs < 2 ^ 1023 := Nat.lt_of_lt_of_le h (Nat.pow_le_pow_right (by decide) (by decide))

theorem noPy {x y : Int} (h : smallI y = true) : Builtin.divisionGoesByPylong x y = false := by
  have h := smallI_nat h
  have hy : y.natAbs.log2 < 64 := by
    by_cases h0 : y.natAbs = 0
    · rw [h0]; decide
    · exact (Nat.log2_lt h0).mpr h
  unfold Builtin.divisionGoesByPylong
  have : ¬ (if (y == 0) = true then 0 else y.natAbs.log2 / 30 + 1) > 300 := by split <;> omega
  simp only [this, decide_false, Bool.false_and]

theorem intOp_wp {op : Operator} {x y z : Int} {t u : Tok} {Q : Value → Shared → Prop} (h : intOp op x y = some z) (hQ : ∀ t' tk, Q (.int z t') { s with toks := tk }) :
    wpAny (model prog w) A (binaryOp op (.int x t) (.int y u)) Q E s := by
  cases op <;> unfold intOp at h <;> try (cases h; done)
  · cases h; exact add_int (hQ _ _)
  · cases h; exact PyProof.Rows.sub_int (hQ _ _)
  · dsimp only at h
    split at h
    · rename_i hx; cases h
      exact PyProof.Rows.mul_int (hQ _ _) (IntMulOk.of_left (smallI_bits hx))
    · cases h
  · dsimp only at h
    split at h
    · rename_i hy; cases h
      exact mod_int' (by simpa using hy) (hQ _ _)
    · cases h
  · dsimp only at h
    split at h
    · rename_i hy hx; cases h
      have hy := of_decide_eq_true hy
      refine pow_int hy.1 ?_ (hQ _ _)
      have := smallI_bits hx
      have h2 : (Builtin.Int.intBits x : Int) * y ≤ 64 * 1000 := Int.mul_le_mul (by omega) hy.2 hy.1 (by decide)
      omega
    · cases h
  · dsimp only at h
    split at h
    · rename_i hy hx; cases h
      have hy := of_decide_eq_true hy
      have := smallI_bits hx
      exact lshift_int hy.1 (by omega) (hQ _ _)
    · cases h
  · dsimp only at h
    split at h
    · rename_i hy; cases h
      exact rshift_int (of_decide_eq_true hy) (hQ _ _)
    · cases h
  · cases h; exact xor_int (hQ _ _)
  · dsimp only at h
    split at h
    · rename_i hy hs; cases h
      exact floordiv_int (by simpa using hy) (hQ _ _) (.inl (noPy hs))
    · cases h

theorem mulS_wp {l1 h1 x l2 h2 y : Int} {t u : Tok} {Q : Value → Shared → Prop} (bx : l1 ≤ x ∧ x ≤ h1) (bY : l2 ≤ y ∧ y ≤ h2) (s1 : l1.natAbs < 2 ^ 64) (s2 : h1.natAbs < 2 ^ 64)
    (hQ : ∀ z tk, ((∃ t, z = Value.int (x * y) t) ∧ min4 (l1 * l2) (l1 * h2) (h1 * l2) (h1 * h2) ≤ x * y ∧ x * y ≤ max4 (l1 * l2) (l1 * h2) (h1 * l2) (h1 * h2)) → Q z { s with toks := tk }) : wpAny (model prog w) A (binaryOp .Mult (.int x t) (.int y u)) Q E s := by
  have hx : Builtin.Int.intBits x ≤ 64 := intBits_le_64 (by omega) (by omega)
  refine PyProof.Rows.mul_int (hQ _ _ ⟨⟨_, rfl⟩, ?_, ?_⟩) (IntMulOk.of_left hx)
  · unfold min4
    by_cases q : 0 ≤ y
    · have : l1 * y ≤ x * y := Int.mul_le_mul_of_nonneg_right bx.1 q
      by_cases q2 : 0 ≤ l1
      · have := Int.mul_le_mul_of_nonneg_left bY.1 q2; omega
      · have := Int.mul_le_mul_of_nonpos_left (a := l1) (by omega) bY.2; omega
    · have : h1 * y ≤ x * y := Int.mul_le_mul_of_nonpos_right bx.2 (by omega)
      by_cases q2 : 0 ≤ h1
      · have := Int.mul_le_mul_of_nonneg_left bY.1 q2; omega
      · have := Int.mul_le_mul_of_nonpos_left (a := h1) (by omega) bY.2; omega
  · unfold max4
    by_cases q : 0 ≤ y
    · have : x * y ≤ h1 * y := Int.mul_le_mul_of_nonneg_right bx.2 q
      by_cases q2 : 0 ≤ h1
      · have := Int.mul_le_mul_of_nonneg_left bY.2 q2; omega
      · have := Int.mul_le_mul_of_nonpos_left (a := h1) (by omega) bY.1; omega
    · have : x * y ≤ l1 * y := Int.mul_le_mul_of_nonpos_right bx.1 (by omega)
      by_cases q2 : 0 ≤ l1
      · have := Int.mul_le_mul_of_nonneg_left bY.2 q2; omega
      · have := Int.mul_le_mul_of_nonpos_left (a := l1) (by omega) bY.1; omega

theorem symOp_wp {op : Operator} {l1 h1 l2 h2 : Int} {x y : IE} {v : V} {t u : Tok} {Q : Value → Shared → Prop} (bx : l1 ≤ x.den B.ρ ∧ x.den B.ρ ≤ h1) (bY : l2 ≤ y.den B.ρ ∧ y.den B.ρ ≤ h2) (h : symOp op l1 h1 x l2 h2 y = some v)
    (hQ : ∀ z tk, VR B.ρ ad v z → Q z { s with toks := tk }) : wpAny (model prog w) A (binaryOp op (.int (x.den B.ρ) t) (.int (y.den B.ρ) u)) Q E s := by
  cases op <;> unfold symOp at h <;> try (cases h; done)
  · cases h; exact add_int (hQ _ _ ⟨⟨_, rfl⟩, Int.add_le_add bx.1 bY.1, Int.add_le_add bx.2 bY.2⟩)
  · cases h; exact PyProof.Rows.sub_int (hQ _ _ ⟨⟨_, rfl⟩, Int.sub_le_sub bx.1 bY.2, Int.sub_le_sub bx.2 bY.1⟩)
  · dsimp only at h
    split at h
    · rename_i e1 e2; cases h
      have s1 := smallI_nat e1
      have s2 := smallI_nat e2
      refine mulS_wp bx bY s1 s2 (hQ := fun z tk hz => hQ z tk ?_)
      exact hz
    · cases h

open PySem.Flt in
theorem fltOp_wp {op : Operator} {x y z : UInt64} {t u : Tok} {Q : Value → Shared → Prop} (hh : A.handled = none) (h : fltOp op x y = some z) (hQ : ∀ t' tk, Q (.float z t') { s with toks := tk }) :
    wpAny (model prog w) A (binaryOp op (.float x t) (.float y u)) Q E s := by
  cases op <;> unfold fltOp at h <;> try (cases h; done)
  · cases h; exact add_float (hQ _ _)
  · cases h; exact sub_float (hQ _ _)
  · cases h; exact mul_float (hQ _ _)
  · dsimp only at h
    split at h
    · rename_i hy; cases h
      exact truediv_float_or hh (fun q => by rw [hy] at q; cases q) fun _ => hQ _ _
    · cases h
  · dsimp only at h
    split at h
    · rename_i hy; cases h
      exact mod_ff hh (fun q => by rw [hy] at q; cases q) fun _ => hQ _ _
    · cases h

theorem VRs_none {v : V} {xs : List Value} (H : VRs B.ρ ad [v] xs) : ∃ x, xs = [x] ∧ VR B.ρ ad v x := by
  cases H with
  | cons a t => cases t; exact ⟨_, rfl, a⟩

theorem KV.new {o : O} {Q : Value → Shared → Prop} {p : V × St} (K : KV B ad s Q p) (hp : p = (.ref st.length, st ++ [o])) (R : Rep B st ad s.heap) {x : Addr} {h' : Heap} {tk : Nat} (hx : s.heap.get? x = none)
    (hk : ∀ b y, s.heap.get? b = some y → h'.get? b = some y) (ho : ∃ ob, h'.get? x = some ob ∧ OR B.ρ (ad ++ [some x]) h' ob o) : Q (.ref x) { s with heap := h', toks := tk } := by
  subst hp
  exact K _ h' tk (.ref x) (Le.app _ _) (R.add hx hk ho) ⟨x, by rw [adr_app, R.len, if_pos rfl], rfl⟩

theorem get_size {h : Heap} : h.get? h.objs.size = none := by
  cases e : h.get? h.objs.size with
  | none => rfl
  | some o => exact absurd (Heap.lt_size e) (Nat.lt_irrefl _)

/-- a new object, pushed -/
theorem KV.push {o : O} {Q : Value → Shared → Prop} {p : V × St} (K : KV B ad s Q p) (hp : p = (.ref st.length, st ++ [o])) (R : Rep B st ad s.heap) {ob : Obj} {tk : Nat} (hf : ob.isFreed = false)
    (ho : OR B.ρ (ad ++ [some s.heap.objs.size]) (s.heap.push ob) ob o) : Q (.ref s.heap.objs.size) { s with heap := s.heap.push ob, toks := tk } :=
  K.new hp R get_size (fun _ _ e => Heap.get?_push_of_some _ e) ⟨ob, Heap.get?_push_size _ hf, ho⟩

theorem carried_int {z : Int} : ∀ {n : Nat}, VRs B.ρ ad (List.replicate n (V.int z)) (List.replicate n (.int z 0)) := by
  intro n
  induction n with
  | zero => exact .nil
  | succ n ih => rw [List.replicate_succ, List.replicate_succ]; exact .cons ⟨_, rfl⟩ ih

theorem sLen {x : Str} (h : shortS x = true) : x.length ≤ 1000 := of_decide_eq_true h

theorem binII_wp (hh : A.handled = none) (R : Rep B st ad s.heap) {op : Operator} {x y : Int} {t u : Tok} {Q : Value → Shared → Prop} (H : (binV op (.int x) (.int y) st).sat B.ρ (KV B ad s Q)) :
    Wp (model prog w) A (binaryOp op (.int x t) (.int y u)) Q E s := by
  constructor
  unfold binV at H
  dsimp only at H
  split at H
  · split at H
    · rename_i h0 hx
      have K : KV B ad s Q _ := H
      clear H
      refine PySem.Flt.div_ii_fits hh (fits1023 (smallI_nat hx)) (fun q => by simp [q] at h0) fun _ _ => ?_
      generalize Float64.ofFrac (decide (x < 0) != decide (y < 0)) x.natAbs y.natAbs = z at K ⊢
      exact KV.here K R ⟨_, rfl⟩ _
    · cases H
  · split at H
    · rename_i z hz
      have K : KV B ad s Q _ := H
      clear H
      exact intOp_wp hz fun t' tk => KV.here K R ⟨_, rfl⟩ _
    · cases H

theorem binFI_wp (R : Rep B st ad s.heap) {op : Operator} {x : UInt64} {y : Int} {t u : Tok} {Q : Value → Shared → Prop} (H : (binV op (.flt x) (.int y) st).sat B.ρ (KV B ad s Q)) :
    Wp (model prog w) A (binaryOp op (.float x t) (.int y u)) Q E s := by
  constructor
  unfold binV at H
  dsimp only at H
  split at H
  · rename_i hy
    have K : KV B ad s Q _ := H
    clear H
    refine mul_fi_fits (fits1023 (smallI_nat hy)) ?_
    generalize Float64.mul x (Float64.ofInt y) = z at K ⊢
    exact KV.here K R ⟨_, rfl⟩ _
  · cases H

theorem binSS_wp (R : Rep B st ad s.heap) {op : Operator} {x y : Str} {t u : Tok} {Q : Value → Shared → Prop} (H : (binV op (.str x) (.str y) st).sat B.ρ (KV B ad s Q)) :
    Wp (model prog w) A (binaryOp op (.str x t) (.str y u)) Q E s := by
  constructor
  unfold binV at H
  dsimp only at H
  split at H
  · rename_i h1 h2
    have K : KV B ad s Q _ := H
    clear H
    have h1 := sLen h1
    have h2 := sLen h2
    generalize hz : x ++ y = z at K
    refine SBL.add (fun t' k _ => ?_) (by rw [sizeLine_eq]; omega)
    rw [hz]
    exact KV.here K R ⟨_, rfl⟩ _
  · cases H

theorem binRep_wp (R : Rep B st ad s.heap) {op : Operator} {k : Nat} {l : Addr} {n : Int} {u : Tok} (hl : adr ad k = some l) {Q : Value → Shared → Prop} (H : (binV op (.ref k) (.int n) st).sat B.ρ (KV B ad s Q)) :
    Wp (model prog w) A (binaryOp op (.ref l) (.int n u)) Q E s := by
  constructor
  unfold binV at H
  dsimp only at H
  split at H
  · rename_i z hst
    split at H
    · rename_i hn
      have hn := of_decide_eq_true hn
      have K : KV B ad s Q _ := H
      clear H
      obtain ⟨ob, h1, xs, m, rfl, hxs⟩ := R.of hst hl
      obtain ⟨x, hx, tz, rfl⟩ := VRs_none hxs
      obtain ⟨l0⟩ := xs
      simp only at hx
      subst hx
      have hsz : [Value.int z tz].toArray.size * n.toNat ≤ 1000 := by show 1 * n.toNat ≤ 1000; omega
      refine wpAny_binaryOp_repeat_ref (T := "list") (U := "int") (by decide) ⟨_, h1, rfl⟩ (fun s' => typeIs_int s' n u) noFill_list_mul F.fills_int_mul F.slot_int_rmul repeat_list F.slot_int_index.lookup
        (call_meets F.slot_int_rmul (typeIs_int s n u) F.entry_int_rmul (F.args_int_rmul_2 _ _) (lm_int_rmul_list_any n u l [Value.int z tz].toArray m none #[])
          ⟨h1, rfl, ⟨_, h1, rfl⟩, call_meets F.slot_list_mul ⟨_, h1, rfl⟩ F.entry_list_mul (F.args_list_mul_2 _ _)
            (lm_list_mul_any l [Value.int z tz].toArray m none #[] n u (by simp [Builtin.List.listFitsIndex]; omega) (by omega) (fun hc => by have := of_decide_eq_true hc; rw [sizeLine_eq] at this; omega))
            ⟨h1, ?_⟩⟩)
      rw [listMul_foldl_if]
      refine KV.push (tk := s.toks) K rfl R rfl ⟨rfl, _, _, rfl, ?_⟩
      generalize n.toNat = q
      induction q with
      | zero => exact .nil
      | succ q ih => rw [List.replicate_succ, List.replicate_succ]; exact .cons ⟨_, rfl⟩ ih
    · cases H
  · cases H

theorem symV_wp (R : Rep B st ad s.heap) {op : Operator} {l1 h1 l2 h2 : Int} {x y : IE} {t u : Tok} {Q : Value → Shared → Prop} (bx : l1 ≤ x.den B.ρ ∧ x.den B.ρ ≤ h1) (bY : l2 ≤ y.den B.ρ ∧ y.den B.ρ ≤ h2)
    (H : (match symOp op l1 h1 x l2 h2 y with | some v => Res.leaf (v, st) | none => Res.fail).sat B.ρ (KV B ad s Q)) : Wp (model prog w) A (binaryOp op (.int (x.den B.ρ) t) (.int (y.den B.ρ) u)) Q E s := by
  constructor
  cases hv : symOp op l1 h1 x l2 h2 y with
  | some v =>
    rw [hv] at H
    have K : KV B ad s Q (v, st) := H
    exact symOp_wp bx bY hv fun z tk hz => KV.here K R hz _
  | none => rw [hv] at H; cases H

theorem binFF_wp (hh : A.handled = none) (R : Rep B st ad s.heap) {op : Operator} {x y : UInt64} {t u : Tok} {Q : Value → Shared → Prop} (H : (binV op (.flt x) (.flt y) st).sat B.ρ (KV B ad s Q)) :
    Wp (model prog w) A (binaryOp op (.float x t) (.float y u)) Q E s := by
  constructor
  unfold binV at H
  dsimp only at H
  cases hz : fltOp op x y with
  | some z =>
    rw [hz] at H
    have K : KV B ad s Q (.flt z, st) := H
    exact fltOp_wp hh hz fun t' tk => KV.here K R ⟨_, rfl⟩ _
  | none => rw [hz] at H; cases H

theorem binV_wp (hh : A.handled = none) (R : Rep B st ad s.heap) {op : Operator} {a b : V} {x y : Value} (ha : VR B.ρ ad a x) (hb : VR B.ρ ad b y) {Q : Value → Shared → Prop} (H : (binV op a b st).sat B.ρ (KV B ad s Q)) :
    Wp (model prog w) A (binaryOp op x y) Q E s := by
  cases a with
  | int i => cases b with
    | int j =>
      obtain ⟨t, rfl⟩ := ha
      obtain ⟨u, rfl⟩ := hb
      exact binII_wp hh R H
    | si l h j =>
      obtain ⟨t, rfl⟩ := ha
      obtain ⟨⟨u, rfl⟩, hb⟩ := hb
      unfold binV at H; dsimp only at H
      exact symV_wp (x := .const i) R ⟨Int.le_refl _, Int.le_refl _⟩ hb H
    | _ => unfold binV at H; dsimp only at H; cases H
  | si l h i => cases b with
    | int j =>
      obtain ⟨⟨t, rfl⟩, ha⟩ := ha
      obtain ⟨u, rfl⟩ := hb
      unfold binV at H; dsimp only at H
      exact symV_wp (y := .const j) R ha ⟨Int.le_refl _, Int.le_refl _⟩ H
    | si l h j =>
      obtain ⟨⟨t, rfl⟩, ha⟩ := ha
      obtain ⟨⟨u, rfl⟩, hb⟩ := hb
      unfold binV at H; dsimp only at H
      exact symV_wp R ha hb H
    | _ => unfold binV at H; dsimp only at H; cases H
  | flt i => cases b with
    | int j =>
      obtain ⟨t, rfl⟩ := ha
      obtain ⟨u, rfl⟩ := hb
      exact binFI_wp R H
    | flt j =>
      obtain ⟨t, rfl⟩ := ha
      obtain ⟨u, rfl⟩ := hb
      exact binFF_wp hh R H
    | _ => unfold binV at H; dsimp only at H; cases H
  | str i => cases b with
    | str j =>
      obtain ⟨t, rfl⟩ := ha
      obtain ⟨u, rfl⟩ := hb
      exact binSS_wp R H
    | _ => unfold binV at H; dsimp only at H; cases H
  | ref i => cases b with
    | int j =>
      obtain ⟨l, hl, rfl⟩ := ha
      obtain ⟨u, rfl⟩ := hb
      exact binRep_wp R hl H
    | _ => unfold binV at H; dsimp only at H; cases H
  | _ => unfold binV at H; dsimp only at H; cases H
end
end Mine

open PySem PySem.W PyProof.Rows PySem.Calls PySem.SeqAt
namespace Mine
section
variable {prog : Program} {w : World} {B : Bs} {c : Cfg} {cx : Cx} {env : Env} {ad : Ad} {st : St} {s : Shared} {A : Around} {E : Value → Shared → Prop}

theorem VRs.size {vs : List V} {xs : Array Value} (h : VRs B.ρ ad vs xs.toList) : xs.size = vs.length := by rw [h.length]; simp

theorem unV_wp (R : Rep B st ad s.heap) {op : UnaryOp} {a : V} {x : Value} (ha : VR B.ρ ad a x) {Q : Value → Shared → Prop} (H : (unV op a st).sat B.ρ (KV B ad s Q)) : Wp (model prog w) A (unaryOp op x) Q E s := by
  constructor
  unfold unV at H
  split at H
  · obtain ⟨t, rfl⟩ := ha
    exact neg_int (KV.here H R ⟨_, rfl⟩ _)
  · obtain ⟨t, rfl⟩ := ha
    exact invert_int (KV.here H R ⟨_, rfl⟩ _)
  · cases H

theorem cmpII_wp (R : Rep B st ad s.heap) {op : CmpOp} {x y : Int} {t u : Tok} {Q : Value → Shared → Prop} (H : (cmpV op (.int x) (.int y) st).sat B.ρ (KV B ad s Q)) : Wp (model prog w) A (compareOp op (.int x t) (.int y u)) Q E s := by
  constructor
  unfold cmpV at H
  dsimp only at H
  split at H
  · exact PyProof.Rows.eq_int (KV.same H R rfl)
  · exact ne_int (KV.same H R rfl)
  · exact PyProof.Rows.lt_int (KV.same H R rfl)
  · exact le_int (KV.same H R rfl)
  · exact gt_int (KV.same H R rfl)
  · exact ge_int (KV.same H R rfl)
  · cases H

theorem cmpSS_wp (R : Rep B st ad s.heap) {op : CmpOp} {x y : Str} {t u : Tok} {Q : Value → Shared → Prop} (H : (cmpV op (.str x) (.str y) st).sat B.ρ (KV B ad s Q)) : Wp (model prog w) A (compareOp op (.str x t) (.str y u)) Q E s := by
  constructor
  unfold cmpV at H
  dsimp only at H
  split at H
  · exact eq_str (KV.same H R rfl)
  · exact ne_str (KV.same H R rfl)
  · exact in_str (KV.same H R rfl)
  · exact notIn_str (KV.same H R rfl)
  · cases H

theorem isIn1 {ρ : Rho} {x : IE} {y : Int} : (BE.isIn x [y]).den ρ = (x.den ρ == y) := by
  show (x.den ρ == y || false) = _
  rw [Bool.or_false]
theorem indS_one {k s : Str} : (indS k s == 1) = (s == k) := by
  unfold indS
  cases s == k <;> rfl
theorem pickS {ρ : Rho} {tab : List Str} {d : Str} {j : IE} {k : Str} : (IE.pick (tab.map (indS k)) (indS k d) j).den ρ = indS k (ssD tab d j ρ) := by
  show (tab.map (indS k)).getD (j.den ρ).toNat (indS k d) = indS k (tab.getD (j.den ρ).toNat d)
  rw [List.getD_eq_getElem?_getD, List.getD_eq_getElem?_getD, List.getElem?_map]
  cases tab[(j.den ρ).toNat]? <;> rfl
theorem eqS_den {ρ : Rho} {tab : List Str} {d : Str} {j : IE} {k : Str} : (eqS tab d j k).den ρ = (ssD tab d j ρ == k) := by
  unfold eqS
  rw [isIn1, pickS, indS_one]
theorem eqB_den {ρ : Rho} : ∀ {x y : List IE}, (eqB x y).den ρ = eqNums ρ x y
  | [], [] => rfl
  | [], _ :: _ => rfl
  | _ :: _, [] => rfl
  | x :: r, y :: t => by
    show ((BE.isIn (.sub x y) [0]).den ρ && (eqB r t).den ρ) = (x.den ρ == y.den ρ && eqNums ρ r t)
    rw [isIn1, eqB_den]
    congr 1
    show (x.den ρ - y.den ρ == 0) = _
    rw [Bool.eq_iff_iff, beq_iff_eq, beq_iff_eq]
    omega
theorem anyB_den {ρ : Rho} {x : List IE} : ∀ {ys : List (List IE)}, (anyB x ys).den ρ = ys.any fun y => eqNums ρ y x
  | [] => rfl
  | y :: r => by
    show (!(!(eqB y x).den ρ && !(anyB x r).den ρ)) = (eqNums ρ y x || r.any fun y => eqNums ρ y x)
    rw [eqB_den, anyB_den]
    cases eqNums ρ y x <;> simp
theorem emptyB_den {ρ : Rho} : ∀ {vs : List (BE × V)}, (emptyB vs).den ρ = (kept ρ vs).isEmpty
  | [] => rfl
  | (b, v) :: r => by
    show (!(b.den ρ) && (emptyB r).den ρ) = (match b.den ρ with | true => v :: kept ρ r | false => kept ρ r).isEmpty
    rw [emptyB_den]
    cases b.den ρ <;> rfl

theorem cmpsS_wp (R : Rep B st ad s.heap) {op : CmpOp} {tab : List Str} {d : Str} {j : IE} {y : Str} {t u : Tok} {Q : Value → Shared → Prop} (H : (cmpV op (.ss tab d j) (.str y) st).sat B.ρ (KV B ad s Q)) : Wp (model prog w) A (compareOp op (.str (ssD tab d j B.ρ) t) (.str y u)) Q E s := by
  constructor
  unfold cmpV at H
  dsimp only at H
  split at H
  · exact eq_str (KV.same H R (congrArg Value.bool eqS_den.symm))
  · exact ne_str (KV.same H R (congrArg Value.bool (congrArg Bool.not eqS_den.symm)))
  · cases H

theorem cmpFF_wp (R : Rep B st ad s.heap) {op : CmpOp} {x y : UInt64} {t u : Tok} {Q : Value → Shared → Prop} (H : (cmpV op (.flt x) (.flt y) st).sat B.ρ (KV B ad s Q)) : Wp (model prog w) A (compareOp op (.float x t) (.float y u)) Q E s := by
  constructor
  unfold cmpV at H
  dsimp only at H
  split at H
  · exact AutoFloatOps.eq_0 (KV.same H R rfl)
  · exact AutoFloatOps.le_0 (KV.same H R rfl)
  · cases H

theorem cmpsI_wp (R : Rep B st ad s.heap) {op : CmpOp} {l h : Int} {x : IE} {y : Int} {t u : Tok} {Q : Value → Shared → Prop} (H : (cmpV op (.si l h x) (.int y) st).sat B.ρ (KV B ad s Q)) : Wp (model prog w) A (compareOp op (.int (x.den B.ρ) t) (.int y u)) Q E s := by
  constructor
  unfold cmpV at H
  dsimp only at H
  split at H
  · exact PyProof.Rows.eq_int (KV.same H R (congrArg Value.bool isIn1.symm))
  · cases H

theorem cmpBB_wp (R : Rep B st ad s.heap) {op : CmpOp} {x : BE} {y : Bool} {Q : Value → Shared → Prop} (H : (cmpV op (.sb x) (.val (.bool y)) st).sat B.ρ (KV B ad s Q)) : Wp (model prog w) A (compareOp op (.bool (x.den B.ρ)) (.bool y)) Q E s := by
  constructor
  unfold cmpV at H
  dsimp only at H
  split at H
  · exact eq_bool (KV.same H R (congrArg Value.bool (by
      cases y with
      | true => cases x.den B.ρ <;> rfl
      | false => show (x.den B.ρ == false) = !(x.den B.ρ); cases x.den B.ρ <;> rfl)))
  · cases H

/-- numbers, symbolic -/
noncomputable def NumsAt (ρ : Rho) (fs : List IE) (xs : List Value) : Prop := xs.length = fs.length ∧ ∀ (i : Nat) (f : IE), fs[i]? = some f → ∃ t, xs[i]? = some (.int (f.den ρ) t)

theorem VRs.nums {vs : List V} {xs : List Value} (H : VRs B.ρ ad vs xs) : ∀ {fs : List IE}, numsOf vs = some fs → NumsAt B.ρ fs xs := by
  induction H with
  | nil => intro fs e; cases e; exact ⟨rfl, fun i f h => by simp at h⟩
  | cons a _ ih =>
    intro fs e
    unfold numsOf at e
    split at e
    · rename_i f l h1 h2
      cases e
      obtain ⟨q1, q2⟩ := ih h2
      refine ⟨by simp [q1], fun i g hg => ?_⟩
      cases i with
      | zero =>
        simp at hg; subst hg
        unfold numOf at h1
        split at h1
        · cases h1; obtain ⟨t, rfl⟩ := a; exact ⟨t, rfl⟩
        · cases h1; obtain ⟨⟨t, rfl⟩, _⟩ := a; exact ⟨t, rfl⟩
        · cases h1
      | succ i => simp at hg; obtain ⟨t, e⟩ := q2 i g hg; exact ⟨t, by simpa using e⟩
    · cases e

theorem eqNums_range (ρ : Rho) : ∀ {x y : List IE}, x.length = y.length → eqNums ρ x y = (List.range x.length).all fun j => (x.getD j (.const 0)).den ρ == (y.getD j (.const 0)).den ρ
  | [], [], _ => rfl
  | [], _ :: _, h => by cases h
  | _ :: _, [], h => by cases h
  | a :: r, b :: t, h => by
    unfold eqNums
    rw [eqNums_range ρ (x := r) (y := t) (by simpa using h), List.length_cons, List.range_succ_eq_map, List.all_cons, List.all_map]
    rfl
theorem eqNums_len (ρ : Rho) : ∀ {x y : List IE}, x.length ≠ y.length → eqNums ρ x y = false
  | [], [], h => absurd rfl h
  | [], _ :: _, _ => rfl
  | _ :: _, [], _ => rfl
  | a :: r, b :: t, h => by
    unfold eqNums
    rw [eqNums_len ρ (x := r) (y := t) (by simpa using h), Bool.and_false]

theorem nums_eqAt {ρ : Rho} {A : Around} {x y : List IE} {xs ys : Array Value} (hx : NumsAt ρ x xs.toList) (hy : NumsAt ρ y ys.toList) (j : Nat) (h1 : j < xs.size) (h2 : j < ys.size) :
    EqAt A s xs[j] ys[j] ((x.getD j (.const 0)).den ρ == (y.getD j (.const 0)).den ρ) := by
  have l1 : j < x.length := by have := hx.1; simp at this; omega
  have l2 : j < y.length := by have := hy.1; simp at this; omega
  obtain ⟨t, e1⟩ := hx.2 j x[j] (List.getElem?_eq_getElem l1)
  obtain ⟨u, e2⟩ := hy.2 j y[j] (List.getElem?_eq_getElem l2)
  rw [Array.getElem?_toList, Array.getElem?_eq_getElem h1] at e1
  rw [Array.getElem?_toList, Array.getElem?_eq_getElem h2] at e2
  rw [Option.some.inj e1, Option.some.inj e2]
  have g1 : x.getD j (.const 0) = x[j] := by simp [List.getD, List.getElem?_eq_getElem l1]
  have g2 : y.getD j (.const 0) = y[j] := by simp [List.getD, List.getElem?_eq_getElem l2]
  rw [g1, g2]
  exact EqAt.int_int _ _ _ _

theorem NumsAt.size {ρ : Rho} {x : List IE} {xs : Array Value} (hx : NumsAt ρ x xs.toList) : xs.size = x.length := by have := hx.1; simpa using this

theorem cmpTup_wp (hu : A.units < cLine) {l b : Addr} {x y : List IE} {xs ys : Array Value} (hl : s.heap.IsTuple l xs) (hb : s.heap.IsTuple b ys) (hx : NumsAt B.ρ x xs.toList) (hy : NumsAt B.ρ y ys.toList) {Q : Value → Shared → Prop} (hQ : Q (.bool (eqNums B.ρ x y)) s) :
    wpAny (model prog w) A (compareOp .Eq (.ref l) (.ref b)) Q E s := by
  have n1 := hx.size
  have n2 := hy.size
  refine eq_tupleAt hl hb hu (e := fun j => (x.getD j (.const 0)).den B.ρ == (y.getD j (.const 0)).den B.ρ) (fun j h1 h2 => nums_eqAt hx hy j h1 h2) ?_
  rw [n1, n2]
  by_cases h : x.length = y.length
  · rw [eqNums_range B.ρ h] at hQ
    rw [← h, Nat.min_self]
    simpa using hQ
  · rw [eqNums_len B.ρ h] at hQ
    have : (x.length == y.length) = false := by simpa using h
    rw [this, Bool.and_false]; exact hQ

theorem rcList {A : Around} (hu : A.units < cLine) {l b : Addr} {x y : List IE} {xs ys : Array Value} (hl : s.heap.IsList l xs) (hb : s.heap.IsList b ys) (hx : NumsAt B.ρ x xs.toList) (hy : NumsAt B.ρ y ys.toList) : RcAt A s (.ref l) (.ref b) (eqNums B.ρ x y) := by
  have n1 := hx.size
  have n2 := hy.size
  by_cases h : x.length = y.length
  · have := RcAt.lists (e := fun j => (x.getD j (.const 0)).den B.ρ == (y.getD j (.const 0)).den B.ρ) hl hb (by rw [n1, n2, h]) hu (fun j h1 h2 => nums_eqAt hx hy j h1 h2)
    rw [n1, ← eqNums_range B.ρ h] at this
    exact this
  · rw [eqNums_len B.ρ h]
    exact RcAt.lists_lengths hl hb (by rw [n1, n2]; simpa using h) hu

theorem rows_of (R : Rep B st ad s.heap) {vs : List V} {xs : List Value} (H : VRs B.ρ ad vs xs) : ∀ {ys : List (List IE)}, rowsOf st vs = some ys →
    xs.length = ys.length ∧ vs.length = ys.length ∧ ∀ (i : Nat) (y : List IE), ys[i]? = some y → ∃ k a zs, vs[i]? = some (.ref k) ∧ adr ad k = some a ∧ xs[i]? = some (.ref a) ∧ s.heap.IsList a zs ∧ NumsAt B.ρ y zs.toList := by
  induction H with
  | nil => intro ys e; cases e; exact ⟨rfl, rfl, fun i y h => by simp at h⟩
  | cons a _ ih =>
    intro ys e
    unfold rowsOf at e
    split at e
    · rename_i heq; cases heq
    · rename_i k r heq
      cases heq
      split at e
      · rename_i us hst
        split at e
        · rename_i l ls h1 h2
          cases e
          obtain ⟨q1, q1', q2⟩ := ih h2
          obtain ⟨ad1, ha, rfl⟩ := a
          obtain ⟨ob, g1, zs, n, rfl, hzs⟩ := R.of hst ha
          refine ⟨by simp [q1], by simp [q1'], fun i y hy => ?_⟩
          cases i with
          | zero => simp at hy; subst hy; exact ⟨k, ad1, zs, by simp, ha, by simp, ⟨_, g1, rfl, n, rfl⟩, hzs.nums h1⟩
          | succ i => simp at hy; obtain ⟨k', a', zs', e0, e1, e2, e3⟩ := q2 i y hy; exact ⟨k', a', zs', by simpa using e0, e1, by simpa using e2, e3⟩
        · cases e
      · cases e
    · cases e

noncomputable def vi : Value → Int
  | .int i _ => i
  | _ => 0
theorem NumsAt.map {ρ : Rho} {x : List IE} {xs : List Value} (h : NumsAt ρ x xs) : x.map (·.den ρ) = xs.map vi := by
  obtain ⟨h1, h2⟩ := h
  refine List.ext_getElem? fun i => ?_
  rw [List.getElem?_map, List.getElem?_map]
  cases q : x[i]? with
  | none =>
    have : xs[i]? = none := by rw [List.getElem?_eq_none_iff] at q ⊢; omega
    rw [this]; rfl
  | some f => obtain ⟨t, e⟩ := h2 i f q; rw [e]; rfl
theorem eqNums_map {ρ : Rho} : ∀ {y x : List IE}, decide (y.map (·.den ρ) = x.map (·.den ρ)) = eqNums ρ y x
  | [], [] => rfl
  | [], _ :: _ => rfl
  | _ :: _, [] => rfl
  | a :: r, b :: t => by
    unfold eqNums
    rw [← eqNums_map (y := r) (x := t)]
    simp only [List.map_cons, List.cons.injEq, Bool.decide_and]
    congr 1
open Classical in
noncomputable def rowEq (s : Shared) (n : List Int) (v : Value) : Bool := decide (∃ a us, v = .ref a ∧ s.heap.IsList a us ∧ us.toList.map vi = n)
theorem IsList.same {h : Heap} {a : Addr} {us vs : Array Value} (x : h.IsList a us) (y : h.IsList a vs) : us = vs := by
  obtain ⟨o, e1, _, n, d1⟩ := x
  obtain ⟨o2, e2, _, m, d2⟩ := y
  rw [e1] at e2; cases e2
  rw [d1] at d2; cases d2; rfl
theorem rowEq_of {n : List Int} {a : Addr} {us : Array Value} (h : s.heap.IsList a us) : rowEq s n (.ref a) = decide (us.toList.map vi = n) := by
  unfold rowEq
  refine decide_eq_decide.mpr ⟨?_, fun e => ⟨a, us, rfl, h, e⟩⟩
  rintro ⟨a', us', e, h', r⟩
  cases e
  rw [IsList.same h h']; exact r

theorem any_rows {ρ : Rho} {x : List IE} (e : Value → Bool) : ∀ {xs : List Value} {ys : List (List IE)}, xs.length = ys.length → (∀ (i : Nat) (y : List IE) (v : Value), ys[i]? = some y → xs[i]? = some v → e v = eqNums ρ y x) → xs.any e = ys.any fun y => eqNums ρ y x
  | [], [], _, _ => rfl
  | [], _ :: _, h, _ => by cases h
  | _ :: _, [], h, _ => by cases h
  | v :: r, y :: t, h, H => by
    rw [List.any_cons, List.any_cons, H 0 y v rfl rfl, any_rows e (by simpa using h) fun i y v h1 h2 => H (i + 1) y v (by simpa using h1) (by simpa using h2)]

theorem kept_nil {ρ : Rho} {vs : List (BE × V)} {xs : Array Value} (h : VRs ρ ad (kept ρ vs) xs.toList) : (kept ρ vs).isEmpty = xs.isEmpty := by
  have := h.length
  cases q : kept ρ vs with
  | nil =>
    rw [q] at this
    have h0 : xs.size = 0 := by simpa using this.symm
    simp [Array.isEmpty, h0]
  | cons a r =>
    rw [q] at this
    have h0 : xs.size ≠ 0 := by simp at this; omega
    simp [Array.isEmpty, h0]

theorem cmpRef_wp (hu : A.units + 8 < cLine) (R : Rep B st ad s.heap) {op : CmpOp} {i j : Nat} {a b : Addr} (ha : adr ad i = some a) (hb : adr ad j = some b) {Q : Value → Shared → Prop} (H : (cmpV op (.ref i) (.ref j) st).sat B.ρ (KV B ad s Q)) : Wp (model prog w) A (compareOp op (.ref a) (.ref b)) Q E s := by
  constructor
  unfold cmpV at H
  dsimp only at H
  split at H
  · rename_i vs h1 h2
    obtain ⟨ob, q1, xs, n, rfl, hxs⟩ := R.of h1 ha
    obtain ⟨ob2, q2, ys, m, rfl, hys⟩ := R.of h2 hb
    have hy : ys.size = 0 := VRs.size hys
    have K : Q (.bool (kept B.ρ vs).isEmpty) s := KV.same H R (congrArg Value.bool emptyB_den.symm)
    rw [kept_nil hxs] at K
    by_cases h0 : xs.size = 0
    · refine eq_listAt (e := fun _ => true) ⟨_, q1, rfl, n, rfl⟩ ⟨_, q2, rfl, m, rfl⟩ (by rw [h0, hy]) (by omega) (fun j h1 _ => by omega) ?_
      rw [h0]
      have : xs.isEmpty = true := by simp [Array.isEmpty, h0]
      rw [this] at K
      exact K
    · refine eq_list_lengthsAt ⟨_, q1, rfl, n, rfl⟩ ⟨_, q2, rfl, m, rfl⟩ (by rw [hy]; simpa using h0) (by omega) ?_
      have : xs.isEmpty = false := by simp [Array.isEmpty, h0]
      rw [this] at K
      exact K
  · rename_i vs ws h1 h2
    split at H
    · rename_i x y hx hy
      obtain ⟨ob, q1, xs, n, rfl, hxs⟩ := R.of h1 ha
      obtain ⟨ob2, q2, ys, m, rfl, hys⟩ := R.of h2 hb
      exact cmpTup_wp (B := B) (by omega) ⟨_, q1, rfl, n, rfl⟩ ⟨_, q2, rfl, m, rfl⟩ (hxs.nums hx) (hys.nums hy) (KV.same H R (congrArg Value.bool eqB_den.symm))
    · cases H
  · rename_i vs ws h1 h2
    split at H
    · rename_i x ys hx hy
      split at H
      · rename_i hno
        obtain ⟨ob, q1, xs, n, rfl, hxs⟩ := R.of h1 ha
        obtain ⟨ob2, q2, zs, m, rfl, hzs⟩ := R.of h2 hb
        obtain ⟨r1, r1', r2⟩ := rows_of R hzs hy
        have hX := hxs.nums hx
        have hin : ∀ (i' : Nat) (v : Value), zs.toList[i']? = some v → ∃ y a', ys[i']? = some y ∧ v = .ref a' ∧ a' ≠ a ∧ RcAt A.in1 s (.ref a') (.ref a) (eqNums B.ρ y x) := fun i' v hv => by
          have hlt : i' < ys.length := by rw [← r1]; exact (List.getElem?_eq_some_iff.mp hv).1
          obtain ⟨k, a', us, e0, e1, e2, e3, e4⟩ := r2 i' ys[i'] (List.getElem?_eq_getElem hlt)
          rw [hv] at e2
          refine ⟨ys[i'], a', List.getElem?_eq_getElem hlt, Option.some.inj e2, fun z => ?_, rcList (by show A.units + 1 < cLine; omega) e3 ⟨_, q1, rfl, n, rfl⟩ e4 hX⟩
          subst z
          have hk := R.inj k i a' e1 ha
          subst hk
          have := List.all_eq_true.mp hno _ (List.mem_of_getElem? e0)
          simp [noRefV] at this
        have key : ∀ (i' : Nat) (y : List IE) (v : Value), ys[i']? = some y → zs.toList[i']? = some v → rowEq s (x.map (·.den B.ρ)) v = eqNums B.ρ y x := fun i' y v hy hv => by
          obtain ⟨k, a', us, e0, e1, e2, e3, e4⟩ := r2 i' y hy
          rw [hv] at e2
          rw [Option.some.inj e2, rowEq_of e3, ← e4.map, eqNums_map]
        refine in_listAt (rowEq s (x.map (·.den B.ρ))) ⟨_, q2, rfl, m, rfl⟩ (fun v hv => ?_) ?_
        · obtain ⟨i', hi', e⟩ := Array.mem_iff_getElem.mp hv
          have hv' : zs.toList[i']? = some v := by rw [Array.getElem?_toList, Array.getElem?_eq_getElem hi', e]
          obtain ⟨y, a', p1, rfl, p3, p4⟩ := hin i' v hv'
          rw [key i' y _ p1 hv']
          exact EqAt.of_refs p3 p4
        · have : zs.any (rowEq s (x.map (·.den B.ρ))) = ys.any fun y => eqNums B.ρ y x := by
            rw [← Array.any_toList]
            exact any_rows _ r1 key
          rw [this]
          exact KV.same H R (congrArg Value.bool anyB_den.symm)
      · cases H
    · cases H
  · cases H

theorem cmpV_wp (hu : A.units + 8 < cLine) (R : Rep B st ad s.heap) {op : CmpOp} {a b : V} {x y : Value} (ha : VR B.ρ ad a x) (hb : VR B.ρ ad b y) {Q : Value → Shared → Prop} (H : (cmpV op a b st).sat B.ρ (KV B ad s Q)) : Wp (model prog w) A (compareOp op x y) Q E s := by
  cases a with
  | int i => cases b with
    | int j =>
      obtain ⟨t, rfl⟩ := ha
      obtain ⟨u, rfl⟩ := hb
      exact cmpII_wp R H
    | _ => unfold cmpV at H; dsimp only at H; cases H
  | si l h i => cases b with
    | int j =>
      obtain ⟨⟨t, rfl⟩, ha⟩ := ha
      obtain ⟨u, rfl⟩ := hb
      exact cmpsI_wp R H
    | _ => unfold cmpV at H; dsimp only at H; cases H
  | flt i => cases b with
    | flt j =>
      obtain ⟨t, rfl⟩ := ha
      obtain ⟨u, rfl⟩ := hb
      exact cmpFF_wp R H
    | _ => unfold cmpV at H; dsimp only at H; cases H
  | str i => cases b with
    | str j =>
      obtain ⟨t, rfl⟩ := ha
      obtain ⟨u, rfl⟩ := hb
      exact cmpSS_wp R H
    | _ => unfold cmpV at H; dsimp only at H; cases H
  | ss i => cases b with
    | str j =>
      obtain ⟨⟨t, rfl⟩, _⟩ := ha
      obtain ⟨u, rfl⟩ := hb
      exact cmpsS_wp R H
    | _ => unfold cmpV at H; dsimp only at H; cases H
  | sb i => cases b with
    | val z => cases z with
      | bool j =>
        obtain rfl := ha
        obtain rfl := hb
        exact cmpBB_wp R H
      | _ => unfold cmpV at H; dsimp only at H; cases H
    | _ => unfold cmpV at H; dsimp only at H; cases H
  | ref i => cases b with
    | ref j =>
      obtain ⟨a, ha, rfl⟩ := ha
      obtain ⟨b, hb, rfl⟩ := hb
      exact cmpRef_wp hu R ha hb H
    | _ => unfold cmpV at H; dsimp only at H; cases H
  | _ => unfold cmpV at H; dsimp only at H; cases H

/-- a list of either kind -/
theorem Rep.lst (R : Rep B st ad s.heap) {k : Nat} {l : Addr} {vs : List V} (hl : adr ad k = some l) (hst : lstOf st[k]? = some vs) : ∃ xs, s.heap.IsList l xs ∧ VRs B.ρ ad vs xs.toList := by
  unfold lstOf at hst
  split at hst
  · rename_i h1
    cases hst
    obtain ⟨ob, h1, xs, n, rfl, hxs⟩ := R.of h1 hl
    exact ⟨xs, ⟨_, h1, rfl, n, rfl⟩, hxs⟩
  · rename_i h1
    cases hst
    obtain ⟨ob, h1, hc, xs, n, hd, hxs⟩ := R.of h1 hl
    exact ⟨xs, ⟨_, h1, hc, n, hd⟩, hxs⟩
  · cases hst


theorem KB.same {Q : Bool → Shared → Prop} {b : Bool} {st : St} (K : KB B ad s Q (b, st)) (R : Rep B st ad s.heap) : Q b s := K ad s.heap s.toks (Le.refl _) R
theorem KB.here {Q : Bool → Shared → Prop} {b : Bool} {st : St} (K : KB B ad s Q (b, st)) (R : Rep B st ad s.heap) (tk : Nat) : Q b { s with toks := tk } := K ad s.heap tk (Le.refl _) R

theorem truV_wp (R : Rep B st ad s.heap) {a : V} {x : Value} (ha : VR B.ρ ad a x) {Q : Bool → Shared → Prop} (H : (truV a st).sat B.ρ (fun b => KB B ad s Q (b, st))) : Wp (model prog w) A (truthy x) Q E s := by
  constructor
  unfold truV at H
  split at H
  · obtain ⟨t, rfl⟩ := ha
    exact truthy_int (KB.same H R)
  · obtain ⟨t, rfl⟩ := ha
    split at H
    · rename_i hs
      have hs := sLen hs
      exact SBL.truthy (by omega) (KB.here H R _)
    · cases H
  · obtain rfl := ha
    rename_i b
    refine wpAny_truthy_bool ?_
    cases hb : b.den B.ρ with
    | true => exact KB.same (H.1 hb) R
    | false => exact KB.same (H.2 hb) R
  · obtain rfl := ha
    exact wpAny_truthy_bool (KB.same H R)
  · obtain rfl := ha
    exact truthy_none (KB.same H R)
  · obtain ⟨l, hl, rfl⟩ := ha
    split at H
    · rename_i vs hvs
      split at H
      · rename_i hn
        have hn := of_decide_eq_true hn
        obtain ⟨xs, h1, h2⟩ := R.lst hl hvs
        have hsz := VRs.size h2
        refine wpAny_truthy_list h1 (by rw [hsz]; omega) ?_
        have e : (!xs.isEmpty) = ((vs.length : Int) != 0) := by
          rw [← hsz]
          by_cases h0 : xs.size = 0 <;> simp [h0, Array.isEmpty]
        rw [e]
        exact KB.here H R _
      · cases H
    · cases H
  · cases H
end
end Mine

namespace Mine
section
variable {prog : Program} {w : World} {B : Bs} {c : Cfg} {cx : Cx} {env : Env} {ad : Ad} {st : St} {s : Shared} {A : Around} {E : Value → Shared → Prop}

theorem subscripted_ops (slice : Expr) (o i : Value) : ∃ ops, subscripted slice false o i = operate ops (getItem o i) := by
  unfold subscripted
  split
  · exact ⟨_, rfl⟩
  · rename_i h; cases h
  · exact ⟨_, rfl⟩

theorem tail_of {value slice : Expr} {o i : Value} {T id : String} {Q : Value → Shared → Prop} (hT : s.TypeIs o T)
    (hl : typeLookup (.type T) "__getitem__" = pure (some (.builtin id))) (hg : wpAny (model prog w) A (getItem o i) Q E s) : Wp (model prog w) A (subscriptTail value slice o i) Q E s :=
  let ⟨_, e⟩ := subscripted_ops slice o i
  ⟨tail_any hT hl hg e⟩

theorem IsList.typeIs {l : Addr} {xs : Array Value} (h : s.heap.IsList l xs) : s.TypeIs (.ref l) "list" := let ⟨o, ho, hc, _⟩ := h; ⟨o, ho, hc⟩

theorem getListAt {l : Addr} {xs : Array Value} {vs : List V} {j : Int} {u : Tok} {p : Nat} {v : V} {Q : Value → Shared → Prop} (hl : s.heap.IsList l xs) (hv : VRs B.ρ ad vs xs.toList) (hp : placeOf vs.length j = some p) (hx : vs[p]? = some v)
    (hQ : ∀ x, VR B.ρ ad v x → Q x s) : wpAny (model prog w) A (getItem (.ref l) (.int j u)) Q E s := by
  obtain ⟨x, hxx, hr⟩ := hv.get hx
  have hsz := VRs.size hv
  rw [Array.getElem?_toList] at hxx
  unfold placeOf at hp
  split at hp
  · rename_i h1
    have h1 := of_decide_eq_true h1
    cases hp
    exact wpAny_getItem_list hl h1.1 (by omega) hxx (hQ x hr)
  · split at hp
    · rename_i h1
      have h1 := of_decide_eq_true h1
      cases hp
      refine wpAny_getItem_list_neg hl h1.2.1 (by omega) (by omega) ?_ (hQ x hr)
      rw [hsz, Int.add_comm]; exact hxx
    · cases hp

theorem VRs.strs {vs : List V} {xs : List Value} (H : VRs B.ρ ad vs xs) : ∀ {l : List Str}, strsOf vs = some l → (∀ (i : Nat) (z : Str), l[i]? = some z → z.length ≤ 1000 ∧ ∃ t, xs[i]? = some (.str z t)) ∧ l.length = vs.length ∧ ∃ ts : List (Str × Tok), ts.map (·.1) = l ∧ xs = strValues ts := by
  induction H with
  | nil => intro l e; cases e; exact ⟨fun i z h => by simp at h, rfl, [], rfl, rfl⟩
  | cons a _ ih =>
    intro l e
    unfold strsOf at e
    split at e
    · rename_i heq; cases heq
    · rename_i z r heq
      cases heq
      split at e
      · rename_i hs hr
        cases e
        obtain ⟨t, rfl⟩ := a
        obtain ⟨h1, h2, ts, h3, h4⟩ := ih hr
        refine ⟨fun i y h => ?_, by simp [h2], (z, t) :: ts, by simp [h3], by simp [strValues, h4]⟩
        cases i with
        | zero => simp at h; subst h; exact ⟨sLen hs, t, rfl⟩
        | succ i => simp at h; obtain ⟨q1, u, q2⟩ := h1 i y h; exact ⟨q1, u, by simpa using q2⟩
      · cases e
    · cases e

theorem itemV_wp (R : Rep B st ad s.heap) {a i : V} {x y : Value} {value slice : Expr} (ha : VR B.ρ ad a x) (hi : VR B.ρ ad i y) {Q : Value → Shared → Prop} (H : (itemV a i st).sat B.ρ (KV B ad s Q)) : Wp (model prog w) A (getItem x y) Q E s ∧ Wp (model prog w) A (subscriptTail value slice x y) Q E s := by
  unfold itemV at H
  split at H
  · obtain ⟨l, hl, rfl⟩ := ha
    obtain ⟨u, rfl⟩ := hi
    split at H
    · rename_i vs hvs
      split at H
      · rename_i p hp
        split at H
        · rename_i v hv
          obtain ⟨xs, h1, h2⟩ := R.lst hl hvs
          have g := getListAt (prog := prog) (w := w) (A := A) (E := E) (u := u) h1 h2 hp hv fun x hx => KV.same H R hx
          exact ⟨⟨g⟩, tail_of (IsList.typeIs h1) F.slot_list_getitem.lookup g⟩
        · cases H
      · cases H
    · cases H
  · obtain ⟨l, hl, rfl⟩ := ha
    rename_i lo hi' jf
    obtain ⟨⟨u, rfl⟩, hj⟩ := hi
    generalize hjj : jf.den B.ρ = j at hj ⊢
    split at H
    · rename_i vs hvs
      split at H
      · rename_i zs hzs hb
        have hb := of_decide_eq_true hb
        obtain ⟨xs, h1, h2⟩ := R.lst hl hvs
        obtain ⟨h3, h4, _⟩ := h2.strs hzs
        have hlt : j.toNat < zs.length := by omega
        obtain ⟨h5, t, h6⟩ := h3 j.toNat zs[j.toNat] (List.getElem?_eq_getElem hlt)
        rw [Array.getElem?_toList] at h6
        have e : zs.getD j.toNat Str.empty = zs[j.toNat] := by simp [List.getD, List.getElem?_eq_getElem hlt]
        have g : wpAny (model prog w) A (getItem (.ref l) (.int j u)) Q E s := wpAny_getItem_list h1 (by omega) (by omega) h6 (KV.same H R ⟨⟨t, by show _ = Value.str (zs.getD (jf.den B.ρ).toNat Str.empty) t; rw [hjj, e]⟩, by show (zs.getD (jf.den B.ρ).toNat Str.empty).length ≤ 1000; rw [hjj, e]; exact h5⟩)
        exact ⟨⟨g⟩, tail_of (IsList.typeIs h1) F.slot_list_getitem.lookup g⟩
      · cases H
    · cases H
  · obtain ⟨t, rfl⟩ := ha
    obtain ⟨u, rfl⟩ := hi
    rename_i z j
    split at H
    · rename_i h1 h2
      have h1 := of_decide_eq_true h1
      have h2 := sLen h2
      have I : ItemOn (model prog w) A E (.str z t) (.int j u) Q s := SB.item (by unfold fitsSsize; simp; omega) (charAt_isSome h1.1 h1.2) (KV.here H R ⟨_, rfl⟩ _)
      obtain ⟨T, id, hl, hT, g⟩ := I
      exact ⟨⟨g⟩, tail_of hT hl g⟩
    · cases H
  · cases H

theorem setItemV_wp (R : Rep B st ad s.heap) {a i v : V} {x y z : Value} (ha : VR B.ρ ad a x) (hi : VR B.ρ ad i y) (hv : VR B.ρ ad v z) {Q : Unit → Shared → Prop} (H : (setItemV a i v st).sat B.ρ (KU B ad s (Q ()))) : Wp (model prog w) A (setItem x y z) Q E s := by
  constructor
  unfold setItemV at H
  split at H
  · obtain ⟨l, hl, rfl⟩ := ha
    obtain ⟨u, rfl⟩ := hi
    split at H
    · rename_i vs hvs
      split at H
      · rename_i hb
        have hb := of_decide_eq_true hb
        obtain ⟨xs, h1, h2⟩ := R.lst hl hvs
        have hsz := VRs.size h2
        refine wpAny_setItem_list h1 hb.1 (by omega) (by omega) fun h' h3 h4 => ?_
        refine H ad h' s.toks (Le.refl _) (R.upd hl (fun b o hb e => by rw [h4.2 b hb]; exact e) ?_)
        obtain ⟨o, e1, e2, n, e3⟩ := h3
        refine ⟨o, e1, e2, _, n, e3, ?_⟩
        rw [Array.toList_setIfInBounds]
        exact h2.set hv _
      · cases H
    · cases H
  · cases H

theorem part_of {a : V} {x : Value} {o : Option Int} (ha : VR B.ρ ad a x) (h : partV a = some o) : IsPart x o ∧ ∃ r : Option (Int × Tok), partValue r = x ∧ r.map (·.1) = o := by
  unfold partV at h
  split at h
  · cases h; obtain ⟨t, rfl⟩ := ha; exact ⟨.int _ _, some (_, t), rfl, rfl⟩
  · cases h; obtain rfl := ha; exact ⟨.none, none, rfl, rfl⟩
  · cases h

theorem ssD_map {tab : List Str} {d : Str} {j : IE} {ρ : Rho} (g : Str → Str) : ssD (tab.map g) (g d) j ρ = g (ssD tab d j ρ) := by
  show (tab.map g).getD (j.den ρ).toNat (g d) = g (tab.getD (j.den ρ).toNat d)
  rw [List.getD_eq_getElem?_getD, List.getD_eq_getElem?_getD, List.getElem?_map]
  cases tab[(j.den ρ).toNat]? <;> rfl
theorem ss_slice {tab : List Str} {d : Str} {j : IE} {ρ : Rho} {ad : Ad} {l h : Option Int} {t : Tok} (hz : (ssD tab d j ρ).length ≤ 1000) : VR ρ ad (.ss (tab.map fun s => Txt.slice s l h) (Txt.slice d l h) j) (.str (Txt.slice (ssD tab d j ρ) l h) t) := by
  have e := ssD_map (tab := tab) (d := d) (j := j) (ρ := ρ) fun s => Txt.slice s l h
  refine ⟨⟨t, by rw [e]⟩, ?_⟩
  rw [e]
  exact Nat.le_trans (Txt.slice_le (ssD tab d j ρ) _ _) hz

theorem sliceV_wp (R : Rep B st ad s.heap) {fr : Nat} {a l u p : V} {x vl vu vp : Value} {value slice : Expr} (ha : VR B.ρ ad a x) (hl : VR B.ρ ad l vl) (hu : VR B.ρ ad u vu) (hp : VR B.ρ ad p vp) {Q : Value → Shared → Prop} (H : (sliceV fr a l u p st).sat B.ρ (KV B ad s Q)) :
    Wp (model prog w) A (subscriptTail value slice x (.ref s.heap.objs.size)) Q E { s with heap := s.heap.push { cls := .type "slice", data := .fields #[vl, vu, vp] } } := by
  have R' : Rep B st ad (s.heap.push { cls := .type "slice", data := .fields #[vl, vu, vp] }) := R.ext fun _ _ e => Heap.get?_push_of_some _ e
  unfold sliceV at H
  split at H
  · rename_i lo hi hlo hhi
    obtain rfl := hp
    obtain ⟨p1, r1, rfl, q1⟩ := part_of hl hlo
    obtain ⟨p2, r2, rfl, q2⟩ := part_of hu hhi
    split at H
    · obtain ⟨t, rfl⟩ := ha
      rename_i z
      split at H
      · rename_i hz _
        refine tail_of (typeIs_str _ _ _) F.slot_str_getitem.lookup (wpAny_getItem_str_slice (l := r1) (u := r2) (st := none) ⟨_, Heap.get?_push_size _ rfl, rfl, rfl⟩ rfl
          (post_val_or_str ⟨Nat.le_trans (Txt.slice_le z _ _) (by have := sLen hz; rw [sizeLine_eq]; omega), fun t' k => ?_⟩))
        subst q1 q2
        have := H ad _ k (.str (Txt.slice z (r1.map (·.1)) (r2.map (·.1))) t') (Le.refl _) R' ⟨t', rfl⟩
        exact this
      · cases H
    · obtain ⟨⟨t, rfl⟩, hz⟩ := ha
      rename_i tab d j
      split at H
      · refine tail_of (typeIs_str _ _ _) F.slot_str_getitem.lookup (wpAny_getItem_str_slice (l := r1) (u := r2) (st := none) ⟨_, Heap.get?_push_size _ rfl, rfl, rfl⟩ rfl
          (post_val_or_str ⟨Nat.le_trans (Txt.slice_le (ssD tab d j B.ρ) _ _) (by rw [sizeLine_eq]; omega), fun t' k => ?_⟩))
        subst q1 q2
        have hv := ss_slice (ad := ad) (l := r1.map (·.1)) (h := r2.map (·.1)) (t := t') hz
        have := H ad _ k _ (Le.refl _) R' hv
        exact this
      · cases H
    · obtain ⟨d, hd, rfl⟩ := ha
      split at H
      · rename_i vs n hvs
        split at H
        · rename_i hn
          have hn := of_decide_eq_true hn
          obtain ⟨xs, h1, h2⟩ := Rep.lst (s := { s with heap := s.heap.push { cls := .type "slice", data := .fields #[partValue r1, partValue r2, .none] } }) R' hd hvs
          have hsz := VRs.size h2
          have h1 : ({ s with heap := s.heap.push { cls := .type "slice", data := .fields #[partValue r1, partValue r2, .none] } } : Shared).heap.IsList d xs := h1
          refine tail_of (IsList.typeIs h1) F.slot_list_getitem.lookup (wpAny_getItem_list_slice h1 (Heap.IsSliceOf.new _ _ _ _) p1 p2 .none (by simp) ?_ (by rw [hsz, sizeLine_eq]; omega))
          have K : KV B ad s Q _ := H
          refine KV.push (K.at (Le.refl _)) rfl R' (tk := s.toks) rfl ?_
          refine ⟨_, _, rfl, ?_⟩
          rw [kms_pick_eq]
          have : kms_pick xs.toList none (some n) = xs.toList.take n.toNat := by
            unfold kms_pick kms_lo kms_hi
            dsimp only
            rw [if_neg (by omega : ¬ n < 0)]
            simp only [List.drop_zero, Nat.sub_zero]
            rw [List.take_eq_take_iff]
            omega
          rw [this]
          exact (h2.take _).mono (Le.app _ _)
        · cases H
      · cases H
    · cases H
  · cases H
end
end Mine

namespace Mine
section
variable {prog : Program} {w : World} {B : Bs} {c : Cfg} {cx : Cx} {env : Env} {ad : Ad} {st : St} {s : Shared} {A : Around} {E : Value → Shared → Prop}

theorem ltV_ff (a b : UInt64) (t u : Tok) : PySem.Flt.ltV (.float a t) (.float b u) = (Float64.cmp a b == some .lt) := rfl

theorem max_three_f {a b c : UInt64} {t u x : Tok} {Q : Value → Shared → Prop} (hh : A.handled = none)
    (h : ∀ h' tk v, (∀ d o, s.heap.get? d = some o → h'.get? d = some o) → (∃ p, v = .float (match Float64.cmp (match Float64.cmp a b == some .lt with | true => b | false => a) c == some .lt with | true => c | false => (match Float64.cmp a b == some .lt with | true => b | false => a)) p) → Q v { s with heap := h', toks := tk }) :
    wpAny (model prog w) A (call (.builtin "max") [.float a t, .float b u, .float c x]) Q E s := by
  have hT : (s.heap.push { cls := .type "tuple", data := .seq #[.float a t, .float b u, .float c x] }).IsTuple s.heap.objs.size #[.float a t, .float b u, .float c x] := ⟨_, Heap.get?_push_size _ rfl, rfl, 0, rfl⟩
  refine call_max_three (wpAny_pyIter_tuple hT ?_)
  have hsz : (s.heap.push { cls := .type "tuple", data := .seq #[.float a t, .float b u, .float c x] }).objs.size = s.heap.objs.size + 1 := Heap.size_push ..
  refine ⟨_, [_, s.heap.objs.size], [_], _, _, _, _, rfl, Walks.tuple (A := A.in1) hh _ s.heap.objs.size (by rw [hsz]; exact Nat.ne_of_lt (Nat.lt_succ_self _)) #[.float a t, .float b u, .float c x],
    ⟨⟨_, Heap.get?_push_size _ rfl, rfl, rfl⟩, hT.push _⟩, fun d hd => ?_, by simp, PySem.Flt.cmpOf_gt #[.float a t, .float b u, .float c x] (fun v hv => ?_), fun v h' tk hP hk => ?_⟩
  · show d < ((s.heap.push _).push _).objs.size
    rw [Heap.size_push, hsz]
    rcases List.mem_cons.mp hd with rfl | hd
    · rw [hsz]; exact Nat.lt_succ_self _
    · rcases List.mem_cons.mp hd with rfl | hd
      · exact Nat.lt_succ_of_lt (Nat.lt_succ_self _)
      · cases hd
  · simp at hv
    rcases hv with rfl | rfl | rfl <;> constructor
  · have hold : ∀ d o, s.heap.get? d = some o → h'.get? d = some o := fun d o e => by
      refine hk d o (fun hm => ?_) (Heap.get?_push_of_some _ (Heap.get?_push_of_some _ e))
      rcases List.mem_cons.mp hm with e1 | hm
      · have := Heap.lt_size e; rw [e1, hsz] at this; exact Nat.lt_irrefl _ (Nat.lt_of_succ_lt this)
      · cases hm
    refine h h' tk v hold ?_
    have hP' : #[Value.float a t, .float b u, .float c x][argBest (fun i j => PySem.Flt.ltV (#[Value.float a t, .float b u, .float c x].getD j .none) (#[Value.float a t, .float b u, .float c x].getD i .none)) 2]? = some v := hP
    clear hP hk h
    cases h1 : Float64.cmp a b == some .lt
    · cases h2 : Float64.cmp a c == some .lt
      · have e : argBest (fun i j => PySem.Flt.ltV (#[Value.float a t, .float b u, .float c x].getD j .none) (#[Value.float a t, .float b u, .float c x].getD i .none)) 2 = 0 := by simp [argBest, ltV_ff, h1, h2]
        rw [e] at hP'
        exact ⟨t, by simpa using hP'.symm⟩
      · have e : argBest (fun i j => PySem.Flt.ltV (#[Value.float a t, .float b u, .float c x].getD j .none) (#[Value.float a t, .float b u, .float c x].getD i .none)) 2 = 2 := by simp [argBest, ltV_ff, h1, h2]
        rw [e] at hP'
        exact ⟨x, by simpa using hP'.symm⟩
    · cases h2 : Float64.cmp b c == some .lt
      · have e : argBest (fun i j => PySem.Flt.ltV (#[Value.float a t, .float b u, .float c x].getD j .none) (#[Value.float a t, .float b u, .float c x].getD i .none)) 2 = 1 := by simp [argBest, ltV_ff, h1, h2]
        rw [e] at hP'
        exact ⟨u, by simpa using hP'.symm⟩
      · have e : argBest (fun i j => PySem.Flt.ltV (#[Value.float a t, .float b u, .float c x].getD j .none) (#[Value.float a t, .float b u, .float c x].getD i .none)) 2 = 2 := by simp [argBest, ltV_ff, h1, h2]
        rw [e] at hP'
        exact ⟨x, by simpa using hP'.symm⟩

theorem min_three_f {a b c : UInt64} {t u x : Tok} {Q : Value → Shared → Prop} (hh : A.handled = none)
    (h : ∀ h' tk v, (∀ d o, s.heap.get? d = some o → h'.get? d = some o) → (∃ p, v = .float (match Float64.cmp c (match Float64.cmp b a == some .lt with | true => b | false => a) == some .lt with | true => c | false => (match Float64.cmp b a == some .lt with | true => b | false => a)) p) → Q v { s with heap := h', toks := tk }) :
    wpAny (model prog w) A (call (.builtin "min") [.float a t, .float b u, .float c x]) Q E s := by
  have hT : (s.heap.push { cls := .type "tuple", data := .seq #[.float a t, .float b u, .float c x] }).IsTuple s.heap.objs.size #[.float a t, .float b u, .float c x] := ⟨_, Heap.get?_push_size _ rfl, rfl, 0, rfl⟩
  refine call_min_three (wpAny_pyIter_tuple hT ?_)
  have hsz : (s.heap.push { cls := .type "tuple", data := .seq #[.float a t, .float b u, .float c x] }).objs.size = s.heap.objs.size + 1 := Heap.size_push ..
  refine ⟨_, [_, s.heap.objs.size], [_], _, _, _, _, rfl, Walks.tuple (A := A.in1) hh _ s.heap.objs.size (by rw [hsz]; exact Nat.ne_of_lt (Nat.lt_succ_self _)) #[.float a t, .float b u, .float c x],
    ⟨⟨_, Heap.get?_push_size _ rfl, rfl, rfl⟩, hT.push _⟩, fun d hd => ?_, by simp, PySem.Flt.cmpOf_lt #[.float a t, .float b u, .float c x] (fun v hv => ?_), fun v h' tk hP hk => ?_⟩
  · show d < ((s.heap.push _).push _).objs.size
    rw [Heap.size_push, hsz]
    rcases List.mem_cons.mp hd with rfl | hd
    · rw [hsz]; exact Nat.lt_succ_self _
    · rcases List.mem_cons.mp hd with rfl | hd
      · exact Nat.lt_succ_of_lt (Nat.lt_succ_self _)
      · cases hd
  · simp at hv
    rcases hv with rfl | rfl | rfl <;> constructor
  · have hold : ∀ d o, s.heap.get? d = some o → h'.get? d = some o := fun d o e => by
      refine hk d o (fun hm => ?_) (Heap.get?_push_of_some _ (Heap.get?_push_of_some _ e))
      rcases List.mem_cons.mp hm with e1 | hm
      · have := Heap.lt_size e; rw [e1, hsz] at this; exact Nat.lt_irrefl _ (Nat.lt_of_succ_lt this)
      · cases hm
    refine h h' tk v hold ?_
    have hP' : #[Value.float a t, .float b u, .float c x][argBest (fun i j => PySem.Flt.ltV (#[Value.float a t, .float b u, .float c x].getD i .none) (#[Value.float a t, .float b u, .float c x].getD j .none)) 2]? = some v := hP
    clear hP hk h
    cases h1 : Float64.cmp b a == some .lt
    · cases h2 : Float64.cmp c a == some .lt
      · have e : argBest (fun i j => PySem.Flt.ltV (#[Value.float a t, .float b u, .float c x].getD i .none) (#[Value.float a t, .float b u, .float c x].getD j .none)) 2 = 0 := by simp [argBest, ltV_ff, h1, h2]
        rw [e] at hP'
        exact ⟨t, by simpa using hP'.symm⟩
      · have e : argBest (fun i j => PySem.Flt.ltV (#[Value.float a t, .float b u, .float c x].getD i .none) (#[Value.float a t, .float b u, .float c x].getD j .none)) 2 = 2 := by simp [argBest, ltV_ff, h1, h2]
        rw [e] at hP'
        exact ⟨x, by simpa using hP'.symm⟩
    · cases h2 : Float64.cmp c b == some .lt
      · have e : argBest (fun i j => PySem.Flt.ltV (#[Value.float a t, .float b u, .float c x].getD i .none) (#[Value.float a t, .float b u, .float c x].getD j .none)) 2 = 1 := by simp [argBest, ltV_ff, h1, h2]
        rw [e] at hP'
        exact ⟨u, by simpa using hP'.symm⟩
      · have e : argBest (fun i j => PySem.Flt.ltV (#[Value.float a t, .float b u, .float c x].getD i .none) (#[Value.float a t, .float b u, .float c x].getD j .none)) 2 = 2 := by simp [argBest, ltV_ff, h1, h2]
        rw [e] at hP'
        exact ⟨x, by simpa using hP'.symm⟩

theorem small_of {a b c : Int} (ha : 0 ≤ a ∧ a ≤ 1000) (hb : 0 ≤ b ∧ b ≤ 1000) (hc : 0 < c ∧ c ≤ 1000) : Builtin.Range.small a b c = true := by
  have h1 := rangeSize_toNat a b c
  have h2 := rangeSize_toNat_le a b c
  unfold Builtin.Range.small
  simp only [Builtin.Range.rangeFitsLong, Bool.and_eq_true, Bool.or_eq_true, decide_eq_true_eq, beq_iff_eq]
  rw [if_pos (show c > 0 by omega)]
  simp only [Bool.and_eq_true, decide_eq_true_eq]
  omega

theorem rangeNat {a b c : Int} (ha : 0 ≤ a ∧ a ≤ 1000) (hb : 0 ≤ b ∧ b ≤ 1000) (hc : 0 < c ∧ c ≤ 1000) : Builtin.Range.rangeSize a b c = ((Builtin.Range.rangeSize a b c).toNat : Int) ∧ (Builtin.Range.rangeSize a b c).toNat ≤ 1000 := by
  have h1 := rangeSize_toNat a b c
  have h2 := rangeSize_toNat_le a b c
  exact ⟨h1, by omega⟩

theorem rangeL_vr {a c : Int} : ∀ {n : Nat} {xs : List Value}, xs.length = n → (∀ (j : Nat) (v : Value), xs[j]? = some v → ∃ t, v = Value.int (a + (j : Int) * c) t) → VRs B.ρ ad ((rangeInts a c n).map V.int) xs := by
  intro n
  induction n with
  | zero => intro xs e _; cases xs with
    | nil => exact .nil
    | cons => cases e
  | succ n ih =>
    intro xs e h
    have hne : xs ≠ [] := by rintro rfl; cases e
    have e2 : xs = xs.dropLast ++ [xs.getLast hne] := (List.dropLast_concat_getLast hne).symm
    have hl : xs.dropLast.length = n := by simp [e]
    have e3 : rangeInts a c (n + 1) = rangeInts a c n ++ [a + (n : Int) * c] := by
      unfold rangeInts
      rw [List.range_succ, List.map_append]; rfl
    rw [e3, List.map_append, e2]
    refine (ih hl fun j v hj => h j v ?_).append (.cons ?_ .nil)
    · rw [e2, List.getElem?_append_left (by exact (List.getElem?_eq_some_iff.mp hj).1)]; exact hj
    · obtain ⟨t, ht⟩ := h n (xs.getLast hne) (by rw [List.getLast_eq_getElem]; simp [e])
      exact ⟨t, ht⟩

theorem VRs.one {v : V} {xs : List Value} (H : VRs B.ρ ad [v] xs) : ∃ x, xs = [x] ∧ VR B.ρ ad v x := VRs_none H
theorem VRs.two {v u : V} {xs : List Value} (H : VRs B.ρ ad [v, u] xs) : ∃ x y, xs = [x, y] ∧ VR B.ρ ad v x ∧ VR B.ρ ad u y := by
  cases H with
  | cons a t => obtain ⟨y, rfl, b⟩ := t.one; exact ⟨_, _, rfl, a, b⟩
theorem VRs.three {v u z : V} {xs : List Value} (H : VRs B.ρ ad [v, u, z] xs) : ∃ x y w, xs = [x, y, w] ∧ VR B.ρ ad v x ∧ VR B.ρ ad u y ∧ VR B.ρ ad z w := by
  cases H with
  | cons a t => obtain ⟨y, w, rfl, b, c⟩ := t.two; exact ⟨_, _, _, rfl, a, b, c⟩

theorem KV.grown {Q : Value → Shared → Prop} {v : V} {st : St} (K : KV B ad s Q (v, st)) (R : Rep B st ad s.heap) {x : Value} (hv : VR B.ρ ad v x) {h' : Heap} {tk : Nat} (hk : ∀ c o, s.heap.get? c = some o → h'.get? c = some o) : Q x { s with heap := h', toks := tk } :=
  K ad h' tk x (Le.refl _) (R.ext hk) hv

set_option maxHeartbeats 2000000 in
theorem bLen_wp (R : Rep B st ad s.heap) {a : V} {x : Value} (ha : VR B.ρ ad a x) {Q : Value → Shared → Prop} (H : (bLen a st).sat B.ρ (KV B ad s Q)) : wpAny (model prog w) A (call (.builtin "len") [x]) Q E s := by
  cases a with
  | str z =>
    obtain ⟨t, rfl⟩ := ha
    unfold bLen at H; dsimp only at H
    split at H
    · rename_i hs
      have := sLen hs
      exact SBL.len (by omega) (KV.here H R ⟨_, rfl⟩ _)
    · cases H
  | ref k =>
    obtain ⟨l, hl, rfl⟩ := ha
    unfold bLen at H; dsimp only at H
    split at H
    · rename_i vs hvs
      split at H
      · rename_i hn
        have hn := of_decide_eq_true hn
        obtain ⟨xs, h1, h2⟩ := R.lst hl hvs
        have hsz := VRs.size h2
        refine len_list h1 (by rw [hsz]; omega) (KV.here H R ⟨_, by rw [hsz]⟩ _)
      · cases H
    · cases H
  | _ => exact False.elim H

theorem bTwo_wp (hh : A.handled = none) (R : Rep B st ad s.heap) {id : String} {a b : V} {x y : Value} (ha : VR B.ρ ad a x) (hb : VR B.ρ ad b y) {Q : Value → Shared → Prop} (H : (bTwo id a b st).sat B.ρ (KV B ad s Q)) : wpAny (model prog w) A (call (.builtin id) [x, y]) Q E s := by
  cases a with
  | int x => cases b with
    | int y =>
      obtain ⟨t, rfl⟩ := ha
      obtain ⟨u, rfl⟩ := hb
      unfold bTwo at H; dsimp only at H
      split at H
      · rename_i hid
        rw [eq_of_beq hid]
        refine min_two_ints hh fun h' tk hk => KV.grown H R ?_ hk
        split <;> exact ⟨_, rfl⟩
      · split at H
        · rename_i hid
          rw [eq_of_beq hid]
          split at H
          · rename_i hy
            simp only [Bool.or_eq_false_iff, Bool.not_eq_false', beq_eq_false_iff_ne] at hy
            refine divmod_int hy.1 ?_ (.inl (noPy hy.2))
            exact KV.push H rfl R rfl ⟨_, _, rfl, .cons ⟨_, rfl⟩ (.cons ⟨_, rfl⟩ .nil)⟩
          · cases H
        · cases H
    | _ => exact False.elim H
  | _ => exact False.elim H

theorem bThree_wp (hh : A.handled = none) (R : Rep B st ad s.heap) {id : String} {a b c : V} {x y z : Value} (ha : VR B.ρ ad a x) (hb : VR B.ρ ad b y) (hc : VR B.ρ ad c z) {Q : Value → Shared → Prop} (H : (bThree id a b c st).sat B.ρ (KV B ad s Q)) :
    wpAny (model prog w) A (call (.builtin id) [x, y, z]) Q E s := by
  cases a with
  | flt x => cases b with
    | flt y => cases c with
      | flt z =>
        obtain ⟨t, rfl⟩ := ha
        obtain ⟨u, rfl⟩ := hb
        obtain ⟨p, rfl⟩ := hc
        unfold bThree at H; dsimp only at H
        split at H
        · rename_i hid
          rw [eq_of_beq hid]
          have K : KV B ad s Q _ := H
          exact max_three_f hh fun h' tk v hk hv => KV.grown K R hv hk
        · split at H
          · rename_i hid
            rw [eq_of_beq hid]
            have K : KV B ad s Q _ := H
            exact min_three_f hh fun h' tk v hk hv => KV.grown K R hv hk
          · cases H
      | _ => exact False.elim H
    | _ => exact False.elim H
  | _ => exact False.elim H

theorem builtinF_wp (hh : A.handled = none) (R : Rep B st ad s.heap) {fr : Nat} {id : String} {args : List V} {vs : List Value} (ha : VRs B.ρ ad args vs) {Q : Value → Shared → Prop} (H : (builtinF fr id args st).sat B.ρ (KV B ad s Q)) :
    wpAny (model prog w) A (call (.builtin id) vs) Q E s := by
  cases ha with
  | nil => exact False.elim H
  | cons h1 t => cases t with
    | nil =>
      unfold builtinF at H; dsimp only at H
      split at H
      · rename_i hid
        rw [eq_of_beq hid]
        exact bLen_wp R h1 H
      · cases H
    | cons h2 t => cases t with
      | nil =>
        unfold builtinF at H; dsimp only at H
        split at H
        · exact bTwo_wp hh R h1 h2 H
        · cases H
      | cons h3 t => cases t with
        | nil => exact bThree_wp hh R h1 h2 h3 H
        | cons _ _ => exact False.elim H

theorem tOne_wp (hh : A.handled = none) (R : Rep B st ad s.heap) {fr : Nat} {t : String} {a : V} {x : Value} (ha : VR B.ρ ad a x) {Q : Value → Shared → Prop} (H : (tOne fr t a st).sat B.ρ (KV B ad s Q)) : wpAny (model prog w) A (call (.type t) [x]) Q E s := by
  cases a with
  | int n =>
    obtain ⟨u, rfl⟩ := ha
    unfold tOne at H; dsimp only at H
    split at H
    · rename_i hid
      rw [eq_of_beq hid]
      split at H
      · exact call_range_1 (KV.push H rfl R rfl ⟨_, _, _, rfl⟩)
      · cases H
    · cases H
  | ref k =>
    obtain ⟨l, hl, rfl⟩ := ha
    unfold tOne at H; dsimp only at H
    split at H
    · rename_i hid
      rw [eq_of_beq hid]
      split at H
      · rename_i a b c hst
        split at H
        · rename_i hn
          have hn := of_decide_eq_true hn
          split at H
          · obtain ⟨ob, h1, t, u, v, rfl⟩ := R.of hst hl
            obtain ⟨q1, q2⟩ := rangeNat (a := a) (b := b) (c := c) (by omega) (by omega) (by omega)
            refine call_list_range hh h1 (small_of (by omega) (by omega) (by omega)) q1 (by omega) fun h' tk acc c' hk hg hi => ?_
            refine KV.new H rfl R get_size hk ⟨_, hg, acc, c', rfl, ?_⟩
            refine rangeL_vr (by rw [Array.length_toList]; exact hi.1) fun j v hj => hi.2 j v ?_
            rw [← Array.getElem?_toList]; exact hj
          · cases H
        · cases H
      · cases H
    · cases H
  | flt x =>
    obtain ⟨u, rfl⟩ := ha
    unfold tOne at H; dsimp only at H
    split at H
    · rename_i hid
      rw [eq_of_beq hid]
      split at H
      · rename_i hd
        exact call_int_float hd (KV.here H R ⟨_, rfl⟩ _)
      · cases H
    · cases H
  | _ => exact False.elim H

theorem tThree_wp (R : Rep B st ad s.heap) {t : String} {a b c : V} {x y z : Value} (ha : VR B.ρ ad a x) (hb : VR B.ρ ad b y) (hc : VR B.ρ ad c z) {Q : Value → Shared → Prop} (H : (tThree t a b c st).sat B.ρ (KV B ad s Q)) :
    wpAny (model prog w) A (call (.type t) [x, y, z]) Q E s := by
  cases a with
  | int a => cases b with
    | int b => cases c with
      | int c =>
        obtain ⟨t, rfl⟩ := ha
        obtain ⟨u, rfl⟩ := hb
        obtain ⟨p, rfl⟩ := hc
        unfold tThree at H; dsimp only at H
        split at H
        · rename_i hid
          rw [eq_of_beq hid]
          split at H
          · rename_i hn
            have hn := of_decide_eq_true hn
            exact call_range_3 (by omega) (KV.push H rfl R rfl ⟨_, _, _, rfl⟩) (.inl (noPy (decide_eq_true (by omega))))
          · cases H
        · cases H
      | _ => exact False.elim H
    | _ => exact False.elim H
  | _ => exact False.elim H

theorem typeF_wp (hh : A.handled = none) (R : Rep B st ad s.heap) {fr : Nat} {t : String} {args : List V} {vs : List Value} (ha : VRs B.ρ ad args vs) {Q : Value → Shared → Prop} (H : (typeF fr t args st).sat B.ρ (KV B ad s Q)) :
    wpAny (model prog w) A (call (.type t) vs) Q E s := by
  cases ha with
  | nil => exact False.elim H
  | cons h1 t => cases t with
    | nil => exact tOne_wp hh R h1 H
    | cons h2 t => cases t with
      | nil => exact False.elim H
      | cons h3 t => cases t with
        | nil => exact tThree_wp R h1 h2 h3 H
        | cons _ _ => exact False.elim H

theorem builtinV_wp (hh : A.handled = none) (R : Rep B st ad s.heap) {fr : Nat} {f : Value} {args : List V} {vs : List Value} (ha : VRs B.ρ ad args vs) {Q : Value → Shared → Prop} (H : (builtinV fr f args st).sat B.ρ (KV B ad s Q)) :
    Wp (model prog w) A (call f vs) Q E s := by
  constructor
  cases f with
  | builtin id => exact builtinF_wp hh R ha H
  | type t => exact typeF_wp hh R ha H
  | _ => exact False.elim H
end
end Mine

namespace Mine
section
variable {prog : Program} {w : World} {B : Bs} {c : Cfg} {cx : Cx} {env : Env} {ad : Ad} {st : St} {s : Shared} {A : Around} {E : Value → Shared → Prop}

theorem Rep.noDict (R : Rep B st ad s.heap) {k : Nat} {l : Addr} {vs : List V} (hl : adr ad k = some l) (hst : st[k]? = some (.list vs)) : ∃ xs, s.heap.IsList l xs ∧ s.heap.NoDictAt (.ref l) := by
  obtain ⟨ob, h1, xs, n, rfl, hxs⟩ := R.of hst hl
  exact ⟨xs, ⟨_, h1, rfl, n, rfl⟩, _, h1, rfl⟩

set_option maxHeartbeats 4000000 in
theorem methId_wp (R : Rep B st ad s.heap) {name : Str} {o : V} {x : Value} {id : String} {pl : Sem Bool} (ho : VR B.ρ ad o x) (h : methId name o st = some id) {Q : Value × List Value → Shared → Prop} (hQ : Q (.builtin id, [x]) s) :
    Wp (model prog w) A (getMethod x name pl) Q E s := by
  constructor
  cases o with
  | ref k =>
    obtain ⟨l, hl, rfl⟩ := ho
    unfold methId at h; dsimp only at h
    split at h
    · rename_i hst
      obtain ⟨xs, h1, h2⟩ := R.noDict hl hst
      unfold methList at h
      split at h
      · cases h; rw [eq_of_beq ‹(name == Str.ofString "append") = true›]
        exact getMethod_list_of F.slot_list_append F.type_list_append h1 h2 hQ
      · split at h
        · cases h; rw [eq_of_beq ‹(name == Str.ofString "reverse") = true›]
          exact getMethod_list_of F.slot_list_reverse F.type_list_reverse h1 h2 hQ
        · split at h
          · cases h; rw [eq_of_beq ‹(name == Str.ofString "count") = true›]
            exact getMethod_list_of F.slot_list_count F.type_list_count h1 h2 hQ
          · cases h
    · cases h
  | str z =>
    obtain ⟨t, rfl⟩ := ho
    unfold methId methStr at h; dsimp only at h
    split at h
    · cases h; rw [eq_of_beq ‹(name == Str.ofString "upper") = true›]; exact GM.upper hQ
    · split at h
      · cases h; rw [eq_of_beq ‹(name == Str.ofString "lower") = true›]; exact GM.lower hQ
      · split at h
        · cases h; rw [eq_of_beq ‹(name == Str.ofString "join") = true›]; exact GM.join hQ
        · split at h
          · cases h; rw [eq_of_beq ‹(name == Str.ofString "split") = true›]; exact GM.split hQ
          · split at h
            · cases h; rw [eq_of_beq ‹(name == Str.ofString "find") = true›]; exact GM.find hQ
            · cases h
  | int z =>
    obtain ⟨t, rfl⟩ := ho
    unfold methId at h; dsimp only at h
    split at h
    · cases h; rw [eq_of_beq ‹(name == Str.ofString "bit_length") = true›]; exact getMethod_int_bit_length hQ
    · cases h
  | _ => cases h

open Builtin Builtin.Str in
theorem gives_find4 (x y : Str) (i j : Int) (t u v z : Tok) : Gives («str.find» ⟨[.str x t, .str y u, .int i v, .int j z], []⟩) (.int (match occurrences x y (fromIndex x.length i) (min (fromIndex x.length j) x.length) 1 with | k :: _ => (k : Int) | [] => -1)) := by
  show Gives (match occurrences x y (fromIndex x.length i) (min (fromIndex x.length j) x.length) 1 with | k :: _ => retInt k | [] => (do rule "str.find.not-found"; retInt (-1))) _
  cases occurrences x y (fromIndex x.length i) (min (fromIndex x.length j) x.length) 1 with
  | nil => exact .rule (.of_eq rfl)
  | cons k _ => exact .of_eq rfl

theorem fromIndex_nat {n : Nat} {i : Int} (h : 0 ≤ i) : fromIndex n i = i.toNat := by
  unfold fromIndex
  rw [if_neg (by omega)]
  omega

theorem VRs.anyStrs {vs : List V} {xs : List Value} (H : VRs B.ρ ad vs xs) : ∀ {l : List (List Str × Str × IE)}, Mine.anyStrs vs = some l → StrsAre xs (l.map (strAt B.ρ)) := by
  induction H with
  | nil => intro l e; cases e; exact .nil
  | @cons v x vs xs a _ ih =>
    intro l e
    cases v with
    | str z =>
      obtain ⟨t, rfl⟩ := a
      obtain ⟨l', e1, rfl⟩ := Option.map_eq_some_iff.mp e
      exact .cons _ t (ih e1)
    | ss tab d j =>
      obtain ⟨⟨t, rfl⟩, _⟩ := a
      obtain ⟨l', e1, rfl⟩ := Option.map_eq_some_iff.mp e
      exact .cons _ t (ih e1)
    | _ => cases e

theorem cntE_den {ρ : Rho} {k : Str} : ∀ {l : List (List Str × Str × IE)}, (cntE k l).den ρ = cntS k (l.map (strAt ρ))
  | [] => rfl
  | (tab, d, j) :: r => by
    show (IE.pick (tab.map (indS k)) (indS k d) j).den ρ + (cntE k r).den ρ = cntS k (strAt ρ (tab, d, j) :: r.map (strAt ρ))
    rw [pickS, cntE_den]
    have e : ∀ (b : Bool) (z : Int), (match b with | true => (1 : Int) | false => 0) + z = (match b with | true => 1 + z | false => z) := fun b z => by cases b <;> simp
    exact e (ssD tab d j ρ == k) _

theorem cntS_eq (k : Str) : ∀ l : List Str, Spec.countIn (.str k) (l.map .str) = cntS k l := by
  intro l
  induction l with
  | nil => rfl
  | cons s r ih =>
    unfold cntS
    show Spec.countIn (.str k) (PyData.str s :: r.map .str) = _
    unfold Spec.countIn
    rw [ih]
    have e : Spec.same (.str s) (.str k) = (s == k) := by simp [Spec.same]
    rw [e]
    cases s == k <;> simp
theorem cntS_le (k : Str) : ∀ l : List Str, 0 ≤ cntS k l ∧ cntS k l ≤ l.length := by
  intro l
  induction l with
  | nil => exact ⟨Int.le_refl _, Int.le_refl _⟩
  | cons s r ih =>
    unfold cntS
    split <;> simp only [List.length_cons] <;> omega

theorem strV {tk : Nat} : ∀ {l : List Str}, VRs B.ρ ad (l.map V.str) (strValues (numbered tk l)) := by
  intro l
  have : ∀ (ts : List (Str × Tok)), VRs B.ρ ad (ts.map fun p => V.str p.1) (strValues ts) := fun ts => by
    induction ts with
    | nil => exact .nil
    | cons p r ih => exact .cons ⟨_, rfl⟩ ih
  have e := this (numbered tk l)
  have e2 : (numbered tk l).map (fun p => V.str p.1) = l.map V.str := by
    rw [show (fun p : Str × Tok => V.str p.1) = V.str ∘ (·.1) from rfl, ← List.map_map, numbered_texts]
  rw [e2] at e; exact e

theorem mApp_wp (R : Rep B st ad s.heap) {id : String} {k : Nat} {l : Addr} {v : V} {y : Value} (hl : adr ad k = some l) (hy : VR B.ρ ad v y) {Q : Value → Shared → Prop} (H : (mApp id k v st).sat B.ρ (KV B ad s Q)) :
    wpAny (model prog w) A (call (.builtin id) [.ref l, y]) Q E s := by
  unfold mApp at H
  split at H
  · rename_i vs hst
    split at H
    · rename_i hn
      have hn := of_decide_eq_true hn
      obtain ⟨ob, h1, xs, n, rfl, hxs⟩ := R.of hst hl
      have hsz := VRs.size hxs
      split at H
      · rename_i hid
        rw [eq_of_beq hid]
        refine append_at h1 (fun h' h2 h3 => ?_) (by rw [hsz, sizeLine_eq]; omega)
        refine H ad h' s.toks .none (Le.refl _) (R.upd hl (fun b o hb e => by rw [h2.2 b hb]; exact e) ⟨_, h3, _, _, rfl, ?_⟩) rfl
        rw [Array.toList_push]
        exact hxs.append (.cons hy .nil)
      · split at H
        · rename_i hid
          rw [eq_of_beq hid]
          cases v with
          | str z =>
            dsimp only at H
            split at H
            · rename_i zs hzs
              obtain ⟨t, rfl⟩ := hy
              refine count_list_strs (vs := xs.toList) ⟨_, h1, rfl, n, rfl⟩ (hxs.anyStrs hzs) ?_
              rw [cntS_eq]
              have hb := cntS_le z (zs.map (strAt B.ρ))
              rw [List.length_map] at hb
              exact KV.here H R ⟨⟨_, by rw [cntE_den]⟩, by rw [cntE_den]; exact hb⟩ _
            · cases H
          | _ => exact False.elim H
        · cases H
    · cases H
  · cases H

theorem mRev_wp (R : Rep B st ad s.heap) {id : String} {k : Nat} {l : Addr} (hl : adr ad k = some l) {Q : Value → Shared → Prop} (H : (mRev id k st).sat B.ρ (KV B ad s Q)) :
    wpAny (model prog w) A (call (.builtin id) [.ref l]) Q E s := by
  unfold mRev at H
  split at H
  · rename_i hid
    rw [eq_of_beq hid]
    split at H
    · rename_i vs hst
      split at H
      · rename_i hn
        have hn := of_decide_eq_true hn
        obtain ⟨ob, h1, xs, n, rfl, hxs⟩ := R.of hst hl
        have hsz := VRs.size hxs
        refine call_meets F.slot_list_reverse ⟨_, h1, rfl⟩ F.entry_list_reverse (F.args_list_reverse_1 _) (AutoSeq1.list_reverse_list_0 l xs n (by rw [hsz, sizeLine_eq]; omega)) ⟨h1, ?_⟩
        refine H ad _ s.toks .none (Le.refl _) (R.upd hl (fun b o hb e => Heap.get?_update_of_ne _ (Ne.symm hb) e) ⟨_, Heap.get?_update_self _ h1 rfl, ?_⟩) rfl
        refine ⟨xs.reverse, _, rfl, ?_⟩
        rw [Array.toList_reverse]
        exact hxs.reverse
      · cases H
    · cases H
  · cases H

theorem mStr0_wp (R : Rep B st ad s.heap) {id : String} {x : Str} {t : Tok} {Q : Value → Shared → Prop} (H : (mStr0 id x st).sat B.ρ (KV B ad s Q)) : wpAny (model prog w) A (call (.builtin id) [.str x t]) Q E s := by
  unfold mStr0 at H
  split at H
  · rename_i hs
    have hs := sLen hs
    split at H
    · rw [eq_of_beq ‹(id == "str.upper") = true›]
      exact SCL.upper (by omega) fun _ => KV.here H R ⟨_, rfl⟩ _
    · split at H
      · rw [eq_of_beq ‹(id == "str.lower") = true›]
        exact SCL.lower (by omega) fun _ => KV.here H R ⟨_, rfl⟩ _
      · cases H
  · cases H

theorem mJoin_wp (R : Rep B st ad s.heap) {id : String} {x : Str} {t : Tok} {k : Nat} {l : Addr} (hl : adr ad k = some l) {Q : Value → Shared → Prop} (H : (mJoin id x k st).sat B.ρ (KV B ad s Q)) : wpAny (model prog w) A (call (.builtin id) [.str x t, .ref l]) Q E s := by
  unfold mJoin at H
  split at H
  · rename_i hid
    rw [eq_of_beq hid]
    split at H
    · rename_i vs hvs
      split at H
      · rename_i zs hzs
        split at H
        · rename_i hj
          obtain ⟨xs, h1, h2⟩ := R.lst hl hvs
          obtain ⟨_, _, ts, h3, h4⟩ := h2.strs hzs
          refine SC.join (l := ts) ?_ h3 hj fun t' k => KV.here H R ⟨_, rfl⟩ _
          rw [← h4]; exact h1
        · cases H
      · cases H
    · cases H
  · cases H

theorem mSplit_wp (R : Rep B st ad s.heap) {id : String} {x y : Str} {t u : Tok} {Q : Value → Shared → Prop} (H : (mSplit id x y st).sat B.ρ (KV B ad s Q)) : wpAny (model prog w) A (call (.builtin id) [.str x t, .str y u]) Q E s := by
  unfold mSplit at H
  split at H
  · rename_i hc
    simp only [Bool.and_eq_true, Bool.not_eq_true'] at hc
    obtain ⟨⟨hid, hs⟩, h0⟩ := hc
    rw [eq_of_beq hid]
    split at H
    · rename_i hn
      have hn := of_decide_eq_true hn
      have hs := sLen hs
      cases h1 : (decide (x.length < y.length) || decide (Builtin.Str.strKind x < Builtin.Str.strKind y))
      · cases h2 : (Builtin.Str.occurrences x y 0 x.length (x.length + 1)).isEmpty
        · have e : Txt.split x y = Builtin.Str.partsBetween x (Builtin.Str.occurrences x y 0 x.length (x.length + 1)) y.length := by unfold Txt.split; rw [h1, h2]; rfl
          refine call_meets F.slot_str_split (typeIs_str _ _ _) F.entry_str_split (F.args_str_split_2 _ _) (meets_str_split_sep x y t u h1 h0 h2 (by rw [sizeLine_eq]; omega) (by rw [← e, sizeLine_eq]; omega)) ?_
          rw [← e, strsFrom_eq]
          exact KV.push H rfl R rfl ⟨_, _, rfl, strV⟩
        · have e : Txt.split x y = [x] := by unfold Txt.split; rw [h1, h2]; rfl
          rw [e] at H
          refine call_meets F.slot_str_split (typeIs_str _ _ _) F.entry_str_split (F.args_str_split_2 _ _) (meets_str_split_not_found x y t u h1 h0 h2) ?_
          exact KV.push H rfl R rfl ⟨_, _, rfl, .cons ⟨_, rfl⟩ .nil⟩
      · have e : Txt.split x y = [x] := by unfold Txt.split; rw [h1]; rfl
        rw [e] at H
        refine call_meets F.slot_str_split (typeIs_str _ _ _) F.entry_str_split (F.args_str_split_2 _ _) (meets_str_split_cannot_occur x y t u h1) ?_
        exact KV.push H rfl R rfl ⟨_, _, rfl, .cons ⟨_, rfl⟩ .nil⟩
    · cases H
  · cases H

theorem mFind_wp (R : Rep B st ad s.heap) {id : String} {x y : Str} {i j : Int} {t u q r : Tok} {Q : Value → Shared → Prop} (H : (mFind id x y i j st).sat B.ρ (KV B ad s Q)) : wpAny (model prog w) A (call (.builtin id) [.str x t, .str y u, .int i q, .int j r]) Q E s := by
  unfold mFind at H
  split at H
  · rename_i hid
    rw [eq_of_beq hid]
    split at H
    · rename_i hn
      have hn := of_decide_eq_true hn
      have g := gives_find4 x y i j t u q r
      rw [fromIndex_nat hn.1, fromIndex_nat hn.2.2.1] at g
      exact call_gives F.slot_str_find (typeIs_str _ _ _) F.entry_str_find (F.args_str_find_4 _ _ _ _) g (KV.here H R ⟨_, rfl⟩ _)
    · cases H
  · cases H

theorem methC_wp (_hh : A.handled = none) (R : Rep B st ad s.heap) {id : String} {o : V} {args : List V} {x : Value} {ys : List Value} (ho : VR B.ρ ad o x) (ha : VRs B.ρ ad args ys) {Q : Value → Shared → Prop} (H : (methC id o args st).sat B.ρ (KV B ad s Q)) :
    Wp (model prog w) A (call (.builtin id) (x :: ys)) Q E s := by
  constructor
  cases o with
  | ref k =>
    obtain ⟨l, hl, rfl⟩ := ho
    cases ha with
    | nil => exact mRev_wp R hl H
    | cons h1 t => cases t with
      | nil => exact mApp_wp R hl h1 H
      | cons _ _ => exact False.elim H
  | str z =>
    obtain ⟨t, rfl⟩ := ho
    cases ha with
    | nil => exact mStr0_wp R H
    | @cons a _ _ _ h1 t => cases t with
      | nil => cases a with
        | ref k =>
          obtain ⟨l, hl, rfl⟩ := h1
          exact mJoin_wp R hl H
        | str y =>
          obtain ⟨u, rfl⟩ := h1
          exact mSplit_wp R H
        | _ => exact False.elim H
      | @cons b _ _ _ h2 t => cases t with
        | nil => exact False.elim H
        | @cons c _ _ _ h3 t => cases t with
          | nil => cases a with
            | str y => cases b with
              | int i => cases c with
                | int j =>
                  obtain ⟨u, rfl⟩ := h1
                  obtain ⟨q, rfl⟩ := h2
                  obtain ⟨r, rfl⟩ := h3
                  exact mFind_wp R H
                | _ => exact False.elim H
              | _ => exact False.elim H
            | _ => exact False.elim H
          | cons _ _ => exact False.elim H
  | int z =>
    obtain ⟨t, rfl⟩ := ho
    cases ha with
    | nil =>
      unfold methC at H; dsimp only at H
      split at H
      · rw [eq_of_beq ‹(id == "int.bit_length") = true›]
        exact call_int_bit_length (KV.here H R ⟨_, rfl⟩ _)
      · cases H
    | cons _ _ => exact False.elim H
  | _ => exact False.elim H
end
end Mine

namespace Mine
section
variable {prog : Program} {w : World} {B : Bs} {c : Cfg} {cx : Cx} {env : Env} {ad : Ad} {st : St} {s : Shared} {A : Around} {E : Value → Shared → Prop}

noncomputable def ItOk (ad : Ad) (h : Heap) (p : Addr) : It → Prop
  | .lst l i => ∃ a, adr ad l = some a ∧ h.IsListIter p a i
  | .rng x left step => IsRangeIter h p x left step
  | .str z i => ∃ t, h.IsStrIter p "str_ascii_iterator" z t i
  | .rev l i => ∃ a, adr ad l = some a ∧ PySem.Heap.IsRevIter h p a i

theorem ItOk.mono {ad ad' : Ad} {h h' : Heap} {p : Addr} (hl : Le ad ad') (hk : ∀ o, h.get? p = some o → h'.get? p = some o) : ∀ {it : It}, ItOk ad h p it → ItOk ad' h' p it
  | .lst _ _, ⟨a, e, o, ho, r⟩ => ⟨a, hl.of e, o, hk o ho, r⟩
  | .rng .., H => hk _ H
  | .str _ _, ⟨t, o, ho, r⟩ => ⟨t, o, hk o ho, r⟩
  | .rev _ _, ⟨a, e, o, ho, r⟩ => ⟨a, hl.of e, o, hk o ho, r⟩

theorem there_of {h : Heap} {p : Addr} {o : Obj} {T : String} {vs : Array Value} (ho : h.get? p = some o) (hc : o.cls = .type T) (hT : T ≠ "code") (hd : o.data = .fields vs) (hn : ∀ q t, vs[1]? ≠ some (.str q t)) : ∃ ob, h.get? p = some ob ∧ ob.cls ≠ .none ∧ ob.cls ≠ .type "code" ∧ ∀ vs q t, ob.data = .fields vs → vs[1]? ≠ some (.str q t) :=
  ⟨o, ho, fun z => (by rw [hc] at z; cases z), fun z => (by rw [hc] at z; injection z with z; exact hT z), fun us q t e => (by rw [hd] at e; injection e with e; subst e; exact hn q t)⟩
theorem ItOk.there {ad : Ad} {h : Heap} {p : Addr} : ∀ {it : It}, ItOk ad h p it → ∃ ob, h.get? p = some ob ∧ ob.cls ≠ .none ∧ ob.cls ≠ .type "code" ∧ ∀ vs q t, ob.data = .fields vs → vs[1]? ≠ some (.str q t)
  | .lst _ _, ⟨_, _, _, ho, hc, hd⟩ => there_of ho hc (by decide) hd (fun _ _ e => by cases e)
  | .rng .., H => there_of H rfl (by decide) rfl (fun _ _ e => by cases e)
  | .str _ _, ⟨_, _, ho, hc, hd⟩ => there_of ho hc (by decide) hd (fun _ _ e => by cases e)
  | .rev _ _, ⟨_, _, _, ho, hc, hd⟩ => there_of ho hc (by decide) hd (fun _ _ e => by cases e)

/-- a new iterator is nobody's -/
theorem Rep.looseNew (R : Rep B st ad s.heap) {p : Addr} {h' : Heap} {it : It} (hp : s.heap.get? p = none) (hk : ∀ b o, s.heap.get? b = some o → h'.get? b = some o) (hi : ItOk ad h' p it) : Rep B st ad h' ∧ Loose B ad h' p := by
  have hP : p ∉ B.codes.map (·.P) := fun hm => by
    obtain ⟨k, hkm, rfl⟩ := List.mem_map.mp hm
    obtain ⟨_, _, ps, _, ⟨_, t⟩, _⟩ := R.tabs k hkm
    rw [hp] at t; cases t
  have hno : ¬ Has ad p := fun ha => by obtain ⟨ob, q⟩ := R.there ha; rw [hp] at q; cases q
  refine ⟨R.ext hk, hno, ?_, fun hlt => ?_, hi.there⟩
  · cases e : B.h₀.get? p with
    | none => rfl
    | some o => rw [R.keep p o e hP hno] at hp; cases hp
  · cases e : B.T.get? p with
    | none => rfl
    | some o => rw [R.top p o e hlt hP] at hp; cases hp

noncomputable def KI (B : Bs) (ad : Ad) (st : St) (s : Shared) (Q : Value → Shared → Prop) (it : It) : Prop := ∀ h' p, Rep B st ad h' → Loose B ad h' p → ItOk ad h' p it → Q (.ref p) { s with heap := h' }

theorem iterV_wp (R : Rep B st ad s.heap) {a : V} {x : Value} (ha : VR B.ρ ad a x) {Q : Value → Shared → Prop} (H : (iterV a st).sat B.ρ (KI B ad st s Q)) : Wp (model prog w) A (pyIter x) Q E s := by
  constructor
  have fin : ∀ (ob : Obj) (it : It), ob.isFreed = false → ItOk ad (s.heap.push ob) s.heap.objs.size it → KI B ad st s Q it → Q (.ref s.heap.objs.size) { s with heap := s.heap.push ob } := fun ob it hf hi K => by
    obtain ⟨R', L⟩ := R.looseNew get_size (fun b o e => Heap.get?_push_of_some _ e) hi
    exact K _ _ R' L hi
  unfold iterV at H
  split at H
  · obtain ⟨l, hl, rfl⟩ := ha
    split at H
    · rename_i hst
      obtain ⟨ob, h1, xs, n, rfl, hxs⟩ := R.of hst hl
      exact wpAny_pyIter_list ⟨_, h1, rfl, n, rfl⟩ (fin _ (.lst _ 0) rfl ⟨l, hl, _, Heap.get?_push_size _ rfl, rfl, rfl⟩ H)
    · rename_i hst
      obtain ⟨ob, h1, hc, xs, n, hd, hxs⟩ := R.of hst hl
      exact wpAny_pyIter_list ⟨_, h1, hc, n, hd⟩ (fin _ (.lst _ 0) rfl ⟨l, hl, _, Heap.get?_push_size _ rfl, rfl, rfl⟩ H)
    · rename_i x y z hst
      split at H
      · rename_i hn
        have hn := of_decide_eq_true hn
        obtain ⟨ob, h1, t, u, v, rfl⟩ := R.of hst hl
        refine wpAny_pyIter_range h1 (small_of (by omega) (by omega) (by omega)) (fin _ (.rng _ _ _) rfl ?_ H)
        unfold ItOk IsRangeIter
        exact Heap.get?_push_size _ rfl
      · cases H
    · cases H
  · obtain ⟨t, rfl⟩ := ha
    split at H
    · rename_i hs
      exact wpAny_pyIter_ascii hs (fin _ (.str _ 0) rfl ⟨t, _, Heap.get?_push_size _ rfl, rfl, rfl⟩ H)
    · cases H
  · cases H

noncomputable def KD (B : Bs) (ad : Ad) (st : St) (s : Shared) (p : Addr) (Q : Option Value → Shared → Prop) : Option (V × It) → Prop
  | none => ∀ h', Rep B st ad h' → Q none { s with heap := h' }
  | some (v, it') => ∀ h' tk x, Rep B st ad h' → VR B.ρ ad v x → Loose B ad h' p → ItOk ad h' p it' → Q (some x) { s with heap := h', toks := tk }

theorem Loose.move {ad : Ad} {h h' : Heap} {p : Addr} {it : It} (L : Loose B ad h p) (hi : ItOk ad h' p it) : Loose B ad h' p := ⟨L.off, L.base, L.top, hi.there⟩

theorem drawV_wp (hh : A.handled = none) (R : Rep B st ad s.heap) {p : Addr} {it : It} (L : Loose B ad s.heap p) (hi : ItOk ad s.heap p it) {Q : Option Value → Shared → Prop} (H : (drawV it st).sat B.ρ (KD B ad st s p Q)) :
    Wp (model prog w) A (pyNext (.ref p)) Q E s := by
  constructor
  have endd : ∀ h', Heap.ExtBut p s.heap h' → Rep B st ad h' := fun h' hx => R.loose L fun b y hb e => hx b y hb e
  have step : ∀ h', Heap.SameBut p s.heap h' → Rep B st ad h' := fun h' hx => R.loose L fun b y hb e => by rw [hx.2 b hb]; exact e
  unfold drawV at H
  split at H
  · obtain ⟨a, ha, hit⟩ := hi
    split at H
    · rename_i vs hvs
      obtain ⟨xs, h1, h2⟩ := R.lst ha hvs
      split at H
      · rename_i v hv
        obtain ⟨x, hx, hr⟩ := h2.get hv
        rw [Array.getElem?_toList] at hx
        exact wpAny_pyNext_list_item hit h1 hx fun h' h3 h4 => H h' s.toks x (step h' h4) hr (L.move (it := .lst _ _) ⟨a, ha, h3⟩) ⟨a, ha, h3⟩
      · rename_i hv
        have hx := h2.get_none hv
        rw [Array.getElem?_toList] at hx
        exact wpAny_pyNext_list_end hh hit h1 hx fun h' h3 => H h' (endd h' h3)
    · cases H
  · split at H
    · rename_i hl
      exact wpAny_pyNext_range_item hi (of_decide_eq_true hl) fun h' h3 h4 => H h' _ _ (step h' h4) ⟨_, rfl⟩ (L.move (it := .rng _ _ _) h3) h3
    · rename_i hl
      have hl := of_decide_eq_false hl
      exact wpAny_pyNext_range_end hh hi (by omega) fun h' h3 => H h' (endd h' h3)
  · obtain ⟨t, hit⟩ := hi
    split at H
    · rename_i cc hc
      exact wpAny_pyNext_ascii_item hit hc fun h' h3 h4 => H h' _ _ (step h' h4) ⟨_, rfl⟩ (L.move (it := .str _ _) ⟨t, h3⟩) ⟨t, h3⟩
    · rename_i hc
      exact wpAny_pyNext_ascii_end hh hit hc fun h' h3 => H h' (endd h' h3)
  · rename_i l i
    obtain ⟨a, ha, hit⟩ := hi
    split at H
    · rename_i vs hvs
      obtain ⟨xs, h1, h2⟩ := R.lst ha hvs
      split at H
      · rename_i hn
        have hn := of_decide_eq_true hn
        split at H
        · rename_i v hv
          obtain ⟨x, hx, hr⟩ := h2.get hv
          rw [Array.getElem?_toList] at hx
          have ei : ((i.toNat : Nat) : Int) = i := by omega
          rw [← ei] at hit
          refine wpAny_pyNext_rev_item hit h1 hx fun h' h3 h4 => ?_
          rw [ei] at h3
          exact H h' s.toks x (step h' h4) hr (L.move (it := .rev _ _) ⟨a, ha, h3⟩) ⟨a, ha, h3⟩
        · cases H
      · split at H
        · rename_i hm
          have hm := of_decide_eq_true hm
          subst hm
          exact wpAny_pyNext_rev_end hh hit fun h' h3 => H h' (endd h' h3)
        · cases H
    · cases H
end
end Mine

namespace Mine
section
variable {prog : Program} {w : World} {B : Bs} {c : Cfg} {cx : Cx} {env : Env} {ad : Ad} {st : St} {s : Shared} {A : Around} {E : Value → Shared → Prop}

noncomputable def bindsX (params : List Str) (vals : List Value) : List (Str × Value) := params.filterMap fun n => ((params.zip vals).lookup n).map (n, ·)

theorem bindArgs_plain {fd : FuncData} {params : List Str} {vals : List Value} (hp : plainArgs params fd.params) (hd : fd.defaults = .none) (hk : fd.kwdefaults = .none) (hl : vals.length = params.length)
    (hs : ∀ n ∈ params, ((params.zip vals).lookup n).isSome = true) : bindArgs fd ⟨vals, []⟩ = pure (bindsX params vals) := by
  obtain ⟨h1, h2, h3, h4, h5, h6, h7⟩ := hp
  obtain ⟨f1, f2, p, f4, f5, f6, f7, f8, f9, f10⟩ := fd
  obtain ⟨p1, p2, p3, p4, p5, p6, p7⟩ := p
  simp only at h1 h2 h3 h4 h5 h6 h7 hd hk
  subst h1 h2 h3 h4 h5 h6 h7 hd hk
  have hm : (p2.map (·.arg)).filter (fun n => (((p2.map (·.arg)).zip vals).lookup n).isNone) = [] := by
    rw [List.filter_eq_nil_iff]
    intro n hn
    have := hs n hn
    cases q : ((p2.map (·.arg)).zip vals).lookup n with
    | none => rw [q] at this; cases this
    | some x => simp
  have e0 : seqItems? Value.none = pure none := rfl
  have pb : ∀ {α β : Type} (a : α) (f : α → Sem β), (pure a >>= f) = f a := fun _ _ => rfl
  have hl2 : p2.length = vals.length := by simpa using hl.symm
  unfold bindArgs
  simp only [e0, pb, List.map_nil, List.nil_append, List.append_nil, List.forIn_nil, Option.getD_none, List.length_map, List.length_nil, Nat.sub_zero, List.drop_nil, List.zip_nil_right, hl, Nat.lt_irrefl, decide_false, Bool.false_and, Bool.false_eq_true, if_false, gt_iff_lt]
  rw [List.take_of_length_le (by simp), hm]
  rfl

noncomputable def Cl (ad : Ad) (cells : List (Str × Nat)) (ec : List (Str × Addr)) : Prop := ∀ x i, cells.lookup x = some i → ∃ a, adr ad i = some a ∧ ec.lookup x = some a

theorem Cl.mono {ad ad' : Ad} {cells : List (Str × Nat)} {ec : List (Str × Addr)} (h : Le ad ad') (H : Cl ad cells ec) : Cl ad' cells ec := fun x i e => let ⟨a, p, q⟩ := H x i e; ⟨a, h.of p, q⟩
theorem Cl.cons {ad : Ad} {cells : List (Str × Nat)} {ec : List (Str × Addr)} (H : Cl ad cells ec) {n : Str} {i : Nat} {a : Addr} (h : adr ad i = some a) : Cl ad ((n, i) :: cells) ((n, a) :: ec) := fun x j e => by
  rw [List.lookup_cons] at e ⊢
  split at e
  · cases e; exact ⟨a, h, by simp [*]⟩
  · obtain ⟨b, p, q⟩ := H x j e; exact ⟨b, p, by simp [*]⟩

theorem lay_rep : ∀ (names : List (Str × NameKind)) {cells : List (Str × Nat)} {ec : List (Str × Addr)} {st : St} {ad : Ad} {h : Heap}, Rep B st ad h → Cl ad cells ec →
    ∃ ad', Le ad ad' ∧ Rep B (layA names cells st).2 ad' (pushCells h names) ∧ Cl ad' (layA names cells st).1 (cellsFrom h.objs.size names ec)
  | [], _, _, _, ad, _, R, C => ⟨ad, Le.refl _, R, C⟩
  | (n, k) :: r, cells, ec, st, ad, h, R, C => by
    unfold layA pushCells cellsFrom
    split
    · rename_i hk
      rw [if_pos hk, if_pos hk]
      have hsz : st.length = ad.length := R.len
      have R1 : Rep B (st ++ [.cell none]) (ad ++ [some h.objs.size]) (h.push { cls := .type "cell", data := .cell none }) :=
        R.add get_size (fun _ _ e => Heap.get?_push_of_some _ e) ⟨_, Heap.get?_push_size _ rfl, rfl⟩
      obtain ⟨ad', q1, q2, q3⟩ := lay_rep r R1 ((C.mono (Le.app ad (some h.objs.size))).cons (n := n) (i := st.length) (a := h.objs.size) (by rw [adr_app, hsz, if_pos rfl]))
      rw [Heap.size_push] at q3
      exact ⟨ad', (Le.app _ _).trans q1, q2, q3⟩
    · rename_i hk
      rw [if_neg (by rw [hk]; decide), if_neg (by rw [hk]; decide)]
      exact lay_rep r R C

/-- the stores at a call's head -/
theorem storeAll_wp (f : Str × Value → PUnit → Sem (ForInStep PUnit)) (hf : ∀ n v u, f (n, v) u = (do storeName env n v; pure (.yield PUnit.unit))) :
    ∀ {binds : List (Str × V)} {bs : List (Str × Value)} {st : St} {ad : Ad} {s : Shared} {Q : PUnit → Shared → Prop}, EnvOk cx env ad → binds.map (·.1) = bs.map (·.1) → VRs B.ρ ad (binds.map (·.2)) (bs.map (·.2)) → Rep B st ad s.heap →
      (storeAll cx binds st).sat B.ρ (KU B ad s (Q PUnit.unit)) → wpAny (model prog w) A (forIn bs PUnit.unit f) Q E s
  | [], [], st, ad, s, Q, _, _, _, R, H => by rw [List.forIn_nil]; exact wpAny_pure (H ad s.heap s.toks (Le.refl _) R)
  | [], _ :: _, _, _, _, _, _, h, _, _, _ => by cases h
  | _ :: _, [], _, _, _, _, _, h, _, _, _ => by cases h
  | (x, v) :: r, (y, z) :: t, st, ad, s, Q, hE, h, hv, R, H => by
    simp only [List.map_cons, List.cons.injEq] at h
    obtain ⟨rfl, h⟩ := h
    simp only [List.map_cons] at hv
    cases hv with
    | cons hv hr =>
    rw [List.forIn_cons, hf]
    unfold storeAll at H
    rw [Res.bnd_sat] at H
    refine wpAny_bind (wpAny_bind (storeN_wp hE R hv (Res.sat_mono H fun st1 H1 => fun ad' h' tk hle R' => ?_)))
    refine wpAny_pure ?_
    exact storeAll_wp f hf (hE.mono hle) h (hr.mono hle) R' (Res.sat_mono H1 fun _ K => K.at hle)

theorem lookup_zip {params : List Str} {args : List V} {xs : List Value} (H : VRs B.ρ ad args xs) : ∀ n, match (params.zip args).lookup n with
    | some v => ∃ x, (params.zip xs).lookup n = some x ∧ VR B.ρ ad v x
    | none => (params.zip xs).lookup n = none := by
  induction H generalizing params with
  | nil => intro n; simp
  | cons a t ih =>
    intro n
    cases params with
    | nil => simp
    | cons p ps =>
      simp only [List.zip_cons_cons, List.lookup_cons]
      split
      · rename_i v e
        split at e
        · cases e; exact ⟨_, rfl, a⟩
        · have := ih (params := ps) n
          rw [e] at this; exact this
      · rename_i e
        split at e
        · cases e
        · have := ih (params := ps) n
          rw [e] at this; exact this

theorem binds_vr {params : List Str} {args : List V} {xs : List Value} (H : VRs B.ρ ad args xs) : ∀ (ns : List Str),
    ((ns.filterMap fun n => ((params.zip args).lookup n).map (n, ·)).map (·.1) = (ns.filterMap fun n => ((params.zip xs).lookup n).map (n, ·)).map (·.1)) ∧
    VRs B.ρ ad ((ns.filterMap fun n => ((params.zip args).lookup n).map (n, ·)).map (·.2)) ((ns.filterMap fun n => ((params.zip xs).lookup n).map (n, ·)).map (·.2)) := by
  intro ns
  induction ns with
  | nil => exact ⟨rfl, .nil⟩
  | cons n r ih =>
    have := lookup_zip (params := params) H n
    cases q : (params.zip args).lookup n with
    | none =>
      rw [q] at this
      simp only [List.filterMap_cons, q, this, Option.map_none]
      exact ih
    | some v =>
      rw [q] at this
      obtain ⟨x, e, hr⟩ := this
      simp only [List.filterMap_cons, q, e, Option.map_some, List.map_cons, ih.1, true_and]
      exact .cons hr ih.2

/-- a call's frame -/
theorem newCx_wp (R : Rep B st ad s.heap) {scope : Scope} {globals : Addr} {closure : List (Str × Addr)} {qual : Str} {func : Option Addr} {code : Value} {cells : List (Str × Nat)} {ccode : Value} {cqual : Str}
    {binds : List (Str × V)} {bs : List (Str × Value)} (hC : Cl ad cells closure) (hb1 : binds.map (·.1) = bs.map (·.1)) (hb2 : VRs B.ρ ad (binds.map (·.2)) (bs.map (·.2))) (hk : scope.kind = .function)
    (hg : globals = mainGlobals) (hc : ccode = .none ∨ code = ccode ∧ qual = cqual) {Q : Env → Shared → Prop}
    (H : (storeAll (newCx scope cells ccode cqual st).1 binds (newCx scope cells ccode cqual st).2).sat B.ρ fun st1 => ∀ ad' h' tk env, Le ad ad' → Rep B st1 ad' h' → EnvOk (newCx scope cells ccode cqual st).1 env ad' → Q env { s with heap := h', toks := tk }) :
    wpAny (model prog w) A (newFunctionEnv scope globals closure bs qual func code none builtinsNs) Q E s := by
  simp only [newFunctionEnv, Option.isSome_none, Bool.false_eq_true, if_false]
  refine wpAny_bind (wpAny_alloc ?_)
  refine wpAny_bind (wpAny_layCells _ (fun name kind cells => by cases hkc : kind == NameKind.cell <;> simp [hkc]) _ _ _ _ ?_)
  have hsz : st.length = ad.length := R.len
  have R1 : Rep B (st ++ [.ns []]) (ad ++ [some s.heap.objs.size]) (s.heap.push { cls := .type "frame", data := .dict #[] }) :=
    R.add get_size (fun _ _ e => Heap.get?_push_of_some _ e) ⟨_, Heap.get?_push_size _ rfl, #[], 0, rfl, fun _ he => by simp at he, fun x => rfl⟩
  obtain ⟨ad', q1, q2, q3⟩ := lay_rep scope.names R1 (hC.mono (Le.app ad (some s.heap.objs.size)))
  have hE : EnvOk (newCx scope cells ccode cqual st).1 ({ scope, locals := s.heap.objs.size, globals, cells := cellsFrom (s.heap.push { cls := .type "frame", data := .dict #[] }).objs.size scope.names closure, qual, func, code, frame := some s.heap.objs.size, builtins := builtinsNs } : Env) ad' :=
    ⟨hk, rfl, q1.of (by rw [adr_app]; exact if_pos hsz), q3, hg, rfl, hc⟩
  have hle : Le ad ad' := (Le.app _ _).trans q1
  refine wpAny_bind (storeAll_wp _ (fun n v u => rfl) hE hb1 (hb2.mono hle) q2 (Res.sat_mono H fun st1 H1 => fun ad2 h2 tk l2 R2 => ?_))
  exact wpAny_pure (H1 ad2 h2 tk _ (hle.trans l2) R2 (hE.mono l2))
end
end Mine

namespace Mine
/-- a function of the program -/
noncomputable def IsFn (s : Shared) (f : Value) : Prop := ∃ a o fd, f = .ref a ∧ s.heap.get? a = some o ∧ o.data = .func fd

structure Snd (prog : Program) (w : World) (D U : Nat) (c : Cfg) (n : Nat) (r : Evs) : Prop where
  ev : ∀ {B : Bs} {cx : Cx} {env : Env} {ad : Ad} {st : St} {s : Shared} {A : Around} {E : Value → Shared → Prop} {Q : Value → Shared → Prop} (e : Expr), CfgOk c B → EnvOk cx env ad → Rep B st ad s.heap → Room D U n A →
    (r.ev cx e st).sat B.ρ (KV B ad s Q) → wpAny (model prog w) A (eval e env) Q E s
  tst : ∀ {B : Bs} {cx : Cx} {env : Env} {ad : Ad} {st : St} {s : Shared} {A : Around} {E : Value → Shared → Prop} {Q : Bool → Shared → Prop} (e : Expr), CfgOk c B → EnvOk cx env ad → Rep B st ad s.heap → Room D U n A →
    (r.tst cx e st).sat B.ρ (KB B ad s Q) → wpAny (model prog w) A (PySem.isTrue e env (eval e env)) Q E s
  exs : ∀ {B : Bs} {cx : Cx} {env : Env} {ad : Ad} {st : St} {s : Shared} {A : Around} {E : Value → Shared → Prop} {Q : Flow → Shared → Prop} (b : List Stmt), CfgOk c B → EnvOk cx env ad → Rep B st ad s.heap → Room D U n A →
    (r.exs cx b st).sat B.ρ (KF B ad s Q) → wpAny (model prog w) A (execs b env) Q E s
  call : ∀ {B : Bs} {ad : Ad} {st : St} {s : Shared} {A : Around} {E : Value → Shared → Prop} {Q : Value → Shared → Prop} (f : V) (args : List V) (fv : Value) (vs : List Value), CfgOk c B → Rep B st ad s.heap → Room D U n A →
    VR B.ρ ad f fv → VRs B.ρ ad args vs → (r.call f args st).sat B.ρ (KV B ad s Q) → IsFn s fv ∧ wpAny (model prog w) A (call fv vs) Q E s

section
variable {prog : Program} {w : World} {D U n : Nat} {r : Evs} {B : Bs} {c : Cfg} {cx : Cx} {env : Env} {ad : Ad} {st : St} {s : Shared} {A : Around} {E : Value → Shared → Prop}

theorem noStar_cons {e : Expr} {es : List Expr} (h : noStar (e :: es) = true) : noStar es = true ∧ starEach (e :: es) env = (false, eval e env) :: starEach es env := by
  cases e <;> first | exact ⟨h, rfl⟩ | (simp [noStar] at h)

theorem noStar_plain {pos : Pos} : ∀ {es : List Expr}, noStar es = true → (backTo pos (starEach es env)).any (·.1) = false
  | [], _ => rfl
  | e :: es, h => by
    obtain ⟨h1, h2⟩ := noStar_cons (env := env) h
    rw [h2]
    show (false || (backTo pos (starEach es env)).any (·.1)) = false
    rw [noStar_plain h1]; rfl

theorem noStar_all {pos : Pos} : ∀ {es : List Expr}, noStar es = true → (backTo pos (starEach es env)).all (fun x => !x.1) = true
  | [], _ => rfl
  | e :: es, h => by
    obtain ⟨h1, h2⟩ := noStar_cons (env := env) h
    rw [h2]
    show (true && (backTo pos (starEach es env)).all (fun x => !x.1)) = true
    rw [noStar_all h1]; rfl

theorem evL_wp (S : Snd prog w D U c n r) (C : CfgOk c B) (hr : Room D U n A) {pos : Pos} : ∀ (es : List Expr) {st : St} {ad : Ad} {s : Shared} {Q : List Value → Shared → Prop}, noStar es = true → EnvOk cx env ad → Rep B st ad s.heap →
    (evL r cx es st).sat B.ρ (KL B ad s Q) → wpAny (model prog w) A (spliced (backTo pos (starEach es env))) Q E s
  | [], st, ad, s, Q, _, hE, R, H => args_nil (H ad s.heap s.toks [] (Le.refl _) R .nil)
  | e :: es, st, ad, s, Q, hs, hE, R, H => by
    obtain ⟨h1, h2⟩ := noStar_cons (env := env) hs
    refine args_cons ?_ h2
    unfold evL at H
    refine S.ev e C hE R hr (Res.sat_mono (Res.bnd_sat.mp H) fun p Hp => fun ad1 h' tk v hl R1 hv => ?_)
    refine evL_wp S C hr es h1 (hE.mono hl) R1 (Res.sat_mono (Res.bnd_sat.mp Hp) fun q Hq => fun ad2 h2 tk2 vs hl2 R2 hvs => ?_)
    exact Hq ad2 h2 tk2 (v :: vs) (hl.trans hl2) R2 (.cons (hv.mono hl2) hvs)

theorem evalArgs_any {f : Value} {es : List Expr} {pos : Pos} (hs : noStar es = true) {M : Model} {Q : Args → Shared → Prop} (h : wpAny M A (spliced (backTo pos (starEach es env))) (fun vs s₁ => Q ⟨vs, []⟩ s₁) E s) :
    wpAny M A (evalArgs f true (backTo pos (starEach es env)) []) Q E s := by
  cases es with
  | nil =>
    unfold evalArgs
    show wpAny M A (spliced [] >>= _) Q E s
    refine wpAny_bind (wpAny_mono h (fun vs s' h' => ?_) fun _ _ x => x)
    refine wpAny_holding ?_
    exact wpAny_bind (wpAny_pure (wpAny_bind (wpAny_pure (wpAny_pure h'))))
  | cons e es =>
    obtain ⟨h1, h2⟩ := noStar_cons (env := env) hs
    rw [h2] at h ⊢
    exact evalArgs_plain h

theorem callWith_fn {M : Model} {pos : Pos} {f : Value} {first : List Value} {args : List (Bool × Sem Value)} {Q : Value → Shared → Prop}
    (h : wpAny M A (evalArgs f true args []) (fun x s₁ => IsFn s₁ f ∧ wpAny M A (call f (first ++ x.pos) x.kw) Q E s₁) E s) :
    wpAny M A (callWith pos f first args []) Q E s := by
  unfold callWith
  refine wpAny_bind (wpAny_holding (wpAny_mono h (fun x s₁ h₁ => wpAny_bind (wpAny_standAt ?_)) fun _ _ x => x))
  obtain ⟨⟨a, o, fd, rfl, q1, q2⟩, h₁⟩ := h₁
  have tail : ∀ {t : Sem Value}, wpAny M A t Q E s₁ → wpAny M A (t >>= fun r => holding [r] point >>= fun _ => pure r) Q E s₁ :=
    fun ht => wpAny_bind (wpAny_mono ht (fun r s₂ hr => wpAny_bind (wpAny_holding (wpAny_point (wpAny_pure hr)))) fun _ _ x => x)
  cases hs : args.any (·.1) <;> simp only [List.any_nil, Bool.or_false] <;>
    refine wpAny_bind (m := keeperOf (.ref a)) ?_ <;> unfold keeperOf <;>
    refine wpAny_bind (wpAny_load q1 ?_) <;> rw [q2] <;> refine wpAny_pure ?_
  · first
      | refine wpAny_ite ?_
      | skip
    split <;> first
      | exact tail h₁
      | exact tail (by unfold callMarked; exact wpAny_keep h₁)
  · first
      | exact tail (by unfold callMarked; exact wpAny_keep h₁)
      | exact tail h₁

theorem attrBase {o : Expr} {name : Str} {t : Sem Value} (h : notCall o = true) : attributeBase o name env t = t := by
  cases o <;> first | rfl | (cases h)

theorem evE_Method (S : Snd prog w D U c n r) (C : CfgOk c B) (hE : EnvOk cx env ad) (R : Rep B st ad s.heap) (hr : Room D U n A) {o : Expr} {name : Str} {apos pos : Pos} {as : List Expr} {Q : Value → Shared → Prop}
    (h1 : noStar as = true) (h2 : as.length < 20) (h3 : (apos.endLine == pos.line) = true) (h4 : notCall o = true)
    (H : ((r.ev cx o st).bnd fun p => match methId name p.1 p.2 with
      | some id => (evL r cx as p.2).bnd fun q => methC id p.1 q.1 q.2
      | none => .fail).sat B.ρ (KV B ad s Q)) : wpAny (model prog w) A (eval (.Call (.Attribute o name apos) as [] pos) env) Q E s := by
  rw [arm_eval_Call, attrBase h4]
  refine wpAny_bind (S.ev o C hE R hr (Res.sat_mono (Res.bnd_sat.mp H) fun p Hp => fun ad1 g1 tk1 v hl R1 hv => ?_))
  refine wpAny_bind (wpAny_standAt ?_)
  cases hm : methId name p.1 p.2 with
  | none => rw [hm] at Hp; cases Hp
  | some id =>
    rw [hm] at Hp
    have hform : methodCallForm (as.length + ([] : List Keyword).length) (backTo pos (starEach as env)) (backToKw pos (keywordEach [] env)) = true := by
      unfold methodCallForm
      rw [noStar_all h1]
      show (true && true && decide (as.length + 0 + 0 < 30)) = true
      rw [decide_eq_true (by omega)]; rfl
    have hpos : methodCallPos true o env apos pos = pure pos := by unfold methodCallPos; simp [h3]
    unfold methodCall
    rw [hform]
    refine wpAny_bind (wpAny_holding (methId_wp (s := { s with heap := g1, toks := tk1 }) R1 hv hm ?_).go)
    refine wpAny_bind (wpAny_of_eq hpos ?_)
    refine callWith_builtin (noStar_plain h1) (evalArgs_any h1 ?_)
    refine evL_wp S C hr as h1 (hE.mono hl) R1 (Res.sat_mono (Res.bnd_sat.mp Hp) fun q Hq => fun ad2 g2 tk2 vs hl2 R2 hvs => ?_)
    exact (methC_wp (s := { s with heap := g2, toks := tk2 }) hr.handled R2 (hv.mono hl2) hvs (Res.sat_mono Hq fun u Hu => Hu.at (hl.trans hl2))).go

theorem evE_Call (S : Snd prog w D U c n r) (C : CfgOk c B) (hE : EnvOk cx env ad) (R : Rep B st ad s.heap) (hr : Room D U n A) {f : Expr} {pos : Pos} {as : List Expr} {Q : Value → Shared → Prop}
    (h1 : noStar as = true) (he : eval (.Call f as [] pos) env = (do callWith pos (← eval f env) [] (backTo pos (starEach as env)) (backToKw pos (keywordEach [] env))))
    (H : ((r.ev cx f st).bnd fun p => (evL r cx as p.2).bnd fun q => callF cx.ns r p.1 q.1 q.2).sat B.ρ (KV B ad s Q)) : wpAny (model prog w) A (eval (.Call f as [] pos) env) Q E s := by
  rw [he]
  refine wpAny_bind (S.ev f C hE R hr (Res.sat_mono (Res.bnd_sat.mp H) fun p Hp => fun ad1 g1 tk1 fv hl R1 hv => ?_))
  obtain ⟨fV, st1⟩ := p
  have Hp := Res.bnd_sat.mp Hp
  have args : ∀ {Q' : List Value → Shared → Prop}, (∀ (q : List V × St), (callF cx.ns r fV q.1 q.2).sat B.ρ (KV B ad s Q) → ∀ ad2 g2 tk2 vs, Le ad1 ad2 → Rep B q.2 ad2 g2 → VRs B.ρ ad2 q.1 vs → Q' vs { s with heap := g2, toks := tk2 }) →
      wpAny (model prog w) A (spliced (backTo pos (starEach as env))) Q' E { s with heap := g1, toks := tk1 } := fun h =>
    evL_wp S C hr as h1 (hE.mono hl) R1 (Res.sat_mono Hp fun q Hq => fun ad2 g2 tk2 vs hl2 R2 hvs => h q Hq ad2 g2 tk2 vs hl2 R2 hvs)
  have rest : (∀ as st, callF cx.ns r fV as st = r.call fV as st) → wpAny (model prog w) A (callWith pos fv [] (backTo pos (starEach as env)) (backToKw pos (keywordEach [] env))) Q E { s with heap := g1, toks := tk1 } := fun hq => by
    refine callWith_fn (evalArgs_any h1 (args fun q Hq ad2 g2 tk2 vs hl2 R2 hvs => ?_))
    rw [hq] at Hq
    exact S.call (s := { s with heap := g2, toks := tk2 }) fV q.1 fv vs C R2 hr (hv.mono hl2) hvs (Res.sat_mono Hq fun u Hu => KV.at Hu (hl.trans hl2))
  cases fV with
  | val x =>
    cases x with
    | builtin id =>
      obtain rfl := hv
      refine callWith_builtin (noStar_plain h1) (evalArgs_any h1 (args fun q Hq ad2 g2 tk2 vs hl2 R2 hvs => ?_))
      have Hq : (builtinV cx.ns (.builtin id) q.1 q.2).sat B.ρ (KV B ad s Q) := Hq
      exact (builtinV_wp (s := { s with heap := g2, toks := tk2 }) hr.handled R2 hvs (Res.sat_mono Hq fun u Hu => KV.at Hu (hl.trans hl2))).go
    | type t =>
      obtain rfl := hv
      refine PyProof.Rows.callWith_type (noStar_plain h1) (evalArgs_any h1 (args fun q Hq ad2 g2 tk2 vs hl2 R2 hvs => ?_))
      have Hq : (builtinV cx.ns (.type t) q.1 q.2).sat B.ρ (KV B ad s Q) := Hq
      exact (builtinV_wp (s := { s with heap := g2, toks := tk2 }) hr.handled R2 hvs (Res.sat_mono Hq fun u Hu => KV.at Hu (hl.trans hl2))).go
    | _ => exact rest fun _ _ => rfl
  | _ => exact rest fun _ _ => rfl

theorem evOpt_wp (S : Snd prog w D U c n r) (C : CfgOk c B) (hE : EnvOk cx env ad) (R : Rep B st ad s.heap) (hr : Room D U n A) {e : Option Expr} {Q : Value → Shared → Prop} (H : (evOpt r cx e st).sat B.ρ (KV B ad s Q)) :
    wpAny (model prog w) A (evalPart e env) Q E s := by
  cases e with
  | none => exact evalPart_none_step (KV.same H R rfl)
  | some e => exact S.ev e C hE R hr H

theorem evE_Slice (S : Snd prog w D U c n r) (C : CfgOk c B) (hE : EnvOk cx env ad) (R : Rep B st ad s.heap) (hr : Room D U n A) {v : Expr} {lo hi sp : Option Expr} {p1 pos : Pos} {Q : Value → Shared → Prop}
    (H : ((r.ev cx v st).bnd fun p => (evOpt r cx lo p.2).bnd fun l => (evOpt r cx hi l.2).bnd fun h => (evOpt r cx sp h.2).bnd fun s => sliceV cx.ns p.1 l.1 h.1 s.1 s.2).sat B.ρ (KV B ad s Q)) :
    wpAny (model prog w) A (eval (.Subscript v (.Slice lo hi sp p1) pos) env) Q E s := by
  refine Subscript_ (S.ev v C hE R hr (Res.sat_mono (Res.bnd_sat.mp H) fun p Hp => fun ad1 g1 tk1 x1 l1 R1 v1 => ?_))
  refine wpAny_Slice (evOpt_wp S C (hE.mono l1) R1 hr (Res.sat_mono (Res.bnd_sat.mp Hp) fun q Hq => fun ad2 g2 tk2 x2 l2 R2 v2 => ?_))
  refine evOpt_wp S C (hE.mono (l1.trans l2)) R2 hr (Res.sat_mono (Res.bnd_sat.mp Hq) fun q3 Hq3 => fun ad3 g3 tk3 x3 l3 R3 v3 => ?_)
  refine evOpt_wp S C (hE.mono ((l1.trans l2).trans l3)) R3 hr (Res.sat_mono (Res.bnd_sat.mp Hq3) fun q4 Hq4 => fun ad4 g4 tk4 x4 l4 R4 v4 => ?_)
  exact (sliceV_wp (s := { s with heap := g4, toks := tk4 }) R4 (v1.mono (l2.trans (l3.trans l4))) (v2.mono (l3.trans l4)) (v3.mono l4) v4 (Res.sat_mono Hq4 fun u Hu => KV.at Hu (l1.trans (l2.trans (l3.trans l4))))).go

theorem evE_Item (S : Snd prog w D U c n r) (C : CfgOk c B) (hE : EnvOk cx env ad) (R : Rep B st ad s.heap) (hr : Room D U n A) {v i : Expr} {pos : Pos} {Q : Value → Shared → Prop}
    (H : ((r.ev cx v st).bnd fun p => (r.ev cx i p.2).bnd fun q => itemV p.1 q.1 q.2).sat B.ρ (KV B ad s Q)) :
    wpAny (model prog w) A (eval (.Subscript v i pos) env) Q E s := by
  refine Subscript_ (S.ev v C hE R hr (Res.sat_mono (Res.bnd_sat.mp H) fun p Hp => fun ad1 g1 tk1 x1 l1 R1 v1 => ?_))
  refine S.ev i C (hE.mono l1) R1 hr (Res.sat_mono (Res.bnd_sat.mp Hp) fun q Hq => fun ad2 g2 tk2 x2 l2 R2 v2 => ?_)
  exact (itemV_wp (s := { s with heap := g2, toks := tk2 }) R2 (v1.mono l2) v2 (Res.sat_mono Hq fun u Hu => KV.at Hu (l1.trans l2))).2.go

theorem evE_Bin (S : Snd prog w D U c n r) (C : CfgOk c B) (hE : EnvOk cx env ad) (R : Rep B st ad s.heap) (hr : Room D U n A) {x y : Expr} {op : Operator} {pos : Pos} {Q : Value → Shared → Prop}
    (H : ((r.ev cx x st).bnd fun p => (r.ev cx y p.2).bnd fun q => binV op p.1 q.1 q.2).sat B.ρ (KV B ad s Q)) :
    wpAny (model prog w) A (eval (.BinOp x op y pos) env) Q E s := by
  refine wpAny_BinOp (S.ev x C hE R hr (Res.sat_mono (Res.bnd_sat.mp H) fun p Hp => fun ad1 g1 tk1 x1 l1 R1 v1 => ?_))
  refine S.ev y C (hE.mono l1) R1 hr (Res.sat_mono (Res.bnd_sat.mp Hp) fun q Hq => fun ad2 g2 tk2 x2 l2 R2 v2 => ?_)
  exact (binV_wp (s := { s with heap := g2, toks := tk2 }) hr.handled R2 (v1.mono l2) v2 (Res.sat_mono Hq fun u Hu => KV.at Hu (l1.trans l2))).go

theorem evE_Cmp (S : Snd prog w D U c n r) (C : CfgOk c B) (hE : EnvOk cx env ad) (R : Rep B st ad s.heap) (hr : Room D U n A) {x y : Expr} {op : CmpOp} {pos : Pos} {Q : Value → Shared → Prop} (hm : behindInMarks op y = false)
    (H : ((r.ev cx x st).bnd fun p => (r.ev cx y p.2).bnd fun q => cmpV op p.1 q.1 q.2).sat B.ρ (KV B ad s Q)) :
    wpAny (model prog w) A (eval (.Compare x [op] [y] pos) env) Q E s := by
  refine wpAny_Compare1 (S.ev x C hE R hr (Res.sat_mono (Res.bnd_sat.mp H) fun p Hp => fun ad1 g1 tk1 x1 l1 R1 v1 => ?_)) hm
  refine S.ev y C (hE.mono l1) R1 hr (Res.sat_mono (Res.bnd_sat.mp Hp) fun q Hq => fun ad2 g2 tk2 x2 l2 R2 v2 => ?_)
  exact (cmpV_wp (hr.ulim) (s := { s with heap := g2, toks := tk2 }) R2 (v1.mono l2) v2 (Res.sat_mono Hq fun u Hu => KV.at Hu (l1.trans l2))).go

theorem tstE_Cmp (S : Snd prog w D U c n r) (C : CfgOk c B) (hE : EnvOk cx env ad) (R : Rep B st ad s.heap) (hr : Room D U n A) {x y : Expr} {op : CmpOp} {pos : Pos} {whole : Sem Value} {Q : Bool → Shared → Prop} (hm : behindInMarks op y = false)
    (H : ((r.ev cx x st).bnd fun p => (r.ev cx y p.2).bnd fun q => (cmpV op p.1 q.1 q.2).bnd fun z => (truV z.1 z.2).bnd fun b => .leaf (b, z.2)).sat B.ρ (KB B ad s Q)) :
    wpAny (model prog w) A (PySem.isTrue (.Compare x [op] [y] pos) env whole) Q E s := by
  refine wpAny_isTrue_Compare1 (S.ev x C hE R hr (Res.sat_mono (Res.bnd_sat.mp H) fun p Hp => fun ad1 g1 tk1 x1 l1 R1 v1 => ?_)) hm
  refine S.ev y C (hE.mono l1) R1 hr (Res.sat_mono (Res.bnd_sat.mp Hp) fun q Hq => fun ad2 g2 tk2 x2 l2 R2 v2 => ?_)
  refine (cmpV_wp (hr.ulim) (s := { s with heap := g2, toks := tk2 }) R2 (v1.mono l2) v2 (Res.sat_mono (Res.bnd_sat.mp Hq) fun u Hu => fun ad3 g3 tk3 x3 l3 R3 v3 => ?_)).go
  exact (truV_wp (s := { s with heap := g3, toks := tk3 }) R3 v3 (Res.sat_mono (Res.bnd_sat.mp Hu) fun u Hu => KB.at Hu (l1.trans (l2.trans l3)))).go

theorem tst_value (S : Snd prog w D U c n r) (C : CfgOk c B) (hE : EnvOk cx env ad) (R : Rep B st ad s.heap) (hr : Room D U n A) {e : Expr} {Q : Bool → Shared → Prop}
    (he : PySem.isTrue e env (eval e env) = (do let v ← eval e env; standAt e.pos; holding [v] (truthy v)))
    (H : ((r.ev cx e st).bnd fun p => (truV p.1 p.2).bnd fun b => .leaf (b, p.2)).sat B.ρ (KB B ad s Q)) : wpAny (model prog w) A (PySem.isTrue e env (eval e env)) Q E s := by
  refine isTrue_plain (S.ev e C hE R hr (Res.sat_mono (Res.bnd_sat.mp H) fun p Hp => fun ad1 g1 tk1 x1 l1 R1 v1 => ?_)) he
  exact (truV_wp (s := { s with heap := g1, toks := tk1 }) R1 v1 (Res.sat_mono (Res.bnd_sat.mp Hp) fun u Hu => KB.at Hu l1)).go

theorem isSetE_of {y : Expr} (h : isSetE y = false) {op : CmpOp} : behindInMarks op y = false := by
  cases y <;> first | rfl | (cases h)

theorem tstBool_wp (S : Snd prog w D U c n r) (C : CfgOk c B) (hE : EnvOk cx env ad) (R : Rep B st ad s.heap) (hr : Room D U n A) {op : BoolOp} {xs : List Expr} {pos : Pos} {Q : Bool → Shared → Prop} (H : (tstBool r cx op xs pos st).sat B.ρ (KB B ad s Q)) :
    wpAny (model prog w) A (PySem.isTrue (.BoolOp op xs pos) env (eval (.BoolOp op xs pos) env)) Q E s := by
  cases xs with
  | nil => cases op with
    | And => exact isTrue_and_nil (KB.same H R)
    | Or => exact isTrue_or_nil (KB.same H R)
  | cons x rest =>
    have more : ∀ {p : Bool × St} {ad1 : Ad} {g1 : Heap} {tk1 : Nat}, Le ad ad1 → Rep B p.2 ad1 g1 → (r.tst cx (.BoolOp op rest pos) p.2).sat B.ρ (KB B ad s Q) →
        wpAny (model prog w) A (PySem.isTrue (.BoolOp op rest pos) env (eval (.BoolOp op (x :: rest) pos) env)) Q E { s with heap := g1, toks := tk1 } := fun l1 R1 Hp =>
      S.tst (s := { s with heap := _, toks := _ }) (.BoolOp op rest pos) C (hE.mono l1) R1 hr (Res.sat_mono Hp fun u Hu => KB.at Hu l1)
    cases op with
    | And =>
      refine isTrue_and (S.tst x C hE R hr (Res.sat_mono (Res.bnd_sat.mp H) fun p Hp => fun ad1 g1 tk1 l1 R1 => ?_))
      obtain ⟨b, st1⟩ := p
      cases b with
      | true => exact more l1 R1 Hp
      | false => exact Hp ad1 g1 tk1 l1 R1
    | Or =>
      refine isTrue_or (S.tst x C hE R hr (Res.sat_mono (Res.bnd_sat.mp H) fun p Hp => fun ad1 g1 tk1 l1 R1 => ?_))
      obtain ⟨b, st1⟩ := p
      cases b with
      | true => exact Hp ad1 g1 tk1 l1 R1
      | false => exact more l1 R1 Hp

theorem tstE_wp (S : Snd prog w D U c n r) (C : CfgOk c B) (hE : EnvOk cx env ad) (R : Rep B st ad s.heap) (hr : Room D U n A) {e : Expr} {Q : Bool → Shared → Prop} (H : (tstE r cx e st).sat B.ρ (KB B ad s Q)) :
    wpAny (model prog w) A (PySem.isTrue e env (eval e env)) Q E s := by
  cases e with
  | UnaryOp op x pos => cases op with
    | Not =>
      refine isTrue_not (S.tst _ C hE R hr (Res.sat_mono (Res.bnd_sat.mp H) fun p Hp => fun ad1 g1 tk1 l1 R1 => ?_))
      exact Hp ad1 g1 tk1 l1 R1
    | _ => exact tst_value S C hE R hr rfl H
  | BoolOp op xs pos => exact tstBool_wp S C hE R hr H
  | IfExp t a b p => exact False.elim H
  | Compare l ops ys pos =>
    unfold tstE at H; dsimp only at H
    split at H
    · rename_i op ho
      split at H
      · rename_i y hy
        rw [one_eq ho, one_eq hy]
        unfold tstCmp at H
        split at H
        · cases H
        · rename_i hs
          exact tstE_Cmp S C hE R hr (isSetE_of hs) H
      · cases H
    · cases H
  | _ => exact tst_value S C hE R hr rfl H
end
end Mine

namespace Mine
section
variable {prog : Program} {w : World} {D U n : Nat} {r : Evs} {B : Bs} {c : Cfg} {cx : Cx} {env : Env} {ad : Ad} {st : St} {s : Shared} {A : Around} {E : Value → Shared → Prop}

theorem CfgOk.base (C : CfgOk c B) (h₀ : Heap) (n0 : Nat) : CfgOk c { B with h₀ := h₀, n0 := n0 } := ⟨C.scr, C.glob, C.tops, C.lim, C.codes, C.inj, C.builtins, C.fns⟩

/-- a run between two draws -/
theorem Rep.body {st2 : St} {ad2 : Ad} {h h2 : Heap} {p : Addr} {it : It} (R : Rep B st ad h) (L : Loose B ad h p) (hi : ItOk ad h p it) (R2 : Rep { B with h₀ := h, n0 := st.length } st2 ad2 h2) (hl : Le ad ad2) :
    Rep B st2 ad2 h2 ∧ Loose B ad2 h2 p ∧ ItOk ad2 h2 p it := by
  obtain ⟨ob, ho, hc1, hc2, hc3⟩ := L.there
  have off : ¬ Has ad2 p := fun ⟨i, e⟩ => by
    by_cases h1 : i < ad.length
    · rw [hl.eq i h1] at e; exact L.off ⟨i, e⟩
    · have := R2.fresh i p (by show st.length ≤ i; rw [R.len]; omega) e
      have h0 : h.get? p = none := this
      rw [ho] at h0; cases h0
  have hP : p ∉ B.codes.map (·.P) := fun hm => by
    obtain ⟨k, hkm, rfl⟩ := List.mem_map.mp hm
    obtain ⟨_, _, ps, _, ⟨_, t⟩, _⟩ := R.tabs k hkm
    rw [ho] at t; cases t; exact hc1 rfl
  have kp : ∀ o, h.get? p = some o → h2.get? p = some o := fun o e => R2.keep p o e hP off
  have hi2 := hi.mono hl kp
  exact ⟨R.unbase R2 hl, ⟨off, L.base, L.top, hi2.there⟩, hi2⟩

theorem closA_wp {cells : List (Str × Nat)} (hC : Cl ad cells env.cells) (f : Str × NameKind → List (Str × Addr) → Sem (ForInStep (List (Str × Addr))))
    (hf : ∀ name kind cs, f (name, kind) cs = if kind == .free then (do let a ← cellOf env name; pure (.yield ((name, a) :: cs))) else pure (.yield cs)) :
    ∀ (names : List (Str × NameKind)) (acc : List (Str × Nat)) (eacc : List (Str × Addr)) {cl : List (Str × Nat)}, Cl ad acc eacc → closA cells names acc = some cl → ∃ ecl, forIn names eacc f = pure ecl ∧ Cl ad cl ecl
  | [], acc, eacc, cl, H, e => by cases e; exact ⟨eacc, rfl, H⟩
  | (nm, k) :: r, acc, eacc, cl, H, e => by
    unfold closA at e
    rw [List.forIn_cons, hf]
    split at e
    · rename_i hk
      rw [if_pos hk]
      split at e
      · rename_i i hi
        obtain ⟨a, ha, he⟩ := hC nm i hi
        have e1 : cellOf env nm = pure a := by unfold cellOf; rw [he]
        rw [e1]
        exact closA_wp hC f hf r _ _ (H.cons ha) e
      · cases e
    · rename_i hk
      rw [if_neg (by rw [hk]; decide)]
      exact closA_wp hC f hf r _ _ H e

theorem closureFor_of {cells : List (Str × Nat)} {scope : Scope} {cl : List (Str × Nat)} (hC : Cl ad cells env.cells) (h : closA cells scope.names [] = some cl) : ∃ ecl, closureFor scope env = pure ecl ∧ Cl ad cl ecl := by
  have bp : ∀ {α : Type} {m : Sem α} {a : α}, m = pure a → (m >>= fun x => pure x) = pure a := fun h => by rw [h]; rfl
  have key : ∀ f, (∀ name kind cs, f (name, kind) cs = if kind == NameKind.free then (do let a ← cellOf env name; pure (.yield ((name, a) :: cs))) else pure (.yield cs)) → closureFor scope env = (forIn scope.names ([] : List (Str × Addr)) f >>= fun x => pure x) → ∃ ecl, closureFor scope env = pure ecl ∧ Cl ad cl ecl := fun f hf he => by
    obtain ⟨ecl, e, q⟩ := closA_wp (env := env) hC f hf scope.names [] [] (fun x i e => by cases e) h
    exact ⟨ecl, by rw [he]; exact bp e, q⟩
  exact key _ (fun name kind cs => rfl) rfl

/-- a comprehension's frame -/
theorem newCompCx_wp (hE : EnvOk cx env ad) (R : Rep B st ad s.heap) {scope : Scope} {cl : List (Str × Nat)} {ecl : List (Str × Addr)} (hC : Cl ad cl ecl) (hk : scope.kind = .function) (hnc : (scope.names.all fun y => y.2 != .cell) = true) {Q : Env → Shared → Prop}
    (H : ∀ ad' h' cenv, Le ad ad' → Rep B (st ++ [.ns []]) ad' h' → EnvOk ⟨relabelS scope cx.scope, st.length, cl, cx.code, cx.qual⟩ { cenv with scope := relabel scope env } ad' → adr ad' st.length = some cenv.locals → Q cenv { s with heap := h' }) :
    wpAny (model prog w) A (newFunctionEnv scope env.globals ecl [] env.qual none .none (some env)) Q E s := by
  simp only [newFunctionEnv, Option.isSome_some, if_true]
  refine wpAny_bind (wpAny_alloc ?_)
  refine wpAny_bind (wpAny_layCells _ (fun name kind cells => by cases hkc : kind == NameKind.cell <;> simp [hkc]) _ _ _ _ ?_)
  have hsz : st.length = ad.length := R.len
  have R1 : Rep B (st ++ [.ns []]) (ad ++ [some s.heap.objs.size]) (s.heap.push { cls := .type "dict", data := .dict #[] }) :=
    R.add get_size (fun _ _ e => Heap.get?_push_of_some _ e) ⟨_, Heap.get?_push_size _ rfl, #[], 0, rfl, fun _ he => by simp at he, fun x => rfl⟩
  have none : ∀ (names : List (Str × NameKind)) (h : Heap) (m : Nat) (ec : List (Str × Addr)), (names.all fun y => y.2 != .cell) = true → pushCells h names = h ∧ cellsFrom m names ec = ec := fun names => by
    induction names with
    | nil => intro h m ec _; exact ⟨rfl, rfl⟩
    | cons x r ih =>
      intro h m ec hx
      rw [List.all_cons, Bool.and_eq_true] at hx
      obtain ⟨nm, k⟩ := x
      have : (k == NameKind.cell) = false := by simpa using hx.1
      unfold pushCells cellsFrom
      rw [if_neg (by rw [this]; decide), if_neg (by rw [this]; decide)]
      exact ih h m ec hx.2
  obtain ⟨e1, e2⟩ := none scope.names (s.heap.push { cls := .type "dict", data := .dict #[] }) (s.heap.push { cls := .type "dict", data := .dict #[] }).objs.size ecl hnc
  refine wpAny_bind (wpAny_pure (wpAny_pure ?_))
  have ha : adr (ad ++ [some s.heap.objs.size]) st.length = some s.heap.objs.size := by rw [adr_app]; exact if_pos hsz
  show Q { scope := scope, locals := s.heap.objs.size, globals := env.globals, cells := cellsFrom (s.heap.push { cls := .type "dict", data := .dict #[] }).objs.size scope.names ecl, qual := env.qual, func := .none, code := env.code, frame := env.frame, builtins := env.builtins } { s with heap := pushCells (s.heap.push { cls := .type "dict", data := .dict #[] }) scope.names }
  rw [e1, e2]
  refine H _ _ _ (Le.app _ _) R1 ⟨hk, ?_, ha, hC.mono (Le.app _ _), hE.glob, hE.bi, hE.code⟩ ha
  show relabel scope env = relabelS scope cx.scope
  unfold relabel relabelS Env.kindOf
  rw [hE.scope]
end
end Mine

namespace Mine
section
variable {prog : Program} {w : World} {D U n : Nat} {r : Evs} {B : Bs} {c : Cfg} {cx : Cx} {env : Env} {ad : Ad} {st : St} {s : Shared} {A : Around} {E : Value → Shared → Prop}

theorem compV_wp (S : Snd prog w D U c n r) (C : CfgOk c B) (hE : EnvOk cx env ad) (R : Rep B st ad s.heap) (hr : Room D U n A) {x : Str} {px pos : Pos} {elt iter : Expr} {scope : Scope} {p acc : Addr} {a N : Nat} {it : It}
    {K : St → Prop} {Rr : Result → Shared → Prop} (L : Loose B ad s.heap p) (hi : ItOk ad s.heap p it) (ha : adr ad a = some acc) (H : (compV r cx x elt a N it st).sat B.ρ K)
    (hfin : ∀ st' ad' h tk, Le ad ad' → Rep B st' ad' h → K st' → Rr (.ok .next) { s with heap := h, toks := tk }) :
    codeAny (model prog w) A (.compLoop (.ListComp elt [⟨.Name x px, iter, [], 0⟩] scope pos) 0 (.ref p) (.ref acc) env) Rr s := by
  refine codeAny_compLoop_tests (fun n s' => ∃ ad' st' it' h tk, s' = { s with heap := h, toks := tk } ∧ Le ad ad' ∧ Rep B st' ad' h ∧ Loose B ad' h p ∧ ItOk ad' h p it' ∧ (compV r cx x elt a n it' st').sat B.ρ K)
    (fun m s' hI => ?_) N ⟨ad, st, it, s.heap, s.toks, rfl, Le.refl _, R, L, hi, H⟩
  obtain ⟨ad', st', it', h, tk, rfl, l0, R', L', hi', H⟩ := hI
  cases m with
  | zero => cases H
  | succ m =>
    unfold compV at H
    refine (drawV_wp (s := { s with heap := h, toks := tk }) hr.handled R' L' hi' (Res.sat_mono (Res.bnd_sat.mp H) fun pq Hp => ?_)).go
    cases pq with
    | none => exact fun h1 R1 => hfin st' ad' h1 tk l0 R1 Hp
    | some vi =>
      obtain ⟨v, it2⟩ := vi
      intro h1 tk1 xv R1 hv L1 hi1
      refine wpAny_assign_Name (storeN_wp (s := { s with heap := h1, toks := tk1 }) (hE.mono l0) R1.rebase hv (Res.sat_mono (Res.bnd_sat.mp Hp) fun st1 H1 => fun ad2 h2 tk2 l2 R2 => ?_))
      refine wpAny_pure ?_
      show wpAny _ _ (eval elt env) _ _ _
      refine S.ev (s := { s with heap := h2, toks := tk2 }) elt (C.base _ _) (hE.mono (l0.trans l2)) R2 hr (Res.sat_mono (Res.bnd_sat.mp H1) fun q Hq => fun ad3 h3 tk3 v3 l3 R3 hv3 => ?_)
      have l23 := l2.trans l3
      split at Hq
      · rename_i vs hst
        split at Hq
        · rename_i hn
          have hn := of_decide_eq_true hn
          have ha3 := (l0.trans l23).of ha
          obtain ⟨ob, g1, xs, k, rfl, hxs⟩ := R3.of hst ha3
          have hsz := VRs.size hxs
          refine append_at (s := { s with heap := h3, toks := tk3 }) g1 (fun h4 g2 g3 => ⟨m, Nat.lt_succ_self _, ?_⟩) (by rw [hsz, sizeLine_eq]; omega)
          have R4 := R3.upd (o' := .list (vs ++ [q.1])) ha3 (fun b o hb e => by rw [g2.2 b hb]; exact e) ⟨_, g3, _, _, rfl, by rw [Array.toList_push]; exact hxs.append (.cons hv3 .nil)⟩
          obtain ⟨R5, L5, hi5⟩ := R1.body L1 hi1 R4 l23
          exact ⟨ad3, _, it2, h4, tk3, rfl, l0.trans l23, R5, L5, hi5, Hq⟩
        · cases Hq
      · cases Hq

theorem loadN_cases (c : Cfg) (cx : Cx) (x : Str) (st : St) : loadN c cx x st = .fail ∨ ∃ v, loadN c cx x st = .leaf (v, st) := by
  unfold loadN
  repeat' split
  all_goals first | exact .inl rfl | exact .inr ⟨_, rfl⟩

theorem compT_wp (S : Snd prog w D U c n r) (C : CfgOk c B) (hE : EnvOk cx env ad) (R : Rep B st ad s.heap) (hr : Room D U n A) {x z : Str} {px pz pos pc : Pos} {l y iter : Expr} {op : CmpOp} {scope : Scope} {p acc : Addr} {a N : Nat} {it : It}
    {K : St → Prop} {Rr : Result → Shared → Prop} (hm : behindInMarks op y = false) (L : Loose B ad s.heap p) (hi : ItOk ad s.heap p it) (ha : adr ad a = some acc) (H : (compT c r cx x l op y z a N it st).sat B.ρ K)
    (hfin : ∀ st' ad' h tk, Le ad ad' → Rep B st' ad' h → K st' → Rr (.ok .next) { s with heap := h, toks := tk }) :
    codeAny (model prog w) A (.compLoop (.ListComp (.Name z pz) [⟨.Name x px, iter, [.Compare l [op] [y] pc], 0⟩] scope pos) 0 (.ref p) (.ref acc) env) Rr s := by
  refine codeAny_compLoop_tests (fun n s' => ∃ ad' st' it' h tk, s' = { s with heap := h, toks := tk } ∧ Le ad ad' ∧ Rep B st' ad' h ∧ Loose B ad' h p ∧ ItOk ad' h p it' ∧ (compT c r cx x l op y z a n it' st').sat B.ρ K)
    (fun m s' hI => ?_) N ⟨ad, st, it, s.heap, s.toks, rfl, Le.refl _, R, L, hi, H⟩
  obtain ⟨ad', st', it', h, tk, rfl, l0, R', L', hi', H⟩ := hI
  cases m with
  | zero => cases H
  | succ m =>
    unfold compT at H
    refine (drawV_wp (s := { s with heap := h, toks := tk }) hr.handled R' L' hi' (Res.sat_mono (Res.bnd_sat.mp H) fun pq Hp => ?_)).go
    cases pq with
    | none => exact fun h1 R1 => hfin st' ad' h1 tk l0 R1 Hp
    | some vi =>
      obtain ⟨v, it2⟩ := vi
      intro h1 tk1 xv R1 hv L1 hi1
      refine wpAny_assign_Name (storeN_wp (s := { s with heap := h1, toks := tk1 }) (hE.mono l0) R1.rebase hv (Res.sat_mono (Res.bnd_sat.mp Hp) fun st1 H1 => fun ad2 h2 tk2 l2 R2 => ?_))
      rw [List.forIn_cons]
      refine wpAny_bind ?_
      show wpAny _ _ (PySem.isTrue (.Compare l [op] [y] pc) env (eval (.Compare l [op] [y] pc) env) >>= fun ok => pure (ForInStep.yield ok)) _ _ _
      refine wpAny_bind ?_
      refine wpAny_isTrue_Compare1 (S.ev (s := { s with heap := h2, toks := tk2 }) l (C.base _ _) (hE.mono (l0.trans l2)) R2 hr (Res.sat_mono (Res.bnd_sat.mp H1) fun u Hu => fun ad3 h3 tk3 v3 l3 R3 hv3 => ?_)) hm
      refine S.ev (s := { s with heap := h3, toks := tk3 }) y (C.base _ _) (hE.mono (l0.trans (l2.trans l3))) R3 hr (Res.sat_mono (Res.bnd_sat.mp Hu) fun q Hq => fun ad4 h4 tk4 v4 l4 R4 hv4 => ?_)
      refine (cmpV_wp (hr.ulim) (s := { s with heap := h4, toks := tk4 }) R4 (hv3.mono l4) hv4 (Res.sat_mono (Res.bnd_sat.mp Hq) fun t Ht => fun ad5 h5 tk5 v5 l5 R5 hv5 => ?_)).go
      have l25 := l2.trans (l3.trans (l4.trans l5))
      obtain ⟨tV, st5⟩ := t
      cases tV with
      | sb b =>
        obtain rfl := hv5
        refine wpAny_truthy_bool (wpAny_pure (wpAny_pure ?_))
        have ha5 := (l0.trans l25).of ha
        dsimp only at Ht
        rcases loadN_cases c cx z st5 with hf | ⟨zv, hz⟩
        · rw [hf] at Ht; cases Ht
        · have Ht' := Res.bnd_sat.mp Ht
          have Hz : (match st5[a]? with
            | some (.flist vs) => match decide (vs.length ≤ 1000) with
              | true => compT c r cx x l op y z a m it2 (st5.set a (.flist (vs ++ [(b, zv)])))
              | false => .fail
            | _ => .fail : Res St).sat B.ρ K := by rw [hz] at Ht'; exact Ht'
          split at Hz
          · rename_i vs hst
            split at Hz
            · rename_i hn
              have hn := of_decide_eq_true hn
              obtain ⟨ob, g1, xs, k, rfl, hxs⟩ := R5.of hst ha5
              have hsz := VRs.size hxs
              have kl : ∀ vs : List (BE × V), (kept B.ρ vs).length ≤ vs.length := fun vs => by
                induction vs with
                | nil => exact Nat.le_refl _
                | cons p r ih => obtain ⟨b, v⟩ := p; cases hb : b.den B.ρ <;> simp only [kept, hb, List.length_cons] <;> omega
              have ka : ∀ (vs : List (BE × V)) (b : BE) (v : V), kept B.ρ (vs ++ [(b, v)]) = kept B.ρ vs ++ (if b.den B.ρ then [v] else []) := fun vs b v => by
                induction vs with
                | nil => cases hb : b.den B.ρ <;> simp [kept, hb]
                | cons p r ih => obtain ⟨b', v'⟩ := p; cases hb : b'.den B.ρ <;> simp only [List.cons_append, kept, hb, ih]
              cases hb : b.den B.ρ with
              | true =>
                show wpAny _ _ (eval (.Name z pz) env) _ _ _
                have hEz := hE.mono (l0.trans l25)
                refine eval_Name_wp (s := { s with heap := h5, toks := tk5 }) (C.base h1 st'.length) hEz R5 ?_
                rw [hz]
                intro ad6 h6 tk6 v6 l6 R6 hv6
                have ha6 := l6.of ha5
                obtain ⟨ob, g1, xs, k, rfl, hxs⟩ := R6.of hst ha6
                have hsz := VRs.size hxs
                refine append_at (s := { s with heap := h6, toks := tk6 }) g1 (fun h7 g2 g3 => ⟨m, Nat.lt_succ_self _, ?_⟩) (by have h9 : xs.size = (kept B.ρ vs).length := hsz; rw [h9, sizeLine_eq]; have := kl vs; omega)
                have R7 := R6.upd (o' := .flist (vs ++ [(b, zv)])) ha6 (fun b o hb e => by rw [g2.2 b hb]; exact e) ⟨_, g3, _, _, rfl, by rw [Array.toList_push, ka, hb]; exact hxs.append (.cons hv6 .nil)⟩
                obtain ⟨R8, L8, hi8⟩ := R1.body L1 hi1 R7 (l25.trans l6)
                exact ⟨ad6, _, it2, h7, tk6, rfl, l0.trans (l25.trans l6), R8, L8, hi8, Hz⟩
              | false =>
                refine ⟨m, Nat.lt_succ_self _, ?_⟩
                have R7 := R5.upd (o' := .flist (vs ++ [(b, zv)])) ha5 (fun b o hb e => e) ⟨_, g1, _, _, rfl, by rw [ka, hb]; simpa using hxs⟩
                obtain ⟨R8, L8, hi8⟩ := R1.body L1 hi1 R7 l25
                exact ⟨ad5, _, it2, h5, tk5, rfl, l0.trans l25, R8, L8, hi8, Hz⟩
            · cases Hz
          · cases Hz
      | _ => cases Ht
end
end Mine

namespace Mine
section
variable {prog : Program} {w : World} {D U n : Nat} {r : Evs} {B : Bs} {c : Cfg} {cx : Cx} {env : Env} {ad : Ad} {st : St} {s : Shared} {A : Around} {E : Value → Shared → Prop}

theorem iterIter_wp {p : Addr} {it : It} (hi : ItOk ad s.heap p it) {Q : Value → Shared → Prop} (h : Q (.ref p) s) : wpAny (model prog w) A (pyIter (.ref p)) Q E s := by
  cases it with
  | lst l i => obtain ⟨a, _, h1⟩ := hi; exact wpAny_pyIter_listiter h1 h
  | rng x l t => exact wpAny_pyIter_rangeiter hi h
  | str z i => obtain ⟨t, h1⟩ := hi; exact wpAny_pyIter_striter_ascii h1 h
  | rev l i => obtain ⟨a, _, h1⟩ := hi; exact wpAny_pyIter_revIter h1 h

theorem okIter_fold {e : Expr} (h : okIter e = true) (x : Value) : foldedSetIterable e env x = pure x := by
  cases e <;> first | rfl | (cases h)

theorem compBody_wp (S : Snd prog w D U c n r) (C : CfgOk c B) {cx' : Cx} {env' : Env} {ad1 : Ad} (hE : EnvOk cx' env' ad1) {a : Nat} {acc : Addr} {it : It} {p : Addr} {x : Str} {px pos : Pos} {elt iter : Expr} {ifs : List Expr} {scope : Scope} (hr : Room D U n A)
    (L : Loose B ad1 s.heap p) (hi : ItOk ad1 s.heap p it) (ha : adr ad1 a = some acc) {K : St → Prop} {Rr : Result → Shared → Prop}
    (H : (compBody c r cx' elt x ifs a it st).sat B.ρ K) (hoo : ∀ {o' : O}, (o' = .list [] ∨ o' = .flist []) → Rep B (st ++ [o'] ++ [.ns []]) ad1 s.heap)
    (hfin : ∀ st' ad' h tk, Le ad1 ad' → Rep B st' ad' h → K st' → Rr (.ok .next) { s with heap := h, toks := tk }) :
    codeAny (model prog w) A (.compLoop (.ListComp elt [⟨.Name x px, iter, ifs, 0⟩] scope pos) 0 (.ref p) (.ref acc) env') Rr s := by
  have asc : ∀ o : O, st ++ [o] ++ [.ns []] = st ++ [o, .ns []] := fun o => by rw [List.append_assoc]; rfl
  unfold compBody at H
  split at H
  · have R1 := hoo (o' := .list []) (.inl rfl)
    rw [asc] at R1
    exact compV_wp S C hE R1 hr L hi ha H hfin
  · rename_i l op y pc
    split at H
    · rename_i z pz hm
      have R1 := hoo (o' := .flist []) (.inr rfl)
      rw [asc] at R1
      exact compT_wp S C hE R1 hr hm L hi ha H hfin
    · cases H
  · cases H

/-- the frame of a comprehension goes -/
theorem killO_wp {s1 : Shared} {st1 : St} {ad1 : Ad} {k : Nat} {P : St → Prop} (R : Rep B st1 ad1 s1.heap) {ad : Ad} (hl : Le ad ad1) (hk : ad.length ≤ k) (hn : B.n0 ≤ k) {C : Addr} (hC : adr ad1 k = some C) (H : (killO k st1).sat B.ρ P) :
    (∃ m, s1.heap.Ns C m) ∧ ∀ h', Heap.SameBut C s1.heap h' → ∃ ad' st2, Le ad ad' ∧ (∀ j, j ≠ k → adr ad' j = adr ad1 j) ∧ Rep B st2 ad' h' ∧ P st2 := by
  unfold killO at H
  dsimp only at H
  split at H
  · rename_i kvs hall hst
    obtain ⟨m, hm, _⟩ := R.frame hst hC
    refine ⟨⟨m, hm⟩, fun h' hs => ⟨ad1.set k none, _, hl.kill hk, fun j hj => by rw [adr_kill, if_neg hj], R.kill hC hn (fun b x hb e => by rw [hs.2 b hb]; exact e) hall, H⟩⟩
  · cases H

theorem isFun_of {s : Scope} (h : isFun s = true) : s.kind = .function ∧ s.isGenerator = false ∧ s.isCoroutine = false := by
  unfold isFun at h
  split at h
  · exact ⟨by assumption, by assumption, by assumption⟩
  · cases h

theorem compE_wp (S : Snd prog w D U c n r) (C : CfgOk c B) (hE : EnvOk cx env ad) (R : Rep B st ad s.heap) (hr : Room D U n A) {x : Str} {px pos pos' py : Pos} {elt iter : Expr} {ifs : List Expr} {scope : Scope} {use : Option Str} {P : Nat × St → Prop} {Q : Value → Shared → Prop}
    (H : (compE c r cx elt x iter ifs scope use st).sat B.ρ P)
    (hP : ∀ a st' ad' h tk acc, Le ad ad' → Rep B st' ad' h → adr ad' a = some acc → P (a, st') → Q (match use with | none => .ref acc | some _ => .none) { s with heap := h, toks := tk }) :
    wpAny (model prog w) A (comprehension (.ListComp elt [⟨.Name x px, iter, ifs, 0⟩] scope pos) scope env pos' (newList []) false (eval iter env) (use.map fun y => assign (.Name y py) env)) Q E s := by
  unfold compE at H
  split at H
  · rename_i cl h1 h2 h3 h4 h5
    obtain ⟨ecl, hcl, hC⟩ := closureFor_of (env := env) hE.cells h2
    obtain ⟨k1, k2, k3⟩ := isFun_of h3
    refine wpAny_comprehension_free rfl (okIter_fold h1) hcl k1 (fun y hy hy2 => ?_) ?_
    · have := List.all_eq_true.mp h5 y hy
      simp only [hy2, bne_self_eq_false, Bool.false_or, beq_iff_eq] at this
      exact this
    · refine S.ev iter C hE R hr (Res.sat_mono (Res.bnd_sat.mp H) fun p Hp => fun ad1 g1 tk1 iv l1 R1 hv => ?_)
      refine (iterV_wp (s := { s with heap := g1, toks := tk1 }) R1 hv (Res.sat_mono (Res.bnd_sat.mp Hp) fun it Hit => fun g2 pI R2 L2 hi2 => ?_)).go
      refine wpAny_newList ?_
      have hsz : p.2.length = ad1.length := R1.len
      have hx : g2.get? g2.objs.size = none := get_size
      have R2b := R2.rebase
      have R2c : Rep { B with h₀ := g2, n0 := p.2.length } (p.2 ++ [.list []]) (ad1 ++ [some g2.objs.size]) (g2.push { cls := .type "list", data := .seq ([] : List Value).toArray }) :=
        R2b.add hx (fun _ _ e => Heap.get?_push_of_some _ e) ⟨_, Heap.get?_push_size _ rfl, _, _, rfl, .nil⟩
      have ha : adr (ad1 ++ [some g2.objs.size]) p.2.length = some g2.objs.size := by rw [adr_app]; exact if_pos hsz
      have la : Le ad1 (ad1 ++ [some g2.objs.size]) := Le.app _ _
      refine newCompCx_wp (s := { s with heap := g2.push { cls := .type "list", data := .seq ([] : List Value).toArray }, toks := tk1 }) (hE.mono (l1.trans la)) R2c (hC.mono (l1.trans la)) k1 h4 fun ad3 g3 cenv l3 R3 hE3 hc3 => ?_
      have hlen : (p.2 ++ [O.list []]).length = p.2.length + 1 := by simp
      rw [hlen] at hE3 hc3
      have ha3 := l3.of ha
      have R3' : Rep { B with h₀ := g2, n0 := p.2.length } (p.2 ++ [.flist []] ++ [.ns []]) ad3 g3 := by
        obtain ⟨ob, q1, q2⟩ := R3.of (i := p.2.length) (o := .list []) (by rw [List.append_assoc, List.getElem?_append_right (Nat.le_refl _)]; simp) ha3
        have := R3.upd (o' := .flist []) ha3 (fun _ _ _ e => e) ⟨ob, q1, q2⟩
        have e : (p.2 ++ [O.list []] ++ [O.ns []]).set p.2.length (.flist []) = p.2 ++ [.flist []] ++ [.ns []] := by
          rw [List.append_assoc, List.append_assoc, List.set_append_right _ _ (Nat.le_refl _), Nat.sub_self]; rfl
        rw [e] at this; exact this
      have la3 := la.trans l3
      obtain ⟨R4, L4, hi4⟩ := R2.body L2 hi2 R3 la3
      obtain ⟨R4', _, _⟩ := R2.body L2 hi2 R3' la3
      have loop : codeAny (model prog w) A (.compLoop (.ListComp elt [⟨.Name x px, iter, ifs, 0⟩] scope pos) 0 (.ref pI) (.ref g2.objs.size) { cenv with scope := relabel scope env })
          (compPost (model prog w) A E (use.map fun y => assign (.Name y py) env) Q (.ref g2.objs.size) cenv.locals) { s with heap := g3, toks := tk1 } := by
        refine compBody_wp (s := { s with heap := g3, toks := tk1 }) S C hE3 hr L4 hi4 ha3 (Res.bnd_sat.mp Hit) (fun {o'} ho => by rcases ho with rfl | rfl <;> assumption) fun st' ad' h tk l4 R5 K => ?_
        have l14 := l1.trans (la3.trans l4)
        have hC' := l4.of hc3
        have ha' := l4.of ha3
        have hk : ad.length ≤ p.2.length + 1 := by have := l1.len; omega
        have hn : B.n0 ≤ p.2.length + 1 := Nat.le_succ_of_le R1.n0
        cases use with
        | none =>
          have K1 : ((killO (p.2.length + 1) st').bnd fun st3 => .leaf (p.2.length, st3)).sat B.ρ P := K
          have K' := Res.bnd_sat.mp K1
          obtain ⟨⟨m, hm⟩, hs⟩ := killO_wp (s1 := { s with heap := h, toks := tk }) R5 l14 hk hn hC' K'
          refine ⟨m, hm, fun h' hsb => ?_⟩
          obtain ⟨ad5, st5, l5, hj, R6, H6⟩ := hs h' hsb
          exact hP p.2.length st5 ad5 h' tk _ l5 R6 (by rw [hj _ (by omega)]; exact ha') H6
        | some y =>
          show wpAny _ _ (assign (.Name y py) env (.ref g2.objs.size)) _ _ _
          refine wpAny_assign_Name (storeN_wp (s := { s with heap := h, toks := tk }) (hE.mono l14) R5 (v := .ref p.2.length) ⟨_, ha', rfl⟩ (Res.sat_mono (Res.bnd_sat.mp K) fun st2 H2 => fun ad6 h6 tk6 l6 R6 => ?_))
          obtain ⟨⟨m, hm⟩, hs⟩ := killO_wp (s1 := { s with heap := h6, toks := tk6 }) R6 (l14.trans l6) hk hn (l6.of hC') (Res.bnd_sat.mp H2)
          refine ⟨m, hm, fun h' hsb => ?_⟩
          obtain ⟨ad5, st5, l5, hj, R7, H7⟩ := hs h' hsb
          exact hP p.2.length st5 ad5 h' tk6 _ l5 R7 (by rw [hj _ (by omega)]; exact l6.of ha') H7
      exact codeAny_compStart_list loop (iterIter_wp hi4 loop)
  · cases H
end
end Mine

namespace Mine
section
variable {prog : Program} {w : World} {D U n : Nat} {r : Evs} {B : Bs} {c : Cfg} {cx : Cx} {env : Env} {ad : Ad} {st : St} {s : Shared} {A : Around} {E : Value → Shared → Prop}

theorem evE_Bool (S : Snd prog w D U c n r) (C : CfgOk c B) (hE : EnvOk cx env ad) (R : Rep B st ad s.heap) (hr : Room D U n A) {x y : Expr} {op : BoolOp} {pos : Pos} {Q : Value → Shared → Prop}
    (H : ((r.ev cx x st).bnd fun p => (truV p.1 p.2).bnd fun b => match op, b with
    | .And, false => .leaf p
    | .Or, true => .leaf p
    | _, _ => r.ev cx y p.2).sat B.ρ (KV B ad s Q)) : wpAny (model prog w) A (eval (.BoolOp op [x, y] pos) env) Q E s := by
  cases op with
  | And =>
    refine BoolOp_and (S.ev x C hE R hr (Res.sat_mono (Res.bnd_sat.mp H) fun p Hp => fun ad1 g1 tk1 x1 l1 R1 v1 => ?_))
    refine (truV_wp (s := { s with heap := g1, toks := tk1 }) R1 v1 (Res.sat_mono (Res.bnd_sat.mp Hp) fun b Hb => fun ad2 g2 tk2 l2 R2 => ?_)).go
    cases b with
    | true => exact BoolOp_one (S.ev (s := { s with heap := g2, toks := tk2 }) y C (hE.mono (l1.trans l2)) R2 hr (Res.sat_mono Hb fun u Hu => KV.at Hu (l1.trans l2)))
    | false => exact Hb ad2 g2 tk2 x1 (l1.trans l2) R2 (v1.mono l2)
  | Or =>
    refine BoolOp_or (S.ev x C hE R hr (Res.sat_mono (Res.bnd_sat.mp H) fun p Hp => fun ad1 g1 tk1 x1 l1 R1 v1 => ?_))
    refine (truV_wp (s := { s with heap := g1, toks := tk1 }) R1 v1 (Res.sat_mono (Res.bnd_sat.mp Hp) fun b Hb => fun ad2 g2 tk2 l2 R2 => ?_)).go
    cases b with
    | true => exact Hb ad2 g2 tk2 x1 (l1.trans l2) R2 (v1.mono l2)
    | false => exact BoolOp_one (S.ev (s := { s with heap := g2, toks := tk2 }) y C (hE.mono (l1.trans l2)) R2 hr (Res.sat_mono Hb fun u Hu => KV.at Hu (l1.trans l2)))

theorem evE_If (S : Snd prog w D U c n r) (C : CfgOk c B) (hE : EnvOk cx env ad) (R : Rep B st ad s.heap) (hr : Room D U n A) {t x y : Expr} {pos : Pos} {Q : Value → Shared → Prop}
    (H : ((r.tst cx t st).bnd fun p => match p.1 with
    | true => r.ev cx x p.2
    | false => r.ev cx y p.2).sat B.ρ (KV B ad s Q)) : wpAny (model prog w) A (eval (.IfExp t x y pos) env) Q E s := by
  refine wpAny_IfExp (S.tst t C hE R hr (Res.sat_mono (Res.bnd_sat.mp H) fun p Hp => fun ad1 g1 tk1 l1 R1 => ?_))
  obtain ⟨b, st1⟩ := p
  cases b with
  | true => exact S.ev (s := { s with heap := g1, toks := tk1 }) x C (hE.mono l1) R1 hr (Res.sat_mono Hp fun u Hu => KV.at Hu l1)
  | false => exact S.ev (s := { s with heap := g1, toks := tk1 }) y C (hE.mono l1) R1 hr (Res.sat_mono Hp fun u Hu => KV.at Hu l1)

theorem evCall_wp (S : Snd prog w D U c n r) (C : CfgOk c B) (hE : EnvOk cx env ad) (R : Rep B st ad s.heap) (hr : Room D U n A) {f : Expr} {as : List Expr} {ks : List Keyword} {pos : Pos} {Q : Value → Shared → Prop} (H : (evE c r cx (.Call f as ks pos) st).sat B.ρ (KV B ad s Q)) :
    wpAny (model prog w) A (eval (.Call f as ks pos) env) Q E s := by
  unfold evE at H; dsimp only at H
  split at H
  · rename_i hk
    rw [noneL_eq hk]
    cases f with
    | Attribute o name apos =>
      have H : (evMeth r cx o name apos as pos st).sat B.ρ (KV B ad s Q) := H
      unfold evMeth at H
      split at H
      · rename_i hc
        simp only [Bool.and_eq_true] at hc
        exact evE_Method S C hE R hr hc.1.1.1 (of_decide_eq_true hc.1.1.2) hc.1.2 hc.2 H
      · cases H
    | _ =>
      have H : (evFn r cx _ as st).sat B.ρ (KV B ad s Q) := H
      unfold evFn at H
      split at H
      · rename_i hc
        rw [Bool.and_eq_true] at hc
        exact evE_Call S C hE R hr hc.1 rfl H
      · cases H
  · cases H

theorem evE_wp (S : Snd prog w D U c n r) (C : CfgOk c B) (hE : EnvOk cx env ad) (R : Rep B st ad s.heap) (hr : Room D U n A) {e : Expr} {Q : Value → Shared → Prop} (H : (evE c r cx e st).sat B.ρ (KV B ad s Q)) :
    wpAny (model prog w) A (eval e env) Q E s := by
  cases e with
  | Constant k kd pos =>
    have H : (evK k st).sat B.ρ (KV B ad s Q) := H
    cases k with
    | int i => exact wpAny_Constant_int (KV.here H R ⟨_, rfl⟩ _)
    | float i => exact PySem.wpAny_Constant_float (KV.here H R ⟨_, rfl⟩ _)
    | str i => exact wpAny_Constant_str (KV.here H R ⟨_, rfl⟩ _)
    | none => exact wpAny_Constant_none (KV.same H R rfl)
    | bool i => exact wpAny_Constant_bool (KV.same H R rfl)
    | _ => exact False.elim H
  | Name x pos => exact eval_Name_wp C hE R H
  | BinOp l op y pos => exact evE_Bin S C hE R hr H
  | UnaryOp op x pos =>
    refine wpAny_UnaryOp (S.ev _ C hE R hr (Res.sat_mono (Res.bnd_sat.mp H) fun p Hp => fun ad1 g1 tk1 x1 l1 R1 v1 => ?_))
    exact (unV_wp (s := { s with heap := g1, toks := tk1 }) R1 v1 (Res.sat_mono Hp fun u Hu => KV.at Hu l1)).go
  | Compare l ops ys pos =>
    unfold evE at H; dsimp only at H
    split at H
    · rename_i op ho
      split at H
      · rename_i y hy
        rw [one_eq ho, one_eq hy]
        unfold evCmp at H
        split at H
        · cases H
        · rename_i hs
          exact evE_Cmp S C hE R hr (isSetE_of hs) H
      · cases H
    · cases H
  | BoolOp op xs pos =>
    unfold evE at H; dsimp only at H
    split at H
    · exact evE_Bool S C hE R hr H
    · cases H
  | IfExp t a b pos => exact evE_If S C hE R hr H
  | List es pos =>
    unfold evE at H; dsimp only at H
    split at H
    · rename_i hs
      refine List_ (evL_wp S C hr _ hs hE R (Res.sat_mono (Res.bnd_sat.mp H) fun p Hp => fun ad1 g1 tk1 vs l1 R1 hvs => ?_))
      split at Hp
      · rename_i hn
        have hn := of_decide_eq_true hn
        have K : KV B ad s Q _ := Hp
        refine wpAny_newList ?_ (by rw [← hvs.length, sizeLine_eq]; omega)
        exact KV.push (s := { s with heap := g1, toks := tk1 }) (KV.at K l1) rfl R1 rfl ⟨_, _, rfl, (hvs.mono (Le.app _ _))⟩
      · cases Hp
    · cases H
  | Tuple es k pos =>
    unfold evE at H; dsimp only at H
    split at H
    · rename_i hs
      refine Tuple_ (evL_wp S C hr _ hs hE R (Res.sat_mono (Res.bnd_sat.mp H) fun p Hp => fun ad1 g1 tk1 vs l1 R1 hvs => ?_))
      split at Hp
      · rename_i hn
        have hn := of_decide_eq_true hn
        have K : KV B ad s Q _ := Hp
        refine wpAny_newTuple ?_ (by rw [← hvs.length, sizeLine_eq]; omega)
        exact KV.push (s := { s with heap := g1, toks := tk1 }) (KV.at K l1) rfl R1 rfl ⟨_, _, rfl, (hvs.mono (Le.app _ _))⟩
      · cases Hp
    · cases H
  | ListComp elt gens scope pos =>
    unfold evE at H; dsimp only at H
    split at H
    · rename_i x iter ifs hg
      obtain ⟨px, rfl⟩ := genOf_eq hg
      rw [arm_eval_ListComp]
      refine compE_wp (use := none) (py := default) S C hE R hr (Res.bnd_sat.mp H) fun a st' ad' h tk acc l1 R1 ha Hp => ?_
      exact Hp ad' h tk _ l1 R1 ⟨acc, ha, rfl⟩
    · cases H
  | Subscript v i pos =>
    cases i with
    | Slice lo hi sp p1 => exact evE_Slice S C hE R hr H
    | _ => exact evE_Item S C hE R hr H
  | Call f as ks pos => exact evCall_wp S C hE R hr H
  | _ => exact False.elim H
end
end Mine

namespace Mine
section
variable {prog : Program} {w : World} {D U n : Nat} {r : Evs} {B : Bs} {c : Cfg} {cx : Cx} {env : Env} {ad : Ad} {st : St} {s : Shared} {A : Around} {E : Value → Shared → Prop}

theorem augV_wp (R : Rep B st ad s.heap) {op : Operator} {a b : V} {x y : Value} (ha : VR B.ρ ad a x) (hb : VR B.ρ ad b y) {Q : Value → Shared → Prop} (H : (augV op a b st).sat B.ρ (KV B ad s Q)) : Wp (model prog w) A (inplaceOp op x y) Q E s := by
  constructor
  unfold augV at H
  split at H
  · obtain ⟨t, rfl⟩ := ha
    obtain ⟨u, rfl⟩ := hb
    split at H
    · exact iadd_int (KV.here H R ⟨_, rfl⟩ _)
    · exact isub_int (KV.here H R ⟨_, rfl⟩ _)
    · split at H
      · rename_i hy hx
        have hy := of_decide_eq_true hy
        have := smallI_bits hx
        exact ilshift_int hy.1 (by omega) (KV.here H R ⟨_, rfl⟩ _)
      · cases H
    · split at H
      · rename_i hy
        exact irshift_int (of_decide_eq_true hy) (KV.here H R ⟨_, rfl⟩ _)
      · cases H
    · cases H
  · obtain ⟨⟨t, rfl⟩, ha⟩ := ha
    obtain ⟨⟨u, rfl⟩, hb⟩ := hb
    split at H
    · exact iadd_int (KV.here H R ⟨⟨_, rfl⟩, Int.add_le_add ha.1 hb.1, Int.add_le_add ha.2 hb.2⟩ _)
    · cases H
  · obtain ⟨⟨t, rfl⟩, ha⟩ := ha
    obtain ⟨u, rfl⟩ := hb
    split at H
    · exact iadd_int (KV.here H R ⟨⟨_, rfl⟩, Int.add_le_add ha.1 (Int.le_refl _), Int.add_le_add ha.2 (Int.le_refl _)⟩ _)
    · cases H
  · obtain ⟨t, rfl⟩ := ha
    obtain ⟨⟨u, rfl⟩, hb⟩ := hb
    split at H
    · exact iadd_int (KV.here H R ⟨⟨_, rfl⟩, Int.add_le_add (Int.le_refl _) hb.1, Int.add_le_add (Int.le_refl _) hb.2⟩ _)
    · cases H
  · cases H

theorem forV_wp (S : Snd prog w D U c n r) (C : CfgOk c B) (hE : EnvOk cx env ad) (R : Rep B st ad s.heap) (hr : Room D U n A) {x : Str} {px : Pos} {body : List Stmt} {p : Addr} {N : Nat} {it : It}
    {K : Flw × St → Prop} {Rr : Result → Shared → Prop} (L : Loose B ad s.heap p) (hi : ItOk ad s.heap p it) (H : (forV r cx x body N it st).sat B.ρ K)
    (hfin : ∀ q ad' h tk f, Le ad ad' → Rep B q.2 ad' h → FR B.ρ ad' q.1 f → K q → Rr (.ok f) { s with heap := h, toks := tk }) :
    codeAny (model prog w) A (.forLoop (.Name x px) (.ref p) body [] env) Rr s := by
  refine codeAny_forLoop (fun n s' => ∃ ad' st' it' h tk, s' = { s with heap := h, toks := tk } ∧ Le ad ad' ∧ Rep B st' ad' h ∧ Loose B ad' h p ∧ ItOk ad' h p it' ∧ (forV r cx x body n it' st').sat B.ρ K)
    (fun m s' hI => ?_) N ⟨ad, st, it, s.heap, s.toks, rfl, Le.refl _, R, L, hi, H⟩
  obtain ⟨ad', st', it', h, tk, rfl, l0, R', L', hi', H⟩ := hI
  cases m with
  | zero => cases H
  | succ m =>
    unfold forV at H
    refine (drawV_wp (s := { s with heap := h, toks := tk }) hr.handled R' L' hi' (Res.sat_mono (Res.bnd_sat.mp H) fun pq Hp => ?_)).go
    cases pq with
    | none => exact fun h1 R1 => wpAny_execs_nil (hfin (.next, st') ad' h1 tk .next l0 R1 rfl Hp)
    | some vi =>
      obtain ⟨v, it2⟩ := vi
      intro h1 tk1 xv R1 hv L1 hi1
      refine wpAny_assign_Name (storeN_wp (s := { s with heap := h1, toks := tk1 }) (hE.mono l0) R1.rebase hv (Res.sat_mono (Res.bnd_sat.mp Hp) fun st1 H1 => fun ad2 h2 tk2 l2 R2 => ?_))
      refine S.exs (s := { s with heap := h2, toks := tk2 }) body (C.base _ _) (hE.mono (l0.trans l2)) R2 hr (Res.sat_mono (Res.bnd_sat.mp H1) fun q Hq => fun ad3 h3 tk3 f l3 R3 hf => ?_)
      have l23 := l2.trans l3
      obtain ⟨R5, L5, hi5⟩ := R1.body L1 hi1 R3 l23
      obtain ⟨fl, st3⟩ := q
      cases fl with
      | next =>
        cases hf
        exact ⟨m, Nat.lt_succ_self _, ad3, st3, it2, h3, tk3, rfl, l0.trans l23, R5, L5, hi5, Hq⟩
      | ret v =>
        obtain ⟨rv, rfl, hrv⟩ := hf
        exact hfin (.ret v, st3) ad3 h3 tk3 (.ret rv) (l0.trans l23) R5 ⟨rv, rfl, hrv⟩ Hq

theorem whileV_wp (S : Snd prog w D U c n r) (C : CfgOk c B) (hE : EnvOk cx env ad) (R : Rep B st ad s.heap) (hr : Room D U n A) {test : Expr} {body : List Stmt} {N : Nat}
    {K : Flw × St → Prop} {Rr : Result → Shared → Prop} (H : (whileV r cx test body N st).sat B.ρ K)
    (hfin : ∀ q ad' h tk f, Le ad ad' → Rep B q.2 ad' h → FR B.ρ ad' q.1 f → K q → Rr (.ok f) { s with heap := h, toks := tk }) :
    codeAny (model prog w) A (.whileLoop test body [] env) Rr s := by
  refine codeAny_whileLoop (fun n s' => ∃ ad' st' h tk, s' = { s with heap := h, toks := tk } ∧ Le ad ad' ∧ Rep B st' ad' h ∧ (whileV r cx test body n st').sat B.ρ K)
    (fun m s' hI => ?_) N ⟨ad, st, s.heap, s.toks, rfl, Le.refl _, R, H⟩
  obtain ⟨ad', st', h, tk, rfl, l0, R', H⟩ := hI
  cases m with
  | zero => cases H
  | succ m =>
    unfold whileV at H
    refine S.tst (s := { s with heap := h, toks := tk }) test C (hE.mono l0) R' hr (Res.sat_mono (Res.bnd_sat.mp H) fun pq Hp => fun ad1 h1 tk1 l1 R1 => ?_)
    obtain ⟨b, st1⟩ := pq
    cases b with
    | false => exact wpAny_execs_nil (hfin (.next, st1) ad1 h1 tk1 .next (l0.trans l1) R1 rfl Hp)
    | true =>
      refine S.exs (s := { s with heap := h1, toks := tk1 }) body C (hE.mono (l0.trans l1)) R1 hr (Res.sat_mono (Res.bnd_sat.mp Hp) fun q Hq => fun ad3 h3 tk3 f l3 R3 hf => ?_)
      have l13 := l0.trans (l1.trans l3)
      obtain ⟨fl, st3⟩ := q
      cases fl with
      | next =>
        cases hf
        exact ⟨m, Nat.lt_succ_self _, ad3, st3, h3, tk3, rfl, l13, R3, Hq⟩
      | ret v =>
        obtain ⟨rv, rfl, hrv⟩ := hf
        exact hfin (.ret v, st3) ad3 h3 tk3 (.ret rv) l13 R3 ⟨rv, rfl, hrv⟩ Hq

theorem isComp_swap {v : Expr} {t : Option Expr} {l : Nat} (h : isComp v = false) : swapsWith v t l env = pure false := by
  cases v <;> first | rfl | (cases h)

theorem KF.next {Q : Flow → Shared → Prop} {st : St} (K : KF B ad s Q (.next, st)) : KU B ad s (Q .next) st := fun ad' h' tk l R => K ad' h' tk .next l R rfl

theorem asgAll_wp : ∀ {ts : List Expr} {ws : List V} {xs : List Value} {st : St} {ad : Ad} {s : Shared} {Q : Unit → Shared → Prop}, EnvOk cx env ad → ts.all isName = true → VRs B.ρ ad ws xs → Rep B st ad s.heap → (asgAll (asgName cx) ts ws st).sat B.ρ (KU B ad s (Q ())) →
    wpAny (model prog w) A (assignInOrder ((assignEach ts env).map (·.2)) xs) Q E s
  | [], [], _, st, ad, s, Q, hE, _, hv, R, H => by cases hv; exact wpAny_pure (H ad s.heap s.toks (Le.refl _) R)
  | [], _ :: _, _, _, _, _, _, _, _, hv, _, H => by cases H
  | _ :: _, [], _, _, _, _, _, _, _, hv, _, H => by cases H
  | t :: ts, v :: ws, xs, st, ad, s, Q, hE, hn, hv, R, H => by
    rw [List.all_cons, Bool.and_eq_true] at hn
    cases hv with
    | cons hx hr =>
    unfold asgAll at H
    cases t <;> first | (cases hn.1; done) | skip
    rename_i y py
    refine wpAny_bind (wpAny_holding (wpAny_assign_Name (storeN_wp hE R hx (Res.sat_mono (Res.bnd_sat.mp H) fun st1 H1 => fun ad1 g1 tk1 l1 R1 => ?_))))
    exact asgAll_wp (s := { s with heap := g1, toks := tk1 }) (hE.mono l1) hn.2 (hr.mono l1) R1 (Res.sat_mono H1 fun u Hu => KU.at Hu l1)

theorem assignEach_names : ∀ {ts : List Expr}, ts.all isName = true → (assignEach ts env).length = ts.length ∧ (assignEach ts env).findIdx? (·.1) = none
  | [], _ => ⟨rfl, rfl⟩
  | t :: ts, h => by
    rw [List.all_cons, Bool.and_eq_true] at h
    obtain ⟨h1, h2⟩ := assignEach_names (ts := ts) h.2
    cases t <;> first | (cases h.1; done) | skip
    rename_i y py
    have e : assignEach (.Name y py :: ts) env = (false, assign (.Name y py) env) :: assignEach ts env := rfl
    rw [e]
    refine ⟨by simp [h1], ?_⟩
    rw [List.findIdx?_cons]
    simp [h2]

theorem storeRev_wp : ∀ {ns : List Str} {ws : List V} {xs : List Value} {st : St} {ad : Ad} {s : Shared} {Q : Unit → Shared → Prop}, EnvOk cx env ad → VRs B.ρ ad ws xs → ns.length = ws.length → Rep B st ad s.heap → (storeAll cx (ns.zip ws) st).sat B.ρ (KU B ad s (Q ())) →
    wpAny (model prog w) A (assignInOrder (ns.map fun n => bindName env n) xs) Q E s
  | [], [], _, st, ad, s, Q, hE, hv, _, R, H => by cases hv; exact wpAny_pure (H ad s.heap s.toks (Le.refl _) R)
  | [], _ :: _, _, _, _, _, _, _, _, h, _, _ => by cases h
  | _ :: _, [], _, _, _, _, _, _, _, h, _, _ => by cases h
  | y :: ns, v :: ws, xs, st, ad, s, Q, hE, hv, hl, R, H => by
    cases hv with
    | cons hx hr =>
    rw [List.zip_cons_cons] at H
    unfold storeAll at H
    refine wpAny_bind (wpAny_holding (wpAny_bindName (storeN_wp hE R hx (Res.sat_mono (Res.bnd_sat.mp H) fun st1 H1 => fun ad1 g1 tk1 l1 R1 => ?_))))
    exact storeRev_wp (s := { s with heap := g1, toks := tk1 }) (hE.mono l1) (hr.mono l1) (by simpa using hl) R1 (Res.sat_mono H1 fun u Hu => KU.at Hu l1)

theorem swapNames_eq {ts vs : List Expr} {a k : Nat} {p q : Pos} {names : List Str} (hE : EnvOk cx env ad) (h : swapNames cx ts vs = some names) : swappedStores [.Tuple ts a p] (.Tuple vs k q) env = pure (some names) := by
  have hb : env.blockKind = .function := by unfold Env.blockKind; rw [hE.kind]; rfl
  have hk : ∀ x, env.kindOf x = cx.scope.names.lookup x := fun x => by unfold Env.kindOf; rw [hE.scope]
  unfold swapNames at h
  unfold swappedStores
  simp only [hb, hk, bne_self_eq_false, Bool.or_false]
  split at h
  · rename_i h1 h2 h3 h4 h5
    cases h
    have ne : ∀ {b : Bool}, b = false → ¬ b = true := fun h => by rw [h]; decide
    refine (if_neg (ne h1)).trans ?_
    refine (if_neg (ne h2)).trans ?_
    refine (if_neg (ne h3)).trans ?_
    refine (if_neg (ne h4)).trans ?_
    refine (if_neg (ne h5)).trans ?_
    rfl
  · cases h
end
end Mine

namespace Mine
section
variable {prog : Program} {w : World} {D U n : Nat} {r : Evs} {B : Bs} {c : Cfg} {cx : Cx} {env : Env} {ad : Ad} {st : St} {s : Shared} {A : Around} {E : Value → Shared → Prop}

theorem Rep.isNew {h : Heap} (R : Rep B st ad h) {x : Addr} (hx : h.get? x = none) : B.h₀.get? x = none := by
  cases e : B.h₀.get? x with
  | none => rfl
  | some o =>
    exfalso
    by_cases h1 : Has ad x
    · obtain ⟨ob, q⟩ := R.there h1; rw [hx] at q; cases q
    · by_cases h2 : x ∈ B.codes.map (·.P)
      · obtain ⟨k, hkm, rfl⟩ := List.mem_map.mp h2
        obtain ⟨_, _, ps, _, ⟨_, t⟩, _⟩ := R.tabs k hkm
        rw [hx] at t; cases t
      · rw [R.keep x o e h2 h1] at hx; cases hx

/-- a code table grows -/
theorem Rep.tab {h h' : Heap} (R : Rep B st ad h) (inj : ∀ k ∈ B.codes, ∀ k' ∈ B.codes, k.P = k'.P → k = k') {k : CodeAt} (hk : k ∈ B.codes) {ps' : Array Value} {c' : Addr} (hx : Heap.ExtBut k.P h h') (hnew : h'.get? k.P = some (tabObj ps'))
    (htr : TriplesOk ps'.toList) (hc' : codeAmong k.pos ps'.toList = some (.ref c')) (hfresh : h.get? c' = none) (hrec : h'.CodeRec (.ref c') k.qual) : Rep B st ad h' := by
  obtain ⟨n1, n2, ps, i, t, r⟩ := R.tabs k hk
  have hP := t.2
  have hpt : TriplesOk ps.toList := by
    obtain ⟨_, _, _, _, _, _, _, _, _, op, _, _, _, _, _, _, _, e2, d2, tr, _⟩ := i
    exact tr
  have recNe : ∀ b (ob : Obj) vs q t, h.get? b = some ob → ob.data = .fields vs → vs[1]? = some (.str q t) → h'.get? b = some ob := fun b ob vs q t e hd hv => hx b ob (fun z => by
    subst z
    rw [hP] at e; cases e; cases hd
    exact triples_no hpt (by rw [Array.getElem?_toList]; exact hv)) e
  have notP : ∀ a, Has ad a → a ≠ k.P := fun a ha z => n2 (z ▸ ha)
  refine ⟨R.len, fun j o e => ?_, R.inj, R.low, fun b o e hb hPs => hx b o (fun z => hPs (List.mem_map.mpr ⟨k, hk, z.symm⟩)) (R.top b o e hb hPs),
    fun b o e hPs hb => hx b o (fun z => hPs (List.mem_map.mpr ⟨k, hk, z.symm⟩)) (R.keep b o e hPs hb), R.fresh, R.n0, fun k2 hk2 => ?_⟩
  · have := R.obj j o e
    cases q : adr ad j with
    | some a =>
      rw [q] at this; obtain ⟨ob, q1, q2⟩ := this
      refine ⟨ob, hx a ob (notP a ⟨j, q⟩) q1, ?_⟩
      cases o with
      | fn ps b sc cl =>
        obtain ⟨fd, e, p1, p2, p3, p4, p5, p6, p7, ⟨c, co, vs, t, z1, z2, z3, z4, z5⟩, p9⟩ := q2
        exact ⟨fd, e, p1, p2, p3, p4, p5, p6, p7, ⟨c, co, vs, t, z1, z2, recNe c co vs _ t z3 z4 z5, z4, z5⟩, p9⟩
      | _ => exact q2
    | none => rw [q] at this; exact this
  · by_cases hkk : k2 = k
    · subst hkk
      obtain ⟨o, vs, file, tf, flags, tg, inF, text, tt, op, e1, r1, r2, r3, r4, r5, r6, e2, r7, r8, r9⟩ := i
      have hc := hx _ _ r9 e1
      refine ⟨n1, n2, ps', ⟨o, vs, file, tf, flags, tg, inF, text, tt, _, hc, r1, r2, r3, r4, r5, r6, hnew, rfl, htr, r9⟩, ?_, .inr ⟨c', hc', fun ha => ?_, ?_, .inl (R.isNew hfresh)⟩⟩
      · obtain ⟨⟨oc, vc, hoc, hcc⟩, _⟩ := t
        exact ⟨⟨oc, vc, hx _ _ r9 hoc, hcc⟩, hnew⟩
      · obtain ⟨ob, z⟩ := R.there ha; rw [hfresh] at z; cases z
      · obtain ⟨c2, co, vs, t, z1, z2, z3, z4⟩ := hrec
        cases z1
        exact ⟨co, vs, t, z2, z3, z4⟩
    · obtain ⟨m1, m2, ps2, i2, t2, r2⟩ := R.tabs k2 hk2
      have hPP : k2.P ≠ k.P := fun z => hkk (inj k2 hk2 k hk z)
      have hcP : k2.c ≠ k.P := fun z => by
        obtain ⟨⟨oc, vc, hoc, hcc, _⟩, _⟩ := t2
        rw [z, hP] at hoc; cases hoc; cases hcc
      refine ⟨m1, m2, ps2, ?_, ?_, r2.imp id fun ⟨c2, q1, q2, ⟨co, vs, tt, q3, q4, q5⟩, q6⟩ => ⟨c2, q1, q2, ⟨co, vs, tt, recNe c2 co vs _ tt q3 q4 q5, q4, q5⟩, q6⟩⟩
      · obtain ⟨o, vs, file, tf, flags, tg, inF, text, tt, op, e1, r1, r2, r3, r4, r5, r6, e2, r7⟩ := i2
        exact ⟨o, vs, file, tf, flags, tg, inF, text, tt, op, hx _ _ hcP e1, r1, r2, r3, r4, r5, r6, hx _ _ hPP e2, r7⟩
      · obtain ⟨⟨oc, vc, hoc, hcc⟩, htP⟩ := t2
        exact ⟨⟨oc, vc, hx _ _ hcP hoc, hcc⟩, hx _ _ hPP htP⟩

theorem plainB_of {args : Arguments} (h : plainB args = true) : plainArgs (args.args.map (·.arg)) args ∧ annTrees args none env = [] := by
  unfold plainB at h
  simp only [Bool.and_eq_true, List.isEmpty_iff, Option.isNone_iff_eq_none] at h
  obtain ⟨⟨⟨⟨⟨⟨h1, h2⟩, h3⟩, h4⟩, h5⟩, h6⟩, h7⟩ := h
  obtain ⟨p1, p2, p3, p4, p5, p6, p7⟩ := args
  simp only at h1 h2 h3 h4 h5 h6 h7
  subst h1 h2 h3 h4 h5 h6
  refine ⟨⟨rfl, rfl, rfl, rfl, rfl, rfl, rfl⟩, ?_⟩
  have : ∀ l : List Arg, l.all (·.annotation.isNone) = true → annotationsOf l env = [] := fun l => by
    induction l with
    | nil => intro _; rfl
    | cons a r ih =>
      intro h
      rw [List.all_cons, Bool.and_eq_true] at h
      obtain ⟨nm, an, ap⟩ := a
      have h1 : an = none := by simpa using h.1
      subst h1
      exact ih h.2
  unfold annTrees
  simp only [List.append_nil, Option.toList_none]
  rw [this _ h7]
  rfl

theorem makeFn_wp (C : CfgOk c B) (hE : EnvOk cx env ad) (R : Rep B st ad s.heap) {name : Str} {args : Arguments} {body : List Stmt} {scope : Scope} {pos : Pos} {firstLine : Nat} {cl : List (Str × Nat)} {a : Addr} {k : CodeAt}
    (h1 : closA cx.cells scope.names [] = some cl) (h2 : cx.code = .ref a) (h3 : plainB args = true) (hk : k ∈ B.codes) (hka : k.c = a) (hkp : k.pos = pos) {qual : Str} (hkq : k.qual = qual) {Q : Value → Shared → Prop}
    (K : KV B ad s Q (.ref st.length, st ++ [.fn (args.args.map (·.arg)) body scope cl])) : wpAny (model prog w) A (makeFunction name qual args (.stmts body) scope env [] [] [] pos firstLine) Q E s := by
  subst hka hkp hkq
  obtain ⟨ecl, hcl, hC⟩ := closureFor_of (env := env) hE.cells h1
  have hcode : env.code = .ref k.c := by
    rcases hE.code with e | ⟨e, _⟩
    · rw [h2] at e; cases e
    · rw [e, h2]
  obtain ⟨hp, _⟩ := plainB_of (env := env) h3
  obtain ⟨n1, n2, ps, i, t, r⟩ := R.tabs k hk
  have htr : TriplesOk ps.toList := by
    obtain ⟨_, _, _, _, _, _, _, _, _, op, _, _, _, _, _, _, _, e2, d2, tr, _⟩ := i
    exact tr
  obtain ⟨mg, g1, g2, g3, g4, o, g5, g6, g7, g8⟩ := C.builtins
  have hg := R.nsT g1 C.tops.1.1 C.tops.1.2
  have h4 := R.top 4 o g5 g3 g4
  have nP : ∀ x, x ∉ B.codes.map (·.P) → x ≠ k.P := fun x hx z => hx (List.mem_map.mpr ⟨k, hk, z.symm⟩)
  have hb : s.heap.BuiltinsAt mg k.P := ⟨4, o, g2, by decide, by decide, nP 4 g4, h4, g6, g7, g8⟩
  rcases r with rfl | ⟨c', q1, q2, ⟨co, vs, tt, q3, q4, q5⟩, q6⟩
  · refine makeFunction_K hcl hE.glob hg hcode (CodeHd.of i t) t.2 htr rfl (nP _ C.tops.1.2) hb fun c' ctv doc h' tk hx hge hlt hrec htb => ?_
    have hfresh : s.heap.get? c' = none := by
      cases e : s.heap.get? c' with
      | none => rfl
      | some ob => exact absurd (Heap.lt_size e) (Nat.not_lt.mpr hge)
    have htr' : TriplesOk (#[] ++ #[rawInt k.pos.line, rawInt k.pos.col, Value.ref c'] : Array Value).toList := TriplesOk_snoc _ _ _ [] trivial
    have hca : codeAmong k.pos (#[] ++ #[rawInt k.pos.line, rawInt k.pos.col, Value.ref c'] : Array Value).toList = some (.ref c') := codeAmong_snoc (pos := k.pos) [] trivial rfl
    have R1 := R.tab C.inj hk hx htb htr' hca hfresh hrec
    have hcl0 : ¬ Has ad c' := fun ha => by obtain ⟨ob, z⟩ := R.there ha; rw [hfresh] at z; cases z
    obtain ⟨c2, co, vs, t2, z1, z2, z3, z4⟩ := hrec
    cases z1
    have hne : c' ≠ h'.objs.size := Nat.ne_of_lt hlt
    refine KV.push (s := { s with heap := h' }) (KV.at K (Le.refl _)) rfl R1 rfl ?_
    have hRl : st.length = ad.length := R.len
    refine ⟨_, rfl, hp, rfl, rfl, rfl, rfl, rfl, rfl, ⟨c', co, vs, t2, rfl, fun ⟨j, e⟩ => ?_, Heap.get?_push_of_some _ z2, z3, z4⟩, hC.mono (Le.app _ _)⟩
    rw [adr_app] at e
    split at e
    · cases e; exact hne rfl
    · exact hcl0 ⟨j, e⟩
  · refine makeFunction_hit hcl hE.glob hg hcode (CodeHd.of i t) t.2 htr q1 hb fun ctv doc h' tk hx hsz => ?_
    have R1 : Rep B st ad h' := R.ext hx
    have hlt : c' < h'.objs.size := Heap.lt_size (hx _ _ q3)
    refine KV.push (s := { s with heap := h' }) (KV.at K (Le.refl _)) rfl R1 rfl ?_
    refine ⟨_, rfl, hp, rfl, rfl, rfl, rfl, rfl, rfl, ⟨c', co, vs, tt, rfl, fun ⟨j, e⟩ => ?_, Heap.get?_push_of_some _ (hx _ _ q3), q4, q5⟩, hC.mono (Le.app _ _)⟩
    rw [adr_app] at e
    split at e
    · cases e; exact absurd hlt (Nat.lt_irrefl _)
    · exact q2 ⟨j, e⟩

theorem execAssign_eq (targets : List Expr) (value : Expr) (pos : Pos) : exec (.Assign targets value pos) env = (do
    standAt pos
    if ← swapsWithSole targets value pos.line env then do
      evalThenUse value env fun v => assignAll v ((assignEach targets env).map (·.2))
      pure .next
    else do
      let v ← eval value env
      assignStores env v (← swappedStores targets value env) ((assignEach targets env).map (·.2))) := rfl

theorem exS_Swap (S : Snd prog w D U c n r) (C : CfgOk c B) (hE : EnvOk cx env ad) (R : Rep B st ad s.heap) (hr : Room D U n A) {y x : Str} {py px p0 pos : Pos} {elt iter : Expr} {ifs : List Expr} {scope : Scope} {Q : Flow → Shared → Prop}
    (h : swapComp cx y py scope pos = true) (H : ((compE c r cx elt x iter ifs scope (some y) st).bnd fun p => .leaf (Flw.next, p.2)).sat B.ρ (KF B ad s Q)) :
    wpAny (model prog w) A (exec (.Assign [.Name y py] (.ListComp elt [⟨.Name x px, iter, ifs, 0⟩] scope pos) p0) env) Q E s := by
  have hb : env.blockKind = .function := by unfold Env.blockKind; rw [hE.kind]; rfl
  have hk : env.kindOf y = cx.scope.names.lookup y := by unfold Env.kindOf; rw [hE.scope]
  have hs : swapsWith (.ListComp elt [⟨.Name x px, iter, ifs, 0⟩] scope pos) (some (.Name y py)) p0.line env = pure true := by
    show (pure _ : Sem Bool) = _
    rw [hb, hk]
    unfold swapComp at h
    exact congrArg pure h
  rw [exec_Assign_Name_used _ _ _ _ hs]
  refine wpAny_bind (wpAny_standAt (wpAny_bind ?_))
  show wpAny _ _ (comprehension _ scope env (firstIterPos [⟨.Name x px, iter, ifs, 0⟩] pos) (newList []) false (eval iter env) (some (assign (.Name y py) env)) >>= fun _ => pure PUnit.unit) _ _ _
  refine wpAny_bind (compE_wp (use := some y) (py := py) S C hE R hr (Res.bnd_sat.mp H) fun a st' ad' h tk acc l1 R1 ha Hp => ?_)
  exact wpAny_pure (wpAny_pure (Hp ad' h tk .next l1 R1 rfl))

theorem exS_For (S : Snd prog w D U c n r) (C : CfgOk c B) (hE : EnvOk cx env ad) (R : Rep B st ad s.heap) (hr : Room D U n A) {x : Str} {px pos : Pos} {iter : Expr} {body : List Stmt} {Q : Flow → Shared → Prop} (h : okIter iter = true)
    (H : ((r.ev cx iter st).bnd fun p => (iterV p.1 p.2).bnd fun it => forV r cx x body 64 it p.2).sat B.ρ (KF B ad s Q)) : wpAny (model prog w) A (exec (.For (.Name x px) iter body [] pos) env) Q E s := by
  refine wpAny_For (S.ev iter C hE R hr (Res.sat_mono (Res.bnd_sat.mp H) fun p Hp => fun ad1 g1 tk1 iv l1 R1 hv => ?_)) (okIter_fold h)
  refine (iterV_wp (s := { s with heap := g1, toks := tk1 }) R1 hv (Res.sat_mono (Res.bnd_sat.mp Hp) fun it Hit => fun g2 pI R2 L2 hi2 => ?_)).go
  exact forV_wp (s := { s with heap := g2, toks := tk1 }) S C (hE.mono l1) R2 hr L2 hi2 Hit fun q ad' h tk f l R3 hf K => K ad' h tk f (l1.trans l) R3 hf

theorem exS_ForRev (S : Snd prog w D U c n r) (C : CfgOk c B) (hE : EnvOk cx env ad) (R : Rep B st ad s.heap) (hr : Room D U n A) {x f : Str} {px pf pc pos : Pos} {e : Expr} {body : List Stmt} {Q : Flow → Shared → Prop} (hs : noStar [e] = true)
    (H : ((loadN c cx f st).bnd fun p => match p.1 with
    | .val (.type t) => match t == "reversed" with
      | true => (r.ev cx e p.2).bnd fun q => match q.1 with
        | .ref k => match lstOf q.2[k]? with
          | some vs => match decide (vs.length ≤ 1000) with
            | true => forV r cx x body 64 (.rev k ((vs.length : Int) - 1)) q.2
            | false => .fail
          | none => .fail
        | _ => .fail
      | false => (r.ev cx e p.2).bnd fun q => (builtinV cx.ns (.type t) [q.1] q.2).bnd fun w => (iterV w.1 w.2).bnd fun it => forV r cx x body 64 it w.2
    | _ => .fail).sat B.ρ (KF B ad s Q)) : wpAny (model prog w) A (exec (.For (.Name x px) (.Call (.Name f pf) [e] [] pc) body [] pos) env) Q E s := by
  refine wpAny_For (Call_ (eval_Name_wp C hE R (Res.sat_mono (Res.bnd_sat.mp H) fun p Hp => fun ad1 g1 tk1 fv l1 R1 hv => ?_)) rfl) (fun _ => rfl)
  obtain ⟨fV, st1⟩ := p
  dsimp only at Hp
  cases fV with
  | val fx =>
    cases fx with
    | type t =>
      obtain rfl := hv
      dsimp only at Hp
      refine PyProof.Rows.callWith_type (noStar_plain hs) (evalArgs_any hs (args_cons ?_ (noStar_cons hs).2))
      have Sev : ∀ {Q' : Value → Shared → Prop}, _ → wpAny (model prog w) A (eval e env) Q' E { s with heap := g1, toks := tk1 } := fun {Q'} h => S.ev (s := { s with heap := g1, toks := tk1 }) (Q := Q') e C (hE.mono l1) R1 hr h
      split at Hp
      · rename_i ht
        rw [eq_of_beq ht]
        refine Sev (Res.sat_mono (Res.bnd_sat.mp Hp) fun q Hq => fun ad2 g2 tk2 lv l2 R2 hl => args_nil ?_)
        split at Hq
        · rename_i k hk
          obtain ⟨lA, hlA, rfl⟩ : ∃ a, adr ad2 k = some a ∧ lv = .ref a := by rw [hk] at hl; exact hl
          split at Hq
          · rename_i vs hvs
            split at Hq
            · rename_i hn
              obtain ⟨xs, q1, q2⟩ := Rep.lst (s := { s with heap := g2, toks := tk2 }) R2 hlA hvs
              have hsz := VRs.size q2
              refine call_reversed_list (s := { s with heap := g2, toks := tk2 }) q1 ?_
              have hi : ItOk ad2 (g2.push (revObj lA ((xs.size : Int) - 1))) g2.objs.size (.rev k ((vs.length : Int) - 1)) := ⟨lA, hlA, _, Heap.get?_push_size _ rfl, rfl, by rw [← hsz]; rfl⟩
              obtain ⟨R3, L3⟩ := Rep.looseNew (s := { s with heap := g2, toks := tk2 }) R2 get_size (fun b o e => Heap.get?_push_of_some _ e) hi
              refine iterIter_wp (s := { s with heap := g2.push (revObj lA ((xs.size : Int) - 1)), toks := tk2 }) hi ?_
              exact forV_wp (s := { s with heap := g2.push (revObj lA ((xs.size : Int) - 1)), toks := tk2 }) S C (hE.mono (l1.trans l2)) R3 hr L3 hi Hq fun q ad' h tk f l R4 hf K => K ad' h tk f (l1.trans (l2.trans l)) R4 hf
            · cases Hq
          · cases Hq
        · cases Hq
      · refine Sev (Res.sat_mono (Res.bnd_sat.mp Hp) fun q Hq => fun ad2 g2 tk2 lv l2 R2 hl => args_nil ?_)
        refine (builtinV_wp (s := { s with heap := g2, toks := tk2 }) hr.handled R2 (.cons hl .nil) (Res.sat_mono (Res.bnd_sat.mp Hq) fun u Hu => fun ad3 g3 tk3 v3 l3 R3 hv3 => ?_)).go
        refine (iterV_wp (s := { s with heap := g3, toks := tk3 }) R3 hv3 (Res.sat_mono (Res.bnd_sat.mp Hu) fun it Hit => fun g4 pI R4 L4 hi4 => ?_)).go
        exact forV_wp (s := { s with heap := g4, toks := tk3 }) S C (hE.mono (l1.trans (l2.trans l3))) R4 hr L4 hi4 Hit fun q ad' h tk f l R5 hf K => K ad' h tk f ((l1.trans (l2.trans l3)).trans l) R5 hf
    | _ => cases Hp
  | _ => cases Hp
end
end Mine

namespace Mine
section
variable {prog : Program} {w : World} {D U n : Nat} {r : Evs} {B : Bs} {c : Cfg} {cx : Cx} {env : Env} {ad : Ad} {st : St} {s : Shared} {A : Around} {E : Value → Shared → Prop}

theorem find_of {l : List CodeAt} {p : CodeAt → Bool} {k : CodeAt} (h : l.find? p = some k) : k ∈ l ∧ p k = true := ⟨List.mem_of_find?_eq_some h, List.find?_some h⟩

theorem exS_Def (S : Snd prog w D U c n r) (C : CfgOk c B) (hE : EnvOk cx env ad) (R : Rep B st ad s.heap) {name : Str} {args : Arguments} {body : List Stmt} {scope : Scope} {pos : Pos} {cl : List (Str × Nat)} {a : Addr} {k : CodeAt} {Q : Flow → Shared → Prop}
    (h1 : closA cx.cells scope.names [] = some cl) (h2 : cx.code = .ref a) (h3 : plainB args = true) (h4 : (cx.scope.names.lookup name != some .globalExplicit) = true) (h5 : (c.codes.find? fun k => k.c == a && k.pos == pos && k.qual == cx.qual ++ name) = some k)
    (H : ((newO (.fn (args.args.map (·.arg)) body scope cl) st).bnd fun p => (storeN cx name p.1 p.2).bnd fun st1 => .leaf (Flw.next, st1)).sat B.ρ (KF B ad s Q)) :
    wpAny (model prog w) A (exec (.FunctionDef name args body [] none [] scope none name pos) env) Q E s := by
  obtain ⟨hm, hp⟩ := find_of h5
  simp only [Bool.and_eq_true, beq_iff_eq] at hp
  obtain ⟨⟨e1, e2⟩, e3⟩ := hp
  obtain ⟨pp, ann⟩ := plainB_of (env := env) h3
  have hq : qualnameIn env name name = k.qual := by
    unfold qualnameIn Env.kindOf
    rw [hE.scope, if_neg (by simpa using h4), e3]
    rcases hE.code with e | ⟨_, e⟩
    · rw [h2] at e; cases e
    · rw [e]
  refine nestDef_K pp.2.2.2.2.2.2 pp.2.2.2.2.2.1 ann ?_
  refine makeFn_wp C hE R h1 h2 h3 (C.codes ▸ hm) e1 e2 hq.symm ?_
  have H1 : ((storeN cx name (.ref st.length) (st ++ [.fn (args.args.map (·.arg)) body scope cl])).bnd fun st1 => .leaf (Flw.next, st1)).sat B.ρ (KF B ad s Q) := H
  refine fun ad' h' tk v l1 R1 hv => ?_
  exact storeN_wp (s := { s with heap := h', toks := tk }) (hE.mono l1) R1 hv (Res.sat_mono (Res.bnd_sat.mp H1) fun u Hu => KU.at (KF.next Hu) l1)

theorem exS_TupCall (S : Snd prog w D U c n r) (C : CfgOk c B) (hE : EnvOk cx env ad) (R : Rep B st ad s.heap) (hr : Room D U n A) {ts : List Expr} {a : Nat} {p q pos : Pos} {f : Expr} {as : List Expr} {Q : Flow → Shared → Prop}
    (H : (exTupCall r cx ts (.Call f as [] q) st).sat B.ρ (KF B ad s Q)) : wpAny (model prog w) A (exec (.Assign [.Tuple ts a p] (.Call f as [] q) pos) env) Q E s := by
  refine Assign_Tuple (S.ev _ C hE R hr (Res.sat_mono (Res.bnd_sat.mp H) fun p Hp => fun ad1 g1 tk1 v l1 R1 hv => ?_)) rfl rfl
  obtain ⟨V1, st1⟩ := p
  dsimp only at Hp
  cases V1 with
  | ref i =>
    obtain ⟨t, ht, rfl⟩ := hv
    dsimp only at Hp
    split at Hp
    · rename_i ws hst
      split at Hp
      · rename_i hc
        rw [Bool.and_eq_true] at hc
        have hn := hc.2
        have hl := of_decide_eq_true hc.1
        obtain ⟨ob, q1, xs, m, rfl, hxs⟩ := R1.of hst ht
        have hsz := VRs.size hxs
        obtain ⟨a1, a2⟩ := assignEach_names (env := env) hn
        rw [arm_assign_Tuple]
        refine wpAny_bind (wpAny_standAt ?_)
        refine wpAny_unpack_tuple (s := { s with heap := g1, toks := tk1 }) hr.handled ⟨_, q1, rfl, m, rfl⟩ (by rw [a1, hsz, hl]) a2 fun h' hx => ?_
        have R2 : Rep B st1 ad1 h' := R1.ext fun b o e => hx b o (Nat.ne_of_lt (Heap.lt_size e)) e
        exact asgAll_wp (s := { s with heap := h', toks := tk1 }) (hE.mono l1) hn hxs R2 (Res.sat_mono (Res.bnd_sat.mp Hp) fun u Hu => KU.at (KF.next Hu) l1)
      · cases Hp
    · cases Hp
  | _ => cases Hp

theorem exS_TupTup (S : Snd prog w D U c n r) (C : CfgOk c B) (hE : EnvOk cx env ad) (R : Rep B st ad s.heap) (hr : Room D U n A) {ts vs : List Expr} {a k : Nat} {p q pos : Pos} {Q : Flow → Shared → Prop}
    (H : (exTupTup r cx ts vs (.Tuple vs k q) st).sat B.ρ (KF B ad s Q)) : wpAny (model prog w) A (exec (.Assign [.Tuple ts a p] (.Tuple vs k q) pos) env) Q E s := by
  unfold exTupTup at H
  split at H
  case h_2 => cases H
  rename_i names hn
  rw [execAssign_eq]
  refine wpAny_bind (wpAny_standAt (wpAny_bind ?_))
  show wpAny _ _ (pure false) _ _ _
  refine wpAny_pure ?_
  show wpAny _ _ (eval (.Tuple vs k q) env >>= _) _ _ _
  refine wpAny_bind (S.ev _ C hE R hr (Res.sat_mono (Res.bnd_sat.mp H) fun p Hp => fun ad1 g1 tk1 v l1 R1 hv => ?_))
  refine wpAny_bind (wpAny_of_eq (swapNames_eq hE hn) ?_)
  obtain ⟨V1, st1⟩ := p
  dsimp only at Hp
  cases V1 with
  | ref i =>
    obtain ⟨t, ht, rfl⟩ := hv
    dsimp only at Hp
    split at Hp
    · rename_i ws hst
      split at Hp
      · rename_i hl
        have hl := of_decide_eq_true hl
        obtain ⟨ob, q1, xs, m, rfl, hxs⟩ := R1.of hst ht
        have hsz := VRs.size hxs
        show wpAny _ _ (rule "assign.swapped-stores" >>= _) _ _ _
        refine wpAny_bind (wpAny_rule ?_)
        have e : names.length = xs.size := by rw [hsz, hl]
        rw [e]
        refine wpAny_bind (wpAny_unpackItems_tuple (s := { s with heap := g1, toks := tk1 }) hr.handled ⟨_, q1, rfl, m, rfl⟩ fun h' hx => ?_)
        have R2 : Rep B st1 ad1 h' := R1.ext fun b o e => hx b o (Nat.ne_of_lt (Heap.lt_size e)) e
        refine wpAny_bind (storeRev_wp (s := { s with heap := h', toks := tk1 }) (hE.mono l1) hxs.reverse (by simp [hl]) R2 (Res.sat_mono (Res.bnd_sat.mp Hp) fun u Hu => fun ad2 h2 tk2 l2 R3 => ?_))
        exact wpAny_pure (Hu ad2 h2 tk2 .next (l1.trans l2) R3 rfl)
      · cases Hp
    · cases Hp
  | _ => cases Hp

theorem exS_AugSub (S : Snd prog w D U c n r) (C : CfgOk c B) (hE : EnvOk cx env ad) (R : Rep B st ad s.heap) (hr : Room D U n A) {o i v : Expr} {op : Operator} {p pos : Pos} {Q : Flow → Shared → Prop} (hi : notSlice i = true)
    (H : ((r.ev cx o st).bnd fun p => (r.ev cx i p.2).bnd fun q => (itemV p.1 q.1 q.2).bnd fun w => (r.ev cx v w.2).bnd fun z => (augV op w.1 z.1 z.2).bnd fun y => (setItemV p.1 q.1 y.1 y.2).bnd fun st1 => .leaf (Flw.next, st1)).sat B.ρ (KF B ad s Q)) :
    wpAny (model prog w) A (exec (.AugAssign (.Subscript o i p) op v pos) env) Q E s := by
  refine wpAny_AugAssign_Subscript_any (S.ev o C hE R hr (Res.sat_mono (Res.bnd_sat.mp H) fun p1 H1 => fun ad1 g1 tk1 x1 l1 R1 v1 => ?_)) ?_
  · refine S.ev (s := { s with heap := g1, toks := tk1 }) i C (hE.mono l1) R1 hr (Res.sat_mono (Res.bnd_sat.mp H1) fun p2 H2 => fun ad2 g2 tk2 x2 l2 R2 v2 => ?_)
    refine ((itemV_wp (value := o) (slice := i) (s := { s with heap := g2, toks := tk2 }) R2 (v1.mono l2) v2 (Res.sat_mono (Res.bnd_sat.mp H2) fun p3 H3 => fun ad3 g3 tk3 x3 l3 R3 v3 => ?_)).1).go
    refine S.ev (s := { s with heap := g3, toks := tk3 }) v C (hE.mono (l1.trans (l2.trans l3))) R3 hr (Res.sat_mono (Res.bnd_sat.mp H3) fun p4 H4 => fun ad4 g4 tk4 x4 l4 R4 v4 => ?_)
    refine (augV_wp (s := { s with heap := g4, toks := tk4 }) R4 (v3.mono l4) v4 (Res.sat_mono (Res.bnd_sat.mp H4) fun p5 H5 => fun ad5 g5 tk5 x5 l5 R5 v5 => ?_)).go
    have l25 := l2.trans (l3.trans (l4.trans l5))
    exact (setItemV_wp (s := { s with heap := g5, toks := tk5 }) R5 (v1.mono l25) (v2.mono (l3.trans (l4.trans l5))) v5 (Res.sat_mono (Res.bnd_sat.mp H5) fun u Hu => KU.at (KF.next Hu) (l1.trans l25))).go
  · intro ov iv new
    cases i <;> first | rfl | (cases hi)

theorem exAsg1_wp (S : Snd prog w D U c n r) (C : CfgOk c B) (hE : EnvOk cx env ad) (R : Rep B st ad s.heap) (hr : Room D U n A) {t v : Expr} {pos : Pos} {Q : Flow → Shared → Prop} (H : (exAsg1 c r cx t v st).sat B.ρ (KF B ad s Q)) :
    wpAny (model prog w) A (exec (.Assign [t] v pos) env) Q E s := by
  cases t with
  | Name y py =>
    unfold exAsg1 at H; dsimp only at H
    split at H
    · rename_i hc
      refine wpAny_Assign_Name (S.ev _ C hE R hr (Res.sat_mono (Res.bnd_sat.mp H) fun p Hp => fun ad1 g1 tk1 v l1 R1 hv => ?_)) (isComp_swap hc)
      exact storeN_wp (s := { s with heap := g1, toks := tk1 }) (hE.mono l1) R1 hv (Res.sat_mono (Res.bnd_sat.mp Hp) fun u Hu => KU.at (KF.next Hu) l1)
    · cases v with
      | ListComp elt gens scope p =>
        unfold exNameC at H; dsimp only at H
        split at H
        · rename_i x iter ifs hg
          obtain ⟨px, rfl⟩ := genOf_eq hg
          split at H
          · exact exS_Swap S C hE R hr (by assumption) H
          · cases H
        · cases H
      | _ => exact False.elim H
  | Tuple ts k p =>
    cases v with
    | Tuple vs k2 p2 => exact exS_TupTup S C hE R hr H
    | Call f as ks p2 =>
      cases ks with
      | nil => exact exS_TupCall S C hE R hr H
      | cons _ _ => exact False.elim H
    | _ => exact False.elim H
  | Subscript o i p =>
    unfold exAsg1 at H; dsimp only at H
    split at H
    · rename_i hc
      refine wpAny_Assign_Subscript (S.ev _ C hE R hr (Res.sat_mono (Res.bnd_sat.mp H) fun p Hp => fun ad1 g1 tk1 x1 l1 R1 v1 => ?_)) (isComp_swap hc)
      refine S.ev (s := { s with heap := g1, toks := tk1 }) _ C (hE.mono l1) R1 hr (Res.sat_mono (Res.bnd_sat.mp Hp) fun q Hq => fun ad2 g2 tk2 x2 l2 R2 v2 => ?_)
      refine S.ev (s := { s with heap := g2, toks := tk2 }) _ C (hE.mono (l1.trans l2)) R2 hr (Res.sat_mono (Res.bnd_sat.mp Hq) fun q3 Hq3 => fun ad3 g3 tk3 x3 l3 R3 v3 => ?_)
      exact (setItemV_wp (s := { s with heap := g3, toks := tk3 }) R3 (v2.mono l3) v3 (v1.mono (l2.trans l3)) (Res.sat_mono (Res.bnd_sat.mp Hq3) fun u Hu => KU.at (KF.next Hu) (l1.trans (l2.trans l3)))).go
    · cases H
  | _ => exact False.elim H

theorem exAsg2_wp (S : Snd prog w D U c n r) (C : CfgOk c B) (hE : EnvOk cx env ad) (R : Rep B st ad s.heap) (hr : Room D U n A) {t u v : Expr} {pos : Pos} {Q : Flow → Shared → Prop} (H : (exAsg2 r cx t u v st).sat B.ρ (KF B ad s Q)) :
    wpAny (model prog w) A (exec (.Assign [t, u] v pos) env) Q E s := by
  unfold exAsg2 at H
  split at H
  · rename_i y hy
    obtain ⟨py, rfl⟩ := nameOf_eq hy
    split at H
    · rename_i z hz
      obtain ⟨pz, rfl⟩ := nameOf_eq hz
      split at H
      · rename_i hc
        refine wpAny_Assign_two (S.ev _ C hE R hr (Res.sat_mono (Res.bnd_sat.mp H) fun p Hp => fun ad1 g1 tk1 v l1 R1 hv => ?_)) rfl rfl
        refine wpAny_assign_Name (storeN_wp (s := { s with heap := g1, toks := tk1 }) (hE.mono l1) R1 hv (Res.sat_mono (Res.bnd_sat.mp Hp) fun q Hq => fun ad2 g2 tk2 l2 R2 => ?_))
        exact wpAny_assign_Name (storeN_wp (s := { s with heap := g2, toks := tk2 }) (hE.mono (l1.trans l2)) R2 (hv.mono l2) (Res.sat_mono (Res.bnd_sat.mp Hq) fun u Hu => KU.at (KF.next Hu) (l1.trans l2)))
      · cases H
    · cases H
  · cases H

theorem exAug_wp (S : Snd prog w D U c n r) (C : CfgOk c B) (hE : EnvOk cx env ad) (R : Rep B st ad s.heap) (hr : Room D U n A) {t v : Expr} {op : Operator} {pos : Pos} {Q : Flow → Shared → Prop} (H : (exAug c r cx t op v st).sat B.ρ (KF B ad s Q)) :
    wpAny (model prog w) A (exec (.AugAssign t op v pos) env) Q E s := by
  cases t with
  | Name x p =>
    refine wpAny_AugAssign_Name (loadN_wp C hE R (Res.sat_mono (Res.bnd_sat.mp H) fun p Hp => fun ad1 g1 tk1 x1 l1 R1 v1 => ?_)).2
    refine S.ev (s := { s with heap := g1, toks := tk1 }) _ C (hE.mono l1) R1 hr (Res.sat_mono (Res.bnd_sat.mp Hp) fun q Hq => fun ad2 g2 tk2 x2 l2 R2 v2 => ?_)
    refine (augV_wp (s := { s with heap := g2, toks := tk2 }) R2 (v1.mono l2) v2 (Res.sat_mono (Res.bnd_sat.mp Hq) fun q3 Hq3 => fun ad3 g3 tk3 x3 l3 R3 v3 => ?_)).go
    exact storeN_wp (s := { s with heap := g3, toks := tk3 }) (hE.mono (l1.trans (l2.trans l3))) R3 v3 (Res.sat_mono (Res.bnd_sat.mp Hq3) fun u Hu => KU.at (KF.next Hu) (l1.trans (l2.trans l3)))
  | Subscript o i p =>
    unfold exAug at H; dsimp only at H
    split at H
    · cases H
    · exact exS_AugSub S C hE R hr (by assumption) H
  | _ => exact False.elim H

theorem exFor_wp (S : Snd prog w D U c n r) (C : CfgOk c B) (hE : EnvOk cx env ad) (R : Rep B st ad s.heap) (hr : Room D U n A) {t iter : Expr} {b e : List Stmt} {pos : Pos} {Q : Flow → Shared → Prop} (H : (exFor c r cx t iter b e st).sat B.ρ (KF B ad s Q)) :
    wpAny (model prog w) A (exec (.For t iter b e pos) env) Q E s := by
  unfold exFor at H
  split at H
  · rename_i x hx
    obtain ⟨px, rfl⟩ := nameOf_eq hx
    split at H
    · split at H
      · rename_i f a ha
        obtain ⟨p, q, rfl⟩ := revOf_eq ha
        unfold exForRev at H
        split at H
        · cases H
        · exact exS_ForRev S C hE R hr (by assumption) H
      · split at H
        · exact exS_For S C hE R hr (by assumption) H
        · cases H
    · cases H
  · cases H

theorem exExpr_wp (S : Snd prog w D U c n r) (C : CfgOk c B) (hE : EnvOk cx env ad) (R : Rep B st ad s.heap) (hr : Room D U n A) {e : Expr} {pos : Pos} {Q : Flow → Shared → Prop} (H : (exExpr r cx e st).sat B.ρ (KF B ad s Q)) :
    wpAny (model prog w) A (exec (.Expr e pos) env) Q E s := by
  cases e with
  | Call f as ks p =>
    have H : ((r.ev cx (.Call f as ks p) st).bnd fun p => match p.1 with
      | .val .none => Res.leaf (Flw.next, p.2)
      | _ => .fail).sat B.ρ (KF B ad s Q) := H
    refine wpAny_Expr (S.ev _ C hE R hr (Res.sat_mono (Res.bnd_sat.mp H) fun p Hp => fun ad1 g1 tk1 v l1 R1 hv => ?_)) (by unfold interactive; rw [hE.kind]; rfl) rfl
    obtain ⟨V1, st1⟩ := p
    cases V1 with
    | val z =>
      cases z with
      | none => obtain rfl := hv; exact Hp ad1 g1 tk1 .next l1 R1 rfl
      | _ => exact False.elim Hp
    | _ => exact False.elim Hp
  | _ => exact False.elim H

theorem exDef_wp (S : Snd prog w D U c n r) (C : CfgOk c B) (hE : EnvOk cx env ad) (R : Rep B st ad s.heap) {name : Str} {args : Arguments} {body : List Stmt} {scope : Scope} {pos : Pos} {Q : Flow → Shared → Prop} (H : (exDef c cx name args body scope pos st).sat B.ρ (KF B ad s Q)) :
    wpAny (model prog w) A (exec (.FunctionDef name args body [] none [] scope none name pos) env) Q E s := by
  unfold exDef at H
  split at H
  · rename_i cl h1
    split at H
    · rename_i a h2
      split at H
      · rename_i hc
        rw [Bool.and_eq_true] at hc
        split at H
        · exact exS_Def S C hE R h1 h2 hc.1 hc.2 (by assumption) H
        · cases H
      · cases H
    · cases H
  · cases H

theorem exS_wp (S : Snd prog w D U c n r) (C : CfgOk c B) (hE : EnvOk cx env ad) (R : Rep B st ad s.heap) (hr : Room D U n A) {x : Stmt} {Q : Flow → Shared → Prop} (H : (exS c r cx x st).sat B.ρ (KF B ad s Q)) :
    wpAny (model prog w) A (exec x env) Q E s := by
  cases x with
  | Assign ts v pos =>
    cases ts with
    | nil => exact False.elim H
    | cons t r => cases r with
      | nil => exact exAsg1_wp S C hE R hr H
      | cons u r => cases r with
        | nil => exact exAsg2_wp S C hE R hr H
        | cons _ _ => exact False.elim H
  | AugAssign t op v pos => exact exAug_wp S C hE R hr H
  | If t b o pos =>
    refine wpAny_If (S.tst _ C hE R hr (Res.sat_mono (Res.bnd_sat.mp H) fun p Hp => fun ad1 g1 tk1 l1 R1 => ?_))
    obtain ⟨b, st1⟩ := p
    cases b with
    | true => exact S.exs (s := { s with heap := g1, toks := tk1 }) _ C (hE.mono l1) R1 hr (Res.sat_mono Hp fun u Hu => KF.at Hu l1)
    | false => exact S.exs (s := { s with heap := g1, toks := tk1 }) _ C (hE.mono l1) R1 hr (Res.sat_mono Hp fun u Hu => KF.at Hu l1)
  | While t b e pos =>
    cases e with
    | nil => exact wpAny_While (whileV_wp S C hE R hr H fun q ad' h tk f l R1 hf K => K ad' h tk f l R1 hf)
    | cons _ _ => exact False.elim H
  | For t iter b e pos => exact exFor_wp S C hE R hr H
  | Return o pos =>
    cases o with
    | some e =>
      refine wpAny_Return_some (S.ev _ C hE R hr (Res.sat_mono (Res.bnd_sat.mp H) fun p Hp => fun ad1 g1 tk1 v l1 R1 hv => ?_))
      exact Hp ad1 g1 tk1 (.ret v) l1 R1 ⟨v, rfl, hv⟩
    | none => exact wpAny_Return_none (H ad s.heap s.toks (.ret .none) (Le.refl _) R ⟨.none, rfl, rfl⟩)
  | Expr e pos => exact exExpr_wp S C hE R hr H
  | Assert t m pos =>
    cases m with
    | none =>
      refine wpAny_Assert_new hr.handled (S.tst _ C hE R hr (Res.sat_mono (Res.bnd_sat.mp H) fun p Hp => fun ad1 g1 tk1 l1 R1 => ?_))
      obtain ⟨b, st1⟩ := p
      cases b with
      | true => exact Hp ad1 g1 tk1 .next l1 R1 rfl
      | false => exact False.elim Hp
    | some _ => exact False.elim H
  | FunctionDef name args body ds rt tp scope cl bnd' pos =>
    unfold exS at H; dsimp only at H
    split at H
    · rename_i hc
      simp only [Bool.and_eq_true] at hc
      obtain ⟨⟨⟨⟨h1, h2⟩, h3⟩, h4⟩, h5⟩ := hc
      rw [noneL_eq h1, noneO_eq h2, noneL_eq h3, noneO_eq h4, eq_of_beq h5]
      exact exDef_wp S C hE R H
    · cases H
  | _ => exact False.elim H

theorem exL_wp (S : Snd prog w D U c n r) (C : CfgOk c B) (hr : Room D U n A) : ∀ (ss : List Stmt) {st : St} {ad : Ad} {s : Shared} {Q : Flow → Shared → Prop}, EnvOk cx env ad → Rep B st ad s.heap → (exL c r cx ss st).sat B.ρ (KF B ad s Q) →
    wpAny (model prog w) A (execs ss env) Q E s
  | [], st, ad, s, Q, hE, R, H => wpAny_execs_nil (H ad s.heap s.toks .next (Le.refl _) R rfl)
  | x :: rest, st, ad, s, Q, hE, R, H => by
    unfold exL at H
    refine wpAny_execs_cons (exS_wp S C hE R hr (Res.sat_mono (Res.bnd_sat.mp H) fun p Hp => fun ad1 g1 tk1 f l1 R1 hf => ?_))
    obtain ⟨fl, st1⟩ := p
    cases fl with
    | next =>
      cases hf
      exact exL_wp (s := { s with heap := g1, toks := tk1 }) S C hr rest (hE.mono l1) R1 (Res.sat_mono Hp fun u Hu => KF.at Hu l1)
    | ret v =>
      obtain ⟨x, rfl, hx⟩ := hf
      exact Hp ad1 g1 tk1 (.ret x) l1 R1 ⟨x, rfl, hx⟩
end
end Mine

namespace Mine
section
variable {prog : Program} {w : World} {D U n : Nat} {r : Evs} {B : Bs} {c : Cfg} {cx : Cx} {env : Env} {ad : Ad} {st : St} {s : Shared} {A : Around} {E : Value → Shared → Prop}

theorem callFrame_code (C : CfgOk c B) (R : Rep B st ad s.heap) (hA : A.depth < 1000) {f : FnRec} {cells : List (Str × Nat)} {args : List V} {vs : List Value} {fa : Addr} {o : Obj} {fd : FuncData} {Rr : Result → Shared → Prop}
    (ho : s.heap.get? fa = some o) (hd : o.data = .func fd) (hp : plainArgs f.params fd.params) (hb : fd.body = .stmts f.body) (hs : fd.scope = f.scope) (hg : fd.globals = mainGlobals) (hbi : fd.builtins = builtinsNs)
    (hdf : fd.defaults = .none) (hkd : fd.kwdefaults = .none) (hcl : Cl ad cells fd.closure) (hcode : f.code = .none ∨ fd.code = f.code ∧ fd.qualname ++ Str.ofString ".<locals>." = f.qual) (hcr : s.heap.CodeRec fd.code fd.qualname)
    (hv : VRs B.ρ ad args vs) (h1 : isFun f.scope = true) (h2 : args.length = f.params.length) (h3 : (f.params.all fun n => ((f.params.zip args).lookup n).isSome) = true)
    (H : (storeAll (newCx f.scope cells f.code f.qual st).1 (bindsA f.params args) (newCx f.scope cells f.code f.qual st).2).sat B.ρ fun st1 => ∀ ad1 g1 tk1 env, Le ad ad1 → Rep B st1 ad1 g1 → EnvOk (newCx f.scope cells f.code f.qual st).1 env ad1 →
      wpAny (model prog w) (A.deeper env) (execs f.body env) (fun fl s' => Rr (.ok (.ret (match fl with | .ret v => v | _ => .none))) s')
        (fun e s' => wpAny (model prog w) (A.deeper env) (leaving env e) (fun _ s'' => Rr (.error e) s'') (fun e' s'' => Rr (.error e') s'') s') { s with heap := g1, toks := tk1 }) :
    codeAny (model prog w) A (.call (.ref fa) ⟨vs, []⟩) Rr s := by
  obtain ⟨k1, k2, k3⟩ := isFun_of h1
  have hlen : vs.length = f.params.length := by rw [← hv.length, h2]
  have hall : ∀ n ∈ f.params, ((f.params.zip vs).lookup n).isSome = true := fun n hn => by
    have h4 := List.all_eq_true.mp h3 n hn
    have := lookup_zip (params := f.params) hv n
    cases q : (f.params.zip args).lookup n with
    | none => rw [q] at h4; cases h4
    | some v => rw [q] at this; obtain ⟨x, e, _⟩ := this; rw [e]; rfl
  refine codeAny_call_function hA ho hd (by rw [hs]; exact k3) (by rw [hs]; exact k2) hb hcr ?_
  rw [bindArgs_plain hp hdf hkd hlen hall]
  refine wpAny_pure ?_
  rw [hs, hbi]
  obtain ⟨b1, b2⟩ := binds_vr (params := f.params) hv f.params
  refine newCx_wp (cells := cells) (ccode := f.code) (cqual := f.qual) (binds := bindsA f.params args) R hcl b1 b2 k1 hg hcode (Res.sat_mono H fun st1 H1 => fun ad1 g1 tk1 env l1 R1 hE => ?_)
  exact ⟨R1.limit (s := { s with heap := g1, toks := tk1 }) C, codeAny_func (H1 ad1 g1 tk1 env l1 R1 hE)⟩

theorem callBody_code (hD : D ≤ 999) (S : Snd prog w D U c n r) (C : CfgOk c B) (R : Rep B st ad s.heap) (hr : Room D U (n + 1) A) {f : FnRec} {cells : List (Str × Nat)} {args : List V} {vs : List Value} {fa : Addr} {o : Obj} {fd : FuncData} {Q : Value → Shared → Prop}
    (ho : s.heap.get? fa = some o) (hd : o.data = .func fd) (hp : plainArgs f.params fd.params) (hb : fd.body = .stmts f.body) (hs : fd.scope = f.scope) (hg : fd.globals = mainGlobals) (hbi : fd.builtins = builtinsNs)
    (hdf : fd.defaults = .none) (hkd : fd.kwdefaults = .none) (hcl : Cl ad cells fd.closure) (hcode : f.code = .none ∨ fd.code = f.code ∧ fd.qualname ++ Str.ofString ".<locals>." = f.qual) (hcr : s.heap.CodeRec fd.code fd.qualname)
    (hv : VRs B.ρ ad args vs) (H : (callBody r f cells args st).sat B.ρ (KV B ad s Q)) {Rr : Result → Shared → Prop} (hR : ∀ v s', Q v s' → Rr (.ok (.ret v)) s') : codeAny (model prog w) A (.call (.ref fa) ⟨vs, []⟩) Rr s := by
  unfold callBody at H
  split at H
  · rename_i h1 h2 h3
    refine callFrame_code C R (by have := hr.depth; omega) ho hd hp hb hs hg hbi hdf hkd hcl hcode hcr hv h1 (of_decide_eq_true h2) h3 (Res.sat_mono (Res.bnd_sat.mp H) fun st1 H1 => fun ad1 g1 tk1 env l1 R1 hE => ?_)
    refine S.exs (s := { s with heap := g1, toks := tk1 }) f.body C hE R1 ⟨hr.cap, hr.handled, ?_, ?_⟩ (Res.sat_mono (Res.bnd_sat.mp H1) fun p Hp => fun ad2 g2 tk2 fl l2 R2 hf => ?_)
    · have := hr.depth; show A.depth + 1 + n ≤ D; omega
    · have := hr.units; show A.units + 3 + 8 * n ≤ U; omega
    · obtain ⟨fV, st2⟩ := p
      cases fV with
      | next => cases hf; exact hR _ _ (Hp ad2 g2 tk2 .none (l1.trans l2) R2 rfl)
      | ret v => obtain ⟨x, rfl, hx⟩ := hf; exact hR _ _ (Hp ad2 g2 tk2 x (l1.trans l2) R2 hx)
  · cases H

theorem callBody_wp (hD : D ≤ 999) (S : Snd prog w D U c n r) (C : CfgOk c B) (R : Rep B st ad s.heap) (hr : Room D U (n + 1) A) {f : FnRec} {cells : List (Str × Nat)} {args : List V} {vs : List Value} {fa : Addr} {o : Obj} {fd : FuncData} {Q : Value → Shared → Prop}
    (ho : s.heap.get? fa = some o) (hd : o.data = .func fd) (hp : plainArgs f.params fd.params) (hb : fd.body = .stmts f.body) (hs : fd.scope = f.scope) (hg : fd.globals = mainGlobals) (hbi : fd.builtins = builtinsNs)
    (hdf : fd.defaults = .none) (hkd : fd.kwdefaults = .none) (hcl : Cl ad cells fd.closure) (hcode : f.code = .none ∨ fd.code = f.code ∧ fd.qualname ++ Str.ofString ".<locals>." = f.qual) (hcr : s.heap.CodeRec fd.code fd.qualname)
    (hv : VRs B.ρ ad args vs) (H : (callBody r f cells args st).sat B.ρ (KV B ad s Q)) : wpAny (model prog w) A (call (.ref fa) vs) Q E s :=
  wpAny_call (callBody_code hD S C R hr ho hd hp hb hs hg hbi hdf hkd hcl hcode hcr hv H fun _ _ h => h)

theorem Rep.empty (R : Rep B st ad s.heap) : Rep { B with h₀ := s.heap, n0 := 0 } [] [] s.heap := by
  have no : ∀ a, ¬ Has [] a := fun a ⟨i, e⟩ => by unfold adr at e; simp at e
  refine ⟨rfl, fun i o e => by simp at e, fun i j a e _ => absurd ⟨i, e⟩ (no a), fun a h => absurd h (no a), R.top, fun b o e _ _ => e, fun i a _ e => absurd ⟨i, e⟩ (no a), Nat.le_refl _, fun k hk => ?_⟩
  obtain ⟨h1, h2, ps, i, t, r⟩ := R.tabs k hk
  exact ⟨no _, no _, ps, i, t, r.imp id fun ⟨c', q1, q2, q3, _⟩ => ⟨c', q1, no _, q3, .inr ⟨ps, i, q1⟩⟩⟩

theorem flat_vr {ad ad' : Ad} : ∀ {v : V} {x : Value}, flat v = true → VR B.ρ ad v x → VR B.ρ ad' v x
  | .int _, _, _, e => e
  | .si .., _, _, e => e
  | .flt _, _, _, e => e
  | .str _, _, _, e => e
  | .ss .., _, _, e => e
  | .sb _, _, _, e => e
  | .ref _, _, h, _ => by cases h
  | .old, _, _, e => e
  | .val _, _, _, e => e
theorem flat_vrs {ad ad' : Ad} {vs : List V} {xs : List Value} (h : vs.all flat = true) (H : VRs B.ρ ad vs xs) : VRs B.ρ ad' vs xs := by
  induction H with
  | nil => exact .nil
  | cons a _ ih => rw [List.all_cons, Bool.and_eq_true] at h; exact .cons (flat_vr h.1 a) (ih h.2)

structure CutOk (prog : Program) (w : World) (D U : Nat) (c : Cfg) : Prop where
  cut : ∀ {B : Bs} {ad : Ad} {st : St} {s : Shared} {A : Around} {E : Value → Shared → Prop} {Q : Value → Shared → Prop} (a : Addr) (args : List V) (vs : List Value) (x : Res (V × St)), c.cut a args st = some x → CfgOk c B → Rep B st ad s.heap →
    A.handled = none → A.depth ≤ D → A.units ≤ U → VRs B.ρ ad args vs → x.sat B.ρ (KV B ad s Q) → IsFn s (.ref a) ∧ wpAny (model prog w) A (call (.ref a) vs) Q E s

theorem callV_wp (hD : D ≤ 999) (hcut : CutOk prog w D U c) (S : Snd prog w D U c n r) (C : CfgOk c B) (R : Rep B st ad s.heap) (hr : Room D U (n + 1) A) {f : V} {args : List V} {fv : Value} {vs : List Value} (hf : VR B.ρ ad f fv) (hv : VRs B.ρ ad args vs) {Q : Value → Shared → Prop}
    (H : (callV c r f args st).sat B.ρ (KV B ad s Q)) : IsFn s fv ∧ wpAny (model prog w) A (call fv vs) Q E s := by
  unfold callV at H
  split at H
  · rename_i a
    obtain rfl := hf
    split at H
    · rename_i x hx
      exact hcut.cut a args vs x hx C R hr.handled (by have := hr.depth; omega) (by have := hr.units; omega) hv H
    · split at H
      · rename_i fr hfr
        obtain ⟨q1, q2, ob, fd, q3, q4, q5, q6, q7, q8, q9, q10, q11, q12, q13, cd, co, us, t, q14, q15, q16, q17, q18, q19⟩ := C.fns a fr hfr
        have ho := R.top a ob q3 q1 q2
        have hco := R.top cd co q17 q15 q16
        have hcr : s.heap.CodeRec fd.code fd.qualname := ⟨cd, co, us, t, q14, hco, q18, q19⟩
        refine ⟨⟨a, ob, fd, rfl, ho, q4⟩, ?_⟩
        split at H
        · rename_i hp hfl
          have hv' : VRs B.ρ [] args vs := flat_vrs hfl hv
          refine callBody_wp (cells := []) hD S (C.base s.heap 0) R.empty hr ho q4 q5 q6 q7 q8 q9 q10 q11 (fun x i e => by cases e) q13 hcr hv' (Res.sat_mono (Res.bnd_sat.mp H) fun p Hp => fun ad' h' tk v l1 R1 hx => ?_)
          split at Hp
          · rename_i hfv
            exact Hp ad h' tk v (Le.refl _) (R.apart R1) (flat_vr hfv hx)
          · cases Hp
        · exact callBody_wp hD S C R hr ho q4 q5 q6 q7 q8 q9 q10 q11 (fun x i e => by cases e) q13 hcr hv H
      · cases H
  · rename_i k
    obtain ⟨a, ha, rfl⟩ := hf
    split at H
    · rename_i params body scope cells hst
      obtain ⟨ob, q1, fd, q2, q3, q4, q5, q6, q7, q8, q9, ⟨cd, co, us, t, z1, z2, z3, z4, z5⟩, q11⟩ := R.of hst ha
      exact ⟨⟨a, ob, fd, rfl, q1, q2⟩, callBody_wp hD S C R hr q1 q2 q3 q4 q5 q6 q7 q8 q9 q11 (.inl rfl) ⟨cd, co, us, t, z1, z3, z4, z5⟩ hv H⟩
    · cases H
  · cases H

theorem step_snd (hD : D ≤ 999) (hcut : CutOk prog w D U c) (S : Snd prog w D U c n r) : Snd prog w D U c (n + 1) (step c r) where
  ev := fun e C hE R hr H => evE_wp S C hE R hr.less H
  tst := fun e C hE R hr H => tstE_wp S C hE R hr.less H
  exs := fun b C hE R hr H => exL_wp S C hr.less b hE R H
  call := fun f args fv vs C R hr hf hv H => callV_wp hD hcut S C R hr hf hv H

theorem snd_zero : Snd prog w D U c 0 evs0 where
  ev := fun _ _ _ _ _ H => False.elim H
  tst := fun _ _ _ _ _ H => False.elim H
  exs := fun _ _ _ _ _ H => False.elim H
  call := fun _ _ _ _ _ _ _ _ _ H => False.elim H

theorem evs_snd (hD : D ≤ 999) (hcut : CutOk prog w D U c) : ∀ n, Snd prog w D U c n (evs c n)
  | 0 => snd_zero
  | n + 1 => step_snd hD hcut (evs_snd hD hcut n)
end
end Mine

namespace Mine

noncomputable def progBody : List Stmt := PySem.Challenge.pw_sl0021_01.main.body
noncomputable def fnOfS (code : Value) (qual : Str) : Option Stmt → FnRec
  | some (.FunctionDef _ args body _ _ _ scope _ _ _) => ⟨args.args.map (·.arg), body, scope, code, qual⟩
  | _ => ⟨[], [], { kind := .function, names := [], isGenerator := false, isCoroutine := false }, .none, Str.empty⟩
noncomputable def posIn : List Stmt → Pos
  | .FunctionDef _ _ _ _ _ _ _ _ _ p :: _ => p
  | _ :: r => posIn r
  | [] => ⟨0, 0, 0, 0⟩
noncomputable def fnT : List (Addr × FnRec) :=
  [(21, fnOfS .none Str.empty progBody[1]?), (28, fnOfS .none Str.empty progBody[4]?), (35, fnOfS .none Str.empty progBody[5]?), (42, fnOfS (.ref 41) (Str.ofString "_int2digits.<locals>.") progBody[6]?), (49, fnOfS (.ref 48) (Str.ofString "_digits2int.<locals>.") progBody[7]?), (56, fnOfS .none Str.empty progBody[8]?),
   (63, fnOfS .none Str.empty progBody[9]?), (70, fnOfS .none Str.empty progBody[12]?), (77, fnOfS .none Str.empty progBody[17]?), (84, fnOfS .none Str.empty progBody[18]?), (91, fnOfS .none Str.empty progBody[20]?), (96, fnOfS .none Str.empty progBody[21]?),
   (103, fnOfS .none Str.empty progBody[22]?), (110, fnOfS .none Str.empty progBody[23]?), (115, fnOfS .none Str.empty progBody[24]?), (122, fnOfS .none Str.empty progBody[25]?), (127, fnOfS .none Str.empty progBody[26]?)]
noncomputable def lawF : FnRec := fnOfS .none Str.empty progBody[27]?
noncomputable def codesT : List CodeAt :=
  [⟨41, 37, posIn (fnOfS .none Str.empty progBody[6]?).body, Str.ofString "_int2digits.<locals>.inner"⟩, ⟨48, 44, posIn (fnOfS .none Str.empty progBody[7]?).body, Str.ofString "_digits2int.<locals>.inner"⟩]
noncomputable def globT : List (Str × V) :=
  [("_MOVE_COST", .int 2), ("_CASE_COST", .int 1), ("_MAX_STRING_SIZE", .int 40), ("ELLIPSIS_MARKER", .str "..."), ("_DIV_LIMIT", .int 4000),
   ("len", .val (.builtin "len")), ("min", .val (.builtin "min")), ("max", .val (.builtin "max")), ("divmod", .val (.builtin "divmod")), ("range", .val (.type "range")), ("list", .val (.type "list")), ("int", .val (.type "int")), ("reversed", .val (.type "reversed")),
   ("rgb_to_hls", .val (.ref 21)), ("_div2n1n", .val (.ref 28)), ("_div3n2n", .val (.ref 35)), ("_int2digits", .val (.ref 42)), ("_digits2int", .val (.ref 49)), ("_divmod_pos", .val (.ref 56)), ("int_divmod", .val (.ref 63)), ("_ellipsis_match", .val (.ref 70)),
   ("_substitution_cost", .val (.ref 77)), ("_levenshtein_distance", .val (.ref 84)), ("_law_answers", .val (.ref 91)), ("_law_figures", .val (.ref 96)), ("_law_ballots", .val (.ref 103)), ("_law_common", .val (.ref 110)), ("_law_words", .val (.ref 115)), ("_law_balance", .val (.ref 122)), ("_law_settled", .val (.ref 127))]
noncomputable def cfg0 : Cfg where
  glob x := globT.lookup x
  fns a := fnT.lookup a
  cut := fun _ _ _ => none
  pur := fun a => [70, 77, 84, 110].contains a
  codes := codesT

end Mine

namespace Mine

noncomputable def figTab : List (List Int) := [[-4, 0, 0, 0], [-2, -2, -2, 2], [-2, -2, 2, -2], [0, -4, 0, 0], [-2, 2, -2, -2], [0, 0, -4, 0], [0, 0, 0, -4], [2, -2, -2, -2], [-2, 2, 2, 2], [0, 0, 0, 4], [0, 0, 4, 0], [2, -2, 2, 2], [0, 4, 0, 0], [2, 2, -2, 2], [2, 2, 2, -2], [4, 0, 0, 0]]
noncomputable def figAt (a b c d : Int) (j : Nat) : Int := (figTab.getD (a + 2 * b + 4 * c + 8 * d).toNat []).getD j 0
noncomputable def figE (a b c d : IE) (j : Nat) : IE := .pick (figTab.map fun r => r.getD j 0) 0 (.add (.add (.add a (.mul (.const 2) b)) (.mul (.const 4) c)) (.mul (.const 8) d))
noncomputable def figL (a b c d : IE) : List V := [.si (-4) 4 (figE a b c d 0), .si (-4) 4 (figE a b c d 1), .si (-4) 4 (figE a b c d 2), .si (-4) 4 (figE a b c d 3)]
noncomputable def bitL (p : Nat) : List V := [.si 0 1 (.bit p 0), .si 0 1 (.bit p 1), .si 0 1 (.bit p 2), .si 0 1 (.bit p 3)]
/-- the multiples of 16 that a balance may be -/
noncomputable def balL : Nat → List Int
  | 0 => []
  | n + 1 => 16 * ((n : Int) - 9) :: balL n
noncomputable def cut91A (args : List V) (st : St) : Option (Res (V × St)) := match args with
  | [.old, .int p] => match decide (0 ≤ p ∧ p < 3) with
    | true => some (newO (.list (bitL p.toNat)) st)
    | false => none
  | _ => none
noncomputable def bitsIn : List V → Option (IE × IE × IE × IE)
  | [.si l0 h0 f0, .si l1 h1 f1, .si l2 h2 f2, .si l3 h3 f3] => match decide (l0 = 0 ∧ h0 = 1 ∧ l1 = 0 ∧ h1 = 1 ∧ l2 = 0 ∧ h2 = 1 ∧ l3 = 0 ∧ h3 = 1) with
    | true => some (f0, f1, f2, f3)
    | false => none
  | _ => none
noncomputable def cut96A (args : List V) (st : St) : Option (Res (V × St)) := match args with
  | [.ref k] => match st[k]? with
    | some (.list vs) => match bitsIn vs with
      | some (f0, f1, f2, f3) => some (newO (.list (figL f0 f1 f2 f3)) st)
      | none => none
    | _ => none
  | _ => none
noncomputable def cut63A (args : List V) (st : St) : Option (Res (V × St)) := match args with
  | [.si _ _ t, .int y] => match decide (y = 16) with
    | true => some (.req (.isIn t (balL 37)) (newO (.tuple [.si (-9) 27 (.div t), .int 0]) st))
    | false => none
  | _ => none
noncomputable def cutL (a : Addr) (args : List V) (st : St) : Option (Res (V × St)) :=
  match a == 91 with
  | true => cut91A args st
  | false => match a == 96 with
    | true => cut96A args st
    | false => match a == 63 with
      | true => cut63A args st
      | false => none
noncomputable def cfgL : Cfg := { cfg0 with cut := cutL }

noncomputable def chk {α : Type} (ρ : Rho) (good : α → Bool) : Res α → Bool
  | .fail => false
  | .leaf a => good a
  | .ite b x y => match b.den ρ with
    | true => chk ρ good x
    | false => chk ρ good y
  | .req p x => match p.den ρ with
    | true => chk ρ good x
    | false => false
theorem chk_sat {α : Type} {ρ : Rho} {good : α → Bool} : ∀ {x : Res α}, chk ρ good x = true → x.sat ρ fun a => good a = true
  | .fail, h => by cases h
  | .leaf a, h => h
  | .ite b x y, h => by
    unfold chk at h
    split at h
    · rename_i hb; exact ⟨fun _ => chk_sat h, fun e => by rw [hb] at e; cases e⟩
    · rename_i hb; exact ⟨(fun e => by rw [hb] at e; cases e), fun _ => chk_sat h⟩
  | .req p x, h => by
    unfold chk at h
    split at h
    · rename_i hb; exact ⟨hb, chk_sat h⟩
    · cases h
noncomputable def isT (ρ : Rho) (p : V × St) : Bool := match p.1 with
  | .sb f => f.den ρ
  | .val (.bool b) => b
  | _ => false
end Mine

namespace Mine
section
variable {prog : Program} {w : World} {D U n : Nat} {r : Evs} {B : Bs} {c : Cfg} {cx : Cx} {env : Env} {ad : Ad} {st : St} {s : Shared} {A : Around} {E : Value → Shared → Prop}

theorem adr_one {a : Addr} {i : Nat} {x : Addr} (e : adr [some a] i = some x) : i = 0 ∧ x = a := by
  unfold adr at e
  cases i with
  | zero => simp at e; exact ⟨rfl, e.symm⟩
  | succ i => simp at e

/-- a run of its own that knows one list -/
theorem Rep.iso1 {h : Heap} (R : Rep B st ad h) {k : Nat} {a : Addr} {o o1 : O} (ha : adr ad k = some a) (ho : st[k]? = some o) (hw : ∀ ob, OR B.ρ ad h ob o → OR B.ρ [some a] h ob o1) :
    Rep { B with h₀ := h, n0 := 1 } [o1] [some a] h := by
  have no : ∀ x, ¬ Has ad x → ¬ Has [some a] x := fun x hx ⟨i, e⟩ => by
    obtain ⟨_, rfl⟩ := adr_one e; exact hx ⟨k, ha⟩
  refine ⟨rfl, fun i o e => ?_, fun i j x e1 e2 => (adr_one e1).1.trans (adr_one e2).1.symm, fun x hx => R.low x (Classical.byContradiction fun z => no x z hx), R.top, fun b o e _ _ => e, fun i x hi e => ?_, Nat.le_refl _, fun k hk => ?_⟩
  · cases i with
    | zero =>
      simp at e; subst e
      obtain ⟨ob, q1, q2⟩ := R.of ho ha
      exact ⟨ob, q1, hw ob q2⟩
    | succ i => simp at e
  · obtain ⟨rfl, _⟩ := adr_one e; exact absurd hi (Nat.not_succ_le_zero 0)
  · obtain ⟨h1, h2, ps, i, t, r⟩ := R.tabs k hk
    exact ⟨no _ h1, no _ h2, ps, i, t, r.imp id fun ⟨c', q1, q2, q3, _⟩ => ⟨c', q1, no _ q2, q3, .inr ⟨ps, i, q1⟩⟩⟩

theorem OR.widen {ad ad2 : Ad} {h h' : Heap} {ρ : Rho} {ob : Obj} (hl : Le ad ad2) (hc : ∀ b (co : Obj) vs q t, ¬ Has ad b → h.get? b = some co → co.data = .fields vs → vs[1]? = some (.str q t) → h'.get? b = some co ∧ ¬ Has ad2 b) : ∀ {o : O}, OR ρ ad h ob o → OR ρ ad2 h' ob o
  | .ns kvs, ⟨es, ep, e, k, H⟩ => ⟨es, ep, e, k, fun x => by
      have := H x
      cases q : kvs.lookup x with
      | some v => rw [q] at this; obtain ⟨y, e, r⟩ := this; exact ⟨y, e, r.mono hl⟩
      | none => rw [q] at this; exact this⟩
  | .cell v, H => by
      cases v with
      | some v => obtain ⟨y, e, r⟩ := H; exact ⟨y, e, r.mono hl⟩
      | none => exact H
  | .list _, H => Lst.mono hl H
  | .arr _, ⟨c, xs, n, e, r⟩ => ⟨c, xs, n, e, r.mono hl⟩
  | .flist _, H => Lst.mono hl H
  | .tuple _, H => Lst.mono hl H
  | .range .., H => H
  | .fn .., ⟨fd, e, p1, p2, p3, p4, p5, p6, p7, ⟨c, co, vs, t, q1, q2, q3, q4, q5⟩, p9⟩ =>
      let ⟨z1, z2⟩ := hc c co vs _ t q2 q3 q4 q5
      ⟨fd, e, p1, p2, p3, p4, p5, p6, p7, ⟨c, co, vs, t, q1, z2, z1, q4, q5⟩, fun x i hx => let ⟨a, e1, e2⟩ := p9 x i hx; ⟨a, hl.of e1, e2⟩⟩
  | .other, H => H

/-- back from a run of its own, with one new object -/
theorem Rep.back {h h' : Heap} (R : Rep B st ad h) {m : Nat} {led' : St} {ad' : Ad} (R' : Rep { B with h₀ := h, n0 := m } led' ad' h')
    (old : ∀ i b, i < m → adr ad' i = some b → Has ad b)
    {i : Nat} {x : Addr} {o' o'' : O} (hi : m ≤ i) (hx : adr ad' i = some x) (ho : led'[i]? = some o')
    (imp : ∀ i b, i < m → adr ad' i = some b → ∃ ob, h'.get? b = some ob ∧ ∀ j o, adr ad j = some b → st[j]? = some o → OR B.ρ (ad ++ [some x]) h' ob o)
    (hcl : ∀ ob, OR B.ρ ad' h' ob o' → OR B.ρ (ad ++ [some x]) h' ob o'') : Rep B (st ++ [o'']) (ad ++ [some x]) h' := by
  have hxn : h.get? x = none := R'.fresh i x hi hx
  have hlen : st.length = ad.length := R.len
  have back1 : ∀ b ob, h.get? b = some ob → Has ad' b → Has ad b := fun b ob e ⟨j, q⟩ => by
    by_cases hj : j < m
    · exact old j b hj q
    · have := R'.fresh j b (Nat.not_lt.mp hj) q
      have h0 : h.get? b = none := this
      rw [e] at h0; cases h0
  have nP : ∀ a, Has ad a → a ∉ B.codes.map (·.P) := fun a ha hm => by
    obtain ⟨k, hk, rfl⟩ := List.mem_map.mp hm
    exact (R.tabs k hk).2.1 ha
  have kp : ∀ a ob, h.get? a = some ob → ¬ Has ad a → a ∉ B.codes.map (·.P) → h'.get? a = some ob := fun a ob e hn hP => R'.keep a ob e hP fun z => hn (back1 a ob e z)
  have xne : ∀ b ob, h.get? b = some ob → b ≠ x := fun b ob e z => by rw [z, hxn] at e; cases e
  have hasapp : ∀ b, Has (ad ++ [some x]) b → Has ad b ∨ b = x := fun b ⟨j, e⟩ => by
    rw [adr_app] at e
    split at e
    · exact .inr (Option.some.inj e).symm
    · exact .inl ⟨j, e⟩
  have kc : ∀ a (ob : Obj) vs q t, ¬ Has ad a → h.get? a = some ob → ob.data = .fields vs → vs[1]? = some (.str q t) → h'.get? a = some ob ∧ ¬ Has (ad ++ [some x]) a := fun a ob vs q t hn e hd hv => by
    refine ⟨kp a ob e hn fun hm => ?_, fun z => (hasapp a z).elim hn (xne a ob e)⟩
    obtain ⟨k, hk, rfl⟩ := List.mem_map.mp hm
    obtain ⟨_, _, ps, ic, ⟨_, t⟩, _⟩ := R.tabs k hk
    rw [e] at t; cases t; cases hd
    obtain ⟨_, _, _, _, _, _, _, _, _, op, _, _, _, _, _, _, _, e2, d2, tr, _⟩ := ic
    rw [e] at e2; cases e2; cases d2
    exact triples_no tr (by rw [Array.getElem?_toList]; exact hv)
  refine ⟨by rw [List.length_append, List.length_append, hlen]; rfl, fun j o e => ?_, fun j1 j2 b e1 e2 => ?_, fun b hb hlt => ?_, R'.top, fun b o e hP hb => ?_, fun j b hj e => ?_, Nat.le_trans R.n0 (by rw [List.length_append]; omega), fun k hk => ?_⟩
  · rw [adr_app]
    by_cases hj : j = ad.length
    · rw [if_pos hj]
      rw [hj, ← hlen, List.getElem?_append_right (Nat.le_refl _), Nat.sub_self] at e
      cases e
      obtain ⟨ob, q1, q2⟩ := R'.of ho hx
      exact ⟨ob, q1, hcl ob q2⟩
    · rw [if_neg hj]
      have hj' : j < st.length := by
        have := (List.getElem?_eq_some_iff.mp e).1
        rw [List.length_append] at this
        have h1 : [o''].length = 1 := rfl
        omega
      rw [List.getElem?_append_left hj'] at e
      have := R.obj j o e
      cases q : adr ad j with
      | some b =>
        rw [q] at this; obtain ⟨ob, q1, q2⟩ := this
        by_cases hb : Has ad' b
        · obtain ⟨j', q'⟩ := hb
          by_cases hj2 : j' < m
          · obtain ⟨ob', z1, z2⟩ := imp j' b hj2 q'
            exact ⟨ob', z1, z2 j o q e⟩
          · have := R'.fresh j' b (Nat.not_lt.mp hj2) q'
            have h0 : h.get? b = none := this
            rw [q1] at h0; cases h0
        · exact ⟨ob, R'.keep b ob q1 (nP b ⟨j, q⟩) hb, q2.widen (Le.app _ _) kc⟩
      | none => rw [q] at this; exact this
  · rw [adr_app] at e1 e2
    split at e1 <;> split at e2
    · rename_i z1 z2; rw [z1, z2]
    · cases e1; obtain ⟨ob, q⟩ := R.there ⟨j2, e2⟩; rw [hxn] at q; cases q
    · cases e2; obtain ⟨ob, q⟩ := R.there ⟨j1, e1⟩; rw [hxn] at q; cases q
    · exact R.inj j1 j2 b e1 e2
  · rcases hasapp b hb with hb | rfl
    · exact R.low b hb hlt
    · exact R'.low b ⟨i, hx⟩ hlt
  · have hb' : ¬ Has ad b := fun z => hb (z.le (Le.app _ _))
    have := R.keep b o e hP hb'
    exact kp b o this hb' hP
  · rw [adr_app] at e
    split at e
    · cases e; exact R.isNew hxn
    · exact R.fresh j b hj e
  · obtain ⟨h1, h2, ps0, i0, t0, r0⟩ := R.tabs k hk
    obtain ⟨m1, m2, ps, i1, t, r⟩ := R'.tabs k hk
    have hcx : k.c ≠ x := by obtain ⟨⟨oc, vc, hoc, _⟩, _⟩ := t0; exact xne _ _ hoc
    have hPx : k.P ≠ x := xne _ _ t0.2
    have done : ∀ c', ¬ Has ad' c' → h.get? c' = none ∨ TabHas h k c' → ¬ Has ad c' ∧ (B.h₀.get? c' = none ∨ TabHas B.h₀ k c') := fun c' hn q4 => by
      rcases q4 with q4 | ⟨ps1, i2, q5⟩
      · exact ⟨fun hm => by (obtain ⟨ob, z⟩ := R.there hm; rw [q4] at z; cases z), .inl (R.isNew q4)⟩
      · have : ps1 = ps0 := IsCode.unique i2 i0
        subst this
        rcases r0 with r0 | ⟨c0, p1, p2, _, p4⟩
        · subst r0; simp [codeAmong] at q5
        · rw [q5] at p1; cases p1; exact ⟨p2, p4⟩
    refine ⟨fun z => (hasapp _ z).elim h1 hcx, fun z => (hasapp _ z).elim h2 hPx, ps, i1, t, r.imp id fun ⟨c', q1, q2, q3, q4⟩ => ⟨c', q1, fun z => ?_, q3, (done c' q2 q4).2⟩⟩
    rcases hasapp _ z with z | rfl
    · exact (done c' q2 q4).1 z
    · exact q2 ⟨i, hx⟩
end
end Mine

namespace Mine
section
variable {prog : Program} {w : World} {D U n : Nat} {r : Evs} {B : Bs} {c : Cfg} {cx : Cx} {env : Env} {ad : Ad} {st : St} {s : Shared} {A : Around} {E : Value → Shared → Prop}

theorem fn_at (C : CfgOk c B) (R : Rep B st ad s.heap) {a : Addr} {fr : FnRec} (hfr : c.fns a = some fr) : ∃ ob fd, s.heap.get? a = some ob ∧ ob.data = .func fd ∧ plainArgs fr.params fd.params ∧ fd.body = .stmts fr.body ∧ fd.scope = fr.scope ∧ fd.globals = mainGlobals ∧ fd.builtins = builtinsNs ∧
    fd.defaults = .none ∧ fd.kwdefaults = .none ∧ Cl ad [] fd.closure ∧ (fr.code = .none ∨ fd.code = fr.code ∧ fd.qualname ++ Str.ofString ".<locals>." = fr.qual) ∧ s.heap.CodeRec fd.code fd.qualname := by
  obtain ⟨q1, q2, ob, fd, q3, q4, q5, q6, q7, q8, q9, q10, q11, q12, q13, cd, co, us, t, q14, q15, q16, q17, q18, q19⟩ := C.fns a fr hfr
  exact ⟨ob, fd, R.top a ob q3 q1 q2, q4, q5, q6, q7, q8, q9, q10, q11, (fun x i e => by cases e), q13, cd, co, us, t, q14, R.top cd co q17 q15 q16, q18, q19⟩

theorem call_of (hD : D ≤ 999) (S : Snd prog w D U c n r) (C : CfgOk c B) (R : Rep B st ad s.heap) (hr : Room D U (n + 1) A) {a : Addr} {fr : FnRec} (hfr : c.fns a = some fr) {args : List V} {vs : List Value} (hv : VRs B.ρ ad args vs) {Q : Value → Shared → Prop}
    (H : (callBody r fr [] args st).sat B.ρ (KV B ad s Q)) : IsFn s (.ref a) ∧ wpAny (model prog w) A (call (.ref a) vs) Q E s := by
  obtain ⟨ob, fd, q1, q2, q3, q4, q5, q6, q7, q8, q9, q10, q11, q12⟩ := fn_at C R hfr
  exact ⟨⟨a, ob, fd, rfl, q1, q2⟩, callBody_wp hD S C R hr q1 q2 q3 q4 q5 q6 q7 q8 q9 q10 q11 q12 hv H⟩

noncomputable def leafOk {α : Type} (good : α → Bool) : Res α → Bool
  | .leaf a => good a
  | _ => false
theorem leafOk_sat {α : Type} {good : α → Bool} {ρ : Rho} {x : Res α} (h : leafOk good x = true) : x.sat ρ fun a => good a = true := by
  cases x with
  | leaf a => exact h
  | _ => cases h

noncomputable def intsB : List V → List Int → Bool
  | [], [] => true
  | .int i :: r, j :: t => i == j && intsB r t
  | _, _ => false
theorem intsB_eq : ∀ {vs : List V} {is : List Int}, intsB vs is = true → vs = is.map V.int
  | [], [], _ => rfl
  | v :: r, j :: t, h => by
    cases v with
    | int i =>
      unfold intsB at h
      rw [Bool.and_eq_true] at h
      rw [intsB_eq (vs := r) (is := t) h.2, eq_of_beq h.1]; rfl
    | _ => cases h
  | [], _ :: _, h => by cases h
  | v :: _, [], h => by cases v <;> cases h

/-- the run gives a list of these ints, and the list at 0 stands -/
noncomputable def goodFig (us exp : List Int) (p : V × St) : Bool := match p.1 with
  | .ref i => match Nat.ble 1 i, p.2[i]?, p.2[0]? with
    | true, some (O.list vs), some (O.list ws) => intsB vs exp && intsB ws us
    | _, _, _ => false
  | _ => false
/-- the run gives a tuple of these ints -/
noncomputable def goodTup (exp : List Int) (p : V × St) : Bool := match p.1 with
  | .ref i => match p.2[i]? with
    | some (.tuple vs) => intsB vs exp
    | _ => false
  | _ => false

noncomputable def fr96 : FnRec := fnOfS .none Str.empty progBody[21]?
noncomputable def fr63 : FnRec := fnOfS .none Str.empty progBody[9]?
noncomputable def bitsOf (n : Nat) : List Int := [((n % 2 : Nat) : Int), ((n / 2 % 2 : Nat) : Int), ((n / 4 % 2 : Nat) : Int), ((n / 8 % 2 : Nat) : Int)]
noncomputable def allB : Nat → (Nat → Bool) → Bool
  | 0, _ => true
  | n + 1, f => match f n with
    | true => allB n f
    | false => false
theorem allB_of : ∀ {n : Nat} {f : Nat → Bool}, allB n f = true → ∀ i, i < n → f i = true
  | 0, _, _, i, hi => absurd hi (Nat.not_lt_zero i)
  | n + 1, f, h, i, hi => by
    unfold allB at h
    split at h
    · rename_i hn
      by_cases e : i = n
      · rw [e]; exact hn
      · exact allB_of h i (by omega)
    · cases h
noncomputable def figOk (n : Nat) : Bool := leafOk (goodFig (bitsOf n) (figTab.getD n [])) (callBody (evs cfg0 39) fr96 [] [.ref 0] [.list ((bitsOf n).map V.int)])
theorem figRun0 : figOk 0 = true := by kernel_rfl
theorem figRun1 : figOk 1 = true := by kernel_rfl
theorem figRun2 : figOk 2 = true := by kernel_rfl
theorem figRun3 : figOk 3 = true := by kernel_rfl
theorem figRun4 : figOk 4 = true := by kernel_rfl
theorem figRun5 : figOk 5 = true := by kernel_rfl
theorem figRun6 : figOk 6 = true := by kernel_rfl
theorem figRun7 : figOk 7 = true := by kernel_rfl
theorem figRun8 : figOk 8 = true := by kernel_rfl
theorem figRun9 : figOk 9 = true := by kernel_rfl
theorem figRun10 : figOk 10 = true := by kernel_rfl
theorem figRun11 : figOk 11 = true := by kernel_rfl
theorem figRun12 : figOk 12 = true := by kernel_rfl
theorem figRun13 : figOk 13 = true := by kernel_rfl
theorem figRun14 : figOk 14 = true := by kernel_rfl
theorem figRun15 : figOk 15 = true := by kernel_rfl
theorem figRuns : ∀ m, m < 16 → figOk m = true
  | 0, _ => figRun0
  | 1, _ => figRun1
  | 2, _ => figRun2
  | 3, _ => figRun3
  | 4, _ => figRun4
  | 5, _ => figRun5
  | 6, _ => figRun6
  | 7, _ => figRun7
  | 8, _ => figRun8
  | 9, _ => figRun9
  | 10, _ => figRun10
  | 11, _ => figRun11
  | 12, _ => figRun12
  | 13, _ => figRun13
  | 14, _ => figRun14
  | 15, _ => figRun15
  | n + 16, h => absurd h (by omega)
noncomputable def divOk (n : Nat) : Bool := leafOk (goodTup [(n : Int) - 9, 0]) (callBody (evs cfg0 29) fr63 [] [.int (16 * ((n : Int) - 9)), .int 16] [])
noncomputable def divAll (lo : Nat) : Bool := allB 5 fun i => divOk (lo + i)
theorem divRun0 : divAll 0 = true := by kernel_rfl
theorem divRun1 : divAll 5 = true := by kernel_rfl
theorem divRun2 : divAll 10 = true := by kernel_rfl
theorem divRun3 : divAll 15 = true := by kernel_rfl
theorem divRun4 : divAll 20 = true := by kernel_rfl
theorem divRun5 : divAll 25 = true := by kernel_rfl
theorem divRun6 : divAll 30 = true := by kernel_rfl
theorem divRun7 : divAll 35 = true := by kernel_rfl
theorem divAt {lo m : Nat} (h : divAll lo = true) (h1 : lo ≤ m) (h2 : m < lo + 5) : divOk m = true := by
  have := allB_of h (m - lo) (by omega)
  rw [show lo + (m - lo) = m by omega] at this
  exact this
theorem divRuns (m : Nat) (hm : m < 37) : divOk m = true := by
  have hq : m / 5 = 0 ∨ m / 5 = 1 ∨ m / 5 = 2 ∨ m / 5 = 3 ∨ m / 5 = 4 ∨ m / 5 = 5 ∨ m / 5 = 6 ∨ m / 5 = 7 := by omega
  rcases hq with h | h | h | h | h | h | h | h
  · exact divAt divRun0 (by omega) (by omega)
  · exact divAt divRun1 (by omega) (by omega)
  · exact divAt divRun2 (by omega) (by omega)
  · exact divAt divRun3 (by omega) (by omega)
  · exact divAt divRun4 (by omega) (by omega)
  · exact divAt divRun5 (by omega) (by omega)
  · exact divAt divRun6 (by omega) (by omega)
  · exact divAt divRun7 (by omega) (by omega)
end
end Mine

namespace Mine
section
variable {prog : Program} {w : World} {D U n : Nat} {r : Evs} {B : Bs} {c : Cfg} {cx : Cx} {env : Env} {ad : Ad} {st : St} {s : Shared} {A : Around} {E : Value → Shared → Prop}

theorem noCut (prog : Program) (w : World) (D U : Nat) : CutOk prog w D U cfg0 := ⟨fun _ _ _ _ h => by cases h⟩

theorem figCases {b0 b1 b2 b3 : Int} (h0 : 0 ≤ b0 ∧ b0 ≤ 1) (h1 : 0 ≤ b1 ∧ b1 ≤ 1) (h2 : 0 ≤ b2 ∧ b2 ≤ 1) (h3 : 0 ≤ b3 ∧ b3 ≤ 1) :
    ∃ n, n < 16 ∧ bitsOf n = [b0, b1, b2, b3] ∧ figTab.getD n [] = [figAt b0 b1 b2 b3 0, figAt b0 b1 b2 b3 1, figAt b0 b1 b2 b3 2, figAt b0 b1 b2 b3 3] ∧ ∀ j, j < 4 → -4 ≤ figAt b0 b1 b2 b3 j ∧ figAt b0 b1 b2 b3 j ≤ 4 := by
  obtain rfl | rfl : b0 = 0 ∨ b0 = 1 := by omega
  all_goals obtain rfl | rfl : b1 = 0 ∨ b1 = 1 := by omega
  all_goals obtain rfl | rfl : b2 = 0 ∨ b2 = 1 := by omega
  all_goals obtain rfl | rfl : b3 = 0 ∨ b3 = 1 := by omega
  · exact ⟨0, by decide, by decide, by decide, by decide⟩
  · exact ⟨8, by decide, by decide, by decide, by decide⟩
  · exact ⟨4, by decide, by decide, by decide, by decide⟩
  · exact ⟨12, by decide, by decide, by decide, by decide⟩
  · exact ⟨2, by decide, by decide, by decide, by decide⟩
  · exact ⟨10, by decide, by decide, by decide, by decide⟩
  · exact ⟨6, by decide, by decide, by decide, by decide⟩
  · exact ⟨14, by decide, by decide, by decide, by decide⟩
  · exact ⟨1, by decide, by decide, by decide, by decide⟩
  · exact ⟨9, by decide, by decide, by decide, by decide⟩
  · exact ⟨5, by decide, by decide, by decide, by decide⟩
  · exact ⟨13, by decide, by decide, by decide, by decide⟩
  · exact ⟨3, by decide, by decide, by decide, by decide⟩
  · exact ⟨11, by decide, by decide, by decide, by decide⟩
  · exact ⟨7, by decide, by decide, by decide, by decide⟩
  · exact ⟨15, by decide, by decide, by decide, by decide⟩

theorem VRs.four {ρ : Rho} {ad : Ad} {a b c d : V} {xs : List Value} (H : VRs ρ ad [a, b, c, d] xs) : ∃ x y z w, xs = [x, y, z, w] ∧ VR ρ ad a x ∧ VR ρ ad b y ∧ VR ρ ad c z ∧ VR ρ ad d w := by
  cases H with
  | cons h1 t => cases t with
    | cons h2 t => cases t with
      | cons h3 t => cases t with
        | cons h4 t => cases t; exact ⟨_, _, _, _, rfl, h1, h2, h3, h4⟩

theorem VRs.two' {ρ : Rho} {ad : Ad} {a b : V} {xs : List Value} (H : VRs ρ ad [a, b] xs) : ∃ x y, xs = [x, y] ∧ VR ρ ad a x ∧ VR ρ ad b y := by
  cases H with
  | cons h1 t => cases t with
    | cons h2 t => cases t; exact ⟨_, _, rfl, h1, h2⟩
theorem VRs.si4 {ρ : Rho} {ad : Ad} {l h : Int} {f0 f1 f2 f3 : IE} {xs : List Value} (H : VRs ρ ad [.si l h f0, .si l h f1, .si l h f2, .si l h f3] xs) :
    (∃ t0 t1 t2 t3, xs = [.int (f0.den ρ) t0, .int (f1.den ρ) t1, .int (f2.den ρ) t2, .int (f3.den ρ) t3]) ∧ (l ≤ f0.den ρ ∧ f0.den ρ ≤ h) ∧ (l ≤ f1.den ρ ∧ f1.den ρ ≤ h) ∧ (l ≤ f2.den ρ ∧ f2.den ρ ≤ h) ∧ (l ≤ f3.den ρ ∧ f3.den ρ ≤ h) := by
  obtain ⟨x0, x1, x2, x3, hx, h0, h1, h2, h3⟩ := H.four
  have h0 : (∃ t, x0 = .int (f0.den ρ) t) ∧ l ≤ f0.den ρ ∧ f0.den ρ ≤ h := h0
  have h1 : (∃ t, x1 = .int (f1.den ρ) t) ∧ l ≤ f1.den ρ ∧ f1.den ρ ≤ h := h1
  have h2 : (∃ t, x2 = .int (f2.den ρ) t) ∧ l ≤ f2.den ρ ∧ f2.den ρ ≤ h := h2
  have h3 : (∃ t, x3 = .int (f3.den ρ) t) ∧ l ≤ f3.den ρ ∧ f3.den ρ ≤ h := h3
  obtain ⟨⟨t0, e0⟩, b0⟩ := h0
  obtain ⟨⟨t1, e1⟩, b1⟩ := h1
  obtain ⟨⟨t2, e2⟩, b2⟩ := h2
  obtain ⟨⟨t3, e3⟩, b3⟩ := h3
  exact ⟨⟨t0, t1, t2, t3, by rw [hx, e0, e1, e2, e3]⟩, b0, b1, b2, b3⟩
theorem VRs.si4_mk {ρ : Rho} {ad : Ad} {l h : Int} {f0 f1 f2 f3 : IE} {t0 t1 t2 t3 : Tok} {x0 x1 x2 x3 : Int} (e0 : x0 = f0.den ρ) (e1 : x1 = f1.den ρ) (e2 : x2 = f2.den ρ) (e3 : x3 = f3.den ρ) (b0 : l ≤ f0.den ρ ∧ f0.den ρ ≤ h) (b1 : l ≤ f1.den ρ ∧ f1.den ρ ≤ h) (b2 : l ≤ f2.den ρ ∧ f2.den ρ ≤ h) (b3 : l ≤ f3.den ρ ∧ f3.den ρ ≤ h) :
    VRs ρ ad [.si l h f0, .si l h f1, .si l h f2, .si l h f3] [.int x0 t0, .int x1 t1, .int x2 t2, .int x3 t3] := by
  subst e0 e1 e2 e3
  exact .cons ⟨⟨t0, rfl⟩, b0⟩ (.cons ⟨⟨t1, rfl⟩, b1⟩ (.cons ⟨⟨t2, rfl⟩, b2⟩ (.cons ⟨⟨t3, rfl⟩, b3⟩ .nil)))
theorem VRs.int4 {ρ : Rho} {ad : Ad} {a b c d : Int} {xs : List Value} (H : VRs ρ ad [.int a, .int b, .int c, .int d] xs) : ∃ t0 t1 t2 t3, xs = [.int a t0, .int b t1, .int c t2, .int d t3] := by
  obtain ⟨x0, x1, x2, x3, hx, h0, h1, h2, h3⟩ := H.four
  obtain ⟨t0, e0⟩ : ∃ t, x0 = .int a t := h0
  obtain ⟨t1, e1⟩ : ∃ t, x1 = .int b t := h1
  obtain ⟨t2, e2⟩ : ∃ t, x2 = .int c t := h2
  obtain ⟨t3, e3⟩ : ∃ t, x3 = .int d t := h3
  exact ⟨t0, t1, t2, t3, by rw [hx, e0, e1, e2, e3]⟩
theorem VRs.int4_mk {ρ : Rho} {ad : Ad} {a b c d : Int} {t0 t1 t2 t3 : Tok} : VRs ρ ad [.int a, .int b, .int c, .int d] [.int a t0, .int b t1, .int c t2, .int d t3] :=
  .cons ⟨t0, rfl⟩ (.cons ⟨t1, rfl⟩ (.cons ⟨t2, rfl⟩ (.cons ⟨t3, rfl⟩ .nil)))

/-- a list of numbers, known or not -/
theorem OR.four_of {ρ : Rho} {ad ad2 : Ad} {h h' : Heap} {ob : Obj} {l u : Int} {f0 f1 f2 f3 : IE} {is : List Int} (e : is = [f0.den ρ, f1.den ρ, f2.den ρ, f3.den ρ]) (H : OR ρ ad h ob (.list [.si l u f0, .si l u f1, .si l u f2, .si l u f3])) : OR ρ ad2 h' ob (.list (is.map V.int)) := by
  obtain ⟨ys, m', he, hys⟩ := H
  obtain ⟨⟨t0, t1, t2, t3, hy⟩, _⟩ := hys.si4
  exact ⟨ys, m', he, by rw [hy, e]; exact VRs.int4_mk⟩
theorem OR.four_to {ρ : Rho} {ad ad2 : Ad} {h h' : Heap} {ob : Obj} {l u : Int} {f0 f1 f2 f3 : IE} {is : List Int} (e : is = [f0.den ρ, f1.den ρ, f2.den ρ, f3.den ρ]) (b0 : l ≤ f0.den ρ ∧ f0.den ρ ≤ u) (b1 : l ≤ f1.den ρ ∧ f1.den ρ ≤ u) (b2 : l ≤ f2.den ρ ∧ f2.den ρ ≤ u) (b3 : l ≤ f3.den ρ ∧ f3.den ρ ≤ u)
    (H : OR ρ ad h ob (.list (is.map V.int))) : OR ρ ad2 h' ob (.list [.si l u f0, .si l u f1, .si l u f2, .si l u f3]) := by
  obtain ⟨ys, m', he, hys⟩ := H
  rw [e] at hys
  obtain ⟨t0, t1, t2, t3, hy⟩ := VRs.int4 hys
  exact ⟨ys, m', he, by rw [hy]; exact VRs.si4_mk rfl rfl rfl rfl b0 b1 b2 b3⟩
theorem OR.two_to {ρ : Rho} {ad ad2 : Ad} {h h' : Heap} {ob : Obj} {l u z : Int} {f : IE} {is : List Int} (e : is = [f.den ρ, z]) (b : l ≤ f.den ρ ∧ f.den ρ ≤ u) (H : OR ρ ad h ob (.tuple (is.map V.int))) : OR ρ ad2 h' ob (.tuple [.si l u f, .int z]) := by
  obtain ⟨ys, m', he, hys⟩ := H
  rw [e] at hys
  obtain ⟨y0, y1, hy, h0, h1⟩ := VRs.two' (a := .int (f.den ρ)) (b := .int z) hys
  obtain ⟨t0, e0⟩ : ∃ t, y0 = .int (f.den ρ) t := h0
  obtain ⟨t1, e1⟩ : ∃ t, y1 = .int z t := h1
  exact ⟨ys, m', he, by rw [hy, e0, e1]; exact .cons ⟨⟨t0, rfl⟩, b⟩ (.cons ⟨t1, rfl⟩ .nil)⟩

theorem fns96 : cfg0.fns 96 = some fr96 := by kernel_rfl
theorem fns63 : cfg0.fns 63 = some fr63 := by kernel_rfl
theorem call_ok (hD : D ≤ 999) (S : Snd prog w D U c n r) (C : CfgOk c B) (R : Rep B st ad s.heap) (hr : Room D U (n + 1) A) {a : Addr} {fr : FnRec} (hfr : c.fns a = some fr) {args : List V} {vs : List Value} (hv : VRs B.ρ ad args vs) {Q : Value → Shared → Prop}
    {good : V × St → Bool} (H : leafOk good (callBody r fr [] args st) = true) (K : ∀ p, good p = true → KV B ad s Q p) : IsFn s (.ref a) ∧ wpAny (model prog w) A (call (.ref a) vs) Q E s :=
  call_of hD S C R hr hfr hv (Res.sat_mono (leafOk_sat H) K)
theorem run96 {m : Nat} (hm : m < 16) : leafOk (goodFig (bitsOf m) (figTab.getD m [])) (callBody (evs cfg0 39) fr96 [] [.ref 0] [.list ((bitsOf m).map V.int)]) = true := figRuns m hm
theorem run63 {m : Nat} (hm : m < 37) : leafOk (goodTup [(m : Int) - 9, 0]) (callBody (evs cfg0 29) fr63 [] [.int (16 * ((m : Int) - 9)), .int 16] []) = true := divRuns m hm
theorem figE_den {ρ : Rho} {a b c d : IE} {j : Nat} : (figE a b c d j).den ρ = figAt (a.den ρ) (b.den ρ) (c.den ρ) (d.den ρ) j := by
  show (figTab.map fun r => r.getD j 0).getD (a.den ρ + 2 * b.den ρ + 4 * c.den ρ + 8 * d.den ρ).toNat 0 = figAt _ _ _ _ j
  unfold figAt
  generalize (a.den ρ + 2 * b.den ρ + 4 * c.den ρ + 8 * d.den ρ).toNat = n
  rw [List.getD_eq_getElem?_getD, List.getElem?_map, List.getD_eq_getElem?_getD (l := figTab)]
  cases figTab[n]? <;> rfl
theorem balL_in : ∀ {n : Nat} {x : Int}, (balL n).any (fun k => x == k) = true → ∃ m : Nat, m < n ∧ x = 16 * ((m : Int) - 9)
  | 0, _, h => by cases h
  | n + 1, x, h => by
    have h : (x == 16 * ((n : Int) - 9) || (balL n).any (fun k => x == k)) = true := h
    rw [Bool.or_eq_true] at h
    rcases h with h | h
    · exact ⟨n, Nat.lt_succ_self n, eq_of_beq h⟩
    · obtain ⟨m, h1, h2⟩ := balL_in h
      exact ⟨m, Nat.lt_succ_of_lt h1, h2⟩

theorem cut96 (C : CfgOk cfg0 B) (R : Rep B st ad s.heap) (hh : A.handled = none) (hd : A.depth ≤ 400) (hu : A.units ≤ 4000) {k : Nat} {a : Addr} {f0 f1 f2 f3 : IE} (hst : st[k]? = some (.list [.si 0 1 f0, .si 0 1 f1, .si 0 1 f2, .si 0 1 f3]))
    (ha : adr ad k = some a) {Q : Value → Shared → Prop} (K : KV B ad s Q (.ref st.length, st ++ [.list (figL f0 f1 f2 f3)])) :
    IsFn s (.ref 96) ∧ wpAny (model prog w) A (call (.ref 96) [.ref a]) Q E s := by
  obtain ⟨ob, g1, g2⟩ := R.of hst ha
  obtain ⟨xs, m, g3, hxs⟩ : ∃ xs n, ob = { cls := .type "list", dict := none, data := .seq xs n, slots := #[] } ∧ VRs B.ρ ad [.si 0 1 f0, .si 0 1 f1, .si 0 1 f2, .si 0 1 f3] xs.toList := g2
  obtain ⟨_, b0, b1, b2, b3⟩ := hxs.si4
  obtain ⟨n, hn, e1, e2, e3⟩ := figCases b0 b1 b2 b3
  have R1 := R.iso1 ha hst (o1 := .list ((bitsOf n).map V.int)) fun ob' H => OR.four_of e1 H
  refine call_ok (by decide) (evs_snd (by decide : 600 ≤ 999) (noCut prog w 600 6000) 39) (C.base s.heap 1) R1 ⟨by decide, hh, by omega, by omega⟩ fns96 (args := [.ref 0]) (.cons ⟨a, rfl, rfl⟩ .nil) (run96 hn) (fun p hg => fun ad1 h' tk v l1 R2 hv => ?_)
  obtain ⟨pv, led⟩ := p
  unfold goodFig at hg
  cases pv with
  | ref i =>
    obtain ⟨x, hxi, rfl⟩ : ∃ a, adr ad1 i = some a ∧ v = .ref a := hv
    dsimp only at hg
    split at hg
    · rename_i vs ws hi hvs hws
      rw [Bool.and_eq_true] at hg
      have ev := intsB_eq hg.1
      have ew := intsB_eq hg.2
      rw [ev] at hvs
      rw [ew] at hws
      have ha0 : adr ad1 0 = some a := l1.of rfl
      have R3 := R.back (m := 1) (o'' := .list (figL f0 f1 f2 f3)) R2
        (fun j b hj e => by
          have : j = 0 := by omega
          subst this
          rw [ha0] at e; cases e; exact ⟨k, ha⟩)
        (Nat.le_of_ble_eq_true hi) hxi hvs
        (fun j b hj e => by
          have : j = 0 := by omega
          subst this
          rw [ha0] at e; cases e
          obtain ⟨ob', q1, q2⟩ := R2.of hws ha0
          refine ⟨ob', q1, fun j o hj2 ho => ?_⟩
          have hjk := R.inj j k a hj2 ha
          subst hjk
          rw [hst] at ho; cases ho
          exact OR.four_to e1 b0 b1 b2 b3 q2)
        (fun ob' H => OR.four_to (by rw [figE_den, figE_den, figE_den, figE_den]; exact e2) (by rw [figE_den]; exact e3 0 (by decide)) (by rw [figE_den]; exact e3 1 (by decide)) (by rw [figE_den]; exact e3 2 (by decide)) (by rw [figE_den]; exact e3 3 (by decide)) H)
      exact K (ad ++ [some x]) h' tk (.ref x) (Le.app _ _) R3 ⟨x, by rw [adr_app, R.len, if_pos rfl], rfl⟩
    · cases hg
  | _ => cases hg

theorem cut63 (C : CfgOk cfg0 B) (R : Rep B st ad s.heap) (hh : A.handled = none) (hd : A.depth ≤ 400) (hu : A.units ≤ 4000) {t : IE} {u v : Tok}
    (hr : (BE.isIn t (balL 37)).den B.ρ = true) {Q : Value → Shared → Prop} (K : KV B ad s Q (.ref st.length, st ++ [.tuple [.si (-9) 27 (.div t), .int 0]])) :
    IsFn s (.ref 63) ∧ wpAny (model prog w) A (call (.ref 63) [.int (t.den B.ρ) u, .int 16 v]) Q E s := by
  obtain ⟨n, hn, et⟩ := balL_in hr
  refine call_ok (by decide) (evs_snd (by decide : 600 ≤ 999) (noCut prog w 600 6000) 29) (C.base s.heap 0) R.empty ⟨by decide, hh, by omega, by omega⟩ fns63 (args := [.int (16 * ((n : Int) - 9)), .int 16]) (.cons ⟨u, by rw [et]⟩ (.cons ⟨v, rfl⟩ .nil)) (run63 hn) (fun p hg => fun ad1 h' tk v l1 R2 hv => ?_)
  obtain ⟨pv, led⟩ := p
  unfold goodTup at hg
  cases pv with
  | ref i =>
    obtain ⟨x, hxi, rfl⟩ : ∃ a, adr ad1 i = some a ∧ v = .ref a := hv
    dsimp only at hg
    split at hg
    · rename_i vs hvs
      have ev := intsB_eq hg
      rw [ev] at hvs
      have e16 : (IE.div t).den B.ρ = (n : Int) - 9 := by show t.den B.ρ / 16 = _; omega
      have R3 := R.back (m := 0) (o'' := .tuple [.si (-9) 27 (.div t), .int 0]) R2 (fun j b hj e => absurd hj (Nat.not_lt_zero j)) (Nat.zero_le _) hxi hvs (fun j b hj e => absurd hj (Nat.not_lt_zero j))
        (fun ob' H => OR.two_to (f := .div t) (by rw [e16]) (by rw [e16]; omega) H)
      exact K (ad ++ [some x]) h' tk (.ref x) (Le.app _ _) R3 ⟨x, by rw [adr_app, R.len, if_pos rfl], rfl⟩
    · cases hg
  | _ => cases hg
end
end Mine

namespace Mine
noncomputable def fr42 : FnRec := fnOfS (.ref 41) (Str.ofString "_int2digits.<locals>.") progBody[6]?
theorem fns42 : cfg0.fns 42 = some fr42 := by kernel_rfl
noncomputable def goodArr (exp : List Int) (p : V × St) : Bool := match p.1 with
  | .ref i => match p.2[i]? with
    | some (O.arr vs) => intsB vs exp
    | _ => false
  | _ => false
noncomputable def bits5 (x : Int) : List Int := [x % 2, x / 2 % 2, x / 4 % 2, x / 8 % 2, x / 16 % 2]
theorem digRuns : allB 16 (fun n => leafOk (goodArr (bits5 (16 + (n : Int)))) (callBody (evs cfg0 29) fr42 [] [.int (16 + (n : Int)), .int 1] [])) = true := by decide +kernel
end Mine

namespace Mine
section
variable {prog : Program} {w : World} {D U n : Nat} {r : Evs} {B : Bs} {c : Cfg} {cx : Cx} {env : Env} {ad : Ad} {st : St} {s : Shared} {A : Around} {E : Value → Shared → Prop}

theorem run42 {m : Nat} (hm : m < 16) : leafOk (goodArr (bits5 (16 + (m : Int)))) (callBody (evs cfg0 29) fr42 [] [.int (16 + (m : Int)), .int 1] []) = true := allB_of digRuns m hm
theorem ints_flat : ∀ is : List Int, (is.map V.int).all flat = true
  | [] => rfl
  | _ :: r => ints_flat r
theorem OR.arr_ints {ρ : Rho} {ad ad2 : Ad} {h h' : Heap} {ob : Obj} {is : List Int} (H : OR ρ ad h ob (.arr (is.map V.int))) : OR ρ ad2 h' ob (.arr (is.map V.int)) := by
  obtain ⟨c, ys, m', he, hys⟩ := H
  exact ⟨c, ys, m', he, flat_vrs (B := ⟨ρ, h, 0, [], h, 0⟩) (ints_flat is) hys⟩

theorem cut42 (C : CfgOk cfg0 B) (R : Rep B st ad s.heap) (hh : A.handled = none) (hd : A.depth ≤ 450) (hu : A.units ≤ 4500) {x : Int} {u v : Tok} (hx : 16 ≤ x ∧ x < 32) {Q : Value → Shared → Prop} (K : KV B ad s Q (.ref st.length, st ++ [.arr ((bits5 x).map V.int)])) :
    IsFn s (.ref 42) ∧ wpAny (model prog w) A (call (.ref 42) [.int x u, .int 1 v]) Q E s := by
  obtain ⟨n, hn, et⟩ : ∃ n : Nat, n < 16 ∧ x = 16 + (n : Int) := ⟨(x - 16).toNat, by omega, by omega⟩
  subst et
  refine call_ok (by decide) (evs_snd (by decide : 600 ≤ 999) (noCut prog w 600 6000) 29) (C.base s.heap 0) R.empty ⟨by decide, hh, by omega, by omega⟩ fns42 (args := [.int (16 + (n : Int)), .int 1]) (.cons ⟨u, rfl⟩ (.cons ⟨v, rfl⟩ .nil)) (run42 hn) (fun p hg => fun ad1 h' tk v l1 R2 hv => ?_)
  obtain ⟨pv, led⟩ := p
  unfold goodArr at hg
  cases pv with
  | ref i =>
    obtain ⟨x, hxi, rfl⟩ : ∃ a, adr ad1 i = some a ∧ v = .ref a := hv
    dsimp only at hg
    split at hg
    · rename_i vs hvs
      have ev := intsB_eq hg
      rw [ev] at hvs
      have R3 := R.back (m := 0) (o'' := .arr ((bits5 (16 + (n : Int))).map V.int)) R2 (fun j b hj e => absurd hj (Nat.not_lt_zero j)) (Nat.zero_le _) hxi hvs (fun j b hj e => absurd hj (Nat.not_lt_zero j))
        (fun ob' H => OR.arr_ints H)
      exact K (ad ++ [some x]) h' tk (.ref x) (Le.app _ _) R3 ⟨x, by rw [adr_app, R.len, if_pos rfl], rfl⟩
    · cases hg
  | _ => cases hg

noncomputable def l16 : List Int := [16, 17, 18, 19, 20, 21, 22, 23, 24, 25, 26, 27, 28, 29, 30, 31]
theorem l16_in {x : Int} (h : l16.any (fun k => x == k) = true) : 16 ≤ x ∧ x < 32 := by
  obtain ⟨k, hk, e⟩ := List.any_eq_true.mp h
  rw [eq_of_beq e]
  exact (by decide : ∀ k ∈ [(16 : Int), 17, 18, 19, 20, 21, 22, 23, 24, 25, 26, 27, 28, 29, 30, 31], 16 ≤ k ∧ k < 32) k hk
theorem in_l16 {ρ : Rho} {x : Int} (h : 16 ≤ x ∧ x < 32) : (BE.isIn (.const x) l16).den ρ = true := by
  obtain ⟨n, hn, rfl⟩ : ∃ n : Nat, n < 16 ∧ x = 16 + (n : Int) := ⟨(x - 16).toNat, by omega, by omega⟩
  show l16.any (fun k => (16 + (n : Int)) == k) = true
  exact (by decide : ∀ n : Nat, n < 16 → [(16 : Int), 17, 18, 19, 20, 21, 22, 23, 24, 25, 26, 27, 28, 29, 30, 31].any (fun k => (16 + (n : Int)) == k) = true) n hn
noncomputable def cutA (a : Addr) (args : List V) (st : St) : Option (Res (V × St)) :=
  match a == 42 with
  | true => match args with
    | [.int x, .int y] => match decide (y = 1) with
      | true => some (.req (.isIn (.const x) l16) (newO (.arr ((bits5 x).map V.int)) st))
      | false => none
    | _ => none
  | false => none
noncomputable def cfgA : Cfg := { cfg0 with cut := cutA }
theorem CfgOk.zero (C : CfgOk cfgA B) : CfgOk cfg0 B := ⟨C.scr, C.glob, C.tops, C.lim, C.codes, C.inj, C.builtins, C.fns⟩

theorem cutA_ok (prog : Program) (w : World) : CutOk prog w 450 4500 cfgA := by
  constructor
  intro B ad st s A E Q a args vs x hx C R hh hd hu hv H
  replace hx : cutA a args st = some x := hx
  unfold cutA at hx
  split at hx
  · rename_i ha
    rw [eq_of_beq ha]
    split at hx
    · rename_i x' y'
      split at hx
      · rename_i hy
        cases hx
        obtain rfl := of_decide_eq_true hy
        obtain ⟨p, q, rfl, hp, hq⟩ := VRs.two' hv
        obtain ⟨u, rfl⟩ : ∃ t, p = .int x' t := hp
        obtain ⟨v, rfl⟩ : ∃ t, q = .int 1 t := hq
        exact cut42 C.zero R hh hd hu (l16_in H.1) H.2
      · cases hx
    · cases hx
  · cases hx

noncomputable def fr91 : FnRec := fnOfS .none Str.empty progBody[20]?
theorem fns91 : cfgA.fns 91 = some fr91 := by kernel_rfl
noncomputable def cx91 : Cx := (newCx fr91.scope [] .none Str.empty []).1
noncomputable def kv0 (p : Int) : List (Str × V) := [(Str.ofString "script", .old), (Str.ofString "place", .int p)]
noncomputable def kv1 (p N : Int) : List (Str × V) := [(Str.ofString "script", .old), (Str.ofString "place", .int p), (Str.ofString "number", .int N)]
noncomputable def kv2 (p N x : Int) : List (Str × V) := [(Str.ofString "script", .old), (Str.ofString "place", .int p), (Str.ofString "number", .int N), (Str.ofString "x", .int x)]
theorem head91 (p : Int) : storeAll cx91 (bindsA fr91.params [.old, .int p]) (newCx fr91.scope [] .none Str.empty []).2 = .leaf [.ns (kv0 p)] := by kernel_rfl
noncomputable abbrev rA : Evs := evs cfgA 8
theorem body91 : ∃ (b1 b3 : Stmt) (lb : List Stmt) (px q1 q2 q3 q4 q5 q6 q7 : Pos) (k1 k2 : Tok), fr91.body = [b1, .For (.Name (Str.ofString "x") px) (.Subscript (.Name (Str.ofString "script") q1) (.Slice (some (.Name (Str.ofString "place") q2)) (some (.Constant (.int 15) k1 q3)) (some (.Constant (.int 3) k2 q4)) q5) q6) lb [] q7, b3] ∧
    (∀ p, exS cfgA rA cx91 b1 [.ns (kv0 p)] = .leaf (.next, [.ns (kv1 p 12)])) ∧
    (∀ p N v vs, rA.exs cx91 lb [.ns (kv2 p N v), .list vs] = .leaf (.next, [.ns (kv2 p (N + v) v), .list vs])) ∧
    (∀ p N vs, exL cfgA rA cx91 [b3] [.ns (kv1 p N), .list vs] = .req (.isIn (.const (16 + N.fmod 16)) l16) (.leaf (.ret (.ref 3), [.ns (kv1 p N), .list vs, .arr ((bits5 (16 + N.fmod 16)).map V.int), .list (((bits5 (16 + N.fmod 16)).take 4).map V.int)]))) ∧
    (∀ p N v vs, exL cfgA rA cx91 [b3] [.ns (kv2 p N v), .list vs] = .req (.isIn (.const (16 + N.fmod 16)) l16) (.leaf (.ret (.ref 3), [.ns (kv2 p N v), .list vs, .arr ((bits5 (16 + N.fmod 16)).map V.int), .list (((bits5 (16 + N.fmod 16)).take 4).map V.int)]))) := by
  refine ⟨_, _, _, _, _, _, _, _, _, _, _, _, _, rfl, ?_, ?_, ?_, ?_⟩
  · intro p; kernel_rfl
  · intro p N v vs; kernel_rfl
  · intro p N vs; kernel_rfl
  · intro p N v vs; kernel_rfl
theorem sto1 (p N v : Int) (vs : List V) : storeN cx91 (Str.ofString "x") (.int v) [.ns (kv1 p N), .list vs] = .leaf [.ns (kv2 p N v), .list vs] := by kernel_rfl
theorem sto2 (p N v v' : Int) (vs : List V) : storeN cx91 (Str.ofString "x") (.int v') [.ns (kv2 p N v), .list vs] = .leaf [.ns (kv2 p N v'), .list vs] := by kernel_rfl
end
end Mine

namespace Mine
section
variable {prog : Program} {w : World} {D U n : Nat} {r : Evs} {B : Bs} {c : Cfg} {cx : Cx} {env : Env} {ad : Ad} {st : St} {s : Shared} {A : Around} {E : Value → Shared → Prop}

theorem sat_leaf {α : Type} {ρ : Rho} {x : Res α} {a : α} {q : α → Prop} (e : x = .leaf a) (h : q a) : x.sat ρ q := by rw [e]; exact h
theorem sat_req {α : Type} {ρ : Rho} {x : Res α} {f : BE} {a : α} {q : α → Prop} (e : x = .req f (.leaf a)) (h1 : f.den ρ = true) (h : q a) : x.sat ρ q := by rw [e]; exact ⟨h1, h⟩

theorem callFrame_leaf (C : CfgOk c B) (R : Rep B st ad s.heap) (hA : A.depth < 1000) {f : FnRec} {args : List V} {vs : List Value} {fa : Addr} (hfr : c.fns fa = some f) {Q : Value → Shared → Prop} {st1 : St} {cx1 : Cx}
    (hv : VRs B.ρ ad args vs) (h1 : isFun f.scope = true) (h2 : args.length = f.params.length) (h3 : (f.params.all fun n => ((f.params.zip args).lookup n).isSome) = true) (hcx : (newCx f.scope [] f.code f.qual []).1 = cx1)
    (e : storeAll cx1 (bindsA f.params args) (newCx f.scope [] f.code f.qual []).2 = .leaf st1)
    (H : ∀ ad1 g1 tk1 env, Rep { B with h₀ := s.heap, n0 := 0 } st1 ad1 g1 → EnvOk cx1 env ad1 →
      wpAny (model prog w) (A.deeper env) (execs f.body env) (fun fl s' => Q (match fl with | .ret v => v | _ => .none) s')
        (fun e s' => wpAny (model prog w) (A.deeper env) (leaving env e) (fun _ s'' => E e s'') (fun e' s'' => E e' s'') s') { s with heap := g1, toks := tk1 }) (hflat : args.all flat = true) :
    IsFn s (.ref fa) ∧ wpAny (model prog w) A (call (.ref fa) vs) Q E s := by
  obtain ⟨ob, fd, q1, q2, q3, q4, q5, q6, q7, q8, q9, q10, q11, q12⟩ := fn_at C R hfr
  subst hcx
  refine ⟨⟨fa, ob, fd, rfl, q1, q2⟩, wpAny_call (callFrame_code (C.base s.heap 0) R.empty hA q1 q2 q3 q4 q5 q6 q7 q8 q9 (cells := []) (fun x i e => by cases e) q11 q12 (flat_vrs hflat hv) h1 h2 h3 (sat_leaf e fun ad1 g1 tk1 env _ R1 hE => ?_))⟩
  exact H ad1 g1 tk1 env R1 hE

noncomputable def doneK (p : Int) (ms : List Int) (q : Flw × St) : Prop := q.1 = .next ∧ ∃ N kvs, q.2 = [.ns kvs, .list (ms.map V.int)] ∧ (kvs = kv1 p N ∨ ∃ v, kvs = kv2 p N v) ∧ N = 12 + ms.sum

theorem loop91 {ρ : Rho} {lb : List Stmt} (f2 : ∀ p N v vs, rA.exs cx91 lb [.ns (kv2 p N v), .list vs] = .leaf (.next, [.ns (kv2 p (N + v) v), .list vs])) (p : Int) (ms : List Int) :
    ∀ (rest done : List Int) (m : Nat) (kvs : List (Str × V)) (N : Int), ms = done ++ rest → rest.length < m → (kvs = kv1 p N ∨ ∃ v, kvs = kv2 p N v) → N = 12 + done.sum →
      (forV rA cx91 (Str.ofString "x") lb m (.lst 1 done.length) [.ns kvs, .list (ms.map V.int)]).sat ρ (doneK p ms) := by
  intro rest
  induction rest with
  | nil =>
    intro done m kvs N hm hl hk hN
    cases m with
    | zero => exact absurd hl (Nat.not_lt_zero _)
    | succ m =>
      have e : drawV (.lst 1 done.length) [.ns kvs, .list (ms.map V.int)] = .leaf none := by
        have : (ms.map V.int)[done.length]? = none := by rw [hm]; simp
        unfold drawV
        show (match (ms.map V.int)[done.length]? with | some v => Res.leaf (some (v, It.lst 1 (done.length + 1))) | none => .leaf none) = _
        rw [this]
      unfold forV
      rw [e]
      exact ⟨rfl, N, kvs, rfl, hk, by rw [hN, hm]; simp⟩
  | cons v rest ih =>
    intro done m kvs N hm hl hk hN
    cases m with
    | zero => exact absurd hl (Nat.not_lt_zero _)
    | succ m =>
      have e : drawV (.lst 1 done.length) [.ns kvs, .list (ms.map V.int)] = .leaf (some (.int v, .lst 1 (done.length + 1))) := by
        have : (ms.map V.int)[done.length]? = some (.int v) := by rw [hm]; simp
        unfold drawV
        show (match (ms.map V.int)[done.length]? with | some v => Res.leaf (some (v, It.lst 1 (done.length + 1))) | none => .leaf none) = _
        rw [this]
      have e2 : storeN cx91 (Str.ofString "x") (.int v) [.ns kvs, .list (ms.map V.int)] = .leaf [.ns (kv2 p N v), .list (ms.map V.int)] := by
        rcases hk with rfl | ⟨v', rfl⟩
        · exact sto1 p N v _
        · exact sto2 p N v' v _
      unfold forV
      rw [e]
      show ((storeN cx91 (Str.ofString "x") (.int v) [.ns kvs, .list (ms.map V.int)]).bnd fun st1 => (rA.exs cx91 lb st1).bnd fun q => match q.1 with
        | .next => forV rA cx91 (Str.ofString "x") lb m (.lst 1 (done.length + 1)) q.2
        | .ret v => .leaf (.ret v, q.2)).sat ρ (doneK p ms)
      rw [e2]
      show ((rA.exs cx91 lb [.ns (kv2 p N v), .list (ms.map V.int)]).bnd fun q => match q.1 with
        | .next => forV rA cx91 (Str.ofString "x") lb m (.lst 1 (done.length + 1)) q.2
        | .ret v => .leaf (.ret v, q.2)).sat ρ (doneK p ms)
      rw [f2]
      have := ih (done ++ [v]) m (kv2 p (N + v) v) (N + v) (by rw [hm]; simp) (by simp at hl; omega) (.inr ⟨v, rfl⟩) (by rw [hN]; simp; omega)
      rw [List.length_append] at this
      exact this
end
end Mine

namespace Mine
section
variable {prog : Program} {w : World} {D U n : Nat} {r : Evs} {B : Bs} {c : Cfg} {cx : Cx} {env : Env} {ad : Ad} {st : St} {s : Shared} {A : Around} {E : Value → Shared → Prop}

theorem vrs_ints {ρ : Rho} {ad : Ad} : ∀ {vs : List Value} {ns : List Int}, IntsAre vs ns → VRs ρ ad (ns.map V.int) vs
  | _, _, .nil => .nil
  | _, _, .cons n t h => .cons ⟨t, rfl⟩ (vrs_ints h)

theorem parts91 (p N : Int) {q1 q2 q3 q4 : Pos} {k1 k2 : Tok} :
    loadN cfgA cx91 (Str.ofString "script") [.ns (kv1 p N)] = .leaf (.old, [.ns (kv1 p N)]) ∧ evOpt rA cx91 (some (.Name (Str.ofString "place") q2)) [.ns (kv1 p N)] = .leaf (.int p, [.ns (kv1 p N)]) ∧
    evOpt rA cx91 (some (.Constant (.int 15) k1 q3)) [.ns (kv1 p N)] = .leaf (.int 15, [.ns (kv1 p N)]) ∧ evOpt rA cx91 (some (.Constant (.int 3) k2 q4)) [.ns (kv1 p N)] = .leaf (.int 3, [.ns (kv1 p N)]) := by
  refine ⟨?_, ?_, ?_, ?_⟩ <;> kernel_rfl

/-- the script's part at every third place -/
theorem slice91 (SA : Snd prog w D U cfgA 8 rA) (C : CfgOk cfgA B) (hr : Room D U 8 A) {p N : Int} (hE : EnvOk cx91 env ad) (R : Rep B [.ns (kv1 p N)] ad s.heap) {q1 q2 q3 q4 q5 q6 : Pos} {k1 k2 : Tok} {xs : List Value} {ns : List Int} (hl : B.T.IsList B.ρ.script xs.toArray) (hi : IntsAre xs ns) (hlen : ns.length ≤ 63)
    {Q : Value → Shared → Prop} (K : ∀ ad' h' tk v, Le ad ad' → Rep B [.ns (kv1 p N), .list ((pickNums ns (some p) (some 15) (some 3)).map V.int)] ad' h' → VR B.ρ ad' (.ref 1) v → Q v { s with heap := h', toks := tk }) :
    wpAny (model prog w) A (eval (.Subscript (.Name (Str.ofString "script") q1) (.Slice (some (.Name (Str.ofString "place") q2)) (some (.Constant (.int 15) k1 q3)) (some (.Constant (.int 3) k2 q4)) q5) q6) env) Q E s := by
  obtain ⟨g1, g2, g3, g4⟩ := parts91 p N (q1 := q1) (q2 := q2) (q3 := q3) (q4 := q4) (k1 := k1) (k2 := k2)
  refine Subscript_ (eval_Name_wp C hE R (sat_leaf g1 fun ad1 h1 tk1 x1 l1 R1 v1 => ?_))
  refine wpAny_Slice (evOpt_wp (s := { s with heap := h1, toks := tk1 }) SA C (hE.mono l1) R1 hr (sat_leaf g2 fun ad2 h2 tk2 x2 l2 R2 v2 => ?_))
  refine evOpt_wp (s := { s with heap := h2, toks := tk2 }) SA C (hE.mono (l1.trans l2)) R2 hr (sat_leaf g3 fun ad3 h3 tk3 x3 l3 R3 v3 => ?_)
  refine evOpt_wp (s := { s with heap := h3, toks := tk3 }) SA C (hE.mono ((l1.trans l2).trans l3)) R3 hr (sat_leaf g4 fun ad4 h4 tk4 x4 l4 R4 v4 => ?_)
  obtain rfl : x1 = .ref B.ρ.script := v1
  obtain ⟨t2, rfl⟩ : ∃ t, x2 = .int p t := v2
  obtain ⟨t3, rfl⟩ : ∃ t, x3 = .int 15 t := v3
  obtain ⟨t4, rfl⟩ : ∃ t, x4 = .int 3 t := v4
  obtain ⟨sl, sP, _⟩ := C.scr
  have R5 : Rep B [.ns (kv1 p N)] ad4 (h4.push { cls := .type "slice", data := .fields #[.int p t2, .int 15 t3, .int 3 t4] }) := R4.ext fun _ _ e => Heap.get?_push_of_some _ e
  have hl5 : (h4.push { cls := .type "slice", data := .fields #[.int p t2, .int 15 t3, .int 3 t4] }).IsList B.ρ.script xs.toArray := by
    obtain ⟨o, e, r⟩ := hl
    exact ⟨o, R5.top _ _ e sl sP, r⟩
  have hsz : xs.length ≤ 63 := by rw [hi.length]; exact hlen
  refine (tail_of (s := { s with heap := h4.push { cls := .type "slice", data := .fields #[.int p t2, .int 15 t3, .int 3 t4] }, toks := tk4 }) (IsList.typeIs hl5) F.slot_list_getitem.lookup
    (wpAny_getItem_list_slice (s := { s with heap := h4.push { cls := .type "slice", data := .fields #[.int p t2, .int 15 t3, .int 3 t4] }, toks := tk4 }) hl5 (Heap.IsSliceOf.new _ _ _ _) (.int _ _) (.int _ _) (.int _ _) (by decide) ?_ (by rw [sizeLine_eq]; simp; omega))).go
  have hx : (h4.push { cls := .type "slice", data := .fields #[.int p t2, .int 15 t3, .int 3 t4] }).get? (h4.push { cls := .type "slice", data := .fields #[.int p t2, .int 15 t3, .int 3 t4] }).objs.size = none := get_size
  have R6 := R5.add (h' := (h4.push { cls := .type "slice", data := .fields #[.int p t2, .int 15 t3, .int 3 t4] }).push { cls := .type "list", data := .seq (slicePick xs.toArray (some p) (some 15) (some 3)) }) (x := (h4.push { cls := .type "slice", data := .fields #[.int p t2, .int 15 t3, .int 3 t4] }).objs.size) (o := .list ((pickNums ns (some p) (some 15) (some 3)).map V.int)) hx (fun b o e => Heap.get?_push_of_some _ e)
    ⟨_, Heap.get?_push_size _ rfl, _, _, rfl, vrs_ints (hi.pick (some p) (some 15) (some 3))⟩
  have hlen4 : ad4.length = 1 := R4.len.symm
  exact K _ _ tk4 _ ((((l1.trans l2).trans l3).trans l4).trans (Le.app _ _)) R6 ⟨_, by rw [adr_app, hlen4, if_pos rfl], rfl⟩

theorem bits_bitF {ρ : Rho} {p : Nat} {N : Int} (h : N.fmod 16 = ((ρ.code / 16 ^ p % 16 : Nat) : Int)) : (bits5 (16 + N.fmod 16)).take 4 = [(IE.bit p 0).den ρ, (IE.bit p 1).den ρ, (IE.bit p 2).den ρ, (IE.bit p 3).den ρ] := by
  rw [h]
  show _ = [((ρ.code / 16 ^ p / 2 ^ 0 % 2 : Nat) : Int), ((ρ.code / 16 ^ p / 2 ^ 1 % 2 : Nat) : Int), ((ρ.code / 16 ^ p / 2 ^ 2 % 2 : Nat) : Int), ((ρ.code / 16 ^ p / 2 ^ 3 % 2 : Nat) : Int)]
  generalize ρ.code / 16 ^ p = y
  show [_, _, _, _] = _
  have e0 : (16 + ((y % 16 : Nat) : Int)) % 2 = ((y / 2 ^ 0 % 2 : Nat) : Int) := by simp only [Nat.pow_zero, Nat.div_one]; omega
  have e1 : (16 + ((y % 16 : Nat) : Int)) / 2 % 2 = ((y / 2 ^ 1 % 2 : Nat) : Int) := by simp only [show (2:Nat) ^ 1 = 2 from rfl]; omega
  have e2 : (16 + ((y % 16 : Nat) : Int)) / 4 % 2 = ((y / 2 ^ 2 % 2 : Nat) : Int) := by simp only [show (2:Nat) ^ 2 = 4 from rfl]; omega
  have e3 : (16 + ((y % 16 : Nat) : Int)) / 8 % 2 = ((y / 2 ^ 3 % 2 : Nat) : Int) := by simp only [show (2:Nat) ^ 3 = 8 from rfl]; omega
  rw [e0, e1, e2, e3]

theorem bitF_in (p i : Nat) (ρ : Rho) : 0 ≤ (IE.bit p i).den ρ ∧ (IE.bit p i).den ρ ≤ 1 := by
  show 0 ≤ ((ρ.code / 16 ^ p / 2 ^ i % 2 : Nat) : Int) ∧ ((ρ.code / 16 ^ p / 2 ^ i % 2 : Nat) : Int) ≤ 1
  omega

theorem cut91 (C : CfgOk cfgA B) (R : Rep B st ad s.heap) (hh : A.handled = none) (hd : A.depth ≤ 400) (hu : A.units ≤ 4000) {p : Nat} (hp : p < 3) {t : Tok} {Q : Value → Shared → Prop} (K : KV B ad s Q (.ref st.length, st ++ [.list (bitL p)])) :
    IsFn s (.ref 91) ∧ wpAny (model prog w) A (call (.ref 91) [.ref B.ρ.script, .int p t]) Q E s := by
  obtain ⟨_, _, xs, ns, hl, hi, hlen, hcode⟩ := C.scr
  refine callFrame_leaf C R (by omega) fns91 (args := [.old, .int p]) (st1 := [.ns (kv0 p)]) (cx1 := cx91) (.cons rfl (.cons ⟨t, rfl⟩ .nil)) (by kernel_rfl) (by kernel_rfl) (by kernel_rfl) (by kernel_rfl) (head91 p) (fun ad1 g1 tk1 env R1 hE => ?_) rfl
  have SA : Snd prog w 450 4500 cfgA 8 rA := evs_snd (by decide) (cutA_ok prog w) 8
  have C' : CfgOk cfgA { B with h₀ := s.heap, n0 := 0 } := C.base s.heap 0
  have hr : Room 450 4500 8 (A.deeper env) := ⟨by decide, hh, (by show A.depth + 1 + 8 ≤ 450; omega), (by show A.units + 3 + 8 * 8 ≤ 4500; omega)⟩
  obtain ⟨b1, b3, lb, px, q1, q2, q3, q4, q5, q6, q7, k1, k2, hb, f1, f2, f3, f4⟩ := body91
  rw [hb]
  refine wpAny_execs_cons (exS_wp (s := { s with heap := g1, toks := tk1 }) SA C' hE R1 hr (sat_leaf (f1 p) fun ad2 g2 tk2 fl l2 R2 hf => ?_))
  obtain rfl : fl = .next := hf
  refine wpAny_execs_cons (wpAny_For (slice91 (s := { s with heap := g2, toks := tk2 }) SA C' hr (hE.mono l2) R2 hl hi hlen fun ad3 g3 tk3 v l3 R3 hv => ?_) (fun _ => rfl))
  refine (iterV_wp (s := { s with heap := g3, toks := tk3 }) R3 hv (sat_leaf (a := .lst 1 0) rfl fun g4 pI R4 L4 hi4 => ?_)).go
  have hml : (pickNums ns (some (p : Int)) (some 15) (some 3)).length < 64 := Nat.lt_of_le_of_lt (length_pickNums_le hi _ _ _) (by omega)
  refine forV_wp (s := { s with heap := g4, toks := tk3 }) SA C' (hE.mono (l2.trans l3)) R4 hr L4 hi4 (loop91 f2 p _ _ [] 64 (kv1 p 12) 12 rfl hml (.inl rfl) rfl) fun q ad5 g5 tk5 fl5 l5 R5 hf5 Kq => ?_
  obtain ⟨qf, qs⟩ := q
  obtain ⟨k1', N, kvs, k2', k3', k4'⟩ := Kq
  obtain rfl : qf = .next := k1'
  obtain rfl : fl5 = .next := hf5
  obtain rfl : qs = _ := k2'
  have hc := hcode p hp
  rw [← k4'] at hc
  have hrng : (BE.isIn (.const (16 + N.fmod 16)) l16).den B.ρ = true := in_l16 (by rw [hc]; omega)
  have fin : ∀ kvs, (exL cfgA rA cx91 [b3] [.ns kvs, .list ((pickNums ns (some (p : Int)) (some 15) (some 3)).map V.int)] = .req (.isIn (.const (16 + N.fmod 16)) l16) (.leaf (.ret (.ref 3), [.ns kvs, .list ((pickNums ns (some (p : Int)) (some 15) (some 3)).map V.int), .arr ((bits5 (16 + N.fmod 16)).map V.int), .list (((bits5 (16 + N.fmod 16)).take 4).map V.int)]))) →
      Rep { B with h₀ := s.heap, n0 := 0 } [.ns kvs, .list ((pickNums ns (some (p : Int)) (some 15) (some 3)).map V.int)] ad5 g5 → wpAny (model prog w) (A.deeper env) (execs [b3] env) (fun fl s' => Q (match fl with | .ret v => v | _ => .none) s')
        (fun e s' => wpAny (model prog w) (A.deeper env) (leaving env e) (fun _ s'' => E e s'') (fun e' s'' => E e' s'') s') { s with heap := g5, toks := tk5 } := fun kvs e R5 => by
    refine exL_wp (s := { s with heap := g5, toks := tk5 }) SA C' hr [b3] (hE.mono ((l2.trans l3).trans l5)) R5 (sat_req e hrng fun ad6 g6 tk6 fl6 l6 R6 hf6 => ?_)
    obtain ⟨x, rfl, hx⟩ : ∃ x, fl6 = .ret x ∧ VR B.ρ ad6 (.ref 3) x := hf6
    obtain ⟨a, ha, rfl⟩ : ∃ a, adr ad6 3 = some a ∧ x = .ref a := hx
    have R7 := R.back (m := 0) (i := 3) (x := a) (o'' := .list (bitL p)) R6 (fun j b hj e => absurd hj (Nat.not_lt_zero j)) (Nat.zero_le _) ha rfl (fun j b hj e => absurd hj (Nat.not_lt_zero j))
      (fun ob' H => OR.four_to (bits_bitF hc) (bitF_in p 0 _) (bitF_in p 1 _) (bitF_in p 2 _) (bitF_in p 3 _) H)
    exact K (ad ++ [some a]) g6 tk6 (.ref a) (Le.app _ _) R7 ⟨a, by rw [adr_app, R.len, if_pos rfl], rfl⟩
  rcases k3' with rfl | ⟨v', rfl⟩
  · exact fin _ (f3 p N _) R5
  · exact fin _ (f4 p N v' _) R5
end
end Mine

namespace Mine

noncomputable def recAt (h : Heap) (fd : FuncData) : Bool := match fd.code with
  | .ref cd => cd != 37 && cd != 44 && (match h.get? cd with
    | some o => match o.data with
      | .fields vs => match (vs[1]? : Option Value) with
        | some (.str q _) => q == fd.qualname
        | _ => false
      | _ => false
    | none => false)
  | _ => false
noncomputable def sameStrs : List Str → List Str → Bool
  | [], [] => true
  | a :: r, b :: t => a == b && sameStrs r t
  | _, _ => false
theorem sameStrs_eq : ∀ {a b : List Str}, sameStrs a b = true → a = b
  | [], [], _ => rfl
  | x :: r, y :: t, h => by
    unfold sameStrs at h
    rw [Bool.and_eq_true] at h
    rw [eq_of_beq h.1, sameStrs_eq h.2]
  | [], _ :: _, h => by cases h
  | _ :: _, [], h => by cases h
noncomputable def isN : Value → Bool
  | .none => true
  | _ => false
theorem isN_eq {v : Value} (h : isN v = true) : v = .none := by cases v <;> first | rfl | (cases h)
noncomputable def fnRest (f : FnRec) (fd : FuncData) : Bool :=
  (fd.params.posonlyargs.isEmpty && sameStrs (fd.params.args.map (·.arg)) f.params && fd.params.vararg.isNone && fd.params.kwonlyargs.isEmpty && fd.params.kwarg.isNone && fd.params.kw_defaults.isEmpty && fd.params.defaults.isEmpty) &&
  (fd.globals == mainGlobals && fd.builtins == builtinsNs && isN fd.defaults && isN fd.kwdefaults && fd.closure.isEmpty) &&
  (match f.code, fd.code with
    | .none, _ => true
    | .ref x, .ref y => x == y && fd.qualname ++ Str.ofString ".<locals>." == f.qual
    | _, _ => false)
noncomputable def vrB : V → Value → Bool
  | .int i, .int j _ => i == j
  | .str s, .str t _ => s == t
  | .val (.ref a), .ref b => a == b
  | .val (.type a), .type b => a == b
  | .val (.builtin a), .builtin b => a == b
  | _, _ => false
theorem vrB_of {ρ : Rho} {ad : Ad} : ∀ {v : V} {y : Value}, vrB v y = true → VR ρ ad v y := by
  intro v y h
  unfold vrB at h
  split at h
  · exact ⟨_, by rw [eq_of_beq h]⟩
  · exact ⟨_, by rw [eq_of_beq h]⟩
  · show _ = _; rw [eq_of_beq h]
  · show _ = _; rw [eq_of_beq h]
  · show _ = _; rw [eq_of_beq h]
  · cases h
noncomputable def globB (es : Array DictEntry) (p : Str × V) : Bool := match nsFind es p.1 with
  | some y => vrB p.2 y
  | none => p.1 != "__name__" && (match bootBuiltins p.1 with
    | some y => vrB p.2 y
    | none => false)
noncomputable def globAll (es : Array DictEntry) : Bool := globT.all (globB es) && (match nsFind es "__builtins__" with
  | some (.ref 4) => true
  | _ => false)

noncomputable def fdH (h : Heap) (a : Addr) : Option FuncData := match h.get? a with
  | some o => match o.data with
    | .func fd => some fd
    | _ => none
  | none => none
noncomputable def restH (h : Heap) (p : Addr × FnRec) : Bool := match fdH h p.1 with
  | some fd => fnRest p.2 fd && recAt h fd && p.1 != 37 && p.1 != 44
  | none => false
noncomputable def lawIn (es : Array DictEntry) : Bool := match nsFind es "law" with
  | some (.ref 132) => true
  | _ => false
noncomputable def globH (h : Heap) : Bool := match h.get? mainGlobals with
  | some o => match o.data with
    | .dict es _ => globAll es && lawIn es
    | _ => false
  | none => false
noncomputable def tabB (h : Heap) (c P : Addr) : Bool := match h.get? c with
  | some o => codeHdIn [(c, o)] c P
  | none => false
noncomputable def fnTL : List (Addr × FnRec) := (132, lawF) :: fnT
abbrev Seen := List (Option (FuncBody × Scope)) × List (Option Obj) × Bool
noncomputable def seenH (h : Heap) : Seen := (fnTL.map fun p => (fdH h p.1).map fun fd => (fd.body, fd.scope), [h.get? 44, h.get? 37], fnTL.all (restH h) && globH h && tabB h 48 44 && tabB h 41 37)
noncomputable def seenOk : Seen := (fnTL.map fun p => some (.stmts p.2.body, p.2.scope), [some (tabObj #[]), some (tabObj #[])], true)

structure FnH (h : Heap) (a : Addr) (f : FnRec) : Prop where
  it : ∃ ob fd cd co vs t, h.get? a = some ob ∧ ob.data = .func fd ∧ fd.body = .stmts f.body ∧ fd.scope = f.scope ∧ fnRest f fd = true ∧ (a ≠ 37 ∧ a ≠ 44) ∧ fd.code = .ref cd ∧ (cd ≠ 37 ∧ cd ≠ 44) ∧ h.get? cd = some co ∧ co.data = .fields vs ∧ vs[1]? = some (.str fd.qualname t)
structure Facts (h : Heap) : Prop where
  fns : ∀ p ∈ fnTL, FnH h p.1 p.2
  glob : ∃ o es ep, h.get? mainGlobals = some o ∧ o.data = .dict es ep ∧ globAll es = true ∧ lawIn es = true
  tabs : TabsAt [(48, 44), (41, 37)] h

theorem Facts.keeps {h h' : Heap} (F : Facts h) (k : ∀ b o, h.get? b = some o → h'.get? b = some o) : Facts h' := by
  refine ⟨fun p hp => ?_, ?_, fun q hq => ⟨(F.tabs q hq).1.keeps k, k _ _ (F.tabs q hq).2⟩⟩
  · obtain ⟨ob, fd, cd, co, vs, t, e1, e2, e3, e4, e5, e6, e7, e8, e9, e10⟩ := (F.fns p hp).it
    exact ⟨ob, fd, cd, co, vs, t, k _ _ e1, e2, e3, e4, e5, e6, e7, e8, k _ _ e9, e10⟩
  · obtain ⟨o, es, ep, e1, r⟩ := F.glob
    exact ⟨o, es, ep, k _ _ e1, r⟩

theorem tabB_of {h : Heap} {c P : Addr} (e : tabB h c P = true) : CodeHd h c P := by
  unfold tabB at e
  split at e
  · rename_i o ho
    refine codeHd_of_K (K := [(c, o)]) (fun a o' h' => ?_) e
    rw [List.lookup_cons] at h'
    split at h'
    · rename_i hac
      cases h'
      rw [eq_of_beq hac]; exact ho
    · cases h'
  · cases e

theorem facts_of {h : Heap} (e : seenH h = seenOk) : Facts h := by
  have e1 := (Prod.mk.inj e).1
  have e2 := (Prod.mk.inj (Prod.mk.inj e).2).1
  have e3 := (Prod.mk.inj (Prod.mk.inj e).2).2
  simp only [Bool.and_eq_true] at e3
  obtain ⟨⟨⟨r1, r2⟩, r3⟩, r4⟩ := e3
  have e1 := List.map_inj_left.mp e1
  refine ⟨fun p hp => ?_, ?_, ?_⟩
  · have b := e1 p hp
    have r := List.all_eq_true.mp r1 p hp
    unfold restH at r
    cases q : fdH h p.1 with
    | none => rw [q] at b; cases b
    | some fd =>
      rw [q] at b r
      simp only [Option.map_some, Option.some.injEq, Prod.mk.injEq] at b
      simp only [Bool.and_eq_true, bne_iff_ne, ne_eq] at r
      obtain ⟨⟨⟨f1, f2⟩, f3⟩, f4⟩ := r
      unfold fdH at q
      split at q
      · rename_i o ho
        split at q
        · rename_i fd' hd
          cases q
          unfold recAt at f2
          split at f2
          · rename_i cd hcd
            simp only [Bool.and_eq_true, bne_iff_ne, ne_eq] at f2
            obtain ⟨⟨n1, n2⟩, f2⟩ := f2
            split at f2
            · rename_i co hco
              split at f2
              · rename_i vs hvs
                split at f2
                · rename_i qn t hq
                  exact ⟨o, fd, cd, co, vs, t, ho, hd, b.1, b.2, f1, ⟨f3, f4⟩, hcd, ⟨n1, n2⟩, hco, hvs, by rw [hq, eq_of_beq f2]⟩
                · cases f2
              · cases f2
            · cases f2
          · cases f2
        · cases q
      · cases q
  · unfold globH at r2
    split at r2
    · rename_i o ho
      split at r2
      · rename_i es ep hd
        rw [Bool.and_eq_true] at r2
        exact ⟨o, es, ep, ho, hd, r2.1, r2.2⟩
      · cases r2
    · cases r2
  · intro q hq
    simp only [List.mem_cons, List.not_mem_nil, or_false] at hq
    rcases hq with rfl | rfl
    · exact ⟨tabB_of r3, (List.cons.inj e2).1⟩
    · exact ⟨tabB_of r4, (List.cons.inj (List.cons.inj e2).2).1⟩

theorem fnH_of {h : Heap} {a : Addr} {f : FnRec} (H : FnH h a f) {codes : List CodeAt} (hc : codes.map (·.P) = [37, 44]) : a < h.objs.size ∧ a ∉ codes.map (·.P) ∧ ∃ ob fd, h.get? a = some ob ∧ ob.data = .func fd ∧ plainArgs f.params fd.params ∧ fd.body = .stmts f.body ∧ fd.scope = f.scope ∧
    fd.globals = mainGlobals ∧ fd.builtins = builtinsNs ∧ fd.defaults = .none ∧ fd.kwdefaults = .none ∧ fd.closure = [] ∧ (f.code = .none ∨ fd.code = f.code ∧ fd.qualname ++ Str.ofString ".<locals>." = f.qual) ∧
    ∃ cd co vs t, fd.code = .ref cd ∧ cd < h.objs.size ∧ cd ∉ codes.map (·.P) ∧ h.get? cd = some co ∧ co.data = .fields vs ∧ vs[1]? = some (.str fd.qualname t) := by
  obtain ⟨ob, fd, cd, co, vs, t, e1, e2, e3, e4, e5, e6, e7, e8, e9, e10, e11⟩ := H.it
  unfold fnRest at e5
  simp only [Bool.and_eq_true] at e5
  obtain ⟨⟨⟨⟨⟨⟨⟨⟨p1, p2⟩, p3⟩, p4⟩, p5⟩, p6⟩, p7⟩, ⟨⟨⟨⟨g1, g2⟩, g3⟩, g4⟩, g5⟩⟩, c1⟩ := e5
  refine ⟨Heap.lt_size e1, by rw [hc]; simp [e6], ob, fd, e1, e2, ⟨by simpa using p1, sameStrs_eq p2, by simpa using p3, by simpa using p4, by simpa using p5, by simpa using p6, by simpa using p7⟩, e3, e4, eq_of_beq g1, eq_of_beq g2, isN_eq g3, isN_eq g4, by simpa using g5, ?_, cd, co, vs, t, e7, Heap.lt_size e9, by rw [hc]; simp [e8], e9, e10, e11⟩
  split at c1
  · rename_i hn; exact .inl hn
  · rename_i x y hx hy
    rw [Bool.and_eq_true] at c1
    exact .inr ⟨by rw [hx, hy, eq_of_beq c1.1], eq_of_beq c1.2⟩
  · cases c1

noncomputable def B0 (ρ : Rho) (h : Heap) : Bs := ⟨ρ, h, h.objs.size, codesT, h, 0⟩
theorem codesT_P : codesT.map (·.P) = [37, 44] := by kernel_rfl
theorem codesT_inj : ∀ k ∈ codesT, ∀ k' ∈ codesT, k.P = k'.P → k = k' := by
  intro k hk k' hk' e
  unfold codesT at hk hk'
  simp only [List.mem_cons, List.not_mem_nil, or_false] at hk hk'
  rcases hk with rfl | rfl <;> rcases hk' with rfl | rfl
  · rfl
  · exact absurd e (by decide)
  · exact absurd e (by decide)
  · rfl

section
variable {p : Program} {loose : List Str} {mean : ExcName → Option Value} {mg mb : Str → Option Value} {h : Heap} {ρ : Rho}

theorem lookup_mem {α : Type} {l : List (Str × α)} {x : Str} {v : α} (e : l.lookup x = some v) : (x, v) ∈ l := by
  induction l with
  | nil => cases e
  | cons p r ih =>
    obtain ⟨y, w⟩ := p
    rw [List.lookup_cons] at e
    split at e
    · rename_i hxy
      cases e
      rw [eq_of_beq hxy]; exact .head _
    · exact .tail _ (ih e)
theorem lookup_memA {α : Type} {l : List (Addr × α)} {x : Addr} {v : α} (e : l.lookup x = some v) : (x, v) ∈ l := by
  induction l with
  | nil => cases e
  | cons p r ih =>
    obtain ⟨y, w⟩ := p
    rw [List.lookup_cons] at e
    split at e
    · rename_i hxy
      cases e
      rw [eq_of_beq hxy]; exact .head _
    · exact .tail _ (ih e)

theorem mg_of (X : Facts h) (T : Top p loose mean mg mb h) : ∃ es, globAll es = true ∧ lawIn es = true ∧ ∀ x, mg x = nsFind es x := by
  obtain ⟨o, es, ep, e1, e2, e3, e4⟩ := X.glob
  obtain ⟨o2, es2, ep2, a1, a2, _, a4⟩ := T.g
  rw [e1] at a1; cases a1
  rw [e2] at a2; cases a2
  exact ⟨es, e3, e4, fun x => (a4 x).symm⟩

theorem glob_of (X : Facts h) (T : Top p loose mean mg mb h) : (∀ x v, globT.lookup x = some v → ∃ y, (mg x = some y ∨ mg x = none ∧ mb x = some y) ∧ ∀ (ρ : Rho) ad, VR ρ ad v y) ∧ mg "__builtins__" = some (.ref 4) ∧ mg "law" = some (.ref 132) := by
  obtain ⟨es, e, el, e2⟩ := mg_of X T
  unfold globAll at e
  rw [Bool.and_eq_true] at e
  refine ⟨fun x v hx => ?_, ?_, ?_⟩
  · have hb := List.all_eq_true.mp e.1 _ (lookup_mem hx)
    unfold globB at hb
    split at hb
    · rename_i y hy
      exact ⟨y, .inl (by rw [e2]; exact hy), fun ρ ad => vrB_of hb⟩
    · rename_i hy
      rw [Bool.and_eq_true] at hb
      obtain ⟨n1, hb⟩ := hb
      split at hb
      · rename_i y hy2
        refine ⟨y, .inr ⟨by rw [e2]; exact hy, ?_⟩, fun ρ ad => vrB_of hb⟩
        rw [T.builtins x (by simpa using n1)]; exact hy2
      · cases hb
  · have e3 := e.2
    rw [e2]
    split at e3
    · rename_i q; exact q
    · cases e3
  · rw [e2]
    unfold lawIn at el
    split at el
    · rename_i q; exact q
    · cases el

theorem cfg_ok (X : Facts h) (T : Top p loose mean mg mb h) (hs : ScrOk (B0 ρ h)) {c : Cfg} (h1 : c.glob = fun x => globT.lookup x) (h2 : c.fns = fun a => fnT.lookup a) (h3 : c.codes = codesT) : CfgOk c (B0 ρ h) := by
  obtain ⟨g1, g2, _⟩ := glob_of X T
  have lt : ∀ {a m}, h.Ns a m → a < h.objs.size := fun ⟨o, _, _, e, _⟩ => Heap.lt_size e
  obtain ⟨bm, ob, b1, b2, b3, b4, b5, b6⟩ := T.bmain
  rw [g2] at b1; cases b1
  obtain ⟨mc, l1, l2⟩ := T.nolimit
  refine ⟨hs, fun x v hx => ?_, ⟨⟨lt T.g, ?_⟩, ⟨lt T.b, ?_⟩, ⟨lt l1, ?_⟩⟩, T.nolimit, h3, codesT_inj, ⟨mg, T.g, g2, Heap.lt_size b3, ?_, ob, b3, b4, b5, b6⟩, fun a f hf => ?_⟩
  · rw [h1] at hx
    obtain ⟨y, e1, e2⟩ := g1 x v hx
    exact ⟨mg, mb, y, T.g, T.b, e1, e2 ρ⟩
  · show mainGlobals ∉ codesT.map (·.P); rw [codesT_P]; decide
  · show builtinsNs ∉ codesT.map (·.P); rw [codesT_P]; decide
  · show cStatics ∉ codesT.map (·.P); rw [codesT_P]; decide
  · show 4 ∉ codesT.map (·.P); rw [codesT_P]; decide
  · rw [h2] at hf
    exact fnH_of (X.fns (a, f) (.tail _ (lookup_memA hf))) codesT_P

theorem rep0 (hT : TabsAt [(48, 44), (41, 37)] h) : Rep (B0 ρ h) [] [] h := by
  have no : ∀ a, ¬ Has [] a := fun a ⟨i, e⟩ => by unfold adr at e; simp at e
  refine ⟨rfl, fun i o e => by simp at e, fun i j a e _ => absurd ⟨i, e⟩ (no a), fun a h => absurd h (no a), fun b o e _ _ => e, fun b o e _ _ => e, fun i a _ e => absurd ⟨i, e⟩ (no a), Nat.le_refl _, fun k hk => ?_⟩
  have hq : (k.c, k.P) ∈ [((48 : Addr), (44 : Addr)), (41, 37)] := by
    have hk : k ∈ codesT := hk
    unfold codesT at hk
    simp only [List.mem_cons, List.not_mem_nil, or_false] at hk
    rcases hk with rfl | rfl
    · exact .tail _ (.head _)
    · exact .head _
  obtain ⟨a1, a2⟩ := hT _ hq
  exact ⟨no _, no _, #[], a1.code a2 trivial, a1.tab a2, .inl rfl⟩

/-- the code of a script -/
noncomputable def rem16 (ns : List Int) (p : Nat) : Nat := ((12 + (pickNums ns (some (p : Int)) (some 15) (some 3)).sum).fmod 16).toNat
noncomputable def codeOf (ns : List Int) : Nat := rem16 ns 0 + 16 * rem16 ns 1 + 256 * rem16 ns 2
theorem rem16_lt (ns : List Int) (p : Nat) : rem16 ns p < 16 ∧ (12 + (pickNums ns (some (p : Int)) (some 15) (some 3)).sum).fmod 16 = (rem16 ns p : Int) := by
  unfold rem16
  generalize (12 + (pickNums ns (some (p : Int)) (some 15) (some 3)).sum) = x
  have h1 : x.fmod 16 = x % 16 := Int.fmod_eq_emod_of_nonneg x (by decide)
  rw [h1]
  omega
theorem codeOf_lt (ns : List Int) : codeOf ns < 4096 := by
  have h0 := (rem16_lt ns 0).1
  have h1 := (rem16_lt ns 1).1
  have h2 := (rem16_lt ns 2).1
  unfold codeOf; omega
theorem scr_ok (hT : TabsAt [(48, 44), (41, 37)] h) {a : Addr} {xs : List Value} {ns : List Int} (hl : h.IsList a xs.toArray) (hi : IntsAre xs ns) (hn : ns.length ≤ 63) : ScrOk (B0 ⟨codeOf ns, a⟩ h) := by
  obtain ⟨o, ho, hc, r⟩ := hl
  refine ⟨Heap.lt_size ho, ?_, xs, ns, ⟨o, ho, hc, r⟩, hi, hn, fun p hp => ?_⟩
  · show a ∉ codesT.map (·.P)
    rw [codesT_P]
    intro hm
    simp only [List.mem_cons, List.not_mem_nil, or_false] at hm
    rcases hm with rfl | rfl
    · have := (hT _ (.tail _ (.head _))).2
      rw [ho] at this; cases this; cases hc
    · have := (hT _ (.head _)).2
      rw [ho] at this; cases this; cases hc
  · show _ = ((codeOf ns / 16 ^ p % 16 : Nat) : Int)
    rw [(rem16_lt ns p).2]
    have h0 := (rem16_lt ns 0).1
    have h1 := (rem16_lt ns 1).1
    have h2 := (rem16_lt ns 2).1
    unfold codeOf
    have : p = 0 ∨ p = 1 ∨ p = 2 := by omega
    rcases this with rfl | rfl | rfl
    · congr 1; omega
    · congr 1; omega
    · congr 1; omega
end
end Mine

namespace Mine

/-- all codes at once: a mask has a bit for each code -/
noncomputable def full : Nat := 2 ^ 4096 - 1
theorem full_bit {c : Nat} (h : c < 4096) : full.testBit c = true := by
  unfold full
  rw [Nat.testBit_two_pow_sub_one]
  exact decide_eq_true h
noncomputable def bm (k : Nat) : Nat → Nat
  | 0 => 0
  | n + 1 => match Nat.beq n k with
    | true => (2 ^ 2 ^ n - 1) <<< 2 ^ n
    | false => bm k n ||| (bm k n <<< 2 ^ n)
theorem bm_spec (k : Nat) : ∀ n, bm k n < 2 ^ 2 ^ n ∧ ∀ c, c < 2 ^ n → (bm k n).testBit c = (decide (k < n) && decide (c / 2 ^ k % 2 = 1)) := by
  intro n
  induction n with
  | zero => exact ⟨Nat.two_pow_pos _, fun c _ => by simp [bm]⟩
  | succ n ih =>
    obtain ⟨i1, i2⟩ := ih
    have hp : 2 ^ (n + 1) = 2 ^ n + 2 ^ n := by rw [Nat.pow_succ]; omega
    have hpp : 2 ^ 2 ^ (n + 1) = 2 ^ 2 ^ n * 2 ^ 2 ^ n := by rw [hp, Nat.pow_add]
    have pos : 0 < 2 ^ 2 ^ n := Nat.two_pow_pos _
    unfold bm
    cases hb : Nat.beq n k with
    | true =>
      have hk := Nat.eq_of_beq_eq_true hb
      subst hk
      constructor
      · show (2 ^ 2 ^ n - 1) <<< 2 ^ n < _
        rw [Nat.shiftLeft_eq, hpp]
        exact Nat.mul_lt_mul_of_pos_right (by omega) pos
      · intro c hc
        show ((2 ^ 2 ^ n - 1) <<< 2 ^ n).testBit c = _
        rw [Nat.testBit_shiftLeft, Nat.testBit_two_pow_sub_one]
        have h1 : decide (n < n + 1) = true := decide_eq_true (Nat.lt_succ_self n)
        rw [h1, Bool.true_and]
        by_cases hcn : 2 ^ n ≤ c
        · have e : c / 2 ^ n = 1 := by
            have : c = 2 ^ n * 1 + (c - 2 ^ n) := by omega
            rw [this, Nat.mul_add_div (Nat.two_pow_pos n), Nat.div_eq_of_lt (by omega)]
          rw [e]
          have a1 : decide (c ≥ 2 ^ n) = true := decide_eq_true hcn
          have a2 : decide (c - 2 ^ n < 2 ^ n) = true := decide_eq_true (by omega)
          rw [a1, a2]; rfl
        · have e : c / 2 ^ n = 0 := Nat.div_eq_of_lt (by omega)
          rw [e]
          have a1 : decide (c ≥ 2 ^ n) = false := decide_eq_false hcn
          rw [a1]; rfl
    | false =>
      have hk : n ≠ k := Nat.ne_of_beq_eq_false hb
      constructor
      · show bm k n ||| (bm k n <<< 2 ^ n) < _
        refine Nat.or_lt_two_pow ?_ ?_
        · exact Nat.lt_of_lt_of_le i1 (Nat.pow_le_pow_right (by decide) (Nat.pow_le_pow_right (by decide) (Nat.le_succ n)))
        · rw [Nat.shiftLeft_eq, hpp]
          exact Nat.mul_lt_mul_of_pos_right i1 pos
      · intro c hc
        show (bm k n ||| (bm k n <<< 2 ^ n)).testBit c = _
        rw [Nat.testBit_or, Nat.testBit_shiftLeft]
        have hlt : decide (k < n + 1) = decide (k < n) := by
          by_cases h : k < n
          · rw [decide_eq_true h, decide_eq_true (Nat.lt_succ_of_lt h)]
          · rw [decide_eq_false h, decide_eq_false (by omega)]
        rw [hlt]
        by_cases hcn : 2 ^ n ≤ c
        · have z : (bm k n).testBit c = false := Nat.testBit_lt_two_pow (Nat.lt_of_lt_of_le i1 (Nat.pow_le_pow_right (by decide) hcn))
          rw [z, Bool.false_or, decide_eq_true hcn, Bool.true_and, i2 (c - 2 ^ n) (by omega)]
          by_cases h : k < n
          · have e : c / 2 ^ k % 2 = (c - 2 ^ n) / 2 ^ k % 2 := by
              have h2 : 2 ^ n = 2 ^ k * (2 * 2 ^ (n - k - 1)) := by
                rw [← Nat.pow_succ', ← Nat.pow_add]; congr 1; omega
              have : c = 2 ^ k * (2 * 2 ^ (n - k - 1)) + (c - 2 ^ n) := by omega
              rw [this, Nat.mul_add_div (Nat.two_pow_pos k), ← this]
              omega
            rw [e]
          · rw [decide_eq_false h]; rfl
        · rw [decide_eq_false hcn, Bool.false_and, Bool.or_false, i2 c (by omega)]
noncomputable def bmT (k : Nat) : Nat := bm k 12
theorem bmT_bit {k c : Nat} (hc : c < 4096) : (bmT k).testBit c = decide (c / 2 ^ k % 2 = 1) := by
  unfold bmT
  rw [(bm_spec k 12).2 c hc]
  by_cases h : k < 12
  · rw [decide_eq_true h, Bool.true_and]
  · have : c / 2 ^ k = 0 := Nat.div_eq_of_lt (Nat.lt_of_lt_of_le hc (show 2 ^ 12 ≤ 2 ^ k from Nat.pow_le_pow_right (by decide) (by omega)))
    rw [decide_eq_false h, this]; rfl

/-- the values of a symbolic int, each with the codes at which it has it -/
abbrev Tab := List (Int × Nat)
noncomputable def eqI : Int → Int → Bool
  | .ofNat a, .ofNat b => Nat.beq a b
  | .negSucc a, .negSucc b => Nat.beq a b
  | _, _ => false
theorem eqI_iff : ∀ {a b : Int}, eqI a b = true ↔ a = b
  | .ofNat a, .ofNat b => ⟨fun h => congrArg Int.ofNat (Nat.eq_of_beq_eq_true h), fun h => by cases h; exact Nat.beq_refl a⟩
  | .negSucc a, .negSucc b => ⟨fun h => congrArg Int.negSucc (Nat.eq_of_beq_eq_true h), fun h => by cases h; exact Nat.beq_refl a⟩
  | .ofNat a, .negSucc b => ⟨fun h => (by cases h), fun h => (by cases h)⟩
  | .negSucc a, .ofNat b => ⟨fun h => (by cases h), fun h => (by cases h)⟩
noncomputable def put (v : Int) (m : Nat) : Tab → Tab
  | [] => [(v, m)]
  | (u, k) :: r => match eqI u v with
    | true => (u, k ||| m) :: r
    | false => (u, k) :: put v m r
noncomputable def ins (v : Int) (m : Nat) (t : Tab) : Tab := match m with
  | 0 => t
  | n + 1 => put v (n + 1) t
def InT (t : Tab) (c : Nat) (v : Int) : Prop := ∃ m, (v, m) ∈ t ∧ m.testBit c = true
theorem put_in {v : Int} {m c : Nat} {u : Int} : ∀ {t : Tab}, InT (put v m t) c u ↔ (u = v ∧ m.testBit c = true) ∨ InT t c u
  | [] => by
    constructor
    · rintro ⟨k, hk, hb⟩
      rcases List.mem_singleton.mp hk with h
      cases h
      exact .inl ⟨rfl, hb⟩
    · rintro (⟨rfl, hb⟩ | ⟨k, hk, _⟩)
      · exact ⟨m, .head _, hb⟩
      · cases hk
  | (w, k) :: r => by
    unfold put
    cases hw : eqI w v with
    | true =>
      have := eqI_iff.mp hw
      subst this
      constructor
      · rintro ⟨j, hj, hb⟩
        rcases List.mem_cons.mp hj with h | h
        · cases h
          rw [Nat.testBit_or, Bool.or_eq_true] at hb
          rcases hb with hb | hb
          · exact .inr ⟨k, .head _, hb⟩
          · exact .inl ⟨rfl, hb⟩
        · exact .inr ⟨j, .tail _ h, hb⟩
      · rintro (⟨rfl, hb⟩ | ⟨j, hj, hb⟩)
        · exact ⟨_, .head _, by rw [Nat.testBit_or, hb, Bool.or_true]⟩
        · rcases List.mem_cons.mp hj with h | h
          · cases h
            exact ⟨_, .head _, by rw [Nat.testBit_or, hb, Bool.true_or]⟩
          · exact ⟨j, .tail _ h, hb⟩
    | false =>
      have ih := put_in (v := v) (m := m) (c := c) (u := u) (t := r)
      constructor
      · rintro ⟨j, hj, hb⟩
        rcases List.mem_cons.mp hj with h | h
        · exact .inr ⟨j, by rw [h]; exact .head _, hb⟩
        · rcases ih.mp ⟨j, h, hb⟩ with h | ⟨i, hi, hb⟩
          · exact .inl h
          · exact .inr ⟨i, .tail _ hi, hb⟩
      · rintro (h | ⟨j, hj, hb⟩)
        · obtain ⟨i, hi, hb⟩ := ih.mpr (.inl h)
          exact ⟨i, .tail _ hi, hb⟩
        · rcases List.mem_cons.mp hj with h | h
          · exact ⟨j, by rw [h]; exact .head _, hb⟩
          · obtain ⟨i, hi, hb⟩ := ih.mpr (.inr ⟨j, h, hb⟩)
            exact ⟨i, .tail _ hi, hb⟩
theorem ins_in {v : Int} {m c : Nat} {u : Int} {t : Tab} : InT (ins v m t) c u ↔ (u = v ∧ m.testBit c = true) ∨ InT t c u := by
  unfold ins
  cases m with
  | zero => exact ⟨.inr, fun h => h.elim (fun h => by rw [Nat.zero_testBit] at h; cases h.2) id⟩
  | succ n => exact put_in

noncomputable def map1 (f : Int → Int) : Tab → Tab
  | [] => []
  | (v, m) :: r => ins (f v) m (map1 f r)
noncomputable def row (f : Int → Int → Int) (v : Int) (m : Nat) : Tab → Tab → Tab
  | [], acc => acc
  | (u, k) :: r, acc => ins (f v u) (m &&& k) (row f v m r acc)
noncomputable def bin (f : Int → Int → Int) (t : Tab) : Tab → Tab
  | [] => []
  | (v, m) :: r => row (fun a b => f b a) v m t (bin f t r)
theorem map1_in {f : Int → Int} {c : Nat} {u : Int} : ∀ {t : Tab}, InT (map1 f t) c u ↔ ∃ v, InT t c v ∧ u = f v
  | [] => ⟨fun ⟨_, h, _⟩ => (by cases h), fun ⟨_, ⟨_, h, _⟩, _⟩ => (by cases h)⟩
  | (v, m) :: r => by
    show InT (ins (f v) m (map1 f r)) c u ↔ _
    rw [ins_in, map1_in]
    constructor
    · rintro (⟨rfl, hb⟩ | ⟨w, ⟨j, hj, hb⟩, rfl⟩)
      · exact ⟨v, ⟨m, .head _, hb⟩, rfl⟩
      · exact ⟨w, ⟨j, .tail _ hj, hb⟩, rfl⟩
    · rintro ⟨w, ⟨j, hj, hb⟩, rfl⟩
      rcases List.mem_cons.mp hj with h | h
      · cases h; exact .inl ⟨rfl, hb⟩
      · exact .inr ⟨w, ⟨j, h, hb⟩, rfl⟩
theorem row_in {f : Int → Int → Int} {v : Int} {m c : Nat} {u : Int} {acc : Tab} : ∀ {t : Tab}, InT (row f v m t acc) c u ↔ (m.testBit c = true ∧ ∃ w, InT t c w ∧ u = f v w) ∨ InT acc c u
  | [] => ⟨.inr, fun h => h.elim (fun ⟨_, _, ⟨_, h, _⟩, _⟩ => by cases h) id⟩
  | (x, k) :: r => by
    show InT (ins (f v x) (m &&& k) (row f v m r acc)) c u ↔ _
    rw [ins_in, row_in, Nat.testBit_and, Bool.and_eq_true]
    constructor
    · rintro (⟨rfl, h1, h2⟩ | ⟨h1, w, ⟨j, hj, hb⟩, rfl⟩ | h)
      · exact .inl ⟨h1, x, ⟨k, .head _, h2⟩, rfl⟩
      · exact .inl ⟨h1, w, ⟨j, .tail _ hj, hb⟩, rfl⟩
      · exact .inr h
    · rintro (⟨h1, w, ⟨j, hj, hb⟩, rfl⟩ | h)
      · rcases List.mem_cons.mp hj with h | h
        · cases h; exact .inl ⟨rfl, h1, hb⟩
        · exact .inr (.inl ⟨h1, w, ⟨j, h, hb⟩, rfl⟩)
      · exact .inr (.inr h)
theorem bin_in {f : Int → Int → Int} {t : Tab} {c : Nat} {u : Int} : ∀ {s : Tab}, InT (bin f t s) c u ↔ ∃ x y, InT t c x ∧ InT s c y ∧ u = f x y
  | [] => ⟨fun ⟨_, h, _⟩ => (by cases h), fun ⟨_, _, _, ⟨_, h, _⟩, _⟩ => (by cases h)⟩
  | (v, m) :: r => by
    show InT (row (fun a b => f b a) v m t (bin f t r)) c u ↔ _
    rw [row_in, bin_in]
    constructor
    · rintro (⟨h1, w, hw, rfl⟩ | ⟨x, y, hx, ⟨j, hj, hb⟩, rfl⟩)
      · exact ⟨w, v, hw, ⟨m, .head _, h1⟩, rfl⟩
      · exact ⟨x, y, hx, ⟨j, .tail _ hj, hb⟩, rfl⟩
    · rintro ⟨x, y, hx, ⟨j, hj, hb⟩, rfl⟩
      rcases List.mem_cons.mp hj with h | h
      · cases h; exact .inl ⟨hb, x, hx, rfl⟩
      · exact .inr ⟨x, y, hx, ⟨j, h, hb⟩, rfl⟩

noncomputable def tabI (e : IE) : Tab :=
  IE.rec (fun p i => [(1, bmT (4 * p + i)), (0, full ^^^ bmT (4 * p + i))]) (fun k => [(k, full)]) (fun _ _ a b => bin (fun x y => x + y) a b) (fun _ _ a b => bin (fun x y => x - y) a b) (fun _ _ a b => bin (fun x y => x * y) a b)
    (fun l d _ a => map1 (fun v => l.getD v.toNat d) a) (fun _ a => map1 (fun v => v / 16) a) e
theorem bit_div (c p i : Nat) : c / 16 ^ p / 2 ^ i = c / 2 ^ (4 * p + i) := by
  rw [Nat.div_div_eq_div_mul, Nat.pow_add, Nat.pow_mul]
/-- the table tells just the value -/
theorem tabI_in {a : Addr} {c : Nat} (hc : c < 4096) (e : IE) : ∀ u, InT (tabI e) c u ↔ u = e.den ⟨c, a⟩ := by
  induction e with
  | bit p i =>
    intro u
    show InT [(1, bmT (4 * p + i)), (0, full ^^^ bmT (4 * p + i))] c u ↔ u = ((c / 16 ^ p / 2 ^ i % 2 : Nat) : Int)
    rw [bit_div]
    have h1 := bmT_bit (k := 4 * p + i) hc
    have h2 : (full ^^^ bmT (4 * p + i)).testBit c = !decide (c / 2 ^ (4 * p + i) % 2 = 1) := by rw [Nat.testBit_xor, full_bit hc, h1]; cases decide (c / 2 ^ (4 * p + i) % 2 = 1) <;> rfl
    have hz : c / 2 ^ (4 * p + i) % 2 < 2 := Nat.mod_lt _ (by decide)
    generalize c / 2 ^ (4 * p + i) % 2 = z at *
    constructor
    · rintro ⟨m, hm, hb⟩
      rcases List.mem_cons.mp hm with h | h
      · cases h
        rw [h1] at hb
        rw [of_decide_eq_true hb]; rfl
      · rcases List.mem_singleton.mp h with h
        cases h
        rw [h2, Bool.not_eq_true', decide_eq_false_iff_not] at hb
        have : z = 0 := by omega
        rw [this]; rfl
    · rintro rfl
      by_cases h : z = 1
      · subst h; exact ⟨_, .head _, by rw [h1]; rfl⟩
      · have : z = 0 := by omega
        subst this
        exact ⟨_, .tail _ (.head _), by rw [h2]; rfl⟩
  | const k =>
    intro u
    show InT [(k, full)] c u ↔ u = k
    constructor
    · rintro ⟨m, hm, _⟩
      rcases List.mem_singleton.mp hm with h
      cases h; rfl
    · rintro rfl; exact ⟨_, .head _, full_bit hc⟩
  | add x y ihx ihy =>
    intro u
    show InT (bin (fun x y => x + y) (tabI x) (tabI y)) c u ↔ u = x.den ⟨c, a⟩ + y.den ⟨c, a⟩
    rw [bin_in]
    exact ⟨fun ⟨v, w, h1, h2, e⟩ => by rw [e, (ihx v).mp h1, (ihy w).mp h2], fun e => ⟨_, _, (ihx _).mpr rfl, (ihy _).mpr rfl, e⟩⟩
  | sub x y ihx ihy =>
    intro u
    show InT (bin (fun x y => x - y) (tabI x) (tabI y)) c u ↔ u = x.den ⟨c, a⟩ - y.den ⟨c, a⟩
    rw [bin_in]
    exact ⟨fun ⟨v, w, h1, h2, e⟩ => by rw [e, (ihx v).mp h1, (ihy w).mp h2], fun e => ⟨_, _, (ihx _).mpr rfl, (ihy _).mpr rfl, e⟩⟩
  | mul x y ihx ihy =>
    intro u
    show InT (bin (fun x y => x * y) (tabI x) (tabI y)) c u ↔ u = x.den ⟨c, a⟩ * y.den ⟨c, a⟩
    rw [bin_in]
    exact ⟨fun ⟨v, w, h1, h2, e⟩ => by rw [e, (ihx v).mp h1, (ihy w).mp h2], fun e => ⟨_, _, (ihx _).mpr rfl, (ihy _).mpr rfl, e⟩⟩
  | pick l d j ih =>
    intro u
    show InT (map1 (fun v => l.getD v.toNat d) (tabI j)) c u ↔ u = l.getD (j.den ⟨c, a⟩).toNat d
    rw [map1_in]
    exact ⟨fun ⟨v, h1, e⟩ => by rw [e, (ih v).mp h1], fun e => ⟨_, (ih _).mpr rfl, e⟩⟩
  | div x ih =>
    intro u
    show InT (map1 (fun v => v / 16) (tabI x)) c u ↔ u = x.den ⟨c, a⟩ / 16
    rw [map1_in]
    exact ⟨fun ⟨v, h1, e⟩ => by rw [e, (ih v).mp h1], fun e => ⟨_, (ih _).mpr rfl, e⟩⟩

noncomputable def among (v : Int) : List Int → Bool
  | [] => false
  | k :: r => match eqI v k with
    | true => true
    | false => among v r
theorem among_eq {v : Int} : ∀ {ks : List Int}, among v ks = ks.any fun k => v == k
  | [] => rfl
  | k :: r => by
    show (match eqI v k with | true => true | false => among v r) = (v == k || r.any fun k => v == k)
    cases h : eqI v k with
    | true => rw [beq_iff_eq.mpr (eqI_iff.mp h)]; rfl
    | false =>
      have : (v == k) = false := by
        rw [beq_eq_false_iff_ne]; intro e
        rw [eqI_iff.mpr e] at h; cases h
      rw [this, Bool.false_or]; exact among_eq
noncomputable def orIn (ks : List Int) : Tab → Nat
  | [] => 0
  | (v, m) :: r => match among v ks with
    | true => m ||| orIn ks r
    | false => orIn ks r
theorem orIn_bit {ks : List Int} {c : Nat} : ∀ {t : Tab}, (orIn ks t).testBit c = true ↔ ∃ v, InT t c v ∧ among v ks = true
  | [] => ⟨fun h => (by rw [orIn, Nat.zero_testBit] at h; cases h), fun ⟨_, ⟨_, h, _⟩, _⟩ => (by cases h)⟩
  | (v, m) :: r => by
    have ih := orIn_bit (ks := ks) (c := c) (t := r)
    unfold orIn
    cases h : among v ks with
    | true =>
      show (m ||| orIn ks r).testBit c = true ↔ _
      rw [Nat.testBit_or, Bool.or_eq_true]
      constructor
      · rintro (hb | hb)
        · exact ⟨v, ⟨m, .head _, hb⟩, h⟩
        · obtain ⟨w, ⟨j, hj, hb⟩, hw⟩ := ih.mp hb
          exact ⟨w, ⟨j, .tail _ hj, hb⟩, hw⟩
      · rintro ⟨w, ⟨j, hj, hb⟩, hw⟩
        rcases List.mem_cons.mp hj with e | e
        · cases e; exact .inl hb
        · exact .inr (ih.mpr ⟨w, ⟨j, e, hb⟩, hw⟩)
    | false =>
      show (orIn ks r).testBit c = true ↔ _
      rw [ih]
      constructor
      · rintro ⟨w, ⟨j, hj, hb⟩, hw⟩
        exact ⟨w, ⟨j, .tail _ hj, hb⟩, hw⟩
      · rintro ⟨w, ⟨j, hj, hb⟩, hw⟩
        rcases List.mem_cons.mp hj with e | e
        · cases e; rw [h] at hw; cases hw
        · exact ⟨w, ⟨j, e, hb⟩, hw⟩
noncomputable def maskB (b : BE) : Nat :=
  BE.rec (fun x ks => orIn ks (tabI x)) (fun _ m => full ^^^ m) (fun _ _ m n => m &&& n) (fun v => match v with | true => full | false => 0) b
theorem maskB_bit {a : Addr} {c : Nat} (hc : c < 4096) (b : BE) : (maskB b).testBit c = b.den ⟨c, a⟩ := by
  induction b with
  | isIn x ks =>
    show (orIn ks (tabI x)).testBit c = ks.any fun k => x.den ⟨c, a⟩ == k
    rw [← among_eq, Bool.eq_iff_iff, orIn_bit]
    exact ⟨fun ⟨v, h1, h2⟩ => by rw [← (tabI_in hc x v).mp h1]; exact h2, fun h => ⟨_, (tabI_in hc x _).mpr rfl, h⟩⟩
  | not b ih =>
    show (full ^^^ maskB b).testBit c = !b.den ⟨c, a⟩
    rw [Nat.testBit_xor, full_bit hc, ih, Bool.true_xor]
  | and x y ihx ihy =>
    show (maskB x &&& maskB y).testBit c = (x.den ⟨c, a⟩ && y.den ⟨c, a⟩)
    rw [Nat.testBit_and, ihx, ihy]
  | tt v =>
    cases v with
    | true => exact full_bit hc
    | false => exact Nat.zero_testBit c

/-- the tree holds at all codes of the mask -/
noncomputable def within (m n : Nat) : Bool := Nat.beq (m &&& n) m
theorem within_bit {m n c : Nat} (h : within m n = true) (hb : m.testBit c = true) : n.testBit c = true := by
  have e := Nat.eq_of_beq_eq_true h
  rw [← e, Nat.testBit_and, Bool.and_eq_true] at hb
  exact hb.2
noncomputable def goodM (m : Nat) : V → Bool
  | .sb b => within m (maskB b)
  | .val (.bool b) => b
  | _ => false
noncomputable def chkM : Res (V × St) → Nat → Bool
  | .fail, m => Nat.beq m 0
  | .leaf p, m => match m with
    | 0 => true
    | n + 1 => goodM (n + 1) p.1
  | .ite b x y, m => match m with
    | 0 => true
    | n + 1 => chkM x ((n + 1) &&& maskB b) && chkM y ((n + 1) &&& (full ^^^ maskB b))
  | .req b x, m => match m with
    | 0 => true
    | n + 1 => within (n + 1) (maskB b) && chkM x (n + 1)
theorem chkM_ok {a : Addr} {c : Nat} (hc : c < 4096) : ∀ {x : Res (V × St)} {m : Nat}, chkM x m = true → m.testBit c = true → chk ⟨c, a⟩ (isT ⟨c, a⟩) x = true
  | .fail, m, h, hb => by
    rw [Nat.eq_of_beq_eq_true h, Nat.zero_testBit] at hb; cases hb
  | .leaf p, 0, _, hb => by rw [Nat.zero_testBit] at hb; cases hb
  | .leaf (v, st), n + 1, h, hb => by
    show isT ⟨c, a⟩ (v, st) = true
    have h : goodM (n + 1) v = true := h
    unfold goodM at h
    unfold isT
    split at h
    · exact (maskB_bit hc _).symm.trans (within_bit h hb)
    · exact h
    · cases h
  | .ite b x y, 0, _, hb => by rw [Nat.zero_testBit] at hb; cases hb
  | .ite b x y, n + 1, h, hb => by
    have h : (chkM x ((n + 1) &&& maskB b) && chkM y ((n + 1) &&& (full ^^^ maskB b))) = true := h
    rw [Bool.and_eq_true] at h
    have hm := maskB_bit (a := a) hc b
    unfold chk
    cases hd : b.den ⟨c, a⟩ with
    | true => exact chkM_ok hc h.1 (by rw [Nat.testBit_and, hb, hm, hd]; rfl)
    | false => exact chkM_ok hc h.2 (by rw [Nat.testBit_and, hb, Nat.testBit_xor, full_bit hc, hm, hd]; rfl)
  | .req b x, 0, _, hb => by rw [Nat.zero_testBit] at hb; cases hb
  | .req b x, n + 1, h, hb => by
    have h : (within (n + 1) (maskB b) && chkM x (n + 1)) = true := h
    rw [Bool.and_eq_true] at h
    have hd := (maskB_bit (a := a) hc b).symm.trans (within_bit h.1 hb)
    unfold chk
    rw [hd]
    exact chkM_ok hc h.2 hb
end Mine

namespace Mine
noncomputable def lawT : Res (V × St) := callBody (evs cfgL 40) lawF [] [.old] []
theorem lawM : chkM lawT full = true := by kernel_rfl
theorem lawAllOk (a : Addr) (c : Nat) (hc : c < 4096) : chk ⟨c, a⟩ (isT ⟨c, a⟩) (callBody (evs cfgL 40) lawF [] [.old] []) = true := chkM_ok hc lawM (full_bit hc)
end Mine

namespace Mine
section
variable {prog : Program} {w : World} {D U n : Nat} {r : Evs} {B : Bs} {c : Cfg} {cx : Cx} {env : Env} {ad : Ad} {st : St} {s : Shared} {A : Around} {E : Value → Shared → Prop}

theorem CfgOk.lawZero (C : CfgOk cfgL B) : CfgOk cfg0 B := ⟨C.scr, C.glob, C.tops, C.lim, C.codes, C.inj, C.builtins, C.fns⟩
theorem CfgOk.lawA (C : CfgOk cfgL B) : CfgOk cfgA B := ⟨C.scr, C.glob, C.tops, C.lim, C.codes, C.inj, C.builtins, C.fns⟩

theorem VRs.one' {ρ : Rho} {ad : Ad} {a : V} {xs : List Value} (H : VRs ρ ad [a] xs) : ∃ x, xs = [x] ∧ VR ρ ad a x := by
  cases H with
  | cons h1 t => cases t; exact ⟨_, rfl, h1⟩

theorem cutL_ok (prog : Program) (w : World) : CutOk prog w 400 4000 cfgL := by
  constructor
  intro B ad st s A E Q a args vs x hx C R hh hd hu hv H
  replace hx : cutL a args st = some x := hx
  unfold cutL at hx
  split at hx
  · rename_i ha
    rw [eq_of_beq ha]
    unfold cut91A at hx
    split at hx
    · rename_i p
      split at hx
      · rename_i hp
        cases hx
        have hp := of_decide_eq_true hp
        obtain ⟨x, y, rfl, h1, h2⟩ := VRs.two' hv
        obtain rfl : x = .ref B.ρ.script := h1
        obtain ⟨t, rfl⟩ : ∃ t, y = .int p t := h2
        obtain ⟨m, rfl⟩ : ∃ m : Nat, p = (m : Int) := ⟨p.toNat, by omega⟩
        exact cut91 C.lawA R hh hd hu (p := m) (by omega) H
      · cases hx
    · cases hx
  · split at hx
    · rename_i ha
      rw [eq_of_beq ha]
      unfold cut96A at hx
      split at hx
      · rename_i k
        split at hx
        · rename_i us hst
          split at hx
          · rename_i f0 f1 f2 f3 hb
            cases hx
            obtain ⟨x, rfl, h1⟩ := VRs.one' hv
            obtain ⟨b, hb', rfl⟩ : ∃ a, adr ad k = some a ∧ x = .ref a := h1
            unfold bitsIn at hb
            split at hb
            · split at hb
              · rename_i hc
                cases hb
                obtain ⟨rfl, rfl, rfl, rfl, rfl, rfl, rfl, rfl⟩ := of_decide_eq_true hc
                exact cut96 C.lawZero R hh hd hu hst hb' H
              · cases hb
            · cases hb
          · cases hx
        · cases hx
      · cases hx
    · split at hx
      · rename_i ha
        rw [eq_of_beq ha]
        unfold cut63A at hx
        split at hx
        · rename_i lo hi t y
          split at hx
          · rename_i hy
            cases hx
            obtain rfl := of_decide_eq_true hy
            obtain ⟨x, y, rfl, h1, h2⟩ := VRs.two' hv
            obtain ⟨⟨u, rfl⟩, _⟩ : (∃ u, x = .int (t.den B.ρ) u) ∧ lo ≤ t.den B.ρ ∧ t.den B.ρ ≤ hi := h1
            obtain ⟨v, rfl⟩ : ∃ t, y = .int 16 t := h2
            exact cut63 C.lawZero R hh hd hu H.1 H.2
          · cases hx
        · cases hx
      · cases hx

theorem callBody_chk (hD : D ≤ 999) (S : Snd prog w D U c n r) (C : CfgOk c B) (R : Rep B st ad s.heap) (hr : Room D U (n + 1) A) {f : FnRec} {cells : List (Str × Nat)} {args : List V} {vs : List Value} {fa : Addr} {o : Obj} {fd : FuncData} {Q : Value → Shared → Prop}
    (ho : s.heap.get? fa = some o) (hd : o.data = .func fd) (hp : plainArgs f.params fd.params) (hb : fd.body = .stmts f.body) (hs : fd.scope = f.scope) (hg : fd.globals = mainGlobals) (hbi : fd.builtins = builtinsNs)
    (hdf : fd.defaults = .none) (hkd : fd.kwdefaults = .none) (hcl : Cl ad cells fd.closure) (hcode : f.code = .none ∨ fd.code = f.code ∧ fd.qualname ++ Str.ofString ".<locals>." = f.qual) (hcr : s.heap.CodeRec fd.code fd.qualname)
    (hv : VRs B.ρ ad args vs) {good : V × St → Bool} (H : chk B.ρ good (callBody r f cells args st) = true) (K : ∀ p, good p = true → KV B ad s Q p) {Rr : Result → Shared → Prop} (hR : ∀ v s', Q v s' → Rr (.ok (.ret v)) s') : codeAny (model prog w) A (.call (.ref fa) ⟨vs, []⟩) Rr s :=
  callBody_code hD S C R hr ho hd hp hb hs hg hbi hdf hkd hcl hcode hcr hv (Res.sat_mono (chk_sat H) K) hR

theorem law_end {p : Program} {loose : List Str} {mean mean' : ExcName → Option Value} {mg mb : Str → Option Value} {s₁ : Shared} {fa a : Addr} {cw : ClaimW} {cl : Str → Option Addr} {args : List WData} {xs : List Value} {ns : List Int}
    (X : Facts s₁.heap) (T : Top p loose mean mg mb s₁.heap) (hmg : mg "law" = some (.ref fa)) (hl : s₁.heap.IsList a xs.toArray) (hi : IntsAre xs ns) (hn : ns.length ≤ 63) (hgens : s₁.gens = #[])
    (hr : ∀ a x, cw.raises a x = false) (hpost : cw.post args (.bool true) args = true) (hlaw : ∀ c, c < 4096 → chk ⟨c, a⟩ (isT ⟨c, a⟩) (callBody (evs cfgL 40) lawF [] [.old] []) = true) :
    codeAny (model prog w) callerA (.call (.ref fa) ⟨[.ref a], []⟩) (GoodWG cw cl mean' args s₁) s₁ := by
  have hT := X.tabs
  have e132 : fa = 132 := by
    rw [(glob_of X T).2.2] at hmg
    injection hmg with e
    injection e with e
    exact e.symm
  subst e132
  have C : CfgOk cfgL (B0 ⟨codeOf ns, a⟩ s₁.heap) := cfg_ok X T (scr_ok hT hl hi hn) rfl rfl rfl
  have R : Rep (B0 ⟨codeOf ns, a⟩ s₁.heap) [] [] s₁.heap := rep0 hT
  obtain ⟨_, _, ob, fd, q3, q4, q5, q6, q7, q8, q9, q10, q11, q12, q13, cd, co, us, t, q14, q15, q16, q17, q18, q19⟩ := fnH_of (X.fns (132, lawF) (.head _)) codesT_P
  refine kn_post hT hr ?_
  refine callBody_chk (by decide) (evs_snd (by decide : 400 ≤ 999) (cutL_ok prog w) 40) C R ⟨by decide, rfl, by decide, by decide⟩ q3 q4 q5 q6 q7 q8 q9 q10 q11 (cells := []) (fun x i e => by cases e) q13 ⟨cd, co, us, t, q14, q17, q18, q19⟩ (args := [.old]) (.cons rfl .nil) (hlaw _ (codeOf_lt ns))
    (Q := fun v s' => GoodW cw cl mean' args { s₁ with heap := ghostOf s₁.heap [(48, 44), (41, 37)] } (.ok (.ret v)) s' ∧ GrownAll [(48, 44), (41, 37)] s'.heap) (fun q hq => fun ad' h' tk v l1 R1 hv => ?_) (fun _ _ h => h)
  have hv1 : v = .bool true := by
    obtain ⟨vV, stV⟩ := q
    unfold isT at hq
    dsimp only at hq hv
    split at hq
    · rename_i f
      have hv : v = .bool (f.den (B0 ⟨codeOf ns, a⟩ s₁.heap).ρ) := hv
      rw [hv]; exact congrArg Value.bool hq
    · rename_i b
      have hv : v = .bool b := hv
      rw [hv, hq]
    · cases hq
  subst hv1
  have hP : ∀ b, b ∉ ([(48, 44), (41, 37)] : List (Addr × Addr)).map (·.2) → b ∉ codesT.map (·.P) := fun b hb => by
    rw [codesT_P]
    simp only [List.map_cons, List.map_nil, List.mem_cons, List.not_mem_nil, or_false] at hb ⊢
    exact fun z => hb z.symm
  refine ⟨⟨.inl ⟨.bool true, .bool true, [], rfl, fun cls => hr args cls, .bool true, hpost, fun _ => ⟨List.nodup_nil, fun _ h => by cases h⟩⟩, fun b o e => ?_, rfl, hgens⟩, ?_⟩
  · have hnb : b ∉ ([(48, 44), (41, 37)] : List (Addr × Addr)).map (·.2) := fun hm => by
      rw [show (ghostOf s₁.heap [(48, 44), (41, 37)]).get? b = none from hideAll_none _ hm] at e; cases e
    have e1 : s₁.heap.get? b = some o := of_hideAll _ e
    refine R1.keep b o e1 (hP b hnb) fun ⟨i, hi⟩ => ?_
    have := R1.fresh i b (Nat.zero_le _) hi
    have h0 : s₁.heap.get? b = none := this
    rw [e1] at h0; cases h0
  · have g : ∀ k ∈ codesT, GrownAt k.P h' := fun k hk => by
      obtain ⟨_, _, ps, _, t, _⟩ := R1.tabs k hk
      exact ⟨ps, t.2⟩
    unfold codesT at g
    exact ⟨g _ (.tail _ (.head _)), g _ (.head _), trivial⟩
end
end Mine

namespace Mine
noncomputable def qv : Program := view PySem.Challenge.pw_sl0021_01 [1,3,4,5,6,7,8,9,11,12,14,15,16,17,18,20,21,22,23,24,25,26,27]
theorem left : LeftO PySem.Challenge.pw_sl0021_01 qv [] (fun s => xlAt qv [] s && recOk PySem.Challenge.rw_sl0021_01.row.toRowW.records s) (fun s => seenH s.heap) (fun _ => seenOk) 1494 := fun w => by kernel_rfl
end Mine

namespace Mine
theorem said : PySem.Challenge.rw_sl0021_01.wellSaid = true := by kernel_rfl
end Mine
set_option maxHeartbeats 8000000 in
theorem PySem.Challenge.cw_sl0021_01_holds : PySem.Challenge.rw_sl0021_01.Holds := by
  w_on
  refine holds_law Mine.said fun said => ?_
  refine holds_open (q := Mine.qv) (loose := []) (Xt := fun s => xlAt Mine.qv [] s && recOk PySem.Challenge.rw_sl0021_01.row.toRowW.records s) (XP := XL Mine.qv []) (Yf := fun s => Mine.seenH s.heap) (Ya := fun _ => Mine.seenOk) (YP := fun _ h => Mine.Facts h) (N := 1494)
    Mine.left (fun w s e => Mine.facts_of e) (fun w h h' F k => Mine.Facts.keeps F k) (fun s e => xl_of s (Bool.and_eq_true_iff.mp e).1) XL.keeps (by rfl) (by rfl) (by rfl) (fun s e => recFacts_of (Bool.and_eq_true_iff.mp e).2) (by rfl) (by first | assumption | decide +kernel) (by decide +kernel) ⟨rfl, rfl, rfl, rfl, rfl, by decide +kernel⟩ ?hw ?hc
  case hw => w_witness2
  case hc =>
    intro w s₀ s₁ mg mb G Y fa o pm cd doc dV kV ho hd hcd hD hmg hg args vals as hpre hlay hrd hwl hlo
    refine Ground.open G ?_
    intro T B D TE TW
    wrow_args hpre hlay hrd hwl hlo
    all_goals refine enter_call ?_
    all_goals exact Mine.law_end Y T hmg (by assumption) (by assumption) (by omega) hg (fun _ _ => rfl) (by kernel_rfl) (fun c hc => Mine.lawAllOk _ c hc)
