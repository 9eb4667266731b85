import PyProof.Rows.All
import Wide.All
import OpenK.AllK
import Wide.FinOn
import PySem.Challenge.RW_jz0002_01
open PySem PySem.W PyProof.Rows PySem.Calls
set_option Elab.async false
set_option maxRecDepth 100000
set_option linter.unusedVariables false
set_option linter.unusedSimpArgs false

section
namespace Mine

noncomputable abbrev PM := Addr → Option Obj
noncomputable def Le (G G' : PM) : Prop := ∀ a o, G a = some o → G' a = some o
theorem Le.rfl {G : PM} : Le G G := fun _ _ e => e
theorem Le.trans {G G' G'' : PM} (x : Le G G') (y : Le G' G'') : Le G G'' := fun a o e => y a o (x a o e)

structure Gl where
  prog : Program
  w : World
  K : Frag
  H : Heap
  mg : Str → Option Value
  mb : Str → Option Value
  C : Addr

structure Gl.Ok (gl : Gl) : Prop where
  ki : gl.K.In gl.H
  g : gl.H.Ns mainGlobals gl.mg
  b : gl.H.Ns builtinsNs gl.mb
  boot : ∀ x : Str, x ≠ "__name__" → gl.mb x = bootBuiltins x
  nolimit : gl.H.NoLimit
  digits : ∃ mc, gl.H.Ns cStatics mc ∧ mc "sys.int_max_str_digits" = none
  plain : ∀ x, plainGet gl.K gl.C x = true
  hasDict : hasDictIn gl.K gl.C = true
  ceq : findIn gl.K (.ref gl.C) "__eq__" = some (some (.builtin "object.__eq__"))
  cne : findIn gl.K (.ref gl.C) "__ne__" = some (some (.builtin "object.__ne__"))
  cob : mroIn gl.K gl.C (.type "object") = some true
  cset : findIn gl.K (.ref gl.C) "__setattr__" = some (some (.builtin "object.__setattr__"))
  cover : plainOver gl.K gl.C = true
  nname : findIn gl.K (.ref gl.C) "name" = some none
  nprefs : findIn gl.K (.ref gl.C) "prefs" = some none
  nmatching : findIn gl.K (.ref gl.C) "matching" = some none
  npn : findIn gl.K (.ref gl.C) "_pref_names" = some none
  nop : findIn gl.K (.ref gl.C) "_original_prefs" = some none

structure Pl where
  pa : Addr
  da : Addr
  nm : Value
  pf : Value
  mt : Value
  pn : Value
  op : Value

noncomputable def pmap (p : Pl) (x : Str) : Option Value :=
  if x = "name" then some p.nm else if x = "prefs" then some p.pf else if x = "matching" then some p.mt else if x = "_pref_names" then some p.pn else if x = "_original_prefs" then some p.op else none

structure PDm (h : Heap) (d : Addr) (m : Str → Option Value) (k : Nat) : Prop where
  ex : ∃ es n, h.get? d = some (dictOf es n) ∧ (∀ x, getL x es = some (m x)) ∧ es.length ≤ k
noncomputable abbrev PD (h : Heap) (p : Pl) : Prop := PDm h p.da (pmap p) 5

noncomputable abbrev LstO (vs : List Value) (n : Nat) : Obj := { cls := .type "list", data := .seq vs.toArray n }
noncomputable abbrev TupO (vs : List Value) : Obj := { cls := .type "tuple", data := .seq vs.toArray }

inductive Cl where
  | lst (vs : List Value)
  | liter (l : Addr) (i : Nat)
  | riter (x left step : Int)
  | ob (o : Obj)
  | ns (m : Str → Option Value)
  | dct (m : Str → Option Value) (k : Nat)

noncomputable def Cl.At (h : Heap) (a : Addr) : Cl → Prop
  | .lst vs => ∃ n, h.get? a = some (LstO vs n)
  | .liter l i => h.IsListIter a l i
  | .riter x left step => IsRangeIter h a x left step
  | .ob o => h.get? a = some o
  | .ns m => h.Ns a m
  | .dct m k => PDm h a m k

theorem Cl.At.of {h h' : Heap} {a : Addr} {c : Cl} (x : c.At h a) (k : ∀ o, h.get? a = some o → h'.get? a = some o) : c.At h' a := by
  cases c with
  | lst vs => obtain ⟨n, e⟩ := x; exact ⟨n, k _ e⟩
  | liter l i => obtain ⟨o, e, r⟩ := x; exact ⟨o, k _ e, r⟩
  | riter x left step => exact k _ x
  | ob o => exact k _ x
  | ns m => obtain ⟨o, es, ep, e, r⟩ := x; exact ⟨o, es, ep, k _ e, r⟩
  | dct m j => obtain ⟨es, n, e, r⟩ := x; exact ⟨es, n, k _ e, r⟩
theorem Cl.At.alive {h : Heap} {a : Addr} {c : Cl} (x : c.At h a) : ∃ o, h.get? a = some o := by
  cases c with
  | lst vs => obtain ⟨n, e⟩ := x; exact ⟨_, e⟩
  | liter l i => obtain ⟨o, e, r⟩ := x; exact ⟨_, e⟩
  | riter x left step => exact ⟨_, x⟩
  | ob o => exact ⟨_, x⟩
  | ns m => obtain ⟨o, es, ep, e, r⟩ := x; exact ⟨_, e⟩
  | dct m j => obtain ⟨es, n, e, r⟩ := x; exact ⟨_, e⟩

structure PlOk (gl : Gl) (G : PM) (h : Heap) (pl : List Pl) : Prop where
  each : ∀ p ∈ pl, G p.pa = some (instObj gl.C p.da) ∧ G p.da = none ∧ PD h p
  nd : (pl.map (·.da)).Nodup
  np : (pl.map (·.pa)).Nodup

noncomputable def Room (A : Around) (n : Nat) : Prop := A.handled = none ∧ A.depth + n < recursionLimit ∧ A.units + 8 * n < cLine

structure Fx where
  env : Env
  A : Around
  n : Nat
  mu : Bool
  pl₀ : List Pl
  G₀ : PM
  h₀ : Heap
  fr : Bool
  fc : Bool

noncomputable def WdOf (mu : Bool) (pl : List Pl) (a : Addr) : Prop := mu = true ∧ ∃ p ∈ pl, a = p.da

structure Sta where
  G : PM
  m : List (Str × Value)
  own : List (Addr × Cl)
  pl : List Pl

structure St (gl : Gl) (Φ : Fx) (σ : Sta) (h : Heap) : Prop where
  sub : Le σ.G h.get?
  top : Le gl.H.get? σ.G
  room : Room Φ.A Φ.n
  old : ∀ a o, Φ.h₀.get? a = some o → σ.G a = Φ.G₀ a
  le0 : Le Φ.G₀ σ.G
  live : ∀ a o, Φ.h₀.get? a = some o → ∃ o', h.get? a = some o'
  keep : ∀ a o, ¬ WdOf Φ.mu Φ.pl₀ a → Φ.h₀.get? a = some o → h.get? a = some o
  kf : Φ.env.scope.kind = .function
  loc : ∃ m₀, h.Ns Φ.env.locals m₀ ∧ ∀ x v, σ.m.lookup x = some v → Φ.env.kindOf x = some .local → m₀ x = some v
  cel : ∀ x v, σ.m.lookup x = some v → Φ.env.kindOf x ≠ some .local → ∃ c, Φ.env.cells.lookup x = some c ∧ h.IsCell c (some v)
  fr : Φ.fr = true → Φ.h₀.get? Φ.env.locals = none ∧ σ.G Φ.env.locals = none
  fc : Φ.fc = true → (∀ c ∈ Φ.env.cells, Φ.h₀.get? c.2 = none ∧ σ.G c.2 = none ∧ ∃ v, h.IsCell c.2 v) ∧ Φ.env.cells.Pairwise fun x y => x.2 ≠ y.2
  own : ∀ e ∈ σ.own, e.2.At h e.1 ∧ Φ.h₀.get? e.1 = none ∧ σ.G e.1 = none ∧ e.1 ≠ Φ.env.locals ∧ (Φ.fc = true → ∀ c ∈ Φ.env.cells, e.1 ≠ c.2)
  ownd : (σ.own.map (·.1)).Nodup
  pl : PlOk gl σ.G h σ.pl
  pll : ∀ p ∈ σ.pl, p.da ≠ Φ.env.locals
  pln : ∀ p ∈ σ.pl, (∃ q ∈ Φ.pl₀, q.da = p.da) ∨ Φ.h₀.get? p.da = none
  ox : ∀ e ∈ σ.own, ∀ p ∈ σ.pl, e.1 ≠ p.da

noncomputable def TT {α : Type} (gl : Gl) (Φ : Fx) (t : Sem α) (σ : Sta) (P : α → Sta → Prop) : Prop :=
  ∀ h g d tk os (Q : α → Shared → Prop) (E : Value → Shared → Prop), St gl Φ σ h →
    (∀ a σ' h' tk', St gl Φ σ' h' → P a σ' → Q a ⟨h', g, d, tk', os⟩) → wpAny (model gl.prog gl.w) Φ.A t Q E ⟨h, g, d, tk, os⟩

section
variable {gl : Gl} {Φ : Fx} {σ : Sta}

theorem TT.mono {α : Type} {t : Sem α} {P P' : α → Sta → Prop} (x : TT gl Φ t σ P) (k : ∀ a σ', P a σ' → P' a σ') : TT gl Φ t σ P' :=
  fun h g d tk os Q E S q => x h g d tk os Q E S fun a σ' h' tk' S' p => q a σ' h' tk' S' (k _ _ p)
theorem TT.bind {α β : Type} {t : Sem α} {f : α → Sem β} {P : β → Sta → Prop} (x : TT gl Φ t σ fun a σ' => TT gl Φ (f a) σ' P) : TT gl Φ (t >>= f) σ P :=
  fun h g d tk os Q E S q => wpAny_bind (x h g d tk os _ E S fun a σ' h' tk' S' p => p h' g d tk' os Q E S' q)
theorem TT.ofPure {α : Type} {a : α} {P : α → Sta → Prop} (x : P a σ) : TT gl Φ (Pure.pure a : Sem α) σ P :=
  fun h _ _ tk _ _ _ S q => wpAny_pure (q a σ h tk S x)

/-- a tree that leaves the heap as it is -/
theorem TT.calm {α : Type} {t : Sem α} {a : α} {P : α → Sta → Prop}
    (hw : ∀ h g d tk os (Q : α → Shared → Prop) (E : Value → Shared → Prop), St gl Φ σ h → (∀ tk', Q a ⟨h, g, d, tk', os⟩) → wpAny (model gl.prog gl.w) Φ.A t Q E ⟨h, g, d, tk, os⟩)
    (x : P a σ) : TT gl Φ t σ P :=
  fun h g d tk os Q E S q => hw h g d tk os Q E S fun tk' => q a σ h tk' S x
theorem TT.calmE {α : Type} {t : Sem α} {P : α → Sta → Prop}
    (hw : ∀ h g d tk os (Q : α → Shared → Prop) (E : Value → Shared → Prop), St gl Φ σ h → (∀ a tk', P a σ → Q a ⟨h, g, d, tk', os⟩) → wpAny (model gl.prog gl.w) Φ.A t Q E ⟨h, g, d, tk, os⟩) :
    TT gl Φ t σ P :=
  fun h g d tk os Q E S q => hw h g d tk os Q E S fun a tk' p => q a σ h tk' S p

theorem St.topH {h : Heap} (S : St gl Φ σ h) : ∀ b o, gl.H.get? b = some o → h.get? b = some o := S.top.trans S.sub
theorem St.inK (T : gl.Ok) {h : Heap} (S : St gl Φ σ h) : gl.K.In h := T.ki.keeps S.topH

/-- A: nothing that stands is changed; G grows -/
theorem St.grow {h h' : Heap} (S : St gl Φ σ h) (hk : Le h.get? h'.get?) {G' : PM} (hG : Le G' h'.get?) (hle : Le σ.G G') (hnew : ∀ a o, h.get? a = some o → G' a = σ.G a) :
    St gl Φ { σ with G := G' } h' := by
  obtain ⟨m₀, hm₀, hm⟩ := S.loc
  have aliveL : ∃ o, h.get? Φ.env.locals = some o := by obtain ⟨o, es, ep, e, r⟩ := hm₀; exact ⟨o, e⟩
  refine ⟨hG, S.top.trans hle, S.room, fun a o e => ?_, S.le0.trans hle, fun a o e => ?_, fun a o n e => hk _ _ (S.keep a o n e), S.kf,
    ⟨m₀, hm₀.keeps hk, hm⟩, fun x v e n => ?_, fun f => ?_, fun f => ?_, fun e he => ?_, S.ownd, ⟨fun p hp => ?_, S.pl.nd, S.pl.np⟩, S.pll, S.pln, S.ox⟩
  · obtain ⟨o', e'⟩ := S.live a o e
    exact (hnew a o' e').trans (S.old a o e)
  · obtain ⟨o', e'⟩ := S.live a o e; exact ⟨o', hk _ _ e'⟩
  · obtain ⟨c, a, b⟩ := S.cel x v e n; exact ⟨c, a, b.keeps hk⟩
  · obtain ⟨a, b⟩ := S.fr f
    obtain ⟨o, eo⟩ := aliveL
    exact ⟨a, (hnew _ o eo).trans b⟩
  · obtain ⟨c, d⟩ := S.fc f
    refine ⟨fun x hx => ?_, d⟩
    obtain ⟨c1, c2, v, c3⟩ := c x hx
    obtain ⟨oc, ec, _⟩ := id c3
    exact ⟨c1, (hnew _ oc ec).trans c2, v, c3.keeps hk⟩
  · obtain ⟨a, b, c, d⟩ := S.own e he
    obtain ⟨o, eo⟩ := a.alive
    exact ⟨a.of fun _ e => hk _ _ e, b, (hnew _ o eo).trans c, d⟩
  · obtain ⟨a, b, ⟨es, n, c, r⟩⟩ := S.pl.each p hp
    exact ⟨hle _ _ a, (hnew _ _ c).trans b, ⟨es, n, hk _ _ c, r⟩⟩

theorem St.same {h h' : Heap} (S : St gl Φ σ h) (hk : Le h.get? h'.get?) : St gl Φ σ h' :=
  S.grow hk (S.sub.trans hk) Le.rfl fun _ _ _ => rfl
theorem St.push {h : Heap} (S : St gl Φ σ h) (o : Obj) : St gl Φ σ (h.push o) := S.same fun _ _ e => Heap.get?_push_of_some o e

/-- a pure step of the heap: new objects that nobody names -/
theorem TT.grown {α : Type} {t : Sem α} {P : α → Sta → Prop}
    (hw : ∀ h g d tk os (Q : α → Shared → Prop) (E : Value → Shared → Prop), St gl Φ σ h → (∀ a h' tk', Le h.get? h'.get? → P a σ → Q a ⟨h', g, d, tk', os⟩) → wpAny (model gl.prog gl.w) Φ.A t Q E ⟨h, g, d, tk, os⟩) :
    TT gl Φ t σ P :=
  fun h g d tk os Q E S q => hw h g d tk os Q E S fun a h' tk' k p => q a σ h' tk' (S.same k) p

/-- I: fewer names -/
theorem St.weaken {h : Heap} (S : St gl Φ σ h) {m' : List (Str × Value)} (hm : ∀ x v, m'.lookup x = some v → σ.m.lookup x = some v) : St gl Φ { σ with m := m' } h := by
  obtain ⟨m₀, hm₀, hl⟩ := S.loc
  exact ⟨S.sub, S.top, S.room, S.old, S.le0, S.live, S.keep, S.kf, ⟨m₀, hm₀, fun x v e k => hl x v (hm x v e) k⟩, fun x v e n => S.cel x v (hm x v e) n, S.fr, S.fc, S.own, S.ownd, S.pl, S.pll, S.pln, S.ox⟩

noncomputable def setL (x : Str) (v : Value) : List (Str × Value) → List (Str × Value)
  | [] => [(x, v)]
  | (y, u) :: r => if x == y then (x, v) :: r else (y, u) :: setL x v r
theorem lookup_setL (x : Str) (v : Value) (y : Str) : ∀ m : List (Str × Value), (setL x v m).lookup y = if y = x then some v else m.lookup y
  | [] => by
    simp only [setL, List.lookup_cons, List.lookup_nil]
    by_cases h : y = x
    · subst h; simp
    · have : (y == x) = false := beq_eq_false_iff_ne.mpr h
      simp [this, h]
  | (z, u) :: r => by
    unfold setL
    split
    · rename_i hz
      have hz := beq_iff_eq.mp hz
      subst hz
      simp only [List.lookup_cons]
      by_cases h : y = x
      · subst h; simp
      · have : (y == x) = false := beq_eq_false_iff_ne.mpr h
        simp [this, h]
    · rename_i hz
      have hz : x ≠ z := fun e => hz (beq_iff_eq.mpr e)
      simp only [List.lookup_cons]
      by_cases h : y = z
      · subst h
        simp [Ne.symm hz]
      · have : (y == z) = false := beq_eq_false_iff_ne.mpr h
        rw [this]
        exact lookup_setL x v y r

noncomputable def SubM : List (Str × Value) → List (Str × Value) → Prop
  | [], _ => True
  | (x, v) :: r, m => m.lookup x = some v ∧ SubM r m
theorem SubM.lookup : ∀ {m' m : List (Str × Value)}, SubM m' m → ∀ x v, m'.lookup x = some v → m.lookup x = some v
  | [], _, _, _, _, e => by cases e
  | (y, u) :: r, m, ⟨a, b⟩, x, v, e => by
    rw [List.lookup_cons] at e
    cases hb : x == y with
    | true => rw [hb] at e; cases e; rw [beq_iff_eq.mp hb]; exact a
    | false => rw [hb] at e; exact b.lookup x v e

/-- B: a local name stored -/
theorem St.setLocal {h h' : Heap} (S : St gl Φ σ h) (hf : Φ.fr = true) {x : Str} {v : Value} (hx : Φ.env.kindOf x = some .local) (hs : Heap.SameBut Φ.env.locals h h')
    (hn : ∀ m₀, h.Ns Φ.env.locals m₀ → h'.Ns Φ.env.locals fun y => if y = x then some v else m₀ y) : St gl Φ { σ with m := setL x v σ.m } h' := by
  obtain ⟨m₀, hm₀, hl⟩ := S.loc
  obtain ⟨f1, f2⟩ := S.fr hf
  have notL : ∀ {b o}, σ.G b = some o → b ≠ Φ.env.locals := fun e q => by rw [q, f2] at e; cases e
  have dL : ∃ o es ep, h.get? Φ.env.locals = some o ∧ o.data = .dict es ep := by obtain ⟨o, es, ep, a, b, _⟩ := id hm₀; exact ⟨o, es, ep, a, b⟩
  obtain ⟨oL, esL, epL, eL, dL⟩ := dL
  have cellL : ∀ {c v}, h.IsCell c v → c ≠ Φ.env.locals := fun e q => by
    obtain ⟨o, a, b⟩ := e
    rw [q, eL] at a; cases a; rw [dL] at b; cases b
  refine ⟨fun a o e => (hs.2 a (notL e)).trans (S.sub a o e), S.top, S.room, S.old, S.le0, fun a o e => ?_, fun a o n e => ?_, S.kf, ⟨_, hn m₀ hm₀, fun y u e k => ?_⟩, fun y u e n => ?_, fun _ => ⟨f1, f2⟩, fun f => ⟨fun c hc => ?_, (S.fc f).2⟩,
    fun e he => ?_, S.ownd, ⟨fun p hp => ?_, S.pl.nd, S.pl.np⟩, S.pll, S.pln, S.ox⟩
  · have : a ≠ Φ.env.locals := fun q => by rw [q, f1] at e; cases e
    rw [hs.2 a this]; exact S.live a o e
  · have : a ≠ Φ.env.locals := fun q => by rw [q, f1] at e; cases e
    rw [hs.2 a this]; exact S.keep a o n e
  · rw [lookup_setL] at e
    by_cases q : y = x
    · rw [if_pos q] at e ⊢; exact e
    · rw [if_neg q] at e ⊢; exact hl y u e k
  · rw [lookup_setL] at e
    by_cases q : y = x
    · rw [q] at n; exact absurd hx n
    · rw [if_neg q] at e
      obtain ⟨c, a, b⟩ := S.cel y u e n
      exact ⟨c, a, b.sameBut hs (cellL b)⟩
  · obtain ⟨a, b, w, e⟩ := (S.fc f).1 c hc
    exact ⟨a, b, w, e.sameBut hs (cellL e)⟩
  · obtain ⟨a, b, c, d⟩ := S.own e he
    exact ⟨a.of fun o q => (hs.2 _ d.1).trans q, b, c, d⟩
  · obtain ⟨a, b, ⟨es, n, c, r⟩⟩ := S.pl.each p hp
    exact ⟨a, b, ⟨es, n, (hs.2 _ (S.pll p hp)).trans c, r⟩⟩

/-- C: a cell stored -/
theorem St.setCell {h h' : Heap} (S : St gl Φ σ h) (hf : Φ.fc = true) {x : Str} {c : Addr} {v : Value} (hx : Φ.env.kindOf x ≠ some .local) (hc : Φ.env.cells.lookup x = some c) (hs : Heap.SameBut c h h')
    (hv : h'.IsCell c (some v)) : St gl Φ { σ with m := setL x v σ.m } h' := by
  obtain ⟨m₀, hm₀, hl⟩ := S.loc
  obtain ⟨f3, f4⟩ := S.fc hf
  have hcm := mem_of_lookup hc
  obtain ⟨c1, c2, w, cw⟩ := f3 _ hcm
  obtain ⟨oc, ec, dc⟩ := id cw
  have notC : ∀ {b o}, σ.G b = some o → b ≠ c := fun e q => by rw [q] at e; rw [c2] at e; cases e
  have dictC : ∀ {b o es ep}, h.get? b = some o → o.data = .dict es ep → b ≠ c := fun e d q => by rw [q] at e; rw [ec] at e; cases e; rw [dc] at d; cases d
  have hLc : Φ.env.locals ≠ c := by obtain ⟨o, es, ep, a, b, _⟩ := id hm₀; exact dictC a b
  refine ⟨fun a o e => (hs.2 a (notC e)).trans (S.sub a o e), S.top, S.room, S.old, S.le0, fun a o e => ?_, fun a o n e => ?_, S.kf, ⟨_, hm₀.sameBut hs hLc, fun y u e k => ?_⟩, fun y u e n => ?_,
    S.fr, fun _ => ⟨fun c' hc' => ?_, f4⟩, fun e he => ?_, S.ownd, ⟨fun p hp => ?_, S.pl.nd, S.pl.np⟩, S.pll, S.pln, S.ox⟩
  · have : a ≠ c := fun q => by rw [q] at e; rw [c1] at e; cases e
    rw [hs.2 a this]; exact S.live a o e
  · have : a ≠ c := fun q => by rw [q] at e; rw [c1] at e; cases e
    rw [hs.2 a this]; exact S.keep a o n e
  · rw [lookup_setL] at e
    by_cases q : y = x
    · rw [q] at k; exact absurd k hx
    · rw [if_neg q] at e; exact hl y u e k
  · rw [lookup_setL] at e
    by_cases q : y = x
    · rw [if_pos q] at e; cases e; rw [q]; exact ⟨c, hc, hv⟩
    · rw [if_neg q] at e
      obtain ⟨c', a, b⟩ := S.cel y u e n
      refine ⟨c', a, b.sameBut hs fun z => q ?_⟩
      exact name_of_addr f4 (mem_of_lookup a) (z ▸ hcm)
  · obtain ⟨a, b, w', e⟩ := f3 c' hc'
    by_cases q : c'.2 = c
    · exact ⟨a, b, some v, q ▸ hv⟩
    · exact ⟨a, b, w', e.sameBut hs q⟩
  · obtain ⟨a, b, d1, d⟩ := S.own e he
    exact ⟨a.of fun o q => (hs.2 _ (d.2 hf _ hcm)).trans q, b, d1, d⟩
  · obtain ⟨a, b, ⟨es, n, d, r⟩⟩ := S.pl.each p hp
    exact ⟨a, b, ⟨es, n, (hs.2 _ (dictC d rfl)).trans d, r⟩⟩

end
end Mine

end
section
namespace Mine
section
variable {gl : Gl} {Φ : Fx} {σ : Sta}

theorem mem_of_get {α : Type} {l : List α} {i : Nat} {x : α} (h : l[i]? = some x) : x ∈ l := List.mem_of_getElem? h

theorem nodup_set {l : List (Addr × Cl)} {i : Nat} {a : Addr} {c c' : Cl} (h : l[i]? = some (a, c)) : (l.set i (a, c')).map (·.1) = l.map (·.1) := by
  apply List.ext_getElem?
  intro j
  simp only [List.getElem?_map, List.getElem?_set]
  by_cases q : i = j
  · subst q
    obtain ⟨hl, _⟩ := List.getElem?_eq_some_iff.mp h
    obtain ⟨_, e⟩ := List.getElem?_eq_some_iff.mp h
    simp [hl, e]
  · simp [q]
theorem mem_set {α : Type} {l : List α} {i : Nat} {x y : α} (h : y ∈ l.set i x) : y = x ∨ ∃ j, j ≠ i ∧ l[j]? = some y := by
  obtain ⟨j, hj⟩ := List.getElem?_of_mem h
  rw [List.getElem?_set] at hj
  by_cases q : i = j
  · subst q
    split at hj
    · split at hj
      · exact .inl (Option.some.inj hj).symm
      · cases hj
    · exact absurd rfl ‹_›
  · rw [if_neg q] at hj
    exact .inr ⟨j, Ne.symm q, hj⟩
theorem nodup_ne {l : List (Addr × Cl)} (hd : (l.map (·.1)).Nodup) {i j : Nat} {x y : Addr × Cl} (hi : l[i]? = some x) (hj : l[j]? = some y) (hne : j ≠ i) : y.1 ≠ x.1 := by
  intro e
  have h1 : (l.map (·.1))[i]? = some x.1 := by simp [hi]
  have h2 : (l.map (·.1))[j]? = some x.1 := by simp [hj, e]
  obtain ⟨l1, e1⟩ := List.getElem?_eq_some_iff.mp h1
  obtain ⟨l2, e2⟩ := List.getElem?_eq_some_iff.mp h2
  have e3 := List.Nodup.idxOf_getElem hd i l1
  have e4 := List.Nodup.idxOf_getElem hd j l2
  rw [e1] at e3; rw [e2] at e4
  exact hne (e4.symm.trans e3)

/-- the heap changes at owned addresses alone -/
theorem St.setOwn {h h' : Heap} (S : St gl Φ σ h) {i : Nat} {a : Addr} {c c' : Cl} (hi : σ.own[i]? = some (a, c)) (hk : ∀ b o, b ≠ a → h.get? b = some o → h'.get? b = some o) (hc : c'.At h' a)
    (hnd : ∀ v, ¬ (∃ o, h.get? a = some o ∧ o.data = .cell v)) :
    St gl Φ { σ with own := σ.own.set i (a, c') } h' := by
  obtain ⟨m₀, hm₀, hl⟩ := S.loc
  obtain ⟨a1, a2, a3, a4⟩ := S.own _ (mem_of_get hi)
  have hLa : Φ.env.locals ≠ a := Ne.symm a4.1
  have cellA : ∀ {b v}, h.IsCell b v → b ≠ a := fun ⟨o, e, d⟩ q => hnd _ ⟨o, q ▸ e, d⟩
  refine ⟨fun b o e => hk b o (fun q => ?_) (S.sub b o e), S.top, S.room, S.old, S.le0, fun b o e => ?_, fun b o n e => hk b o (fun q => ?_) (S.keep b o n e), S.kf, ⟨m₀, hm₀.at' fun o e => hk _ _ hLa e, hl⟩, fun x v e n => ?_, S.fr, fun f => ?_,
    fun e he => ?_, by rw [nodup_set hi]; exact S.ownd, ⟨fun p hp => ?_, S.pl.nd, S.pl.np⟩, S.pll, S.pln, fun e he p hp => ?_⟩
  · have : σ.G a = none := a3
    rw [q, this] at e; cases e
  · obtain ⟨o', e'⟩ := S.live b o e
    by_cases q : b = a
    · rw [q]; exact hc.alive
    · exact ⟨o', hk _ _ q e'⟩
  · have : Φ.h₀.get? a = none := a2
    rw [q, this] at e; cases e
  · obtain ⟨c0, e1, e2⟩ := S.cel x v e n
    exact ⟨c0, e1, by obtain ⟨o, e3, e4⟩ := id e2; exact ⟨o, hk _ _ (cellA e2) e3, e4⟩⟩
  · obtain ⟨f3, f4⟩ := S.fc f
    refine ⟨fun x hx => ?_, f4⟩
    obtain ⟨g1, g2, v, g3⟩ := f3 x hx
    refine ⟨g1, g2, v, ?_⟩
    obtain ⟨o, e3, e4⟩ := id g3
    exact ⟨o, hk _ _ (cellA g3) e3, e4⟩
  · rcases mem_set he with rfl | ⟨j, hj, e'⟩
    · exact ⟨hc, a2, a3, a4⟩
    · obtain ⟨b1, b2, b3, b4⟩ := S.own _ (mem_of_get e')
      exact ⟨b1.of fun o q => hk _ _ (nodup_ne S.ownd hi e' hj) q, b2, b3, b4⟩
  · obtain ⟨b1, b2, ⟨es, n, b3, b4⟩⟩ := S.pl.each p hp
    refine ⟨b1, b2, ⟨es, n, hk _ _ (fun q => ?_) b3, b4⟩⟩
    exact S.ox _ (mem_of_get hi) p hp q.symm
  · rcases mem_set he with rfl | ⟨j, hj, e'⟩
    · exact S.ox _ (mem_of_get hi) p hp
    · exact S.ox _ (mem_of_get e') p hp

theorem St.fresh {h : Heap} (S : St gl Φ σ h) {a : Addr} (ha : h.get? a = none) : Φ.h₀.get? a = none ∧ σ.G a = none ∧ a ≠ Φ.env.locals ∧ (Φ.fc = true → ∀ c ∈ Φ.env.cells, a ≠ c.2) ∧ (∀ e ∈ σ.own, e.1 ≠ a) ∧ ∀ p ∈ σ.pl, a ≠ p.da := by
  refine ⟨?_, ?_, ?_, ?_, ?_, ?_⟩
  · cases q : Φ.h₀.get? a with
    | none => rfl
    | some o => obtain ⟨o', e⟩ := S.live a o q; rw [ha] at e; cases e
  · cases q : σ.G a with
    | none => rfl
    | some o => have := S.sub a o q; rw [ha] at this; cases this
  · rintro rfl
    obtain ⟨m₀, ⟨o, es, ep, e, _⟩, _⟩ := S.loc
    rw [ha] at e; cases e
  · rintro f c hc rfl
    obtain ⟨_, _, v, o, e, _⟩ := (S.fc f).1 c hc
    rw [ha] at e; cases e
  · rintro e he rfl
    obtain ⟨o, q⟩ := (S.own e he).1.alive
    rw [ha] at q; cases q
  · rintro p hp rfl
    obtain ⟨es, n, q, _⟩ := (S.pl.each p hp).2.2
    rw [ha] at q; cases q

/-- E: a new owned object -/
theorem St.addOwn {h h' : Heap} (S : St gl Φ σ h) {a : Addr} {c : Cl} (ha : h.get? a = none) (hk : Le h.get? h'.get?) (hc : c.At h' a) :
    St gl Φ { σ with own := (a, c) :: σ.own } h' := by
  have S' := S.same hk
  obtain ⟨a1, a2, a3, a4, a5, a6⟩ := S.fresh ha
  refine ⟨S'.sub, S'.top, S'.room, S'.old, S'.le0, S'.live, S'.keep, S'.kf, S'.loc, S'.cel, S'.fr, S'.fc, fun e he => ?_, ?_, S'.pl, S'.pll, S'.pln, fun e he p hp => ?_⟩
  · rcases List.mem_cons.mp he with rfl | he
    · exact ⟨hc, a1, a2, a3, a4⟩
    · exact S'.own e he
  · rw [List.map_cons, List.nodup_cons]
    refine ⟨fun hm => ?_, S.ownd⟩
    obtain ⟨e, he, q⟩ := List.mem_map.mp hm
    exact a5 e he q
  · rcases List.mem_cons.mp he with rfl | he
    · exact a6 p hp
    · exact S.ox e he p hp

/-- G: an owned object forgotten -/
theorem St.dropOwn {h : Heap} (S : St gl Φ σ h) (i : Nat) : St gl Φ { σ with own := σ.own.eraseIdx i } h := by
  have sub : ∀ e, e ∈ σ.own.eraseIdx i → e ∈ σ.own := fun e he => List.mem_of_mem_eraseIdx he
  refine ⟨S.sub, S.top, S.room, S.old, S.le0, S.live, S.keep, S.kf, S.loc, S.cel, S.fr, S.fc, fun e he => S.own e (sub e he), ?_, S.pl, S.pll, S.pln, fun e he p hp => S.ox e (sub e he) p hp⟩
  exact S.ownd.sublist ((List.eraseIdx_sublist _ _).map _)

noncomputable def addG (G : PM) (a : Addr) (o : Obj) : PM := fun b => if b = a then some o else G b
theorem le_addG {G : PM} {a : Addr} {o : Obj} (h : G a = none) : Le G (addG G a o) := fun b o' e => by
  unfold addG
  rw [if_neg (fun q => by rw [q, h] at e; cases e)]; exact e

/-- F: an owned object frozen -/
theorem St.freeze {h : Heap} (S : St gl Φ σ h) {i : Nat} {a : Addr} {c : Cl} (hi : σ.own[i]? = some (a, c)) {o : Obj} (ho : h.get? a = some o) :
    St gl Φ { σ with G := addG σ.G a o, own := σ.own.eraseIdx i } h := by
  obtain ⟨a1, a2, a3, a4⟩ := S.own _ (mem_of_get hi)
  have a2 : Φ.h₀.get? a = none := a2
  have a3 : σ.G a = none := a3
  have S' := S.dropOwn i
  have ne : ∀ e ∈ σ.own.eraseIdx i, e.1 ≠ a := fun e he => by
    obtain ⟨j, hj, hje⟩ := List.mem_eraseIdx_iff_getElem?.mp he
    exact nodup_ne S.ownd hi hje hj
  refine ⟨fun b o' e => ?_, S.top.trans (le_addG a3), S.room, fun b o' e => ?_, S.le0.trans (le_addG a3), S.live, S.keep, S.kf, S.loc, S.cel, fun f => ?_, fun f => ?_, fun e he => ?_, S'.ownd, ⟨fun p hp => ?_, S.pl.nd, S.pl.np⟩, S.pll, S.pln, S'.ox⟩
  · simp only [addG] at e
    split at e
    · cases e; rename_i q; rw [q]; exact ho
    · exact S.sub b o' e
  · show (if b = a then some o else σ.G b) = _
    rw [if_neg (fun q => by rw [q, a2] at e; cases e)]
    exact S.old b o' e
  · obtain ⟨f1, f2⟩ := S.fr f
    refine ⟨f1, ?_⟩
    show (if Φ.env.locals = a then some o else σ.G Φ.env.locals) = none
    rw [if_neg (Ne.symm a4.1)]; exact f2
  · obtain ⟨f3, f4⟩ := S.fc f
    refine ⟨fun x hx => ?_, f4⟩
    obtain ⟨g1, g2, g3⟩ := f3 x hx
    refine ⟨g1, ?_, g3⟩
    show (if x.2 = a then some o else σ.G x.2) = none
    rw [if_neg (Ne.symm (a4.2 f x hx))]; exact g2
  · obtain ⟨b1, b2, b3, b4⟩ := S'.own e he
    refine ⟨b1, b2, ?_, b4⟩
    show (if e.1 = a then some o else σ.G e.1) = none
    rw [if_neg (ne e he)]; exact b3
  · obtain ⟨b1, b2, b3⟩ := S.pl.each p hp
    refine ⟨le_addG a3 _ _ b1, ?_, b3⟩
    show (if p.da = a then some o else σ.G p.da) = none
    rw [if_neg (fun q => S.ox _ (mem_of_get hi) p hp q.symm)]; exact b2

/-- H: what a call leaves -/
structure Ext (gl : Gl) (mu : Bool) (G : PM) (h : Heap) (pl : List Pl) (G' : PM) (h' : Heap) (pl' : List Pl) : Prop where
  keep : ∀ a o, ¬ WdOf mu pl a → h.get? a = some o → h'.get? a = some o
  live : ∀ a o, h.get? a = some o → ∃ o', h'.get? a = some o'
  sub : Le G' h'.get?
  le : Le G G'
  new : ∀ a o, h.get? a = some o → G' a = G a
  plo : PlOk gl G' h' pl'
  pln : ∀ p : Pl, p ∈ pl' → (∃ q : Pl, q ∈ pl ∧ q.da = p.da) ∨ h.get? p.da = none

theorem St.called {h h' : Heap} (S : St gl Φ σ h) {mu : Bool} {G' : PM} {pl' : List Pl} (X : Ext gl mu σ.G h σ.pl G' h' pl') (hm : mu = true → Φ.mu = true) :
    St gl Φ { σ with G := G', pl := pl' } h' := by
  obtain ⟨m₀, hm₀, hl⟩ := S.loc
  have da : ∀ p ∈ σ.pl, ∃ es n, h.get? p.da = some (dictOf es n) := fun p hp => by obtain ⟨es, n, e, _⟩ := (S.pl.each p hp).2.2; exact ⟨es, n, e⟩
  have keepC : ∀ {c v}, h.IsCell c v → h'.IsCell c v := fun ⟨o, e, d⟩ => ⟨o, X.keep _ _ (fun ⟨_, p, hp, q⟩ => by
    obtain ⟨es, n, z⟩ := da p hp
    rw [q, z] at e; cases e; cases d) e, d⟩
  obtain ⟨oL, es, ep, eL, dL, r⟩ := id hm₀
  have hL : ∀ o, h.get? Φ.env.locals = some o → h'.get? Φ.env.locals = some o := fun o e => X.keep _ _ (fun ⟨_, p, hp, q⟩ => S.pll p hp q.symm) e
  refine ⟨X.sub, S.top.trans X.le, S.room, fun a o e => ?_, S.le0.trans X.le, fun a o e => ?_, fun a o n e => X.keep _ _ (fun w => n ?_) (S.keep a o n e), S.kf, ⟨m₀, hm₀.at' hL, hl⟩, fun x v e n => ?_, fun f => ?_, fun f => ?_,
    fun e he => ?_, S.ownd, X.plo, fun p hp q => ?_, fun p hp => ?_, fun e he p hp q => ?_⟩
  · obtain ⟨o', e'⟩ := S.live a o e; exact (X.new _ _ e').trans (S.old a o e)
  · obtain ⟨o', e'⟩ := S.live a o e; exact X.live _ _ e'
  · obtain ⟨w1, p, hp, rfl⟩ := w
    rcases S.pln p hp with ⟨q, hq, e'⟩ | e'
    · exact ⟨hm w1, q, hq, e'.symm⟩
    · rw [e'] at e; cases e
  · obtain ⟨c, a, b⟩ := S.cel x v e n; exact ⟨c, a, keepC b⟩
  · obtain ⟨f1, f2⟩ := S.fr f
    exact ⟨f1, (X.new _ _ eL).trans f2⟩
  · obtain ⟨f3, f4⟩ := S.fc f
    refine ⟨fun c hc => ?_, f4⟩
    obtain ⟨g1, g2, v, g3⟩ := f3 c hc
    obtain ⟨o, e, _⟩ := id g3
    exact ⟨g1, (X.new _ _ e).trans g2, v, keepC g3⟩
  · obtain ⟨a, b, c, d⟩ := S.own e he
    obtain ⟨o, q⟩ := a.alive
    exact ⟨a.of fun o q => X.keep _ _ (fun ⟨_, p, hp, z⟩ => S.ox e he p hp z) q, b, (X.new _ _ q).trans c, d⟩
  · rcases X.pln p hp with ⟨p', hp', e⟩ | e
    · exact S.pll p' hp' (e.trans q)
    · rw [q, eL] at e; cases e
  · rcases X.pln p hp with ⟨p', hp', e⟩ | e
    · rcases S.pln p' hp' with ⟨q, hq, z⟩ | z
      · exact .inl ⟨q, hq, z.trans e⟩
      · exact .inr (e ▸ z)
    · exact .inr (S.fresh e).1
  · rcases X.pln p hp with ⟨p', hp', z⟩ | z
    · exact S.ox e he p' hp' (q.trans z.symm)
    · exact (S.fresh z).2.2.2.2.1 e he q

noncomputable def CallP (gl : Gl) (n : Nat) (mu : Bool) (f : Value) (args : List Value) (G : PM) (pl : List Pl) (P : PM → List Pl → Value → Prop) : Prop :=
  ∀ A h g d tk os (R : Result → Shared → Prop), Room A n → Le gl.H.get? G → Le G h.get? → PlOk gl G h pl →
    (∀ v G' h' pl' tk', Ext gl mu G h pl G' h' pl' → P G' pl' v → R (.ok (.ret v)) ⟨h', g, d, tk', os⟩) → codeAny (model gl.prog gl.w) A (.call f ⟨args, []⟩) R ⟨h, g, d, tk, os⟩

theorem Room.le {A : Around} {n m : Nat} (h : Room A n) (hm : m ≤ n) : Room A m := by
  obtain ⟨a, b, c⟩ := h
  exact ⟨a, by omega, by omega⟩

theorem TT.call {f : Value} {args : List Value} {n : Nat} {mu : Bool} {P : PM → List Pl → Value → Prop} {Q : Value → Sta → Prop} (c : CallP gl n mu f args σ.G σ.pl P) (hn : n ≤ Φ.n) (hm : mu = true → Φ.mu = true)
    (k : ∀ v G' pl', Le σ.G G' → P G' pl' v → Q v { σ with G := G', pl := pl' }) : TT gl Φ (PySem.call f args) σ Q :=
  fun h g d tk os Q' E S q => wpAny_call (c _ h g d tk os _ (S.room.le hn) S.top S.sub S.pl fun v G' h' pl' tk' X p => q v _ h' tk' (S.called X hm) (k v G' pl' X.le p))

end
end Mine

end
section
namespace Mine
section
variable {gl : Gl} {Φ : Fx} {σ : Sta}

/-! the compound trees -/
theorem TT.execs_nil {P : Flow → Sta → Prop} (x : P .next σ) : TT gl Φ (execs [] Φ.env) σ P :=
  .calm (a := .next) (fun _ _ _ tk _ _ _ _ q => wpAny_execs_nil (q tk)) x
theorem TT.execs_cons {st : Stmt} {rest : List Stmt} {P : Flow → Sta → Prop}
    (x : TT gl Φ (exec st Φ.env) σ fun f σ' => match f with | .next => TT gl Φ (execs rest Φ.env) σ' P | f => P f σ') : TT gl Φ (execs (st :: rest) Φ.env) σ P :=
  fun h g d tk os Q E S q => wpAny_execs_cons (x h g d tk os _ E S fun f σ' h' tk' S' p => by
    cases f with
    | next => exact p h' g d tk' os Q E S' q
    | brk => exact q _ _ _ _ S' p
    | cont => exact q _ _ _ _ S' p
    | ret v => exact q _ _ _ _ S' p)

theorem TT.int {i : Int} {k pos} {P : Value → Sta → Prop} (x : ∀ t, P (.int i t) σ) : TT gl Φ (eval (.Constant (.int i) k pos) Φ.env) σ P :=
  .calmE fun _ _ _ _ _ _ _ _ q => wpAny_Constant_int (q _ _ (x _))
theorem TT.str {i : Str} {k pos} {P : Value → Sta → Prop} (x : ∀ t, P (.str i t) σ) : TT gl Φ (eval (.Constant (.str i) k pos) Φ.env) σ P :=
  .calmE fun _ _ _ _ _ _ _ _ q => Constant_str (q _ _ (x _))
theorem TT.bool {c : Bool} {k pos} {P : Value → Sta → Prop} (x : P (.bool c) σ) : TT gl Φ (eval (.Constant (.bool c) k pos) Φ.env) σ P :=
  .calmE fun _ _ _ _ _ _ _ _ q => Constant_bool (q _ _ x)
theorem TT.nonev {k pos} {P : Value → Sta → Prop} (x : P Value.none σ) : TT gl Φ (eval (.Constant Const.none k pos) Φ.env) σ P :=
  .calmE fun _ _ _ _ _ _ _ _ q => Constant_none (q _ _ x)

theorem TT.ld {x : Str} {v : Value} {P : Value → Sta → Prop} (hv : σ.m.lookup x = some v) (p : P v σ) (hk : Φ.env.kindOf x = some .local ∨ Φ.env.kindOf x = some .cell ∨ Φ.env.kindOf x = some .free)
    (hn : (x == ("__classdict__" : Str)) = false := by decide) : TT gl Φ (loadName Φ.env x) σ P :=
  .calm (a := v) (fun h g d tk os Q E S q => by
    obtain ⟨m₀, hm₀, hl⟩ := S.loc
    rcases hk with hk | hk | hk
    · exact wpAny_loadName_local S.kf hk hm₀ (hl _ _ hv hk) (q tk)
    · obtain ⟨c, a, b⟩ := S.cel x v hv (by rw [hk]; intro e; cases e)
      exact wpAny_loadName_cell S.kf hk a b (q tk)
    · obtain ⟨c, a, b⟩ := S.cel x v hv (by rw [hk]; intro e; cases e)
      exact wpAny_loadName_free S.kf hk a b (q tk) hn) p

theorem TT.name {x : Str} {pos} {v : Value} {P : Value → Sta → Prop} (hv : σ.m.lookup x = some v) (p : P v σ) (hk : Φ.env.kindOf x = some .local ∨ Φ.env.kindOf x = some .cell ∨ Φ.env.kindOf x = some .free)
    (hn : (x == ("__classdict__" : Str)) = false := by decide) (hd : (x == ("__debug__" : Str)) = false := by decide) : TT gl Φ (eval (.Name x pos) Φ.env) σ P :=
  fun h g d tk os Q E S q => wpAny_Name (TT.ld hv p hk hn h g d tk os Q E S q) hd

theorem Gl.Ok.mgSome (T : gl.Ok) {x : Str} {v : Value} (e : nsIn gl.K mainGlobals x = some (some v)) : gl.mg x = some v := mg_of T.ki T.g e
theorem Gl.Ok.mgNone (T : gl.Ok) {x : Str} (e : nsIn gl.K mainGlobals x = some none) : gl.mg x = .none := mg_none_of T.ki T.g e

theorem TT.glob (T : gl.Ok) {x : Str} {pos} {v : Value} {P : Value → Sta → Prop} (e : nsIn gl.K mainGlobals x = some (some v)) (p : P v σ) (hk : Φ.env.kindOf x = some .globalImplicit := by rfl)
    (hg : Φ.env.globals = mainGlobals := by rfl) (hd : (x == ("__debug__" : Str)) = false := by decide) : TT gl Φ (eval (.Name x pos) Φ.env) σ P :=
  .calm (a := v) (fun h g d tk os Q E S q => Name_function_global S.kf hk (loadGlobal_global (hg ▸ T.g.keeps S.topH) (T.mgSome e) (q tk)) hd) p
theorem TT.built (T : gl.Ok) {x : Str} {pos} {v : Value} {P : Value → Sta → Prop} (e : nsIn gl.K mainGlobals x = some none) (hv : bootBuiltins x = some v) (p : P v σ) (hn : x ≠ "__name__" := by decide)
    (hk : Φ.env.kindOf x = some .globalImplicit := by rfl)
    (hg : Φ.env.globals = mainGlobals := by rfl) (hb : Φ.env.builtins = builtinsNs := by rfl) (hd : (x == ("__debug__" : Str)) = false := by decide) : TT gl Φ (eval (.Name x pos) Φ.env) σ P :=
  .calm (a := v) (fun h g d tk os Q E S q => Name_function_global S.kf hk (loadGlobal_builtin (hg ▸ T.g.keeps S.topH) (T.mgNone e) (hb ▸ T.b.keeps S.topH) ((T.boot x hn).trans hv) (q tk)) hd) p

theorem TT.binop {l : Expr} {op : Operator} {r : Expr} {pos} {P : Value → Sta → Prop}
    (x : TT gl Φ (eval l Φ.env) σ fun a σ₁ => TT gl Φ (eval r Φ.env) σ₁ fun b σ₂ => TT gl Φ (binaryOp op a b) σ₂ P) : TT gl Φ (eval (.BinOp l op r pos) Φ.env) σ P :=
  fun h g d tk os Q E S q => wpAny_BinOp (x h g d tk os _ E S fun a σ₁ h₁ tk₁ S₁ y => y h₁ g d tk₁ os _ E S₁ fun b σ₂ h₂ tk₂ S₂ z => z h₂ g d tk₂ os Q E S₂ q)
theorem TT.cmp {l : Expr} {op : CmpOp} {r : Expr} {pos} {P : Value → Sta → Prop}
    (x : TT gl Φ (eval l Φ.env) σ fun a σ₁ => TT gl Φ (eval r Φ.env) σ₁ fun b σ₂ => TT gl Φ (compareOp op a b) σ₂ P)
    (hm : behindInMarks op r = false := by with_unfolding_all rfl) : TT gl Φ (eval (.Compare l [op] [r] pos) Φ.env) σ P :=
  fun h g d tk os Q E S q => wpAny_Compare1 (x h g d tk os _ E S fun a σ₁ h₁ tk₁ S₁ y => y h₁ g d tk₁ os _ E S₁ fun b σ₂ h₂ tk₂ S₂ z => z h₂ g d tk₂ os Q E S₂ q) hm
theorem TT.tcmp {l : Expr} {op : CmpOp} {r : Expr} {pos} {whole : Sem Value} {P : Bool → Sta → Prop}
    (x : TT gl Φ (eval l Φ.env) σ fun a σ₁ => TT gl Φ (eval r Φ.env) σ₁ fun b σ₂ => TT gl Φ (compareOp op a b) σ₂ fun c σ₃ => TT gl Φ (truthy c) σ₃ P)
    (hm : behindInMarks op r = false := by with_unfolding_all rfl) : TT gl Φ (isTrue (.Compare l [op] [r] pos) Φ.env whole) σ P :=
  fun h g d tk os Q E S q => wpAny_isTrue_Compare1 (x h g d tk os _ E S fun a σ₁ h₁ tk₁ S₁ y => y h₁ g d tk₁ os _ E S₁ fun b σ₂ h₂ tk₂ S₂ z => z h₂ g d tk₂ os _ E S₂ fun c σ₃ h₃ tk₃ S₃ u => u h₃ g d tk₃ os Q E S₃ q) hm
theorem TT.truthy_bool {b : Bool} {P : Bool → Sta → Prop} (x : P b σ) : TT gl Φ (truthy (.bool b)) σ P :=
  .calm (a := b) (fun _ _ _ tk _ _ _ _ q => wpAny_truthy_bool (q tk)) x
theorem TT.tplain {e : Expr} {whole : Sem Value} {P : Bool → Sta → Prop} (x : TT gl Φ whole σ fun v σ₁ => TT gl Φ (truthy v) σ₁ P)
    (he : isTrue e Φ.env whole = (do let v ← whole; standAt e.pos; holding [v] (truthy v)) := by rfl) : TT gl Φ (isTrue e Φ.env whole) σ P :=
  fun h g d tk os Q E S q => isTrue_plain (x h g d tk os _ E S fun a σ₁ h₁ tk₁ S₁ y => y h₁ g d tk₁ os Q E S₁ q) he
theorem TT.tnot {e : Expr} {pos} {whole : Sem Value} {P : Bool → Sta → Prop} (x : TT gl Φ (isTrue e Φ.env (eval e Φ.env)) σ fun c σ' => P (!c) σ') : TT gl Φ (isTrue (.UnaryOp .Not e pos) Φ.env whole) σ P :=
  fun h g d tk os Q E S q => isTrue_not (x h g d tk os _ E S fun c σ' h' tk' S' p => q _ _ _ _ S' p)
theorem TT.tand_nil {pos} {whole : Sem Value} {P : Bool → Sta → Prop} (x : P true σ) : TT gl Φ (isTrue (.BoolOp .And [] pos) Φ.env whole) σ P :=
  .calm (a := true) (fun _ _ _ tk _ _ _ _ q => isTrue_and_nil (q tk)) x
theorem TT.tor_nil {pos} {whole : Sem Value} {P : Bool → Sta → Prop} (x : P false σ) : TT gl Φ (isTrue (.BoolOp .Or [] pos) Φ.env whole) σ P :=
  .calm (a := false) (fun _ _ _ tk _ _ _ _ q => isTrue_or_nil (q tk)) x
theorem TT.tand {e : Expr} {rest : List Expr} {pos} {whole : Sem Value} {P : Bool → Sta → Prop}
    (x : TT gl Φ (isTrue e Φ.env (eval e Φ.env)) σ fun c σ' => if c then TT gl Φ (isTrue (.BoolOp .And rest pos) Φ.env whole) σ' P else P false σ') : TT gl Φ (isTrue (.BoolOp .And (e :: rest) pos) Φ.env whole) σ P :=
  fun h g d tk os Q E S q => isTrue_and (x h g d tk os _ E S fun c σ' h' tk' S' p => by
    cases c with
    | true => exact p h' g d tk' os Q E S' q
    | false => exact q _ _ _ _ S' p)
theorem TT.tor {e : Expr} {rest : List Expr} {pos} {whole : Sem Value} {P : Bool → Sta → Prop}
    (x : TT gl Φ (isTrue e Φ.env (eval e Φ.env)) σ fun c σ' => if c then P true σ' else TT gl Φ (isTrue (.BoolOp .Or rest pos) Φ.env whole) σ' P) : TT gl Φ (isTrue (.BoolOp .Or (e :: rest) pos) Φ.env whole) σ P :=
  fun h g d tk os Q E S q => isTrue_or (x h g d tk os _ E S fun c σ' h' tk' S' p => by
    cases c with
    | false => exact p h' g d tk' os Q E S' q
    | true => exact q _ _ _ _ S' p)

theorem TT.ite {test : Expr} {body orelse : List Stmt} {pos} {P : Flow → Sta → Prop}
    (x : TT gl Φ (isTrue test Φ.env (eval test Φ.env)) σ fun b σ' => if b then TT gl Φ (execs body Φ.env) σ' P else TT gl Φ (execs orelse Φ.env) σ' P) : TT gl Φ (exec (.If test body orelse pos) Φ.env) σ P :=
  fun h g d tk os Q E S q => wpAny_If (x h g d tk os _ E S fun b σ' h' tk' S' p => by
    cases b <;> exact p h' g d tk' os Q E S' q)
theorem TT.ret {e : Expr} {pos} {P : Flow → Sta → Prop} (x : TT gl Φ (eval e Φ.env) σ fun v σ' => P (.ret v) σ') : TT gl Φ (exec (.Return (some e) pos) Φ.env) σ P :=
  fun h g d tk os Q E S q => wpAny_Return_some (x h g d tk os _ E S fun v σ' h' tk' S' p => q _ _ _ _ S' p)
theorem TT.brk {pos} {P : Flow → Sta → Prop} (x : P .brk σ) : TT gl Φ (exec (.Break pos) Φ.env) σ P :=
  .calm (a := .brk) (fun _ _ _ tk _ _ _ _ q => wpAny_Break (q tk)) x
theorem TT.pass {pos} {P : Flow → Sta → Prop} (x : P .next σ) : TT gl Φ (exec (.Pass pos) Φ.env) σ P :=
  .calm (a := .next) (fun _ _ _ tk _ _ _ _ q => wpAny_Pass (q tk)) x
theorem TT.expr {e : Expr} {pos} {P : Flow → Sta → Prop} (x : TT gl Φ (eval e Φ.env) σ fun _ σ' => P .next σ') (hi : interactive Φ.env = false := by rfl) (hs : swapsWith e none pos.line Φ.env = Pure.pure false := by rfl) :
    TT gl Φ (exec (.Expr e pos) Φ.env) σ P :=
  fun h g d tk os Q E S q => wpAny_Expr_any (x h g d tk os _ E S fun v σ' h' tk' S' p => q _ _ _ _ S' p) hi hs

/-! stores -/
theorem TT.st {x : Str} {v : Value} {P : Unit → Sta → Prop} (p : P () { σ with m := setL x v σ.m }) (hk : Φ.env.kindOf x = some .local := by rfl) (hf : Φ.fr = true := by rfl) : TT gl Φ (storeName Φ.env x v) σ P :=
  fun h g d tk os Q E S q => by
    obtain ⟨m₀, hm₀, hl⟩ := S.loc
    refine wpAny_storeName_local hk hm₀ (fun h' hn hs => q () _ h' _ (S.setLocal hf hk hs fun m₁ hm₁ => ?_) p) (by rw [S.kf]; rfl)
    have : m₀ = m₁ := by
      obtain ⟨o, es, ep, a, b, _, c⟩ := hm₀
      obtain ⟨o', es', ep', a', b', _, c'⟩ := hm₁
      rw [a] at a'; cases a'; rw [b] at b'; cases b'
      funext n; rw [← c, ← c']
    exact this ▸ hn
theorem TT.stC {x : Str} {v : Value} {P : Unit → Sta → Prop} (p : P () { σ with m := setL x v σ.m }) (hk : Φ.env.kindOf x = some .cell := by rfl) (hc : (Φ.env.cells.lookup x).isSome = true := by rfl) (hf : Φ.fc = true := by rfl) :
    TT gl Φ (storeName Φ.env x v) σ P :=
  fun h g d tk os Q E S q => by
    obtain ⟨c, hc⟩ := Option.isSome_iff_exists.mp hc
    obtain ⟨f3, f4⟩ := S.fc hf
    obtain ⟨_, _, v₀, hv₀⟩ := f3 _ (mem_of_lookup hc)
    exact wpAny_storeName_cell S.kf hk hc hv₀ fun h' hv hs => q () _ h' _ (S.setCell hf (by rw [hk]; intro e; cases e) hc hs hv) p
theorem TT.asg {x : Str} {pos' pos} {value : Expr} {P : Flow → Sta → Prop} (p : TT gl Φ (eval value Φ.env) σ fun v σ' => TT gl Φ (storeName Φ.env x v) σ' fun _ => P .next)
    (hs : swapsWith value (some (.Name x pos')) pos.line Φ.env = Pure.pure false := by rfl) : TT gl Φ (exec (.Assign [.Name x pos'] value pos) Φ.env) σ P :=
  fun h g d tk os Q E S q => wpAny_Assign_Name (p h g d tk os _ E S fun v σ' h' tk' S' y => y h' g d tk' os _ E S' fun _ σ₂ h₂ tk₂ S₂ z => q _ _ _ _ S₂ z) hs
theorem TT.tgt {x : Str} {pos} {v : Value} {P : Unit → Sta → Prop} (p : TT gl Φ (storeName Φ.env x v) σ P) : TT gl Φ (assign (.Name x pos) Φ.env v) σ P :=
  fun h g d tk os Q E S q => wpAny_assign_Name (p h g d tk os Q E S q)

/-! calls -/
theorem TT.sp_nil {pos} {P : List Value → Sta → Prop} (x : P [] σ) : TT gl Φ (spliced (backTo pos (starEach [] Φ.env))) σ P :=
  .calm (a := []) (fun _ _ _ tk _ _ _ _ q => spliced_none (q tk)) x
theorem TT.sp_cons {e : Expr} {rest : List Expr} {pos} {P : List Value → Sta → Prop}
    (x : TT gl Φ (eval e Φ.env) σ fun v σ₁ => TT gl Φ (spliced (backTo pos (starEach rest Φ.env))) σ₁ fun vs σ₂ => P (v :: vs) σ₂)
    (he : starEach (e :: rest) Φ.env = (false, eval e Φ.env) :: starEach rest Φ.env := by rfl) : TT gl Φ (spliced (backTo pos (starEach (e :: rest) Φ.env))) σ P :=
  fun h g d tk os Q E S q => by
    rw [he]
    exact spliced_cons (x h g d tk os _ E S fun v σ₁ h₁ tk₁ S₁ y => y h₁ g d tk₁ os _ E S₁ fun vs σ₂ h₂ tk₂ S₂ z => q _ _ _ _ S₂ z)

theorem TT.callee (T : gl.Ok) {f : Value} {first : List Value} {e : Expr} {rest : List Expr} {pos} {P : Value → Sta → Prop} (hk : keepIn gl.K f = true)
    (x : TT gl Φ (spliced (backTo pos (starEach (e :: rest) Φ.env))) σ fun vs σ₁ => TT gl Φ (PySem.call f (first ++ vs)) σ₁ P)
    (he : starEach (e :: rest) Φ.env = (false, eval e Φ.env) :: starEach rest Φ.env := by rfl) (hplain : (backTo pos (starEach rest Φ.env)).any (·.1) = false := by rfl) :
    TT gl Φ (callWith pos f first (backTo pos (starEach (e :: rest) Φ.env)) []) σ P :=
  fun h g d tk os Q E S q => callWith_K (h₀ := gl.H) T.ki hk (x h g d tk os _ E S fun vs σ₁ h₁ tk₁ S₁ y => ⟨S₁.inK T, y h₁ g d tk₁ os Q E S₁ q⟩) he hplain
theorem TT.callee0 (T : gl.Ok) {f : Value} {first : List Value} {pos} {P : Value → Sta → Prop} (hk : keepIn gl.K f = true)
    (x : TT gl Φ (PySem.call f (first ++ [])) σ P) : TT gl Φ (callWith pos f first (backTo pos (starEach [] Φ.env)) []) σ P :=
  fun h g d tk os Q E S q => callWith_K0 (S.inK T) hk (x h g d tk os Q E S q)
theorem TT.calleeB {id : String} {first : List Value} {e : Expr} {rest : List Expr} {pos} {P : Value → Sta → Prop}
    (x : TT gl Φ (spliced (backTo pos (starEach (e :: rest) Φ.env))) σ fun vs σ₁ => TT gl Φ (PySem.call (.builtin id) (first ++ vs)) σ₁ P)
    (he : starEach (e :: rest) Φ.env = (false, eval e Φ.env) :: starEach rest Φ.env := by rfl) (hplain : (backTo pos (starEach rest Φ.env)).any (·.1) = false := by rfl) :
    TT gl Φ (callWith pos (.builtin id) first (backTo pos (starEach (e :: rest) Φ.env)) []) σ P :=
  fun h g d tk os Q E S q => callWith_method1 (x h g d tk os _ E S fun vs σ₁ h₁ tk₁ S₁ y => y h₁ g d tk₁ os Q E S₁ q) he hplain
theorem TT.calleeB0 {id : String} {first : List Value} {pos} {P : Value → Sta → Prop} (x : TT gl Φ (PySem.call (.builtin id) first) σ P) :
    TT gl Φ (callWith pos (.builtin id) first (backTo pos (starEach [] Φ.env)) []) σ P :=
  fun h g d tk os Q E S q => callWith_method0 (x h g d tk os Q E S q)
theorem TT.calleeT {T : String} {e : Expr} {rest : List Expr} {pos} {P : Value → Sta → Prop}
    (x : TT gl Φ (spliced (backTo pos (starEach (e :: rest) Φ.env))) σ fun vs σ₁ => TT gl Φ (PySem.call (.type T) vs) σ₁ P)
    (he : starEach (e :: rest) Φ.env = (false, eval e Φ.env) :: starEach rest Φ.env := by rfl) (hplain : (backTo pos (starEach rest Φ.env)).any (·.1) = false := by rfl) :
    TT gl Φ (callWith pos (.type T) [] (backTo pos (starEach (e :: rest) Φ.env)) []) σ P :=
  fun h g d tk os Q E S q => callWith_type1 (x h g d tk os _ E S fun vs σ₁ h₁ tk₁ S₁ y => y h₁ g d tk₁ os Q E S₁ q) he hplain

theorem TT.calln {f : Expr} {args : List Expr} {pos} {P : Value → Sta → Prop} (x : TT gl Φ (eval f Φ.env) σ fun fv σ₁ => TT gl Φ (callWith pos fv [] (backTo pos (starEach args Φ.env)) []) σ₁ P)
    (he : eval (.Call f args [] pos) Φ.env = (do callWith pos (← eval f Φ.env) [] (backTo pos (starEach args Φ.env)) []) := by rfl) : TT gl Φ (eval (.Call f args [] pos) Φ.env) σ P := by
  rw [he]; exact .bind x
theorem TT.callm {o : Expr} {name : Str} {apos pos} {args : List Expr} {pl : Sem Bool} {P : Value → Sta → Prop}
    (x : TT gl Φ (eval o Φ.env) σ fun ov σ₁ => TT gl Φ (getMethod ov name pl) σ₁ fun fx σ₂ => TT gl Φ (callWith pos fx.1 fx.2 (backTo pos (starEach args Φ.env)) []) σ₂ P)
    (he : eval (.Call (.Attribute o name apos) args [] pos) Φ.env = (do
      let ov ← eval o Φ.env
      standAt apos.atName
      let (f, first) ← holding [ov] (getMethod ov name pl)
      callWith pos f first (backTo pos (starEach args Φ.env)) []) := by rfl) : TT gl Φ (eval (.Call (.Attribute o name apos) args [] pos) Φ.env) σ P :=
  fun h g d tk os Q E S q => MethodCall_ (x h g d tk os _ E S fun ov σ₁ h₁ tk₁ S₁ y => y h₁ g d tk₁ os _ E S₁ fun fx σ₂ h₂ tk₂ S₂ z => z h₂ g d tk₂ os Q E S₂ q) he

/-! fields, items -/
theorem TT.attr {value : Expr} {attr : Str} {pos} {P : Value → Sta → Prop} (x : TT gl Φ (eval value Φ.env) σ fun o σ₁ => TT gl Φ (getAttr o attr true) σ₁ P)
    (he : eval (.Attribute value attr pos) Φ.env = (do
      let o ← eval value Φ.env
      standAt pos.atName
      let r ← holding [o] (getAttr o attr true)
      letTemporaryGo value o r
      Pure.pure r) := by with_unfolding_all rfl) : TT gl Φ (eval (.Attribute value attr pos) Φ.env) σ P :=
  fun h g d tk os Q E S q => Attribute_any_ (x h g d tk os _ E S fun o σ₁ h₁ tk₁ S₁ y => y h₁ g d tk₁ os Q E S₁ q) he
theorem TT.sub {value slice : Expr} {pos} {P : Value → Sta → Prop} (x : TT gl Φ (eval value Φ.env) σ fun o σ₁ => TT gl Φ (eval slice Φ.env) σ₁ fun i σ₂ => TT gl Φ (subscriptTail value slice o i) σ₂ P) :
    TT gl Φ (eval (.Subscript value slice pos) Φ.env) σ P :=
  fun h g d tk os Q E S q => Subscript_ (x h g d tk os _ E S fun o σ₁ h₁ tk₁ S₁ y => y h₁ g d tk₁ os _ E S₁ fun i σ₂ h₂ tk₂ S₂ z => z h₂ g d tk₂ os Q E S₂ q)
end
end Mine

end
section
namespace Mine

theorem getL_putL (x : Str) (hsh : Int) (t : Tok) (v : Value) (y : Str) : ∀ (es : List DictEntry) (r : Option Value), getL y es = some r → getL y (putL x hsh (.str x t) v es) = some (if y = x then some v else r)
  | [], r, e => by
    simp only [getL, List.find?_nil, List.any_nil, Bool.false_eq_true, if_false, Option.some.injEq] at e
    subst e
    by_cases h : y = x
    · subst h; simp [putL, getL, Value.isStr]
    · have hb : (x == y) = false := beq_eq_false_iff_ne.mpr (Ne.symm h)
      simp [putL, getL, Value.isStr, hb, h, DictEntry.refKey]
  | en :: es, r, e => by
    unfold putL
    cases hk : en.key.isStr x with
    | true =>
      have ke : ∃ t', en.key = .str x t' := by
        cases q : en.key <;> rw [q] at hk <;> simp_all [Value.isStr]
      obtain ⟨t', ke⟩ := ke
      rw [if_pos rfl]
      by_cases h : y = x
      · subst h
        simp [getL, List.find?_cons, hk]
      · have hy : en.key.isStr y = false := by
          rw [ke]; exact beq_eq_false_iff_ne.mpr (Ne.symm h)
        simp only [getL, List.find?_cons, hy, h, if_false, List.any_cons] at e ⊢
        exact e
    | false =>
      rw [if_neg (by decide)]
      cases hy : en.key.isStr y with
      | true =>
        have h : y ≠ x := fun q => by rw [q, hk] at hy; cases hy
        simp only [getL, List.find?_cons, hy, h, if_false] at e ⊢
        exact e
      | false =>
        cases hr : en.refKey with
        | true =>
          -- no key met: then the whole has a reference key
          simp only [getL, List.find?_cons, hy, List.any_cons, hr, Bool.true_or, if_true] at e ⊢
          cases q : es.find? (fun e => e.key.isStr y) with
          | none => rw [q] at e; cases e
          | some e0 =>
            rw [q] at e
            have ih := getL_putL x hsh t v y es (some e0.val) (by simp only [getL, q])
            simp only [getL] at ih
            have e : some (some e0.val) = some r := e
            cases e
            cases q2 : (putL x hsh (.str x t) v es).find? (fun e => e.key.isStr y) with
            | some e1 => rw [q2] at ih; exact ih
            | none =>
              rw [q2] at ih
              dsimp only at ih
              split at ih
              · cases ih
              · by_cases h : y = x
                · simp [h] at ih
                · simp [h] at ih
        | false =>
          have e' : getL y es = some r := by
            simp only [getL, List.find?_cons, hy, List.any_cons, hr, Bool.false_or] at e ⊢
            exact e
          have ih := getL_putL x hsh t v y es r e'
          simp only [getL, List.find?_cons, hy, List.any_cons, hr, Bool.false_or] at ih ⊢
          exact ih

theorem length_putL (x : Str) (hsh : Int) (key v : Value) : ∀ es : List DictEntry, (putL x hsh key v es).length = if es.any (·.key.isStr x) then es.length else es.length + 1
  | [] => rfl
  | e :: r => by
    unfold putL
    cases h : e.key.isStr x with
    | true => simp [h]
    | false =>
      simp only [Bool.false_eq_true, if_false, List.length_cons, length_putL x hsh key v r, List.any_cons, h, Bool.false_or]
      split <;> rfl
theorem any_of_getL {x : Str} {es : List DictEntry} {v : Value} (e : getL x es = some (some v)) : es.any (·.key.isStr x) = true := by
  unfold getL at e
  split at e
  · rename_i en he
    exact List.any_eq_true.mpr ⟨en, List.mem_of_find?_eq_some he, List.find?_some (p := fun e : DictEntry => e.key.isStr x) he⟩
  · split at e <;> cases e

/-- one field stored in an object -/
theorem store_attr {gl : Gl} (T : gl.Ok) {A : Around} {E : Value → Shared → Prop} {s : Shared} {x d : Addr} {m : Str → Option Value} {k : Nat} {name : Str} {v : Value} {Q : Unit → Shared → Prop}
    (K : gl.K.In s.heap) (hx : s.heap.get? x = some (instObj gl.C d)) (D : PDm s.heap d m k) (hn : findIn gl.K (.ref gl.C) name = some none) (hk : k ≤ 100)
    (h : ∀ h' tk', Heap.SameBut d s.heap h' → PDm h' d (fun y => if y = name then some v else m y) (if (m name).isSome then k else k + 1) → Q () { s with heap := h', toks := tk' }) :
    wpAny (model gl.prog gl.w) A (setAttr (.ref x) name v) Q E s := by
  obtain ⟨es, n, hd, hm, hl⟩ := D
  have I : InstAt s.heap x (instObj gl.C d) gl.C (some (dictOf es n)) := ⟨hx, rfl, rfl, hd⟩
  refine set_plain K I T.cset ?_
  refine osa_open (s := { s with toks := s.toks + 1 }) K I T.cover (r := none) (by unfold takerIn; rw [hn]; rfl) fun b => ?_
  obtain ⟨cd, hc, hd'⟩ := any_some T.hasDict
  have hdx : dictOf es n = (⟨.type "dict", none, .dict es.toArray n, #[]⟩ : Obj) := rfl
  refine wpAny_bind (wpAny_pure (wpAny_bind (wpAny_bind (wpAny_loadPart hx (wpAny_bind (looks_clsIn K hc _ _ _ _ (fun _ _ e => e) ?_))))))
  rw [hd']
  refine wpAny_pure (a := some d) (wpAny_bind (wpAny_pure (wpAny_bind ?_)))
  unfold nsSet
  refine wpAny_bind (wpAny_bind (wpAny_askSetting (wpAny_pure (wpAny_bind (wpAny_mkText (wpAny_bind (wpAny_loadPart hd ?_)))))))
  have e0 := hm name
  have c : (!es.toArray.any (·.key.isStr name) && es.toArray.any (·.refKey)) = false := by
    rw [List.any_toArray, List.any_toArray]
    unfold getL at e0
    split at e0
    · rename_i en he
      rw [List.any_eq_true.mpr ⟨en, List.mem_of_find?_eq_some he, List.find?_some (p := fun e : DictEntry => e.key.isStr name) he⟩]; rfl
    · split at e0
      · cases e0
      · rename_i z; rw [Bool.not_eq_true] at z; rw [z, Bool.and_false]
  dsimp only
  rw [aRefKeyMayBeTheName_at, c]
  refine wpAny_updatePart hd ?_
  have hput := putName_dict name (PyData.keyHash gl.w.params name) (.str name (s.toks + 1)) v es n
  have hlen : (putL name (PyData.keyHash gl.w.params name) (.str name (s.toks + 1)) v es).length ≤ if (m name).isSome then k else k + 1 := by
    rw [length_putL]
    cases q : m name with
    | none => simp only [Option.isSome_none, Bool.false_eq_true, if_false]; split <;> omega
    | some u => rw [any_of_getL (q ▸ e0)]; simpa using hl
  have hlen' : (putL name (PyData.keyHash gl.w.params name) (.str name (s.toks + 1)) v es).length ≤ 101 := by
    refine Nat.le_trans hlen ?_
    split <;> omega
  have hd2 : (s.heap.update d (Obj.putName name (PyData.keyHash gl.w.params name) (.str name (s.toks + 1)) v)).get? d = some (dictOf (putL name (PyData.keyHash gl.w.params name) (.str name (s.toks + 1)) v es) (putN name es n)) := by
    rw [← hput]
    exact Heap.get?_update_self _ hd (by rw [hput]; rfl)
  refine wpAny_bind (wpAny_lookBehind hd2 (pastItsLine_dict (by rw [List.size_toArray, sizeLine_eq]; omega)) ?_)
  refine wpAny_pure (h _ _ (Heap.SameBut.update ..) ⟨_, _, hd2, fun y => ?_, hlen⟩)
  rw [getL_putL name _ _ v y es (m y) (hm y)]

/-- one field read from an object -/
theorem read_attr {gl : Gl} (T : gl.Ok) {A : Around} {E : Value → Shared → Prop} {s : Shared} {x d : Addr} {m : Str → Option Value} {k : Nat} {name : Str} {v : Value} {b : Bool} {Q : Value → Shared → Prop}
    (K : gl.K.In s.heap) (hx : s.heap.get? x = some (instObj gl.C d)) (D : PDm s.heap d m k) (hn : findIn gl.K (.ref gl.C) name = some none) (hv : m name = some v) (hh : handedIn v = true)
    (h : ∀ tk', Q v { s with toks := tk' }) : wpAny (model gl.prog gl.w) A (getAttr (.ref x) name b) Q E s := by
  obtain ⟨es, n, hd, hm, hl⟩ := D
  have I : InstAt s.heap x (instObj gl.C d) gl.C (some (dictOf es n)) := ⟨hx, rfl, rfl, hd⟩
  exact get_value K I (plainGet_of (T.plain name)).1 (findObj_own T.hasDict hn rfl (by rw [lookIn_dict, hm, hv])) hh (h _)

/-- a method looked up on an object -/
theorem read_meth {gl : Gl} (T : gl.Ok) {A : Around} {E : Value → Shared → Prop} {s : Shared} {x d : Addr} {m : Str → Option Value} {k : Nat} {name : Str} {f : Addr} {pl : Sem Bool} {Q : Value × List Value → Shared → Prop}
    (K : gl.K.In s.heap) (hx : s.heap.get? x = some (instObj gl.C d)) (D : PDm s.heap d m k) (hf : findIn gl.K (.ref gl.C) name = some (some (.ref f))) (ht : isFn gl.K (.ref f) = true) (hv : m name = none)
    (h : Q (.ref f, [.ref x]) s) : wpAny (model gl.prog gl.w) A (getMethod (.ref x) name pl) Q E s := by
  obtain ⟨es, n, hd, hm, hl⟩ := D
  have I : InstAt s.heap x (instObj gl.C d) gl.C (some (dictOf es n)) := ⟨hx, rfl, rfl, hd⟩
  exact method_fn K I (plainGet_of (T.plain name)).1 (plainGet_of (T.plain name)).2 hf (beq_iff_eq.mp ht) (by show (lookIn name (dictOf es n)).map _ = _; rw [lookIn_dict, hm, hv]; rfl) h

end Mine

end
section
namespace Mine
open PySem.SeqAt

section
variable {prog : Program} {w : World} {gl : Gl} {A : Around} {E : Value → Shared → Prop} {h : Heap} {g : Array GenState} {d : Drawn} {t : Nat} {os : OsState} {x y dx dy : Addr}

theorem pl_inst {s : Shared} (hx : s.heap.get? x = some (instObj gl.C dx)) {M : Model} : Looks M s.heap (typeOf (.ref x)) (.ref gl.C) := (Looks.ld hx).andThen .now
theorem pl_obj (T : gl.Ok) {h : Heap} (K : gl.K.In h) (hx : h.get? x = some (instObj gl.C dx)) {M : Model} : Looks M h (isInstance (.ref x) (.type "object")) true :=
  ((Looks.ld hx).andThen .now).andThen (looks_mroIn K T.cob)

theorem pl_bound {id : String} {name : Str} {args : List Value} {Q : Option Value → Shared → Prop} (S : Slot "object" name id) (K : gl.K.In h) (hx : h.get? x = some (instObj gl.C dx))
    (hs : findIn gl.K (.ref gl.C) name = some (some (.builtin id))) (hc : wpAny (model prog w) A (PySem.call (.builtin id) (.ref x :: args)) (fun v => Q (some v)) E ⟨h, g, d, t, os⟩) :
    wpAny (model prog w) A (callSpecialIfBound? (.ref x) name args) Q E ⟨h, g, d, t, os⟩ := by
  simp only [callSpecialIfBound?, bindSpecialIfBound?]
  have L1 : Looks (model prog w) h (specialOf (.ref x) name) (some (.builtin id)) := ((Looks.ld hx).andThen .now).andThen (looks_findIn K hs)
  refine wpAny_holding (wpAny_bind (wpAny_bind (L1 _ _ _ _ (fun _ _ e => e) ?_)))
  dsimp only
  rw [S.bind]
  refine wpAny_bind (wpAny_askSetting (wpAny_ite ?_))
  have fin : wpAny (model prog w) A (PySem.call (.builtin id) ([.ref x] ++ args) >>= fun v => pure (some v)) Q E ⟨h, g, d, t, os⟩ := wpAny_bind (wpAny_mono hc (fun v s' h' => wpAny_pure h') fun _ _ h' => h')
  split
  · exact wpAny_bind (wpAny_pure (wpAny_pure fin))
  · exact wpAny_tryCatch (wpAny_bind (wpAny_pure (wpAny_pure fin)))

theorem pl_call_eq (T : gl.Ok) {Q : Value → Shared → Prop} (K : gl.K.In h) (hx : h.get? x = some (instObj gl.C dx)) (hy : h.get? y = some (instObj gl.C dy))
    (q : Q (if x = y then .bool true else .notImplemented) ⟨h, g, d, t, os⟩) : wpAny (model prog w) A (PySem.call (.builtin "object.__eq__") [.ref x, .ref y]) Q E ⟨h, g, d, t, os⟩ := by
  refine wpAny_call (codeAny_call_builtin F.cmp_object.eq.plain F.cmpEntry_eq (@check_slot (model prog w) _ _ ⟨h, g, d, t, os⟩ "object.__eq__" "object" "__eq__" (.ref x) [.ref y] [] _ F.cmpKind_eq F.cmpSplit_eq (pl_obj T K hx) (F.cmpArgs_eq _ _) ?_))
  by_cases e : x = y
  · subst e; rw [if_pos rfl] at q; exact objEq_entry_same q
  · rw [if_neg e] at q; exact objEq_entry_other e hx hy (by intro z; cases z) q

theorem pl_special_eq (T : gl.Ok) {Q : Option Value → Shared → Prop} (K : gl.K.In h) (hx : h.get? x = some (instObj gl.C dx)) (hy : h.get? y = some (instObj gl.C dy))
    (q : Q (some (if x = y then .bool true else .notImplemented)) ⟨h, g, d, t, os⟩) : wpAny (model prog w) A (callSpecialIfBound? (.ref x) "__eq__" [.ref y]) Q E ⟨h, g, d, t, os⟩ :=
  pl_bound F.cmp_object.eq K hx T.ceq (pl_call_eq T K hx hy q)

theorem pl_try_eq (T : gl.Ok) {Q : Option Value → Shared → Prop} (K : gl.K.In h) (hx : h.get? x = some (instObj gl.C dx)) (hy : h.get? y = some (instObj gl.C dy))
    (q : Q (if x = y then some (.bool true) else none) ⟨h, g, d, t, os⟩) : wpAny (model prog w) A (tryCompare (.ref x) "__eq__" (.ref y)) Q E ⟨h, g, d, t, os⟩ := by
  unfold tryCompare
  refine wpAny_bind (pl_special_eq T K hx hy ?_)
  by_cases e : x = y
  · rw [if_pos e] at q ⊢; exact wpAny_pure q
  · rw [if_neg e] at q ⊢; exact wpAny_pure q

theorem pl_ne_entry (T : gl.Ok) {Q : Fin → Shared → Prop} (K : gl.K.In h) (hx : h.get? x = some (instObj gl.C dx)) (hy : h.get? y = some (instObj gl.C dy)) (hu : A.units < cLine)
    (q : Q (.done (.ret (if x = y then .bool false else .notImplemented))) ⟨h, g, d, t, os⟩) : wpAny (model prog w) A (Builtin.«object.__ne__» ⟨[.ref x, .ref y], []⟩) Q E ⟨h, g, d, t, os⟩ := by
  unfold Builtin.«object.__ne__»
  by_cases e : x = y
  · subst e
    rw [if_pos rfl] at q
    have hs : ∀ {Q : Option Value → Shared → Prop}, Q (some (.bool true)) ⟨h, g, d, t, os⟩ → wpAny (model prog w) A (callSpecialIfBound? (.ref x) "__eq__" [.ref x]) Q E ⟨h, g, d, t, os⟩ :=
      fun q => pl_special_eq T K hx hx (by rw [if_pos rfl]; exact q)
    repeat (first | with_reducible refine wpAny_cRoomFor hu ?_ | with_reducible refine hs ?_ | wp_step)
    exact q
  · rw [if_neg e] at q
    have hs : ∀ {Q : Option Value → Shared → Prop}, Q (some .notImplemented) ⟨h, g, d, t, os⟩ → wpAny (model prog w) A (callSpecialIfBound? (.ref x) "__eq__" [.ref y]) Q E ⟨h, g, d, t, os⟩ :=
      fun q => pl_special_eq T K hx hy (by rw [if_neg e]; exact q)
    repeat (first | with_reducible refine wpAny_cRoomFor hu ?_ | with_reducible refine hs ?_ | wp_step)
    exact q

theorem pl_try_ne (T : gl.Ok) {Q : Option Value → Shared → Prop} (K : gl.K.In h) (hx : h.get? x = some (instObj gl.C dx)) (hy : h.get? y = some (instObj gl.C dy)) (hu : A.units + 1 < cLine)
    (q : Q (if x = y then some (.bool false) else none) ⟨h, g, d, t, os⟩) : wpAny (model prog w) A (tryCompare (.ref x) "__ne__" (.ref y)) Q E ⟨h, g, d, t, os⟩ := by
  unfold tryCompare
  refine wpAny_bind (pl_bound F.cmp_object.ne K hx T.cne (wpAny_call (codeAny_call_builtin F.cmp_object.ne.plain F.cmpEntry_ne (@check_slot (model prog w) _ _ ⟨h, g, d, t, os⟩ "object.__ne__" "object" "__ne__" (.ref x) [.ref y] [] _ F.cmpKind_ne F.cmpSplit_ne (pl_obj T K hx) (F.cmpArgs_ne _ _)
    (pl_ne_entry (A := A.in1) T K hx hy hu ?_)))))
  by_cases e : x = y
  · rw [if_pos e] at q ⊢; exact wpAny_pure q
  · rw [if_neg e] at q ⊢; exact wpAny_pure q

theorem pl_eq (T : gl.Ok) {Q : Value → Shared → Prop} (K : gl.K.In h) (hx : h.get? x = some (instObj gl.C dx)) (hy : h.get? y = some (instObj gl.C dy)) (hu : A.units < cLine)
    (q : Q (.bool (decide (x = y))) ⟨h, g, d, t, os⟩) : wpAny (model prog w) A (richCompare .Eq (.ref x) (.ref y)) Q E ⟨h, g, d, t, os⟩ := by
  unfold richCompare
  simp only [oneThing_ref]
  refine wpAny_holding (wpAny_bind (wpAny_cRoomFor hu ?_))
  rw [cmpInfo_Eq]
  dsimp only
  refine wpAny_bind (wpAny_typeOf_ref hx (wpAny_bind (wpAny_typeOf_ref hy ?_)))
  rw [show ((instObj gl.C dx).cls != (instObj gl.C dy).cls) = false from by simp]
  simp only [Bool.false_eq_true, if_false]
  refine wpAny_bind (wpAny_pure ?_)
  simp only [Bool.false_eq_true, if_false]
  by_cases e : x = y
  · subst e
    refine wpAny_bind (pl_try_eq T K hx hx ?_)
    rw [if_pos rfl]
    exact wpAny_pure (by simpa using q)
  · refine wpAny_bind (pl_try_eq T K hx hy ?_)
    rw [if_neg e]
    simp only [Bool.not_false, if_true]
    refine wpAny_bind (pl_try_eq T K hy hx ?_)
    rw [if_neg (Ne.symm e)]
    refine wpAny_bind (wpAny_rule (wpAny_bind (wpAny_isSame_ref_other e hx hy (by intro z; cases z) ?_)))
    exact wpAny_pure (by simpa [e] using q)

theorem pl_ne (T : gl.Ok) {Q : Value → Shared → Prop} (K : gl.K.In h) (hx : h.get? x = some (instObj gl.C dx)) (hy : h.get? y = some (instObj gl.C dy)) (hu : A.units + 1 < cLine)
    (q : Q (.bool (!decide (x = y))) ⟨h, g, d, t, os⟩) : wpAny (model prog w) A (richCompare .NotEq (.ref x) (.ref y)) Q E ⟨h, g, d, t, os⟩ := by
  unfold richCompare
  simp only [oneThing_ref]
  refine wpAny_holding (wpAny_bind (wpAny_cRoomFor (Nat.lt_of_succ_lt hu) ?_))
  rw [cmpInfo_NotEq]
  dsimp only
  refine wpAny_bind (wpAny_typeOf_ref hx (wpAny_bind (wpAny_typeOf_ref hy ?_)))
  rw [show ((instObj gl.C dx).cls != (instObj gl.C dy).cls) = false from by simp]
  simp only [Bool.false_eq_true, if_false]
  refine wpAny_bind (wpAny_pure ?_)
  simp only [Bool.false_eq_true, if_false]
  by_cases e : x = y
  · subst e
    refine wpAny_bind (pl_try_ne T K hx hx hu ?_)
    rw [if_pos rfl]
    exact wpAny_pure (by simpa using q)
  · refine wpAny_bind (pl_try_ne T K hx hy hu ?_)
    rw [if_neg e]
    simp only [Bool.not_false, if_true]
    refine wpAny_bind (pl_try_ne T K hy hx hu ?_)
    rw [if_neg (Ne.symm e)]
    refine wpAny_bind (wpAny_rule (wpAny_bind (wpAny_isSame_ref_other e hx hy (by intro z; cases z) ?_)))
    exact wpAny_pure (by simpa [e] using q)

end
end Mine

end
section
namespace Mine
open PySem.SeqAt

noncomputable def IsLst (G : PM) (a : Addr) (vs : List Value) : Prop := ∃ n, G a = some (LstO vs n)
noncomputable def IsTpl (G : PM) (a : Addr) (vs : List Value) : Prop := G a = some (TupO vs)
theorem IsLst.mono {G G' : PM} {a : Addr} {vs : List Value} (x : IsLst G a vs) (h : Le G G') : IsLst G' a vs := let ⟨n, e⟩ := x; ⟨n, h _ _ e⟩
theorem IsTpl.mono {G G' : PM} {a : Addr} {vs : List Value} (x : IsTpl G a vs) (h : Le G G') : IsTpl G' a vs := h _ _ x

noncomputable def Sta.Lst (σ : Sta) (a : Addr) (vs : List Value) : Prop := IsLst σ.G a vs ∨ (a, Cl.lst vs) ∈ σ.own

section
variable {gl : Gl} {Φ : Fx} {σ : Sta}

theorem St.lst {h : Heap} (S : St gl Φ σ h) {a : Addr} {vs : List Value} (L : σ.Lst a vs) : ∃ n, IsL h a vs.toArray n := by
  rcases L with ⟨n, e⟩ | hm
  · exact ⟨n, S.sub _ _ e⟩
  · obtain ⟨⟨n, e⟩, _⟩ := S.own _ hm; exact ⟨n, e⟩
theorem St.tpl {h : Heap} (S : St gl Φ σ h) {a : Addr} {vs : List Value} (L : IsTpl σ.G a vs) : IsT h a vs.toArray 0 := S.sub _ _ L
theorem St.cline {h : Heap} (S : St gl Φ σ h) : Φ.A.units + 8 * Φ.n < cLine := S.room.2.2
theorem St.hh {h : Heap} (S : St gl Φ σ h) : Φ.A.handled = none := S.room.1
theorem small {n : Nat} (h : n ≤ 1000) : n ≤ sizeLine := by rw [sizeLine_eq]; omega

/-! a new object -/
noncomputable def Mk (σ : Sta) (ob : Obj) (P : Value → Sta → Prop) : Prop :=
  (∀ a G', Le σ.G G' → G' a = some ob → P (.ref a) { σ with G := G' }) ∨ (∃ vs n, ob = LstO vs n ∧ ∀ a, σ.G a = none → P (.ref a) { σ with own := (a, .lst vs) :: σ.own })

theorem St.frozen {h h' : Heap} (S : St gl Φ σ h) {a : Addr} {ob : Obj} (ha : h.get? a = none) (hk : Le h.get? h'.get?) (ho : h'.get? a = some ob) :
    St gl Φ { σ with G := addG σ.G a ob } h' := by
  have := (S.addOwn (c := .ob ob) ha hk ho).freeze (i := 0) rfl ho
  exact this

theorem Mk.run {ob : Obj} {P : Value → Sta → Prop} {h h' : Heap} {a : Addr} (S : St gl Φ σ h) (M : Mk σ ob P) (ha : h.get? a = none) (hk : Le h.get? h'.get?) (ho : h'.get? a = some ob) : ∃ σ', St gl Φ σ' h' ∧ P (.ref a) σ' := by
  have hG := (S.fresh ha).2.1
  rcases M with M | ⟨vs, n, rfl, M⟩
  · exact ⟨_, S.frozen ha hk ho, M a _ (le_addG hG) (by simp [addG])⟩
  · exact ⟨_, S.addOwn (c := .lst vs) ha hk ⟨n, ho⟩, M a hG⟩

/-- a new list: frozen, or kept as one's own -/
noncomputable def MkL (σ : Sta) (vs : List Value) (P : Value → Sta → Prop) : Prop :=
  (∀ a G', Le σ.G G' → IsLst G' a vs → P (.ref a) { σ with G := G' }) ∨ (∀ a, σ.G a = none → P (.ref a) { σ with own := (a, .lst vs) :: σ.own })
theorem MkL.mk {vs : List Value} {P : Value → Sta → Prop} (M : MkL σ vs P) (n : Nat) : Mk σ (LstO vs n) P :=
  M.imp (fun M a G' l e => M a G' l ⟨n, e⟩) fun M => ⟨vs, n, rfl, M⟩

theorem TT.mk {t : Sem Value} {ob : Obj} {P : Value → Sta → Prop}
    (hw : ∀ h g d tk os (Q : Value → Shared → Prop) (E : Value → Shared → Prop), St gl Φ σ h → (∀ a h' tk', h.get? a = none → Le h.get? h'.get? → h'.get? a = some ob → Q (.ref a) ⟨h', g, d, tk', os⟩) →
      wpAny (model gl.prog gl.w) Φ.A t Q E ⟨h, g, d, tk, os⟩) (M : Mk σ ob P) : TT gl Φ t σ P :=
  fun h g d tk os Q E S q => hw h g d tk os Q E S fun a h' tk' ha hk ho => by
    obtain ⟨σ', S', p⟩ := M.run S ha hk ho
    exact q _ σ' h' tk' S' p

theorem fresh_size (h : Heap) : h.get? h.objs.size = none := by
  cases q : h.get? h.objs.size with
  | none => rfl
  | some o => exact absurd (Heap.lt_size q) (Nat.lt_irrefl _)
theorem le_push (h : Heap) (o : Obj) : Le h.get? (h.push o).get? := fun _ _ e => Heap.get?_push_of_some o e
theorem fresh_push {h : Heap} (o : Obj) : h.get? (h.objs.size + 1) = none := by
  cases q : h.get? (h.objs.size + 1) with
  | none => rfl
  | some o => exact absurd (Heap.lt_size q) (Nat.not_lt.mpr (Nat.le_succ _))

theorem TT.newlist {vs : List Value} {P : Value → Sta → Prop} (hz : vs.length ≤ 1000) (M : MkL σ vs P) : TT gl Φ (newList vs) σ P :=
  .mk (fun h g d tk os Q E S q => wpAny_newList (q _ _ _ (fresh_size h) (le_push h _) (Heap.get?_push_size _ rfl)) (small hz)) (M.mk 0)
theorem TT.newtup {vs : List Value} {P : Value → Sta → Prop} (hz : vs.length ≤ 1000) (M : Mk σ (TupO vs) P) : TT gl Φ (newTuple vs) σ P :=
  .mk (fun h g d tk os Q E S q => wpAny_newTuple (q _ _ _ (fresh_size h) (le_push h _) (Heap.get?_push_size _ rfl)) (small hz)) M
theorem TT.list {elts : List Expr} {pos} {P : Value → Sta → Prop} (x : TT gl Φ (spliced (backTo pos (starEach elts Φ.env))) σ fun vs σ' => vs.length ≤ 1000 ∧ MkL σ' vs P) : TT gl Φ (eval (.List elts pos) Φ.env) σ P :=
  fun h g d tk os Q E S q => List_ (x h g d tk os _ E S fun vs σ' h' tk' S' p => TT.newlist p.1 p.2 h' g d tk' os Q E S' q)
theorem TT.tuple {elts : List Expr} {k pos} {P : Value → Sta → Prop} (x : TT gl Φ (spliced (backTo pos (starEach elts Φ.env))) σ fun vs σ' => vs.length ≤ 1000 ∧ Mk σ' (TupO vs) P) : TT gl Φ (eval (.Tuple elts k pos) Φ.env) σ P :=
  fun h g d tk os Q E S q => Tuple_ (x h g d tk os _ E S fun vs σ' h' tk' S' p => TT.newtup p.1 p.2 h' g d tk' os Q E S' q)

/-! ints -/
theorem TT.add {a b : Int} {t u} {P : Value → Sta → Prop} (x : ∀ t, P (.int (a + b) t) σ) : TT gl Φ (binaryOp .Add (.int a t) (.int b u)) σ P := .calmE fun _ _ _ _ _ _ _ _ q => PySem.P.add_int (q _ _ (x _))
theorem TT.minus {a b : Int} {t u} {P : Value → Sta → Prop} (x : ∀ t, P (.int (a - b) t) σ) : TT gl Φ (binaryOp .Sub (.int a t) (.int b u)) σ P := .calmE fun _ _ _ _ _ _ _ _ q => PySem.P.sub_int (q _ _ (x _))
theorem TT.eqI {a b : Int} {t u} {P : Value → Sta → Prop} (x : P (.bool (a == b)) σ) : TT gl Φ (compareOp .Eq (.int a t) (.int b u)) σ P := .calmE fun _ _ _ _ _ _ _ _ q => PySem.P.eq_int (q _ _ x)
theorem TT.neI {a b : Int} {t u} {P : Value → Sta → Prop} (x : P (.bool (a != b)) σ) : TT gl Φ (compareOp .NotEq (.int a t) (.int b u)) σ P := .calmE fun _ _ _ _ _ _ _ _ q => PySem.P.ne_int (q _ _ x)
theorem TT.ltI {a b : Int} {t u} {P : Value → Sta → Prop} (x : P (.bool (decide (a < b))) σ) : TT gl Φ (compareOp .Lt (.int a t) (.int b u)) σ P := .calmE fun _ _ _ _ _ _ _ _ q => PySem.P.lt_int (q _ _ x)
theorem TT.gtI {a b : Int} {t u} {P : Value → Sta → Prop} (x : P (.bool (decide (a > b))) σ) : TT gl Φ (compareOp .Gt (.int a t) (.int b u)) σ P := .calmE fun _ _ _ _ _ _ _ _ q => PySem.P.gt_int (q _ _ x)
theorem TT.neg {a : Int} {t} {P : Value → Sta → Prop} (x : ∀ t, P (.int (-a) t) σ) : TT gl Φ (unaryOp .USub (.int a t)) σ P := .calmE fun _ _ _ _ _ _ _ _ q => PySem.P.neg_int (q _ _ (x _))
theorem TT.unary {op : UnaryOp} {e : Expr} {pos} {P : Value → Sta → Prop} (x : TT gl Φ (eval e Φ.env) σ fun v σ' => TT gl Φ (unaryOp op v) σ' P) : TT gl Φ (eval (.UnaryOp op e pos) Φ.env) σ P :=
  fun h g d tk os Q E S q => UnaryOp_ (x h g d tk os _ E S fun v σ' h' tk' S' p => p h' g d tk' os Q E S' q)
theorem TT.maxI {a b : Int} {t u} {P : Value → Sta → Prop} (x : ∀ t, P (.int (max a b) t) σ) : TT gl Φ (PySem.call (.builtin "max") [.int a t, .int b u]) σ P :=
  .grown fun h g d tk os Q E S q => max_two_ints S.hh fun h' tk' hk => by
    by_cases c : b > a
    · rw [if_pos c, show b = max a b by omega]; exact q _ _ _ hk (x u)
    · rw [if_neg c, show a = max a b by omega]; exact q _ _ _ hk (x t)
theorem TT.minI {a b : Int} {t u} {P : Value → Sta → Prop} (x : ∀ t, P (.int (min a b) t) σ) : TT gl Φ (PySem.call (.builtin "min") [.int a t, .int b u]) σ P :=
  .grown fun h g d tk os Q E S q => min_two_ints S.hh fun h' tk' hk => by
    by_cases c : b < a
    · rw [if_pos c, show b = min a b by omega]; exact q _ _ _ hk (x u)
    · rw [if_neg c, show a = min a b by omega]; exact q _ _ _ hk (x t)
theorem TT.absI {a : Int} {t} {P : Value → Sta → Prop} (x : ∀ t, P (.int (a.natAbs : Int) t) σ) : TT gl Φ (PySem.call (.builtin "abs") [.int a t]) σ P :=
  .calmE fun h g d tk os Q E S q => call_abs_int fun u tk' => by
    rw [show (if a < 0 then -a else a) = (a.natAbs : Int) by split <;> omega]; exact q _ _ (x u)
theorem TT.intI {a : Int} {t} {P : Value → Sta → Prop} (x : P (.int a t) σ) : TT gl Φ (PySem.call (.type "int") [.int a t]) σ P :=
  .calmE fun h g d tk os Q E S q => call_int_int (q _ _ x)
theorem TT.strI {a : Int} {t} {P : Value → Sta → Prop} (ha : a.natAbs ≤ 1000) (x : ∀ t, P (.str (toString a) t) σ) : TT gl Φ (PySem.call (.type "str") [.int a t]) σ P :=
  .calmE fun h g d tk os Q E S q => PySem.P.str_of_int (by
    have : a.natAbs.log2 ≤ 10 := by
      by_cases h0 : a.natAbs = 0
      · rw [h0]; decide
      · have := (Nat.log2_lt h0 (k := 11)).mpr (by omega); omega
    omega) (q _ _ (x _))
theorem TT.addS {a b : Str} {t u} {P : Value → Sta → Prop} (hz : a.length + b.length ≤ 1000) (x : ∀ t, P (.str (a ++ b) t) σ) : TT gl Φ (binaryOp .Add (.str a t) (.str b u)) σ P :=
  .calmE fun h g d tk os Q E S q => PyProof.Rows.add_str (fun t' tk' => q _ _ (x t')) (small hz)

/-! lists read -/
theorem TT.len {a : Addr} {vs : List Value} {P : Value → Sta → Prop} (L : σ.Lst a vs) (hz : vs.length ≤ 1000000) (x : ∀ t, P (.int (vs.length : Nat) t) σ) : TT gl Φ (PySem.call (.builtin "len") [.ref a]) σ P :=
  .calmE fun h g d tk os Q E S q => by
    obtain ⟨n, e⟩ := S.lst L
    exact call_len_list e.isList (by rw [List.size_toArray]; omega) (by rw [List.size_toArray]; exact q _ _ (x _))
theorem TT.item {value slice : Expr} {a : Addr} {vs : List Value} {k : Int} {u} {v : Value} {P : Value → Sta → Prop} (L : σ.Lst a vs) (h0 : 0 ≤ k) (hx : vs[k.toNat]? = some v) (p : P v σ)
    (hfit : k < 2 ^ 63 := by omega)
    (hs : subscripted slice false (.ref a) (.int k u) = operate [.ref a, .int k u] (getItem (.ref a) (.int k u)) := by with_unfolding_all rfl) : TT gl Φ (subscriptTail value slice (.ref a) (.int k u)) σ P :=
  .calmE fun h g d tk os Q E S q => by
    obtain ⟨n, e⟩ := S.lst L
    exact tail_any e.isList.typeIs slot_list_getitem.lookup (wpAny_getItem_list e.isList h0 hfit (by simpa using hx) (q _ _ p)) hs
theorem TT.itemLast {value slice : Expr} {a : Addr} {vs : List Value} {u} {v : Value} {P : Value → Sta → Prop} (L : σ.Lst a vs) (hx : vs.getLast? = some v) (p : P v σ)
    (hs : subscripted slice false (.ref a) (.int (-1) u) = operate [.ref a, .int (-1) u] (getItem (.ref a) (.int (-1) u)) := by with_unfolding_all rfl) : TT gl Φ (subscriptTail value slice (.ref a) (.int (-1) u)) σ P :=
  .calmE fun h g d tk os Q E S q => by
    obtain ⟨n, e⟩ := S.lst L
    have hne : 0 < vs.length := by cases vs with
      | nil => cases hx
      | cons _ _ => simp
    refine tail_any e.isList.typeIs slot_list_getitem.lookup (wpAny_getItem_list_neg e.isList (by omega) (by rw [List.size_toArray]; omega) (by omega) ?_ (q _ _ p)) hs
    rw [List.size_toArray, show ((-1 : Int) + (vs.length : Nat)).toNat = vs.length - 1 by omega]
    rw [List.getLast?_eq_getElem?] at hx
    simpa using hx
theorem TT.itemT {value slice : Expr} {a : Addr} {vs : List Value} {k : Int} {u} {v : Value} {P : Value → Sta → Prop} (L : IsTpl σ.G a vs) (h0 : 0 ≤ k) (hx : vs[k.toNat]? = some v) (p : P v σ)
    (hfit : k < 2 ^ 63 := by omega)
    (hs : subscripted slice false (.ref a) (.int k u) = operate [.ref a, .int k u] (getItem (.ref a) (.int k u)) := by with_unfolding_all rfl) : TT gl Φ (subscriptTail value slice (.ref a) (.int k u)) σ P :=
  .calmE fun h g d tk os Q E S q => by
    have e := S.tpl L
    have hk : seqIndex? k vs.toArray.size = some k.toNat := by
      obtain ⟨hl, _⟩ := List.getElem?_eq_some_iff.mp hx
      unfold seqIndex?
      rw [List.size_toArray]
      simp only [show ¬ k < 0 by omega, if_false]
      rw [if_pos (by simp only [Bool.and_eq_true, decide_eq_true_eq]; omega)]
    exact tail_any ⟨_, e, rfl⟩ F.slot_tuple_getitem.lookup (PySem.P.getItem_tuple e (by omega) hfit hk (by simpa using hx) (q _ _ p)) hs

theorem TT.truthyL {a : Addr} {vs : List Value} {P : Bool → Sta → Prop} (L : σ.Lst a vs) (hz : vs.length ≤ 1000000) (x : P (decide (vs ≠ [])) σ) : TT gl Φ (truthy (.ref a)) σ P :=
  .calmE fun h g d tk os Q E S q => by
    obtain ⟨n, e⟩ := S.lst L
    refine wpAny_truthy_list e.isList (by rw [List.size_toArray]; omega) ?_
    have : (!vs.toArray.isEmpty) = decide (vs ≠ []) := by cases vs <;> simp
    rw [this]; exact q _ _ x

end
end Mine

end
section
namespace Mine
open PySem.SeqAt PySem.SeqRoads2

section
variable {gl : Gl} {Φ : Fx} {σ : Sta}

/-! slices of lists -/
theorem TT.slice {value : Expr} {lower upper : Option Expr} {p pos : Pos} {P : Value → Sta → Prop}
    (x : TT gl Φ (eval value Φ.env) σ fun o σ₁ => TT gl Φ (evalPart lower Φ.env) σ₁ fun vl σ₂ => TT gl Φ (evalPart upper Φ.env) σ₂ fun vu σ₃ =>
      ∃ a vs lo hi, o = .ref a ∧ σ₃.Lst a vs ∧ vs.length ≤ 1000 ∧ IsPart vl lo ∧ IsPart vu hi ∧ MkL σ₃ (slicePick vs.toArray lo hi none).toList P) :
    TT gl Φ (eval (.Subscript value (.Slice lower upper none p) pos) Φ.env) σ P :=
  fun h g d tk os Q E S q => by
    rw [eval_Subscript]
    refine wpAny_bind (x h g d tk os _ E S fun o σ₁ h₁ tk₁ S₁ y => wpAny_bind (wpAny_holding (wpAny_Slice (y h₁ g d tk₁ os _ E S₁ fun vl σ₂ h₂ tk₂ S₂ z => z h₂ g d tk₂ os _ E S₂ fun vu σ₃ h₃ tk₃ S₃ u => ?_))))
    obtain ⟨a, vs, lo, hi, rfl, L, hz, pl, pu, M⟩ := u
    obtain ⟨n, e⟩ := S₃.lst L
    rw [evalPart_none]
    refine wpAny_pure (wpAny_bind (wpAny_standAt ?_))
    have e' : IsL (h₃.push { cls := .type "slice", data := .fields #[vl, vu, Value.none] }) a vs.toArray n := Heap.get?_push_of_some _ e
    refine wpAny_bind ?_
    rw [getitemInPython_of_ne (Heap.IsList.typeIs (s := ⟨h₃.push { cls := .type "slice", data := .fields #[vl, vu, Value.none] }, g, d, tk₃, os⟩) (IsL.isList e')).not_modules]
    refine wpAny_bind (wpAny_specialOf (Heap.IsList.typeIs (s := ⟨h₃.push { cls := .type "slice", data := .fields #[vl, vu, Value.none] }, g, d, tk₃, os⟩) (IsL.isList e')) slot_list_getitem.lookup ?_)
    have fin : wpAny (model gl.prog gl.w) Φ.A (getItem (.ref a) (.ref h₃.objs.size)) (fun r s₄ => wpAny (model gl.prog gl.w) Φ.A (letTemporaryGo value (.ref a) r >>= fun _ => pure r) Q E s₄) E
        ⟨h₃.push { cls := .type "slice", data := .fields #[vl, vu, Value.none] }, g, d, tk₃, os⟩ := by
      refine wpAny_getItem_list_slice (IsL.isList e') (Heap.IsSliceOf.new ..) pl pu .none (by simp) ?_ (by rw [List.size_toArray]; exact small hz)
      refine wpAny_bind (wpAny_letTemporaryGo (wpAny_pure ?_))
      obtain ⟨σ', S', p'⟩ := (M.mk 0).run S₃ (h' := (h₃.push { cls := .type "slice", data := .fields #[vl, vu, Value.none] }).push { cls := .type "list", data := .seq (slicePick vs.toArray lo hi none) })
        (a := h₃.objs.size + 1) (fresh_push { cls := .type "slice", data := .plain }) ((le_push h₃ _).trans (le_push _ _)) (by
          have := Heap.get?_push_size (h₃.push { cls := .type "slice", data := .fields #[vl, vu, Value.none] }) (o := { cls := .type "list", data := .seq (slicePick vs.toArray lo hi none) }) rfl
          rw [Heap.size_push] at this
          simpa using this)
      have := q _ σ' _ tk₃ S' p'
      show Q (.ref (h₃.push _).objs.size) _
      rw [Heap.size_push]
      exact this
    first
      | exact wpAny_pure (wpAny_bind (wpAny_operating fin))
      | exact wpAny_bind (wpAny_pure (wpAny_bind (wpAny_operating fin)))
      | exact wpAny_bind (wpAny_operating fin)

theorem TT.part_none {P : Value → Sta → Prop} (x : P .none σ) : TT gl Φ (evalPart none Φ.env) σ P := .calm (a := Value.none) (fun _ _ _ tk _ _ _ _ q => wpAny_pure (q tk)) x
theorem TT.part_some {e : Expr} {P : Value → Sta → Prop} (x : TT gl Φ (eval e Φ.env) σ P) : TT gl Φ (evalPart (some e) Φ.env) σ P := x

theorem pick_from (vs : List Value) (a : Nat) : (slicePick vs.toArray (some (a : Int)) none none).toList = vs.drop a := by rw [slicePick_from']
theorem pick_upto (vs : List Value) (b : Nat) : (slicePick vs.toArray none (some (b : Int)) none).toList = vs.take b := by rw [slicePick_upto']
theorem pick_all (vs : List Value) : (slicePick vs.toArray none none none).toList = vs := by rw [slicePick_all]

theorem TT.plus {a b : Addr} {vs ws : List Value} {P : Value → Sta → Prop} (L : σ.Lst a vs) (L' : σ.Lst b ws) (hz : vs.length + ws.length ≤ 1000) (M : MkL σ (vs ++ ws) P) : TT gl Φ (binaryOp .Add (.ref a) (.ref b)) σ P :=
  .mk (fun h g d tk os Q E S q => by
    obtain ⟨n, e⟩ := S.lst L
    obtain ⟨n', e'⟩ := S.lst L'
    refine PySem.P.add_list e e' (q _ _ _ (fresh_size h) (le_push h _) ?_) (by rw [List.size_toArray, List.size_toArray]; exact small hz)
    have := Heap.get?_push_size h (o := { cls := .type "list", data := .seq (vs.toArray ++ ws.toArray) }) rfl
    simpa using this) (M.mk 0)

/-! methods of lists -/
theorem TT.getM {a : Addr} {vs : List Value} {name : Str} {id : String} {pl : Sem Bool} {P : Value × List Value → Sta → Prop} (slot : Slot "list" name id) (hty : typeOf (.builtin id) = pure (.type "method_descriptor")) (L : σ.Lst a vs)
    (x : P (.builtin id, [.ref a]) σ) : TT gl Φ (getMethod (.ref a) name pl) σ P :=
  .calmE fun h g d tk os Q E S q => by
    obtain ⟨n, e⟩ := S.lst L
    exact getMethod_builtin (s := ⟨h, g, d, tk, os⟩) (IsL.isList e).typeIs PySem.F.plainAttrs_list slot hty (fun b q => by cases q; exact ⟨_, e, rfl⟩) (q _ _ x)

theorem not_cell_lst {h : Heap} {a : Addr} {vs : List Value} {n : Nat} (e : h.get? a = some (LstO vs n)) : ∀ v, ¬ (∃ o, h.get? a = some o ∧ o.data = .cell v) := fun v ⟨o, e', d⟩ => by
  rw [e] at e'; cases e'; cases d
theorem not_dict_lst {h : Heap} {a b : Addr} {vs : List Value} {n : Nat} (e : h.get? a = some (LstO vs n)) : ∀ o es ep, h.get? a = some o → o.data = .dict es ep → b ≠ a := fun o es ep e' d => by
  rw [e] at e'; cases e'; cases d

/-- an owned list changed in place -/
theorem St.mutL {h : Heap} (S : St gl Φ σ h) {i : Nat} {a : Addr} {vs : List Value} (hi : σ.own[i]? = some (a, .lst vs)) (f : Array Value → Array Value) :
    St gl Φ { σ with own := σ.own.set i (a, .lst (f vs.toArray).toList) } (h.update a (Obj.mapSeq f)) := by
  obtain ⟨⟨n, e⟩, _⟩ := S.own _ (mem_of_get hi)
  have e : h.get? a = some (LstO vs n) := e
  refine S.setOwn hi (fun b o hb e' => (Heap.SameBut.update h a _).extBut b o hb e') ?_ (not_cell_lst e)
  exact ⟨_, by simpa using IsL.update e f⟩

theorem TT.append {i : Nat} {a : Addr} {vs : List Value} {v : Value} {P : Value → Sta → Prop} (hi : σ.own[i]? = some (a, .lst vs)) (hz : vs.length ≤ 1000) (x : P .none { σ with own := σ.own.set i (a, .lst (vs ++ [v])) }) :
    TT gl Φ (PySem.call (.builtin "list.append") [.ref a, v]) σ P :=
  fun h g d tk os Q E S q => by
    obtain ⟨⟨n, e⟩, _⟩ := S.own _ (mem_of_get hi)
    have e : IsL h a vs.toArray n := e
    have S' := S.mutL hi (·.push v)
    exact call_meets F.slot_list_append ⟨_, e, rfl⟩ F.entry_list_append (F.args_list_append_2 _ _) (list_append a vs.toArray n v (by rw [List.size_toArray]; exact small hz)) ⟨e, q _ _ _ _ S' (by simpa using x)⟩

theorem TT.pop {i : Nat} {a : Addr} {vs : List Value} {v : Value} {P : Value → Sta → Prop} (hi : σ.own[i]? = some (a, .lst (vs ++ [v]))) (hz : vs.length ≤ 900) (x : P v { σ with own := σ.own.set i (a, .lst vs) }) :
    TT gl Φ (PySem.call (.builtin "list.pop") [.ref a]) σ P :=
  fun h g d tk os Q E S q => by
    obtain ⟨⟨n, e⟩, _⟩ := S.own _ (mem_of_get hi)
    have e : IsL h a (vs ++ [v]).toArray n := e
    have S' := S.mutL hi (·.eraseIdxIfInBounds ((vs ++ [v]).toArray.size - 1))
    have hh : ((vs ++ [v]).toArray.eraseIdxIfInBounds ((vs ++ [v]).toArray.size - 1)).toList = vs := by
      simp [List.eraseIdx_append_of_length_le]
    rw [hh] at S'
    exact call_meets F.slot_list_pop ⟨_, e, rfl⟩ F.entry_list_pop (F.args_list_pop_1 _) (MeetsSeq.list_pop_last a (vs ++ [v]).toArray n v (by simp) (by simp; exact small (by omega))) ⟨e, q _ _ _ _ S' x⟩

/-- equality of values, as the lists' methods ask it -/
noncomputable def EqP (gl : Gl) (Φ : Fx) (σ : Sta) (k : Nat) (v w : Value) (b : Bool) : Prop := ∀ h g d tk os A, St gl Φ σ h → A.units + k < cLine → EqAt A ⟨h, g, d, tk, os⟩ v w b

theorem EqP.int {a b : Int} {t u} : EqP gl Φ σ 0 (.int a t) (.int b u) (a == b) := fun _ _ _ _ _ _ _ _ => (MeetsSeq.EqGives.int a b t u).at _ _
theorem EqP.str {a b : Str} {t u} : EqP gl Φ σ 0 (.str a t) (.str b u) (a == b) := fun _ _ _ _ _ _ _ _ => by
  have := (EqGives.str a b t u)
  have e : (a.cps.toList == b.cps.toList) = (a == b) := by
    by_cases h : a = b
    · subst h; simp
    · have : a.cps.toList ≠ b.cps.toList := fun q => h (by obtain ⟨a⟩ := a; obtain ⟨b⟩ := b; simpa [Str.mk.injEq, Array.toList_inj] using q)
      rw [beq_eq_false_iff_ne.mpr h, beq_eq_false_iff_ne.mpr this]
  exact (e ▸ this).at _ _

theorem TT.index {a : Addr} {vs : List Value} {w : Value} {f : Value → Bool} {j k : Nat} {P : Value → Sta → Prop} (L : σ.Lst a vs) (hz : vs.length ≤ 1000) (he : ∀ v ∈ vs, EqP gl Φ σ k v w (f v)) (hk : k + 2 ≤ 8 * Φ.n)
    (hj : vs.findIdx? f = some j) (x : ∀ t, P (.int (j : Nat) t) σ) : TT gl Φ (PySem.call (.builtin "list.index") [.ref a, w]) σ P :=
  .calmE fun h g d tk os Q E S q => by
    obtain ⟨n, e⟩ := S.lst L
    obtain ⟨hjl, hjt, hjm⟩ := List.findIdx?_eq_some_iff_getElem.mp hj
    have hc := S.cline
    exact call_meets F.slot_list_index ⟨_, e, rfl⟩ F.entry_list_index (F.args_list_index_2 _ _)
      (list_indexAt a vs.toArray n none #[] w f j (by simpa using hjl) (by omega) (by simpa using hjt) (fun m hm h2 => by have := hjm m h2; simpa using this))
      ⟨e, fun y hy => he y (by simpa using hy) h g d tk os _ S (by simp only [Around.in1_units]; omega), q _ _ (x _)⟩

theorem TT.count {a : Addr} {vs : List Value} {w : Value} {f : Value → Bool} {k : Nat} {P : Value → Sta → Prop} (L : σ.Lst a vs) (he : ∀ v ∈ vs, EqP gl Φ σ k v w (f v)) (hk : k + 2 ≤ 8 * Φ.n)
    (x : ∀ t, P (.int (vs.countP f : Nat) t) σ) : TT gl Φ (PySem.call (.builtin "list.count") [.ref a, w]) σ P :=
  .calmE fun h g d tk os Q E S q => by
    obtain ⟨n, e⟩ := S.lst L
    have hc := S.cline
    exact call_meets F.slot_list_count ⟨_, e, rfl⟩ F.entry_list_count (F.args_list_count_2 _ _)
      (list_countAt a vs.toArray n none #[] w f)
      ⟨e, fun y hy => he y (by simpa using hy) h g d tk os _ S (by simp only [Around.in1_units]; omega), by simpa using q _ _ (x _)⟩

theorem TT.isin {a : Addr} {vs : List Value} {w : Value} {f : Value → Bool} {k : Nat} {P : Value → Sta → Prop} (L : σ.Lst a vs) (he : ∀ v ∈ vs, EqP gl Φ σ k v w (f v)) (hk : k + 2 ≤ 8 * Φ.n)
    (x : P (.bool (vs.any f)) σ) : TT gl Φ (compareOp .In w (.ref a)) σ P :=
  .calmE fun h g d tk os Q E S q => by
    obtain ⟨n, e⟩ := S.lst L
    have hc := S.cline
    exact in_meets ⟨_, e, rfl⟩ F.slot_list_contains F.entry_list_contains (F.args_list_contains_2 _ _) (list_containsAt a vs.toArray n none #[] w f)
      ⟨e, fun y hy => he y (by simpa using hy) h g d tk os _ S (by simp only [Around.in1_units]; omega), _, rfl, by simpa using q _ _ x⟩
theorem TT.notin {a : Addr} {vs : List Value} {w : Value} {f : Value → Bool} {k : Nat} {P : Value → Sta → Prop} (L : σ.Lst a vs) (he : ∀ v ∈ vs, EqP gl Φ σ k v w (f v)) (hk : k + 2 ≤ 8 * Φ.n)
    (x : P (.bool (!vs.any f)) σ) : TT gl Φ (compareOp .NotIn w (.ref a)) σ P :=
  .calmE fun h g d tk os Q E S q => by
    obtain ⟨n, e⟩ := S.lst L
    have hc := S.cline
    exact notIn_meets ⟨_, e, rfl⟩ F.slot_list_contains F.entry_list_contains (F.args_list_contains_2 _ _) (list_containsAt a vs.toArray n none #[] w f)
      ⟨e, fun y hy => he y (by simpa using hy) h g d tk os _ S (by simp only [Around.in1_units]; omega), _, rfl, by simpa using q _ _ x⟩

end
end Mine

end
section
namespace Mine
open PySem.SeqAt PySem.SeqRoads2

section
variable {gl : Gl} {Φ : Fx} {σ : Sta}

theorem EqP.weaken {k k' : Nat} {v w : Value} {b : Bool} (x : EqP gl Φ σ k v w b) (hk : k ≤ k') : EqP gl Φ σ k' v w b := fun h g d tk os A S hu => x h g d tk os A S (by omega)

theorem St.inst {h : Heap} (S : St gl Φ σ h) {p : Pl} (hp : p ∈ σ.pl) : h.get? p.pa = some (instObj gl.C p.da) := S.sub _ _ (S.pl.each p hp).1

theorem EqP.pl (T : gl.Ok) {p q : Pl} (hp : p ∈ σ.pl) (hq : q ∈ σ.pl) : EqP gl Φ σ 0 (.ref p.pa) (.ref q.pa) (decide (p.pa = q.pa)) := fun h g d tk os A S hu => by
  by_cases e : p.pa = q.pa
  · rw [decide_eq_true e, e]; exact EqAt.same _
  · rw [decide_eq_false e]
    exact EqAt.of_refs e fun prog w E Q hq' => pl_eq (dx := p.da) (dy := q.da) T (S.inK T) (S.inst hp) (S.inst hq) (by omega) (by rw [decide_eq_false e]; exact hq')

theorem TT.eqP (T : gl.Ok) {p q : Pl} {P : Value → Sta → Prop} (hp : p ∈ σ.pl) (hq : q ∈ σ.pl) (hn : 1 ≤ Φ.n) (x : P (.bool (decide (p.pa = q.pa))) σ) : TT gl Φ (compareOp .Eq (.ref p.pa) (.ref q.pa)) σ P :=
  .calmE fun h g d tk os Q E S k => pl_eq (dx := p.da) (dy := q.da) T (S.inK T) (S.inst hp) (S.inst hq) (by have := S.cline; omega) (k _ _ x)
theorem TT.neP (T : gl.Ok) {p q : Pl} {P : Value → Sta → Prop} (hp : p ∈ σ.pl) (hq : q ∈ σ.pl) (hn : 1 ≤ Φ.n) (x : P (.bool (!decide (p.pa = q.pa))) σ) : TT gl Φ (compareOp .NotEq (.ref p.pa) (.ref q.pa)) σ P :=
  .calmE fun h g d tk os Q E S k => pl_ne (dx := p.da) (dy := q.da) T (S.inK T) (S.inst hp) (S.inst hq) (by have := S.cline; omega) (k _ _ x)

theorem TT.isNone {P : Value → Sta → Prop} (x : P (.bool true) σ) : TT gl Φ (compareOp .Is .none .none) σ P := .calmE fun h g d tk os Q E S k => wpAny_is_self rfl (k _ _ x)
theorem TT.isnotNone {P : Value → Sta → Prop} (x : P (.bool false) σ) : TT gl Φ (compareOp .IsNot .none .none) σ P := .calmE fun h g d tk os Q E S k => wpAny_isNot_self rfl (k _ _ x)
theorem TT.isnotRef {a : Addr} {P : Value → Sta → Prop} (x : P (.bool true) σ) : TT gl Φ (compareOp .IsNot (.ref a) .none) σ P :=
  .calmE fun h g d tk os Q E S k => wpAny_isNot_other (by rfl) (by intro z; cases z) (k _ _ x)

/-! fields of players -/
theorem TT.getP (T : gl.Ok) {p : Pl} {name : Str} {v : Value} {b : Bool} {P : Value → Sta → Prop} (hp : p ∈ σ.pl) (hn : findIn gl.K (.ref gl.C) name = some none) (hv : pmap p name = some v) (hh : handedIn v = true) (x : P v σ) :
    TT gl Φ (getAttr (.ref p.pa) name b) σ P :=
  .calmE fun h g d tk os Q E S k => read_attr T (S.inK T) (S.inst hp) (S.pl.each p hp).2.2 hn hv hh fun tk' => k _ _ x
theorem TT.methP (T : gl.Ok) {p : Pl} {name : Str} {f : Addr} {pl : Sem Bool} {P : Value × List Value → Sta → Prop} (hp : p ∈ σ.pl) (hf : findIn gl.K (.ref gl.C) name = some (some (.ref f))) (ht : isFn gl.K (.ref f) = true)
    (hv : pmap p name = none) (x : P (.ref f, [.ref p.pa]) σ) : TT gl Φ (getMethod (.ref p.pa) name pl) σ P :=
  .calmE fun h g d tk os Q E S k => read_meth T (S.inK T) (S.inst hp) (S.pl.each p hp).2.2 hf ht hv (k _ tk x)

/-- the player i with another record -/
theorem St.setPl {h h' : Heap} (S : St gl Φ σ h) (hm : Φ.mu = true) {i : Nat} {p p' : Pl} (hi : σ.pl[i]? = some p) (ha : p'.pa = p.pa) (hd : p'.da = p.da) (hs : Heap.SameBut p.da h h') (hp' : PD h' p') :
    St gl Φ { σ with pl := σ.pl.set i p' } h' := by
  have hp := mem_of_get hi
  have X : Ext gl true σ.G h σ.pl σ.G h' (σ.pl.set i p') := by
    obtain ⟨es, n, ed, _⟩ := (S.pl.each p hp).2.2
    have hil : i < σ.pl.length := (List.getElem?_eq_some_iff.mp hi).1
    have map_eq : ∀ (f : Pl → Addr), f p' = f p → (σ.pl.set i p').map f = σ.pl.map f := fun f e => by
      apply List.ext_getElem?
      intro j
      simp only [List.getElem?_map, List.getElem?_set]
      by_cases q : i = j
      · subst q; obtain ⟨_, e'⟩ := List.getElem?_eq_some_iff.mp hi; simp [hil, e, e']
      · simp [q]
    refine ⟨fun a o n e => (hs.2 a fun q => n ⟨rfl, p, hp, q⟩).trans e, fun a o e => ?_, fun a o e => ?_, Le.rfl, fun _ _ _ => rfl, ⟨fun q hq => ?_, ?_, ?_⟩, fun q hq => ?_⟩
    · by_cases q : a = p.da
      · obtain ⟨es', n', e', _⟩ := hp'; rw [hd] at e'; exact ⟨_, q ▸ e'⟩
      · exact ⟨o, (hs.2 a q).trans e⟩
    · have : a ≠ p.da := fun q => by rw [q, (S.pl.each p hp).2.1] at e; cases e
      exact (hs.2 a this).trans (S.sub a o e)
    · rcases mem_set hq with rfl | ⟨j, ij, hj⟩
      · exact ⟨by rw [ha, hd]; exact (S.pl.each p hp).1, by rw [hd]; exact (S.pl.each p hp).2.1, hp'⟩
      · obtain ⟨a, b, es', n', c, r⟩ := S.pl.each q (mem_of_get hj)
        refine ⟨a, b, es', n', (hs.2 _ fun z => ?_).trans c, r⟩
        have h1 : (σ.pl.map (·.da))[i]? = some p.da := by simp [hi]
        have h2 : (σ.pl.map (·.da))[j]? = some p.da := by simp [hj, z]
        obtain ⟨l1, e1⟩ := List.getElem?_eq_some_iff.mp h1
        obtain ⟨l2, e2⟩ := List.getElem?_eq_some_iff.mp h2
        have e3 := List.Nodup.idxOf_getElem S.pl.nd i l1
        have e4 := List.Nodup.idxOf_getElem S.pl.nd j l2
        rw [e1] at e3; rw [e2] at e4
        exact ij (e4.symm.trans e3)
    · rw [map_eq _ hd]; exact S.pl.nd
    · rw [map_eq _ ha]; exact S.pl.np
    · rcases List.mem_or_eq_of_mem_set hq with hq | rfl
      · exact .inl ⟨q, hq, rfl⟩
      · exact .inl ⟨p, hp, hd.symm⟩
  exact S.called X (fun _ => hm)

theorem TT.setP (T : gl.Ok) {i : Nat} {p p' : Pl} {name : Str} {v : Value} {P : Unit → Sta → Prop} (hi : σ.pl[i]? = some p) (hm : Φ.mu = true) (hn : findIn gl.K (.ref gl.C) name = some none) (hs : (pmap p name).isSome = true)
    (pa' : p'.pa = p.pa) (da' : p'.da = p.da) (hu : ∀ y, pmap p' y = if y = name then some v else pmap p y) (x : P () { σ with pl := σ.pl.set i p' }) : TT gl Φ (setAttr (.ref p.pa) name v) σ P :=
  fun h g d tk os Q E S k => by
    have hp := mem_of_get hi
    refine store_attr T (S.inK T) (S.inst hp) (S.pl.each p hp).2.2 hn (by omega) fun h' tk' hs' D => ?_
    rw [hs] at D
    have D' : PD h' p' := by
      obtain ⟨es, n, a, b, c⟩ := D
      exact ⟨es, n, by rw [da']; exact a, fun y => by rw [b y, hu y], c⟩
    exact k _ _ _ _ (S.setPl hm hi pa' da' hs' D') x

theorem pmap_pf (p : Pl) (v : Value) (y : Str) : pmap { p with pf := v } y = if y = "prefs" then some v else pmap p y := by
  unfold pmap
  by_cases h : y = "prefs"
  · subst h; rfl
  · simp only [h, if_false]
theorem pmap_mt (p : Pl) (v : Value) (y : Str) : pmap { p with mt := v } y = if y = "matching" then some v else pmap p y := by
  unfold pmap
  by_cases h : y = "matching"
  · subst h; rfl
  · simp only [h, if_false]
theorem pmap_pn (p : Pl) (v : Value) (y : Str) : pmap { p with pn := v } y = if y = "_pref_names" then some v else pmap p y := by
  unfold pmap
  by_cases h : y = "_pref_names"
  · subst h; rfl
  · simp only [h, if_false]
theorem pmap_op (p : Pl) (v : Value) (y : Str) : pmap { p with op := v } y = if y = "_original_prefs" then some v else pmap p y := by
  unfold pmap
  by_cases h : y = "_original_prefs"
  · subst h; rfl
  · simp only [h, if_false]

theorem TT.setPf (T : gl.Ok) {i : Nat} {p : Pl} {v : Value} {P : Unit → Sta → Prop} (hi : σ.pl[i]? = some p) (hm : Φ.mu = true) (x : P () { σ with pl := σ.pl.set i { p with pf := v } }) : TT gl Φ (setAttr (.ref p.pa) "prefs" v) σ P :=
  TT.setP (p' := { p with pf := v }) T hi hm T.nprefs rfl rfl rfl (pmap_pf p v) x
theorem TT.setMt (T : gl.Ok) {i : Nat} {p : Pl} {v : Value} {P : Unit → Sta → Prop} (hi : σ.pl[i]? = some p) (hm : Φ.mu = true) (x : P () { σ with pl := σ.pl.set i { p with mt := v } }) : TT gl Φ (setAttr (.ref p.pa) "matching" v) σ P :=
  TT.setP (p' := { p with mt := v }) T hi hm T.nmatching rfl rfl rfl (pmap_mt p v) x
theorem TT.setPn (T : gl.Ok) {i : Nat} {p : Pl} {v : Value} {P : Unit → Sta → Prop} (hi : σ.pl[i]? = some p) (hm : Φ.mu = true) (x : P () { σ with pl := σ.pl.set i { p with pn := v } }) : TT gl Φ (setAttr (.ref p.pa) "_pref_names" v) σ P :=
  TT.setP (p' := { p with pn := v }) T hi hm T.npn rfl rfl rfl (pmap_pn p v) x
theorem TT.setOp (T : gl.Ok) {i : Nat} {p : Pl} {v : Value} {P : Unit → Sta → Prop} (hi : σ.pl[i]? = some p) (hm : Φ.mu = true) (x : P () { σ with pl := σ.pl.set i { p with op := v } }) : TT gl Φ (setAttr (.ref p.pa) "_original_prefs" v) σ P :=
  TT.setP (p' := { p with op := v }) T hi hm T.nop rfl rfl rfl (pmap_op p v) x

theorem TT.asgAttr {o : Expr} {attr : Str} {pos' pos} {value : Expr} {P : Flow → Sta → Prop} (x : TT gl Φ (eval value Φ.env) σ fun v σ₁ => TT gl Φ (eval o Φ.env) σ₁ fun ov σ₂ => TT gl Φ (setAttr ov attr v) σ₂ fun _ => P .next)
    (hs : swapsWith value (some (.Attribute o attr pos')) pos.line Φ.env = Pure.pure false := by rfl) : TT gl Φ (exec (.Assign [.Attribute o attr pos'] value pos) Φ.env) σ P :=
  fun h g d tk os Q E S q => plainObj_wpAny_Assign_Attribute (x h g d tk os _ E S fun v σ₁ h₁ tk₁ S₁ y => y h₁ g d tk₁ os _ E S₁ fun ov σ₂ h₂ tk₂ S₂ z => z h₂ g d tk₂ os _ E S₂ fun _ σ₃ h₃ tk₃ S₃ u => q _ _ _ _ S₃ u) hs
theorem TT.asgSub {o i : Expr} {pos' pos} {value : Expr} {P : Flow → Sta → Prop}
    (x : TT gl Φ (eval value Φ.env) σ fun v σ₁ => TT gl Φ (eval o Φ.env) σ₁ fun ov σ₂ => TT gl Φ (eval i Φ.env) σ₂ fun iv σ₃ => TT gl Φ (setItem ov iv v) σ₃ fun _ => P .next)
    (hs : swapsWith value (some (.Subscript o i pos')) pos.line Φ.env = Pure.pure false := by rfl) : TT gl Φ (exec (.Assign [.Subscript o i pos'] value pos) Φ.env) σ P :=
  fun h g d tk os Q E S q => wpAny_Assign_Subscript (x h g d tk os _ E S fun v σ₁ h₁ tk₁ S₁ y => y h₁ g d tk₁ os _ E S₁ fun ov σ₂ h₂ tk₂ S₂ z => z h₂ g d tk₂ os _ E S₂ fun iv σ₃ h₃ tk₃ S₃ w => w h₃ g d tk₃ os _ E S₃ fun _ σ₄ h₄ tk₄ S₄ u => q _ _ _ _ S₄ u) hs

theorem TT.setItem {i : Nat} {a : Addr} {vs : List Value} {k : Int} {t : Tok} {v : Value} {P : Unit → Sta → Prop} (hi : σ.own[i]? = some (a, .lst vs)) (h0 : 0 ≤ k) (hn : k < vs.length) (hfit : k < 2 ^ 63)
    (x : P () { σ with own := σ.own.set i (a, .lst (vs.set k.toNat v)) }) : TT gl Φ (PySem.setItem (.ref a) (.int k t) v) σ P :=
  fun h g d tk os Q E S q => by
    obtain ⟨⟨n, e⟩, _⟩ := S.own _ (mem_of_get hi)
    have e : IsL h a vs.toArray n := e
    have hl := e.isList
    have hT : (⟨h, g, d, tk, os⟩ : Shared).TypeIs (.ref a) "list" := Heap.IsList.typeIs (s := ⟨h, g, d, tk, os⟩) hl
    unfold PySem.setItem
    try with_reducible refine wpAny_holding ?_
    first | refine wpAny_bind (wpAny_pure ?_) | skip
    refine wpAny_bind (wpAny_sequenceKey hT (by decide) ?_)
    refine wpAny_bind (wpAny_callSpecial?_slot (name := Str.ofString "__setitem__") hT slot_list_setitem
      (wpAny_call_entry slot_list_setitem hT entry_list_setitem ?_ (args_list_setitem _ _ _)))
    show wpAny _ _ (Builtin.List.listSubscript? (.int k t) >>= _) _ _ _
    refine wpAny_bind (wpAny_listSubscript_int (fitsIndex_of h0 hfit) ?_)
    clear hfit
    obtain ⟨j, rfl⟩ := Int.eq_ofNat_of_zero_le h0
    have hj : j < vs.toArray.size := by rw [List.size_toArray]; omega
    have hx' : vs.toArray[j]? = some vs.toArray[j] := Array.getElem?_eq_getElem hj
    show wpAny _ _ ((seqItemAt a j >>= fun r => pure (r.map (j, ·))) >>= _) _ _ _
    refine wpAny_bind (wpAny_bind (wpAny_seqItemAt e rfl (wpAny_pure ?_)))
    rw [hx']
    show wpAny _ _ (setSeqItemAt a j v >>= _) _ _ _
    have S' := S.mutL hi (·.setIfInBounds j v)
    refine wpAny_bind (wpAny_setSeqItemAt e rfl ?_)
    have fin := q _ _ _ tk S' (by simpa using x)
    first
      | exact wpAny_bind (wpAny_pure (wpAny_pure ⟨.none, rfl, wpAny_pure fin⟩))
      | exact wpAny_pure ⟨.none, rfl, wpAny_pure fin⟩

end
end Mine

end
section
namespace Mine

/-- the state with one more owned object in front -/
noncomputable abbrev wi (it : Addr) (c : Cl) (σ : Sta) : Sta := { σ with own := (it, c) :: σ.own }

section
variable {gl : Gl} {Φ : Fx} {σ : Sta}

/-! while -/
theorem TT.while {test : Expr} {body orelse : List Stmt} {pos : Pos} {P : Flow → Sta → Prop} (I : Nat → Sta → Prop)
    (turn : ∀ n σ', I n σ' → TT gl Φ (isTrue test Φ.env (eval test Φ.env)) σ' fun b σ₁ =>
      if b then TT gl Φ (execs body Φ.env) σ₁ fun f σ₂ => match f with
          | .next | .cont => ∃ m, m < n ∧ I m σ₂
          | .brk => P .next σ₂
          | .ret v => P (.ret v) σ₂
      else TT gl Φ (execs orelse Φ.env) σ₁ P)
    (n : Nat) (hI : I n σ) : TT gl Φ (exec (.While test body orelse pos) Φ.env) σ P :=
  fun h g d tk os Q E S q => by
    refine wpAny_While ?_
    refine codeAny_whileLoop (fun n s => ∃ σ' h' tk', s = ⟨h', g, d, tk', os⟩ ∧ St gl Φ σ' h' ∧ I n σ') ?_ n ⟨σ, h, tk, rfl, S, hI⟩
    rintro n s ⟨σ', h', tk', rfl, S', hI'⟩
    refine turn n σ' hI' h' g d tk' os _ _ S' fun b σ₁ h₁ tk₁ S₁ x => ?_
    cases b with
    | true =>
      simp only [if_true] at x ⊢
      refine x h₁ g d tk₁ os _ _ S₁ fun f σ₂ h₂ tk₂ S₂ y => ?_
      cases f with
      | next => obtain ⟨m, hm, hI₂⟩ := y; exact ⟨m, hm, σ₂, h₂, tk₂, rfl, S₂, hI₂⟩
      | cont => obtain ⟨m, hm, hI₂⟩ := y; exact ⟨m, hm, σ₂, h₂, tk₂, rfl, S₂, hI₂⟩
      | brk => exact q _ _ _ _ S₂ y
      | ret v => exact q _ _ _ _ S₂ y
    | false =>
      simp only [Bool.false_eq_true, if_false] at x ⊢
      exact x h₁ g d tk₁ os _ _ S₁ fun f σ₂ h₂ tk₂ S₂ y => q _ _ _ _ S₂ y

/-! what an iterator does -/
structure Steps (gl : Gl) (c : Nat → Cl) (n : Nat) (val : Nat → Value → Prop) (Gp : PM → Prop) : Prop where
  item : ∀ (Φ : Fx) (i : Nat) (it : Addr) (σ : Sta) (h : Heap) (g : Array GenState) (d : Drawn) (tk : Nat) (os : OsState) (Q : Option Value → Shared → Prop) (E : Value → Shared → Prop),
    St gl Φ (wi it (c i) σ) h → Gp σ.G → i < n → (∀ v h' tk', val i v → St gl Φ (wi it (c (i + 1)) σ) h' → Q (some v) ⟨h', g, d, tk', os⟩) → wpAny (model gl.prog gl.w) Φ.A (pyNext (.ref it)) Q E ⟨h, g, d, tk, os⟩
  done : ∀ (Φ : Fx) (it : Addr) (σ : Sta) (h : Heap) (g : Array GenState) (d : Drawn) (tk : Nat) (os : OsState) (Q : Option Value → Shared → Prop) (E : Value → Shared → Prop),
    St gl Φ (wi it (c n) σ) h → Gp σ.G → (∀ h' tk', St gl Φ σ h' → Q none ⟨h', g, d, tk', os⟩) → wpAny (model gl.prog gl.w) Φ.A (pyNext (.ref it)) Q E ⟨h, g, d, tk, os⟩
  self : ∀ (Φ : Fx) (it : Addr) (σ : Sta) (h : Heap) (g : Array GenState) (d : Drawn) (tk : Nat) (os : OsState) (Q : Value → Shared → Prop) (E : Value → Shared → Prop),
    St gl Φ (wi it (c 0) σ) h → Gp σ.G → Q (.ref it) ⟨h, g, d, tk, os⟩ → wpAny (model gl.prog gl.w) Φ.A (pyIter (.ref it)) Q E ⟨h, g, d, tk, os⟩
  mono : ∀ G G', Le G G' → Gp G → Gp G'
  go : ∀ (Φ : Fx) (i : Nat) (it : Addr) (σ : Sta) (h : Heap) (g : Array GenState) (d : Drawn) (tk : Nat) (os : OsState) (Q : Unit → Shared → Prop) (E : Value → Shared → Prop) (target : Expr) (v : Value),
    St gl Φ (wi it (c i) σ) h → Q () ⟨h, g, d, tk, os⟩ → wpAny (model gl.prog gl.w) Φ.A (letOwnedTupleGo target (.ref it) v) Q E ⟨h, g, d, tk, os⟩

/-- the heap changes at one owned address, which is then forgotten -/
theorem St.forget {h h' : Heap} {a : Addr} {c : Cl} (S : St gl Φ (wi a c σ) h) (hk : ∀ b o, b ≠ a → h.get? b = some o → h'.get? b = some o)
    (hnd : ∀ v, ¬ (∃ o, h.get? a = some o ∧ o.data = .cell v)) : St gl Φ σ h' := by
  obtain ⟨m₀, hm₀, hl⟩ := S.loc
  obtain ⟨a1, a2, a3, a4⟩ := S.own _ (List.mem_cons_self ..)
  have a2 : Φ.h₀.get? a = none := a2
  have a3 : σ.G a = none := a3
  have cellA : ∀ {b v}, h.IsCell b v → b ≠ a := fun ⟨o, e, d⟩ q => hnd _ ⟨o, q ▸ e, d⟩
  have ndp := List.nodup_cons.mp S.ownd
  refine ⟨fun b o e => hk b o (fun q => by rw [q, a3] at e; cases e) (S.sub b o e), S.top, S.room, S.old, S.le0, fun b o e => ?_, fun b o n e => hk b o (fun q => by rw [q, a2] at e; cases e) (S.keep b o n e), S.kf,
    ⟨m₀, hm₀.at' fun o e => hk _ _ (Ne.symm a4.1) e, hl⟩, fun x v e n => ?_, S.fr, fun f => ?_, fun e he => ?_, ndp.2, ⟨fun p hp => ?_, S.pl.nd, S.pl.np⟩, S.pll, S.pln, fun e he p hp => S.ox e (List.mem_cons_of_mem _ he) p hp⟩
  · obtain ⟨o', e'⟩ := S.live b o e
    exact ⟨o', hk _ _ (fun q => by rw [q, a2] at e; cases e) e'⟩
  · obtain ⟨c0, e1, e2⟩ := S.cel x v e n
    obtain ⟨o, e3, e4⟩ := id e2
    exact ⟨c0, e1, o, hk _ _ (cellA e2) e3, e4⟩
  · obtain ⟨f3, f4⟩ := S.fc f
    refine ⟨fun x hx => ?_, f4⟩
    obtain ⟨g1, g2, v, g3⟩ := f3 x hx
    obtain ⟨o, e3, e4⟩ := id g3
    exact ⟨g1, g2, v, o, hk _ _ (cellA g3) e3, e4⟩
  · obtain ⟨b1, b2, b3, b4⟩ := S.own _ (List.mem_cons_of_mem _ he)
    exact ⟨b1.of fun o q => hk _ _ (fun z => ndp.1 (List.mem_map.mpr ⟨e, he, z⟩)) q, b2, b3, b4⟩
  · obtain ⟨b1, b2, ⟨es, n, b3, b4⟩⟩ := S.pl.each p hp
    exact ⟨b1, b2, ⟨es, n, hk _ _ (fun q => S.ox _ (List.mem_cons_self ..) p hp q.symm) b3, b4⟩⟩

theorem not_cell_liter {h : Heap} {it l : Addr} {i : Nat} (x : h.IsListIter it l i) : ∀ v, ¬ (∃ o, h.get? it = some o ∧ o.data = .cell v) := fun v ⟨o, a, b⟩ => by
  obtain ⟨o', a', _, b'⟩ := x; rw [a'] at a; cases a; rw [b'] at b; cases b
theorem not_cell_riter {h : Heap} {it : Addr} {x l s : Int} (z : IsRangeIter h it x l s) : ∀ v, ¬ (∃ o, h.get? it = some o ∧ o.data = .cell v) := fun v ⟨o, a, b⟩ => by
  rw [z] at a; cases a; cases b

theorem go_other {prog : Program} {w : World} {A : Around} {E : Value → Shared → Prop} {s : Shared} {it : Addr} {o : Obj} {n : String} {vs : Array Value} {Q : Unit → Shared → Prop} (target : Expr) (v : Value) (ho : s.heap.get? it = some o) (hc : o.cls = .type n) (hd : o.data = .fields vs)
    (hn : ["enumerate", "zip", "dict_itemiterator", "dict_reverseitemiterator", "odict_iterator", "itertools.zip_longest", "itertools.pairwise"].contains n = false) (q : Q () s) : wpAny (model prog w) A (letOwnedTupleGo target (.ref it) v) Q E s := by
  have key : ∀ a, wpAny (model prog w) A (do
      let o ← load it
      match o.cls, o.data with
      | .type n, .fields vs =>
        if ["enumerate", "zip", "dict_itemiterator", "dict_reverseitemiterator", "odict_iterator", "itertools.zip_longest", "itertools.pairwise"].contains n && vs[0]? == some (rawInt a) then
          rule "for.unpacks-the-owned-tuple"
          updateField it 0 .none
      | _, _ => Pure.pure ()) Q E s := fun a => by
    refine wpAny_bind (wpAny_load ho ?_)
    rw [hc, hd]
    dsimp only
    rw [hn, Bool.false_and]
    exact wpAny_pure q
  unfold letOwnedTupleGo
  split
  · cases v with
    | ref a => exact key a
    | _ => exact wpAny_pure q
  · cases v with
    | ref a => exact key a
    | _ => exact wpAny_pure q
  · exact wpAny_pure q

theorem Steps.list (l : Addr) (vs : List Value) : Steps gl (fun i => .liter l i) vs.length (fun i v => vs[i]? = some v) fun G => IsLst G l vs where
  item := fun Φ i it σ h g d tk os Q E S G hi q => by
    have hit : h.IsListIter it l i := (S.own _ (List.mem_cons_self ..)).1
    obtain ⟨n, e⟩ := G
    have el : h.get? l = some (LstO vs n) := S.sub _ _ e
    refine wpAny_pyNext_list_item (x := vs[i]) hit (IsL.isList el) (by simp [hi]) fun h' hit' hs => ?_
    refine q _ _ _ (by simp [hi]) ?_
    exact S.setOwn (i := 0) (c' := .liter l (i + 1)) rfl hs.extBut hit' (not_cell_liter hit)
  done := fun Φ it σ h g d tk os Q E S G q => by
    have hit : h.IsListIter it l vs.length := (S.own _ (List.mem_cons_self ..)).1
    obtain ⟨n, e⟩ := G
    have el : h.get? l = some (LstO vs n) := S.sub _ _ e
    exact wpAny_pyNext_list_end S.hh hit (IsL.isList el) (by simp) fun h' he => q _ _ (S.forget he (not_cell_liter hit))
  self := fun Φ it σ h g d tk os Q E S G q => wpAny_pyIter_listiter (show h.IsListIter it l 0 from (S.own _ (List.mem_cons_self ..)).1) q
  mono := fun G G' hl x => x.mono hl
  go := fun Φ i it σ h g d tk os Q E target v S q => by
    obtain ⟨o, a, b, c⟩ : h.IsListIter it l i := (S.own _ (List.mem_cons_self ..)).1
    exact go_other (n := "list_iterator") target v a b c (by decide) q

theorem Steps.range (a : Int) (n : Nat) : Steps gl (fun i => .riter (a + (i : Nat)) ((n : Int) - (i : Nat)) 1) n (fun i v => ∃ t, v = .int (a + (i : Nat)) t) fun G => True where
  item := fun Φ i it σ h g d tk os Q E S G hi q => by
    have hit : IsRangeIter h it (a + (i : Nat)) ((n : Int) - (i : Nat)) 1 := (S.own _ (List.mem_cons_self ..)).1
    refine wpAny_pyNext_range_item hit (by omega) fun h' hit' hs => ?_
    refine q _ _ _ ⟨_, rfl⟩ ?_
    have e1 : a + ((i + 1 : Nat) : Int) = a + (i : Int) + 1 := by omega
    have e2 : (n : Int) - ((i + 1 : Nat) : Int) = (n : Int) - (i : Int) - 1 := by omega
    exact S.setOwn (i := 0) (c' := .riter (a + ((i + 1 : Nat) : Int)) ((n : Int) - ((i + 1 : Nat) : Int)) 1) rfl hs.extBut (by rw [e1, e2]; exact hit') (not_cell_riter hit)
  done := fun Φ it σ h g d tk os Q E S G q => by
    have hit : IsRangeIter h it (a + (n : Nat)) ((n : Int) - (n : Nat)) 1 := (S.own _ (List.mem_cons_self ..)).1
    exact wpAny_pyNext_range_end S.hh hit (by omega) fun h' he => q _ _ (S.forget he (not_cell_riter hit))
  self := fun Φ it σ h g d tk os Q E S G q => wpAny_pyIter_rangeiter (show IsRangeIter h it (a + ((0 : Nat) : Int)) ((n : Int) - ((0 : Nat) : Int)) 1 from (S.own _ (List.mem_cons_self ..)).1) q
  mono := fun G G' hl x => x
  go := fun Φ i it σ h g d tk os Q E target v S q => by
    have hit : IsRangeIter h it (a + (i : Nat)) ((n : Int) - (i : Nat)) 1 := (S.own _ (List.mem_cons_self ..)).1
    exact go_other (n := "range_iterator") target v hit rfl rfl (by decide) q

/-! iterators made -/
theorem TT.iterL {a : Addr} {vs : List Value} {P : Value → Sta → Prop} (L : σ.Lst a vs) (p : ∀ it, P (.ref it) (wi it (.liter a 0) σ)) : TT gl Φ (pyIter (.ref a)) σ P :=
  fun h g d tk os Q E S q => by
    obtain ⟨n, e⟩ := S.lst L
    exact wpAny_pyIter_list (IsL.isList e) (q _ _ _ _ (S.addOwn (c := .liter a 0) (fresh_size h) (le_push h _) ⟨_, Heap.get?_push_size _ rfl, rfl, rfl⟩) (p _))

noncomputable def IsRng (G : PM) (r : Addr) (n : Int) : Prop := ∃ t u v, G r = some { cls := .type "range", data := .fields #[.int 0 t, .int n u, .int 1 v] }
theorem TT.range {n : Int} {t : Tok} {P : Value → Sta → Prop} (p : ∀ a G', Le σ.G G' → IsRng G' a n → P (.ref a) { σ with G := G' }) : TT gl Φ (PySem.call (.type "range") [.int n t]) σ P :=
  fun h g d tk os Q E S q => call_range_1 (by
    have hG := (S.fresh (fresh_size h)).2.1
    exact q _ _ _ _ (S.frozen (fresh_size h) (le_push h _) (Heap.get?_push_size _ rfl)) (p _ _ (le_addG hG) ⟨_, _, _, by simp [addG]; exact ⟨rfl, rfl, rfl⟩⟩))
theorem TT.iterR {r : Addr} {n : Nat} {P : Value → Sta → Prop} (R : IsRng σ.G r n) (hn : n ≤ 1000000) (p : ∀ it, P (.ref it) (wi it (.riter 0 n 1) σ)) : TT gl Φ (pyIter (.ref r)) σ P :=
  fun h g d tk os Q E S q => by
    obtain ⟨t, u, v, e⟩ := R
    refine wpAny_pyIter_range (S.sub _ _ e) (small_one (by omega) (by omega) (by omega) (by omega)) ?_
    have hr : Builtin.Range.rangeSize 0 n 1 = n := by rw [rangeSize_one]; split <;> omega
    rw [hr]
    exact q _ _ _ _ (S.addOwn (c := .riter 0 n 1) (fresh_size h) (le_push h _) (Heap.get?_push_size _ rfl)) (p _)

/-! for -/
theorem TT.for {target iter : Expr} {body : List Stmt} {pos : Pos} {P : Flow → Sta → Prop}
    (x : TT gl Φ (eval iter Φ.env) σ fun v σ₁ => TT gl Φ (pyIter v) σ₁ fun it σ₂ => ∃ (c : Nat → Cl) (n : Nat) (val : Nat → Value → Prop) (Gp : PM → Prop) (I : Nat → Sta → Prop) (ia : Addr) (σ₃ : Sta),
      Steps gl c n val Gp ∧ it = .ref ia ∧ σ₂ = wi ia (c 0) σ₃ ∧ Gp σ₃.G ∧ I 0 σ₃ ∧
      (∀ ia i v σ', i < n → val i v → Gp σ'.G → I i σ' → TT gl Φ (assign target Φ.env v) (wi ia (c (i + 1)) σ') fun _ σ₁ => TT gl Φ (execs body Φ.env) σ₁ fun f σ₂ => match f with
        | .next | .cont => ∃ σ₃, σ₂ = wi ia (c (i + 1)) σ₃ ∧ Gp σ₃.G ∧ I (i + 1) σ₃
        | .brk => P .next σ₂
        | .ret v => P (.ret v) σ₂) ∧
      (∀ σ', Gp σ'.G → I n σ' → P .next σ'))
    (hs : ∀ x, foldedSetIterable iter Φ.env x = Pure.pure x := by intro _; rfl) :
    TT gl Φ (exec (.For target iter body [] pos) Φ.env) σ P :=
  fun h g d tk os Q E S q => by
    refine wpAny_For (x h g d tk os _ E S fun v σ₁ h₁ tk₁ S₁ y => y h₁ g d tk₁ os _ E S₁ fun it σ₂ h₂ tk₂ S₂ z => ?_) hs
    obtain ⟨c, n, val, Gp, I, ia, σ₃, W, rfl, rfl, hG, hI, step, fin⟩ := z
    refine codeAny_forLoop_any (fun k s => ∃ i σ' h' tk', k = n - i ∧ i ≤ n ∧ s = ⟨h', g, d, tk', os⟩ ∧ St gl Φ (wi ia (c i) σ') h' ∧ Gp σ'.G ∧ I i σ') ?_ n ⟨0, σ₃, h₂, tk₂, by omega, by omega, rfl, S₂, hG, hI⟩
    rintro k s ⟨i, σ', h', tk', rfl, hin, rfl, S', hG', hI'⟩
    by_cases hi : i < n
    · refine W.item Φ i ia σ' h' g d tk' os _ _ S' hG' hi fun v h₄ tk₄ hv S₄ => ?_
      refine W.go Φ (i + 1) ia σ' h₄ g d tk₄ os _ _ target v S₄ ?_
      refine step ia i v σ' hi hv hG' hI' h₄ g d tk₄ os _ _ S₄ fun _ σ₅ h₅ tk₅ S₅ u => ?_
      refine u h₅ g d tk₅ os _ _ S₅ fun f σ₆ h₆ tk₆ S₆ w => ?_
      cases f with
      | next => obtain ⟨σ₇, rfl, a, b⟩ := w; exact ⟨_, by omega, i + 1, σ₇, h₆, tk₆, rfl, hi, rfl, S₆, a, b⟩
      | cont => obtain ⟨σ₇, rfl, a, b⟩ := w; exact ⟨_, by omega, i + 1, σ₇, h₆, tk₆, rfl, hi, rfl, S₆, a, b⟩
      | brk => exact q _ _ _ _ S₆ w
      | ret v => exact q _ _ _ _ S₆ w
    · have e : i = n := by omega
      subst e
      exact W.done Φ ia σ' h' g d tk' os _ _ S' hG' fun h₄ tk₄ S₄ => wpAny_execs_nil (q _ _ _ _ S₄ (fin σ' hG' hI'))

end
end Mine

end
section
namespace Mine

noncomputable abbrev Tst (ifs : List Expr) (env : Env) : Sem Bool :=
  forIn ifs true fun c r => if r = true then do let ok ← isTrue c env (eval c env); Pure.pure (ForInStep.yield ok) else Pure.pure (ForInStep.yield r)

theorem codeAny_compLoop_any {prog : Program} {w : World} {A : Around} {R : Result → Shared → Prop} {s : Shared} {elt target iter : Expr} {ifs : List Expr} {scope : Scope} {pos : Pos} {it acc : Value} {env : Env} (I : Nat → Shared → Prop)
    (turn : ∀ n s, I n s → wpAny (model prog w) A (pyNext it) (fun r s₁ => match r with
      | none => R (.ok .next) s₁
      | some v => wpAny (model prog w) A (letOwnedTupleGo target it v) (fun _ s₁' => wpAny (model prog w) A (assign target env v) (fun _ s₂ =>
          wpAny (model prog w) A (Tst ifs env) (fun ok s₃ =>
            if ok = true then wpAny (model prog w) A (eval elt env) (fun x s₄ =>
              wpAny (model prog w) A (call (.builtin "list.append") [acc, x]) (fun _ s₅ => ∃ m, m < n ∧ I m s₅) (notedBy (model prog w) A env fun e s' => R (.error e) s') s₄) (notedBy (model prog w) A env fun e s' => R (.error e) s') s₃
            else ∃ m, m < n ∧ I m s₃) (notedBy (model prog w) A env fun e s' => R (.error e) s') s₂) (notedBy (model prog w) A env fun e s' => R (.error e) s') s₁') (notedBy (model prog w) A env fun e s' => R (.error e) s') s₁) (notedBy (model prog w) A env fun e s' => R (.error e) s') s)
    (n : Nat) (h : I n s) :
    codeAny (model prog w) A (.compLoop (.ListComp elt [⟨target, iter, ifs, 0⟩] scope pos) 0 it acc env) R s := by
  refine codeAny_loop rfl I (fun n s hI => ?_) n h
  show wpAny _ A ((compTurn (.ListComp elt [⟨target, iter, ifs, 0⟩] scope pos) 0 it acc env).onRaise (fun x => do noteFrame x env; theTreesLotGoes x)) _ _ s
  refine wpAny_noted ?_
  rw [compTurn_list]
  refine wpAny_bind (wpAny_standAt (wpAny_bind (wpAny_mono (turn n s hI) (fun r s₁ h₁ => ?_) fun _ _ h' => h')))
  cases r with
  | none => exact wpAny_pure h₁
  | some v =>
    refine wpAny_bind (wpAny_mono h₁ (fun _ s₁' h₁' => ?_) fun _ _ h' => h')
    refine wpAny_bind (wpAny_mono h₁' (fun _ s₂ h₂ => wpAny_bind (wpAny_mono h₂ (fun ok s₃ h₃ => ?_) fun _ _ h' => h')) fun _ _ h' => h')
    cases ok with
    | false => exact wpAny_pure ⟨rfl, h₃⟩
    | true =>
      exact wpAny_bind (wpAny_bind (wpAny_mono h₃ (fun x s₄ h₄ => wpAny_bind (wpAny_mono h₄ (fun _ s₅ h₅ => wpAny_pure (wpAny_pure ⟨rfl, h₅⟩)) fun _ _ h' => h')) fun _ _ h' => h'))

/-- the frame of a comprehension's turn -/
noncomputable def cFx (Φ : Fx) (scope : Scope) (cl : List (Str × Addr)) (C : Addr) (G : PM) (h : Heap) (pl : List Pl) : Fx :=
  { env := compEnvC scope cl C Φ.env, A := Φ.A, n := Φ.n, mu := false, pl₀ := pl, G₀ := G, h₀ := h.hide C, fr := true, fc := false }

noncomputable def FMok (Φ : Fx) (scope : Scope) (cl : List (Str × Addr)) (m : List (Str × Value)) : List (Str × Value) → Prop
  | [] => True
  | (x, v) :: r => (m.lookup x = some v ∧ Φ.env.kindOf x ≠ some .local ∧ cl.lookup x = Φ.env.cells.lookup x ∧ (relabel scope Φ.env).names.lookup x ≠ some .local) ∧ FMok Φ scope cl m r
theorem FMok.look {Φ : Fx} {scope : Scope} {cl : List (Str × Addr)} {m : List (Str × Value)} : ∀ {fm : List (Str × Value)}, FMok Φ scope cl m fm → ∀ x v, fm.lookup x = some v →
    m.lookup x = some v ∧ Φ.env.kindOf x ≠ some .local ∧ cl.lookup x = Φ.env.cells.lookup x ∧ (relabel scope Φ.env).names.lookup x ≠ some .local
  | [], _, _, _, e => by cases e
  | (y, u) :: r, ⟨a, b⟩, x, v, e => by
    rw [List.lookup_cons] at e
    cases hb : x == y with
    | true => rw [hb] at e; cases e; rw [beq_iff_eq.mp hb]; exact a
    | false => rw [hb] at e; exact b.look x v e

section
variable {gl : Gl} {Φ : Fx} {σ : Sta}

theorem TT.tests_nil {P : Bool → Sta → Prop} (x : P true σ) : TT gl Φ (Tst [] Φ.env) σ P := .calm (a := true) (fun _ _ _ tk _ _ _ _ q => wpAny_tests_nil (q tk)) x
theorem TT.tests_one {c : Expr} {P : Bool → Sta → Prop} (x : TT gl Φ (isTrue c Φ.env (eval c Φ.env)) σ P) : TT gl Φ (Tst [c] Φ.env) σ P :=
  fun h g d tk os Q E S q => wpAny_tests_one (x h g d tk os Q E S q)

theorem St.perm {h : Heap} {own' : List (Addr × Cl)} (S : St gl Φ σ h) (hp : σ.own.Perm own') : St gl Φ { σ with own := own' } h :=
  ⟨S.sub, S.top, S.room, S.old, S.le0, S.live, S.keep, S.kf, S.loc, S.cel, S.fr, S.fc, fun e he => S.own e (hp.mem_iff.mpr he), (hp.map _).nodup_iff.mp S.ownd, S.pl, S.pll, S.pln, fun e he => S.ox e (hp.mem_iff.mpr he)⟩

theorem St.cons {h : Heap} {a : Addr} {c : Cl} (S : St gl Φ σ h) (h1 : c.At h a) (h2 : Φ.h₀.get? a = none) (h3 : σ.G a = none) (h4 : a ≠ Φ.env.locals) (h5 : Φ.fc = true → ∀ c ∈ Φ.env.cells, a ≠ c.2) (h6 : ∀ e ∈ σ.own, e.1 ≠ a)
    (h7 : ∀ p ∈ σ.pl, p.da ≠ a) : St gl Φ (wi a c σ) h := by
  refine ⟨S.sub, S.top, S.room, S.old, S.le0, S.live, S.keep, S.kf, S.loc, S.cel, S.fr, S.fc, fun e he => ?_, ?_, S.pl, S.pll, S.pln, fun e he p hp => ?_⟩
  · rcases List.mem_cons.mp he with rfl | he
    · exact ⟨h1, h2, h3, h4, h5⟩
    · exact S.own e he
  · rw [List.map_cons, List.nodup_cons]
    refine ⟨fun hm => ?_, S.ownd⟩
    obtain ⟨e, he, q⟩ := List.mem_map.mp hm
    exact h6 e he q
  · rcases List.mem_cons.mp he with rfl | he
    · exact Ne.symm (h7 p hp)
    · exact S.ox e he p hp

theorem not_cell_ns {h : Heap} {a : Addr} {m : Str → Option Value} (x : h.Ns a m) : ∀ v, ¬ (∃ o, h.get? a = some o ∧ o.data = .cell v) := fun v ⟨o, p, q⟩ => by
  obtain ⟨o', es, ep, e, d, _⟩ := x; rw [e] at p; cases p; rw [d] at q; cases q

/-- into a comprehension's turn -/
theorem St.into {h : Heap} {C : Addr} {m : Str → Option Value} (S : St gl Φ (wi C (.ns m) σ) h) {scope : Scope} {cl : List (Str × Addr)} {fm : List (Str × Value)} (hk : scope.kind = .function) (hfm : FMok Φ scope cl σ.m fm) :
    St gl (cFx Φ scope cl C σ.G h σ.pl) ⟨σ.G, fm, [], σ.pl⟩ h := by
  have C0 := S.own _ (List.mem_cons_self ..)
  have C1 : h.Ns C m := C0.1
  have C3 : σ.G C = none := C0.2.2.1
  refine ⟨S.sub, S.top, S.room, fun _ _ _ => rfl, Le.rfl, fun a o e => ⟨o, Heap.of_hide e⟩, fun a o _ e => Heap.of_hide e, hk, ⟨m, C1, fun x v e k => absurd k (hfm.look x v e).2.2.2⟩, fun x v e n => ?_, fun _ => ⟨Heap.hide_self .., C3⟩,
    fun f => (by cases f), fun e he => (by cases he), List.nodup_nil, S.pl, fun p hp => ?_, fun p hp => .inl ⟨p, hp, rfl⟩, fun e he => (by cases he)⟩
  · obtain ⟨a, b, c, _⟩ := hfm.look x v e
    obtain ⟨c0, e1, e2⟩ := S.cel x v a b
    exact ⟨c0, c.trans e1, e2⟩
  · exact fun q => S.ox _ (List.mem_cons_self ..) p hp q.symm

/-- and back -/
theorem St.back {h h' : Heap} {C : Addr} {m : Str → Option Value} (S : St gl Φ (wi C (.ns m) σ) h) {scope : Scope} {cl : List (Str × Addr)} {σ' : Sta}
    (S' : St gl (cFx Φ scope cl C σ.G h σ.pl) σ' h') : ∃ m', St gl Φ (wi C (.ns m') { σ with G := σ'.G, pl := σ'.pl }) h' := by
  have C0 := S.own _ (List.mem_cons_self ..)
  have C1 : h.Ns C m := C0.1
  have S0 : St gl Φ σ (h.hide C) := S.forget (fun b o hb e => (Heap.hide_ne h hb).trans e) (not_cell_ns C1)
  have X : Ext gl false σ.G (h.hide C) σ.pl σ'.G h' σ'.pl := by
    refine ⟨fun a o _ e => S'.keep a o (fun w => by cases w.1) e, S'.live, S'.sub, S'.le0, S'.old, S'.pl, fun p hp => ?_⟩
    exact S'.pln p hp
  have S1 := S0.called X (fun e => by cases e)
  obtain ⟨m', hm', _⟩ := S'.loc
  obtain ⟨_, fC⟩ := S'.fr rfl
  have ndp := List.nodup_cons.mp S.ownd
  refine ⟨m', S1.cons hm' C0.2.1 fC C0.2.2.2.1 C0.2.2.2.2 (fun e he q => ndp.1 (List.mem_map.mpr ⟨e, he, q⟩)) fun p hp => S'.pll p hp⟩

theorem MkL.run {ys : List Value} {P : Value → Sta → Prop} {h : Heap} {D : Addr} (S : St gl Φ (wi D (.lst ys) σ) h) (M : MkL σ ys P) : ∃ σ', St gl Φ σ' h ∧ P (.ref D) σ' := by
  obtain ⟨⟨n, e⟩, _, hG, _⟩ := S.own _ (List.mem_cons_self ..)
  have hG : σ.G D = none := hG
  rcases M with M | M
  · have S' := S.freeze (i := 0) rfl e
    exact ⟨_, S', M D _ (le_addG hG) ⟨n, by simp [addG]⟩⟩
  · exact ⟨_, S, M D hG⟩

theorem TT.compCore {elt target iter : Expr} {ifs : List Expr} {scope : Scope} {pos : Pos} {cl : List (Str × Addr)} {c : Nat → Cl} {n : Nat} {val : Nat → Value → Prop} {Gp : PM → Prop} (W : Steps gl c n val Gp) (hn : n ≤ 1000)
    (fm : List (Str × Value)) (J : Nat → PM → List Pl → List Value → Prop) {RR : Value → Addr → Result → Shared → Prop} {ia : Addr} {h : Heap} {g : Array GenState} {d : Drawn} {tk : Nat} {os : OsState} {E : Value → Shared → Prop}
    (S : St gl Φ (wi ia (c 0) σ) h) (hG : Gp σ.G) (hfm : FMok Φ scope cl σ.m fm)
    (hcell : ∀ y ∈ scope.names, y.2 ≠ .cell) (hkind : scope.kind = .function) (J0 : J 0 σ.G σ.pl [])
    (step : ∀ C h i v G' pl' ys, i < n → val i v → Gp G' → Le σ.G G' → J i G' pl' ys → TT gl (cFx Φ scope cl C G' h pl') (assign target (cFx Φ scope cl C G' h pl').env v) ⟨G', fm, [], pl'⟩ fun _ σ₁ =>
      TT gl (cFx Φ scope cl C G' h pl') (Tst ifs (cFx Φ scope cl C G' h pl').env) σ₁ fun ok σ₂ =>
        if ok = true then TT gl (cFx Φ scope cl C G' h pl') (eval elt (cFx Φ scope cl C G' h pl').env) σ₂ fun y σ₃ => J (i + 1) σ₃.G σ₃.pl (ys ++ [y])
        else J (i + 1) σ₂.G σ₂.pl ys)
    (jlen : ∀ i G' pl' ys, J i G' pl' ys → ys.length ≤ i)
    (fin : ∀ h' tk' D C m G' pl' ys, Gp G' → Le σ.G G' → J n G' pl' ys → St gl Φ (wi C (.ns m) (wi D (.lst ys) { σ with G := G', pl := pl' })) h' → RR (.ref D) C (.ok .next) ⟨h', g, d, tk', os⟩)
    :
    wpAny (model gl.prog gl.w) Φ.A (newList []) (fun acc s₃ => wpAny (model gl.prog gl.w) Φ.A (newFunctionEnv scope Φ.env.globals cl [] Φ.env.qual none .none (some Φ.env)) (fun cenv s₄ =>
      codeAny (model gl.prog gl.w) Φ.A (.compStart (.ListComp elt [⟨target, iter, ifs, 0⟩] scope pos) 0 (.ref ia) acc { cenv with scope := relabel scope Φ.env }) (RR acc cenv.locals) s₄) E s₃) E ⟨h, g, d, tk, os⟩ := by
  refine wpAny_newObj_type (wpAny_newFunctionEnv hcell (by intro y hy; simp at hy) (fun h₁ hns₁ hsb₁ => ?_) hkind)
  dsimp only at hns₁ hsb₁ ⊢
  have SD := S.addOwn (c := .lst []) (fresh_size h) (le_push h (LstO [] 0)) ⟨0, Heap.get?_push_size _ rfl⟩
  generalize hH2 : h.push (LstO [] 0) = H2 at SD
  have hH2' : h.push { cls := .type "list", dict := none, data := .seq ([] : List Value).toArray } = H2 := hH2
  rw [hH2'] at hns₁ hsb₁
  have le12 : Le H2.get? h₁.get? := fun b o e => hsb₁.extBut b o (fun q => by rw [q, fresh_size] at e; cases e) (Heap.get?_push_of_some _ e)
  have SC := SD.addOwn (c := .ns fun x => ([] : List (Str × Value)).reverse.lookup x) (fresh_size H2) le12 hns₁
  have hC : (h.push { cls := .type "list", dict := none, data := .seq ([] : List Value).toArray }).objs.size = H2.objs.size := by rw [hH2']
  generalize H2.objs.size = C at *
  generalize h.objs.size = D at *
  -- the state of the loop
  have Sp : St gl Φ (wi ia (c 0) (wi C (.ns fun x => ([] : List (Str × Value)).reverse.lookup x) (wi D (.lst []) σ))) h₁ :=
    SC.perm (by
      show ((C, Cl.ns _) :: (D, Cl.lst []) :: (ia, c 0) :: σ.own).Perm ((ia, c 0) :: (C, Cl.ns _) :: (D, Cl.lst []) :: σ.own)
      exact (List.Perm.cons _ (List.Perm.swap _ _ _)).trans (List.Perm.swap _ _ _))
  have loop : ∀ s₃ : Shared, s₃ = ⟨h₁, g, d, tk + ([] : List (Str × Value)).length, os⟩ →
      codeAny (model gl.prog gl.w) Φ.A (.compLoop (.ListComp elt [⟨target, iter, ifs, 0⟩] scope pos) 0 (.ref ia) (.ref D) (compEnvC scope cl C Φ.env)) (RR (.ref D) C) s₃ := by
    rintro s₃ rfl
    refine codeAny_compLoop_any (fun k s => ∃ i G' pl' ys m h' tk', k = n - i ∧ i ≤ n ∧ s = ⟨h', g, d, tk', os⟩ ∧ Gp G' ∧ Le σ.G G' ∧ J i G' pl' ys ∧
      St gl Φ (wi ia (c i) (wi C (.ns m) (wi D (.lst ys) { σ with G := G', pl := pl' }))) h') ?_ n ⟨0, σ.G, σ.pl, [], _, h₁, _, by omega, by omega, rfl, hG, Le.rfl, J0, Sp⟩
    rintro k s ⟨i, G', pl', ys, m, h', tk', rfl, hin, rfl, hG', hle, hJ, S'⟩
    by_cases hi : i < n
    · refine W.item Φ i ia _ h' g d tk' os _ _ S' hG' hi fun v h₄ tk₄ hv S₄ => ?_
      -- the block's names to the front
      have S₅ : St gl Φ (wi C (.ns m) (wi ia (c (i + 1)) (wi D (.lst ys) { σ with G := G', pl := pl' }))) h₄ := S₄.perm (List.Perm.swap _ _ _)
      refine W.go Φ (i + 1) ia _ h₄ g d tk₄ os _ _ target v S₄ ?_
      have T := step C h₄ i v G' pl' ys hi hv hG' hle hJ
      refine T h₄ g d tk₄ os _ _ (S₅.into hkind hfm) fun _ σ₁ h₆ tk₆ S₆ x => ?_
      refine x h₆ g d tk₆ os _ _ S₆ fun ok σ₂ h₇ tk₇ S₇ y => ?_
      cases ok with
      | true =>
        simp only [if_true] at y ⊢
        refine y h₇ g d tk₇ os _ _ S₇ fun yv σ₃ h₈ tk₈ S₈ z => ?_
        obtain ⟨m', S₉⟩ := S₅.back S₈
        have hlen := jlen i _ _ _ hJ
        have S₉' : St gl Φ (wi D (.lst ys) (wi ia (c (i + 1)) (wi C (.ns m') { σ with G := σ₃.G, pl := σ₃.pl }))) h₈ := S₉.perm (by
          show ((C, Cl.ns m') :: (ia, c (i + 1)) :: (D, Cl.lst ys) :: σ.own).Perm ((D, Cl.lst ys) :: (ia, c (i + 1)) :: (C, Cl.ns m') :: σ.own)
          exact ((List.Perm.cons _ (List.Perm.swap _ _ _)).trans (List.Perm.swap _ _ _)).trans (List.Perm.cons _ (List.Perm.swap _ _ _)))
        refine (TT.append (i := 0) (P := fun _ σ₄ => σ₄ = wi D (.lst (ys ++ [yv])) (wi ia (c (i + 1)) (wi C (.ns m') { σ with G := σ₃.G, pl := σ₃.pl }))) rfl (by omega) rfl) h₈ g d tk₈ os _ _ S₉' fun _ σ₄ h₁₀ tk₁₀ S₁₀ e => ?_
        subst e
        refine ⟨_, by omega, i + 1, σ₃.G, σ₃.pl, ys ++ [yv], m', h₁₀, tk₁₀, rfl, hi, rfl, W.mono _ _ S₈.le0 hG', hle.trans S₈.le0, z, S₁₀.perm ?_⟩
        show ((D, Cl.lst (ys ++ [yv])) :: (ia, c (i + 1)) :: (C, Cl.ns m') :: σ.own).Perm ((ia, c (i + 1)) :: (C, Cl.ns m') :: (D, Cl.lst (ys ++ [yv])) :: σ.own)
        exact (List.Perm.swap _ _ _).trans (List.Perm.cons _ (List.Perm.swap _ _ _))
      | false =>
        simp only [Bool.false_eq_true, if_false] at y ⊢
        obtain ⟨m', S₉⟩ := S₅.back S₇
        exact ⟨_, by omega, i + 1, σ₂.G, σ₂.pl, ys, m', h₇, tk₇, rfl, hi, rfl, W.mono _ _ S₇.le0 hG', hle.trans S₇.le0, y, S₉.perm (List.Perm.swap _ _ _)⟩
    · have e : i = n := by omega
      subst e
      exact W.done Φ ia _ h' g d tk' os _ _ S' hG' fun h₄ tk₄ S₄ => fin h₄ tk₄ D C m G' pl' ys hG' hle hJ S₄
  exact codeAny_compStart_list (loop _ rfl) (W.self Φ ia _ _ g d _ os _ _ Sp hG (loop _ rfl))

/-- what a turn of a comprehension has to show -/
noncomputable def Turn (gl : Gl) (Φ : Fx) (scope : Scope) (cl : List (Str × Addr)) (target elt : Expr) (ifs : List Expr) (fm : List (Str × Value)) (J : Nat → PM → List Pl → List Value → Prop) (i : Nat) (v : Value) (C : Addr) (h : Heap) (G' : PM) (pl' : List Pl) (ys : List Value) : Prop :=
  TT gl (cFx Φ scope cl C G' h pl') (assign target (cFx Φ scope cl C G' h pl').env v) ⟨G', fm, [], pl'⟩ fun _ σ₁ =>
    TT gl (cFx Φ scope cl C G' h pl') (Tst ifs (cFx Φ scope cl C G' h pl').env) σ₁ fun ok σ₂ =>
      if ok = true then TT gl (cFx Φ scope cl C G' h pl') (eval elt (cFx Φ scope cl C G' h pl').env) σ₂ fun y σ₃ => J (i + 1) σ₃.G σ₃.pl (ys ++ [y])
      else J (i + 1) σ₂.G σ₂.pl ys

theorem TT.comp {elt target iter : Expr} {ifs : List Expr} {scope : Scope} {pos : Pos} {P : Value → Sta → Prop}
    (cl : List (Str × Addr)) (fm : List (Str × Value))
    (x : TT gl Φ (eval iter Φ.env) σ fun v σ₁ => TT gl Φ (pyIter v) σ₁ fun it σ₂ => ∃ (c : Nat → Cl) (n : Nat) (val : Nat → Value → Prop) (Gp : PM → Prop) (J : Nat → PM → List Pl → List Value → Prop) (ia : Addr) (σ₃ : Sta), Steps gl c n val Gp ∧ n ≤ 1000 ∧ (∀ i G' pl' ys, J i G' pl' ys → ys.length ≤ i) ∧ it = .ref ia ∧ σ₂ = wi ia (c 0) σ₃ ∧ Gp σ₃.G ∧ FMok Φ scope cl σ₃.m fm ∧ J 0 σ₃.G σ₃.pl [] ∧
      (∀ C h i v G' pl' ys, i < n → val i v → Gp G' → Le σ₃.G G' → J i G' pl' ys → Turn gl Φ scope cl target elt ifs fm J i v C h G' pl' ys) ∧
      (∀ G' pl' ys, Le σ₃.G G' → J n G' pl' ys → MkL { σ₃ with G := G', pl := pl' } ys P))
    (hclos : closureFor scope Φ.env = Pure.pure cl := by rfl) (hcell : ∀ y ∈ scope.names, y.2 ≠ .cell := by decide) (hkind : scope.kind = .function := by rfl)
    (hnames : ∀ y ∈ scope.names, y.2 = .local → scope.names.lookup y.1 = some .local := by decide)
    (hs : ∀ x, foldedSetIterable iter Φ.env x = Pure.pure x := by intro _; rfl) :
    TT gl Φ (eval (.ListComp elt [⟨target, iter, ifs, 0⟩] scope pos) Φ.env) σ P :=
  fun h g d tk os Q E S q => by
    rw [eval_ListComp]
    refine wpAny_comprehension_free (use := none) rfl hs hclos hkind hnames (x h g d tk os _ E S fun v σ₁ h₁ tk₁ S₁ y => y h₁ g d tk₁ os _ E S₁ fun it σ₂ h₂ tk₂ S₂ z => ?_)
    obtain ⟨c, n, val, Gp, J, ia, σ₃, W, hn, jlen, rfl, rfl, hG, hfm, J0, step, fin⟩ := z
    refine TT.compCore (RR := fun acc C => compPost (model gl.prog gl.w) Φ.A E none Q acc C) W hn fm J S₂ hG hfm hcell hkind J0 (fun C h i v G' pl' ys hi hv hG' hl hJ => step C h i v G' pl' ys hi hv hG' hl hJ) jlen ?_
    intro h' tk' D C m G' pl' ys hG' hl hJ S'
    have hC : h'.Ns C m := (S'.own _ (List.mem_cons_self ..)).1
    refine ⟨m, hC, fun h'' hs'' => ?_⟩
    have S'' := S'.forget hs''.extBut (not_cell_ns hC)
    obtain ⟨σ', S₅, p⟩ := MkL.run S'' (fin G' pl' ys hl hJ)
    exact q _ _ _ _ S₅ p

theorem TT.compA {elt target iter : Expr} {ifs : List Expr} {scope : Scope} {pos spos py : Pos} {y : Str} {P : Flow → Sta → Prop}
    (cl : List (Str × Addr)) (fm : List (Str × Value))
    (x : TT gl Φ (eval iter Φ.env) σ fun v σ₁ => TT gl Φ (pyIter v) σ₁ fun it σ₂ => ∃ (c : Nat → Cl) (n : Nat) (val : Nat → Value → Prop) (Gp : PM → Prop) (J : Nat → PM → List Pl → List Value → Prop) (ia : Addr) (σ₃ : Sta), Steps gl c n val Gp ∧ n ≤ 1000 ∧ (∀ i G' pl' ys, J i G' pl' ys → ys.length ≤ i) ∧ it = .ref ia ∧ σ₂ = wi ia (c 0) σ₃ ∧ Gp σ₃.G ∧ FMok Φ scope cl σ₃.m fm ∧ J 0 σ₃.G σ₃.pl [] ∧
      (∀ C h i v G' pl' ys, i < n → val i v → Gp G' → Le σ₃.G G' → J i G' pl' ys → Turn gl Φ scope cl target elt ifs fm J i v C h G' pl' ys) ∧
      (∀ G' pl' ys, Le σ₃.G G' → J n G' pl' ys → MkL { σ₃ with G := G', pl := pl' } ys fun v σ' => P .next { σ' with m := setL y v σ'.m }))
    (hsw : swapsWith (.ListComp elt [⟨target, iter, ifs, 0⟩] scope pos) (some (.Name y py)) spos.line Φ.env = Pure.pure true := by rfl)
    (hclos : closureFor scope Φ.env = Pure.pure cl := by rfl) (hcell : ∀ y ∈ scope.names, y.2 ≠ .cell := by decide) (hkind : scope.kind = .function := by rfl)
    (hnames : ∀ y ∈ scope.names, y.2 = .local → scope.names.lookup y.1 = some .local := by decide)
    (hy : Φ.env.kindOf y = some .local := by rfl) (hf : Φ.fr = true := by rfl)
    (hs : ∀ x, foldedSetIterable iter Φ.env x = Pure.pure x := by intro _; rfl) :
    TT gl Φ (exec (.Assign [.Name y py] (.ListComp elt [⟨target, iter, ifs, 0⟩] scope pos) spos) Φ.env) σ P :=
  fun h g d tk os Q E S q => by
    rw [exec_Assign_Name_used _ _ _ _ hsw]
    refine wpAny_bind (wpAny_standAt (wpAny_bind ?_))
    show wpAny _ Φ.A (do let _ ← comprehension (.ListComp elt [⟨target, iter, ifs, 0⟩] scope pos) scope Φ.env _ (newList []) false (eval iter Φ.env) (some (assign (.Name y py) Φ.env))) _ _ _
    refine wpAny_bind (wpAny_mono (wpAny_comprehension_free (use := some (assign (.Name y py) Φ.env)) (Q := fun _ s' => Q .next s') rfl hs hclos hkind hnames
      (x h g d tk os _ E S fun v σ₁ h₁ tk₁ S₁ y' => y' h₁ g d tk₁ os _ E S₁ fun it σ₂ h₂ tk₂ S₂ z => ?_)) (fun _ s' hq => wpAny_pure (wpAny_pure hq)) fun _ _ e => e)
    obtain ⟨c, n, val, Gp, J, ia, σ₃, W, hn, jlen, rfl, rfl, hG, hfm, J0, step, fin⟩ := z
    refine TT.compCore (RR := fun acc C => compPost (model gl.prog gl.w) Φ.A E (some (assign (.Name y py) Φ.env)) (fun _ s' => Q .next s') acc C) W hn fm J S₂ hG hfm hcell hkind J0
      (fun C h i v G' pl' ys hi hv hG' hl hJ => step C h i v G' pl' ys hi hv hG' hl hJ) jlen ?_
    intro h' tk' D C m G' pl' ys hG' hl hJ S'
    -- the list is given to the name first, then the block's names go
    have M := fin G' pl' ys hl hJ
    have S₆ : St gl Φ (wi D (.lst ys) (wi C (.ns m) { σ₃ with G := G', pl := pl' })) h' := S'.perm (List.Perm.swap _ _ _)
    have M' : MkL (wi C (.ns m) { σ₃ with G := G', pl := pl' }) ys fun v σ' => ∃ σ'' : Sta, σ'.own.Perm ((C, .ns m) :: σ''.own) ∧ σ' = { σ'' with own := σ'.own } ∧ P .next { σ'' with m := setL y v σ''.m } :=
      M.imp (fun M a G'' l e => ⟨{ σ₃ with G := G'', pl := pl' }, List.Perm.refl _, rfl, M a G'' l e⟩) fun M a l => ⟨{ σ₃ with G := G', pl := pl', own := (a, .lst ys) :: σ₃.own }, List.Perm.swap _ _ _, rfl, M a l⟩
    obtain ⟨σ', S₇, σ'', hp, he, p⟩ := MkL.run S₆ M'
    have S₈ : St gl Φ (wi C (.ns m) σ'') h' := by
      have := S₇.perm hp
      rw [he] at this
      exact this
    show wpAny _ _ (assign (.Name y py) Φ.env (.ref D)) _ _ _
    refine (TT.tgt (TT.st (P := fun _ σ₉ => σ₉ = wi C (.ns m) { σ'' with m := setL y (.ref D) σ''.m }) rfl hy hf)) h' g d tk' os _ _ S₈ fun _ σ₉ h₉ tk₉ S₉ e => ?_
    subst e
    have hC : h₉.Ns C m := (S₉.own _ (List.mem_cons_self ..)).1
    exact ⟨m, hC, fun h'' hs'' => q _ _ _ _ (S₉.forget hs''.extBut (not_cell_ns hC)) p⟩

end
end Mine

end
section
namespace Mine

noncomputable def stmtAt (i : Nat) : Stmt := (PySem.Challenge.pw_jz0002_01.main.body[i]?).getD (.Pass default)
noncomputable def scopeOf : Stmt → Scope
  | .FunctionDef _ _ _ _ _ _ sc _ _ _ => sc
  | _ => default
noncomputable def bodyOf : Stmt → List Stmt
  | .FunctionDef _ _ b _ _ _ _ _ _ _ => b
  | .ClassDef _ _ _ b _ _ _ _ _ _ _ => b
  | _ => []
noncomputable def paramsOf : Stmt → Arguments
  | .FunctionDef _ a _ _ _ _ _ _ _ _ => a
  | _ => default
noncomputable def methAt (i j : Nat) : Stmt := ((bodyOf (stmtAt i))[j]?).getD (.Pass default)

structure FnK (gl : Gl) (a : Addr) (qual : Str) (st : Stmt) : Prop where
  ex : ∃ name oc od osl doc pm cdv ct, gl.K.lookup a = some ⟨oc, od, .func (fnOf name qual (paramsOf st) (bodyOf st) (scopeOf st) .none .none doc pm none cdv ct), osl⟩ ∧ codeIn gl.K cdv qual = true
  keep : keepIn gl.K (.ref a) = true

noncomputable def fFx (env : Env) (A : Around) (n : Nat) (mu : Bool) (pl : List Pl) (G : PM) (h : Heap) : Fx :=
  { env := env, A := A, n := n, mu := mu, pl₀ := pl, G₀ := G, h₀ := h, fr := true, fc := true }

noncomputable abbrev retV : Flow → Value
  | .ret v => v
  | _ => .none

theorem Room.deeper {A : Around} {n : Nat} (h : Room A (n + 1)) (env : Env) : Room (A.deeper env) n := by
  obtain ⟨a, b, c⟩ := h
  refine ⟨a, ?_, ?_⟩
  · show A.depth + 1 + n < recursionLimit; omega
  · show A.units + 3 + 8 * n < cLine; omega

theorem CallP.plain {gl : Gl} (T : gl.Ok) {a : Addr} {qual : Str} {st : Stmt} (F : FnK gl a qual st) {n : Nat} {mu : Bool} {args : List Value} (names : List Str) (binds : List (Str × Value)) {G : PM} {pl : List Pl} {P : PM → List Pl → Value → Prop}
    (hbind : ∀ name doc pm cdv ct, bindArgs (fnOf name qual (paramsOf st) (bodyOf st) (scopeOf st) .none .none doc pm none cdv ct) ⟨args, []⟩ = Pure.pure binds)
    (body : ∀ L cdv A h, TT gl (fFx (envOf qual (scopeOf st) L a cdv) A n mu pl G h) (execs (bodyOf st) (fFx (envOf qual (scopeOf st) L a cdv) A n mu pl G h).env) ⟨G, binds.reverse, [], pl⟩ fun f σ' => P σ'.G σ'.pl (retV f))
    (hcell : ∀ x ∈ (scopeOf st).names, x.2 ≠ .cell := by decide) (hnames : binds.map (·.1) = names := by rfl) (hloc' : ∀ x ∈ names, (scopeOf st).names.lookup x = some .local := by decide)
    (hco : (scopeOf st).isCoroutine = false := by rfl) (hgen : (scopeOf st).isGenerator = false := by rfl) (hk : (scopeOf st).kind = .function := by rfl) :
    CallP gl (n + 1) mu (.ref a) args G pl P := by
  have hloc : ∀ x ∈ binds, (scopeOf st).names.lookup x.1 = some .local := fun x hx => hloc' _ (hnames ▸ List.mem_map_of_mem hx)
  intro A h g d tk os R hA hT hG hpl hR
  obtain ⟨name, oc, od, osl, doc, pm, cdv, ct, ho, hcd⟩ := F.ex
  have K : gl.K.In h := T.ki.keeps (Le.trans hT hG)
  refine codeAny_call_plain (by have := hA.2.1; omega) (K _ _ ho) rfl (T.nolimit.keeps (Le.trans hT hG)) (codeRec_of K hcd) rfl (hbind name doc pm cdv ct) hcell hloc (fun h₁ hns hk₁ => ?_) hco hgen hk
  show wpAny _ (A.deeper (envOf qual (scopeOf st) h.objs.size a cdv)) (execs (bodyOf st) (envOf qual (scopeOf st) h.objs.size a cdv)) _ _ _
  have S : St gl (fFx (envOf qual (scopeOf st) h.objs.size a cdv) (A.deeper (envOf qual (scopeOf st) h.objs.size a cdv)) n mu pl G h) ⟨G, binds.reverse, [], pl⟩ h₁ := by
    refine ⟨hG.trans hk₁, hT, hA.deeper _, fun _ _ _ => rfl, Le.rfl, fun b o e => ⟨o, hk₁ _ _ e⟩, fun b o _ e => hk₁ _ _ e, hk, ⟨_, hns, fun x v e _ => e⟩, fun x v e n => ?_, fun _ => ⟨fresh_size h, ?_⟩, fun _ => ⟨fun c hc => (by cases hc), List.Pairwise.nil⟩,
      fun e he => (by cases he), List.nodup_nil, ⟨fun p hp => ?_, hpl.nd, hpl.np⟩, fun p hp q => ?_, fun p hp => .inl ⟨p, hp, rfl⟩, fun e he => (by cases he)⟩
    · exact absurd (hloc _ (List.mem_reverse.mp (mem_of_lookup e))) n
    · cases q : G h.objs.size with
      | none => exact q
      | some o => have := hG _ _ q; rw [fresh_size] at this; cases this
    · obtain ⟨b1, b2, ⟨es, k, b3, b4⟩⟩ := hpl.each p hp
      exact ⟨b1, b2, ⟨es, k, hk₁ _ _ b3, b4⟩⟩
    · obtain ⟨es, k, b3, _⟩ := (hpl.each p hp).2.2
      have q : p.da = h.objs.size := q
      rw [q, fresh_size] at b3; cases b3
  refine body h.objs.size cdv _ h h₁ g d _ os _ _ S fun f σ' h' tk' S' p => ?_
  have X : Ext gl mu G h pl σ'.G h' σ'.pl := ⟨S'.keep, S'.live, S'.sub, S'.le0, S'.old, S'.pl, S'.pln⟩
  cases f with
  | ret v => exact hR _ _ _ _ _ X p
  | next => exact hR _ _ _ _ _ X p
  | brk => exact hR _ _ _ _ _ X p
  | cont => exact hR _ _ _ _ _ X p

theorem bindL_look {k : Str → Option NameKind} {x : Str} (hx : k x = some .local) : ∀ (binds : List (Str × Value)) (m : Str → Option Value), bindL k binds m x = (binds.reverse.lookup x).or (m x)
  | [], m => by simp [bindL]
  | (n, v) :: r, m => by
    unfold bindL
    rw [bindL_look hx r, List.reverse_cons, List.lookup_append]
    by_cases h : x = n
    · subst h; rw [if_pos hx]; simp [List.lookup_cons]
    · have : (x == n) = false := beq_eq_false_iff_ne.mpr h
      split <;> simp [List.lookup_cons, this, h]
theorem bindC_look {k : Str → Option NameKind} {x : Str} (hx : k x ≠ some .local) : ∀ (binds : List (Str × Value)) (m : Str → Option Value), bindC k binds m x = (binds.reverse.lookup x).or (m x)
  | [], m => by simp [bindC]
  | (n, v) :: r, m => by
    unfold bindC
    rw [bindC_look hx r, List.reverse_cons, List.lookup_append]
    by_cases h : x = n
    · subst h; rw [if_neg hx]; simp [List.lookup_cons]
    · have : (x == n) = false := beq_eq_false_iff_ne.mpr h
      split <;> simp [List.lookup_cons, this, h]

theorem cellsFrom_names : ∀ (names : List (Str × NameKind)) (n m : Nat) (acc acc' : List (Str × Addr)), acc.map (·.1) = acc'.map (·.1) → (cellsFrom n names acc).map (·.1) = (cellsFrom m names acc').map (·.1)
  | [], _, _, _, _, h => h
  | (x, k) :: r, n, m, acc, acc', h => by
    unfold cellsFrom
    split
    · exact cellsFrom_names r _ _ _ _ (by simp [h])
    · exact cellsFrom_names r _ _ _ _ h
theorem isSome_lookup {β : Type} {x : Str} : ∀ {l : List (Str × β)}, (l.lookup x).isSome = (l.map (·.1)).contains x
  | [] => rfl
  | (y, v) :: r => by
    rw [List.lookup_cons, List.map_cons, List.contains_cons]
    cases h : x == y with
    | true => rfl
    | false => simpa [h] using isSome_lookup (l := r)
theorem lookup_nodup {β : Type} : ∀ {l : List (Str × β)}, (l.map (·.1)).Nodup → ∀ c ∈ l, l.lookup c.1 = some c.2
  | [], _, _, hc => by cases hc
  | (y, v) :: r, hd, c, hc => by
    rw [List.map_cons, List.nodup_cons] at hd
    rw [List.lookup_cons]
    rcases List.mem_cons.mp hc with rfl | hc
    · simp
    · have : (c.1 == y) = false := beq_eq_false_iff_ne.mpr fun e => hd.1 (e ▸ List.mem_map.mpr ⟨c, hc, rfl⟩)
      rw [this]
      exact lookup_nodup hd.2 c hc

theorem CallP.cells {gl : Gl} (T : gl.Ok) {a : Addr} {qual : Str} {st : Stmt} (F : FnK gl a qual st) {n : Nat} {mu : Bool} {args : List Value} (names : List Str) (binds : List (Str × Value)) {G : PM} {pl : List Pl} {P : PM → List Pl → Value → Prop}
    (hbind : ∀ name doc pm cdv ct, bindArgs (fnOf name qual (paramsOf st) (bodyOf st) (scopeOf st) .none .none doc pm none cdv ct) ⟨args, []⟩ = Pure.pure binds)
    (body : ∀ L cdv A h, TT gl (fFx (envOfC qual (scopeOf st) L a cdv) A n mu pl G h) (execs (bodyOf st) (fFx (envOfC qual (scopeOf st) L a cdv) A n mu pl G h).env) ⟨G, binds.reverse, [], pl⟩ fun f σ' => P σ'.G σ'.pl (retV f))
    (hnames : binds.map (·.1) = names := by rfl)
    (hkind'' : ∀ x ∈ names, (scopeOf st).names.lookup x = some .local ∨ ((scopeOf st).names.lookup x = some .cell ∧ ((cellsFrom 0 (scopeOf st).names []).map (·.1)).contains x = true) := by decide)
    (hcd3 : ((cellsFrom 0 (scopeOf st).names []).map (·.1)).Nodup := by decide)
    (hco : (scopeOf st).isCoroutine = false := by rfl) (hgen : (scopeOf st).isGenerator = false := by rfl) (hk : (scopeOf st).kind = .function := by rfl) :
    CallP gl (n + 1) mu (.ref a) args G pl P := by
  have hcd2 : ∀ n c, c ∈ cellsFrom n (scopeOf st).names [] → ((cellsFrom n (scopeOf st).names []).lookup c.1) = some c.2 := fun n => lookup_nodup (cellsFrom_names _ n 0 [] [] rfl ▸ hcd3)
  have hkind' : ∀ n, ∀ x ∈ names, (scopeOf st).names.lookup x = some .local ∨ ((scopeOf st).names.lookup x = some .cell ∧ ((cellsFrom n (scopeOf st).names []).lookup x).isSome = true) := fun n x hx => by
    rw [isSome_lookup, cellsFrom_names _ n 0 [] [] rfl]; exact hkind'' x hx
  have hkind : ∀ n, ∀ x ∈ binds, (scopeOf st).names.lookup x.1 = some .local ∨ ((scopeOf st).names.lookup x.1 = some .cell ∧ ((cellsFrom n (scopeOf st).names []).lookup x.1).isSome = true) := fun n x hx => hkind' n _ (hnames ▸ List.mem_map_of_mem hx)
  intro A h g d tk os R hA hT hG hpl hR
  obtain ⟨name, oc, od, osl, doc, pm, cdv, ct, ho, hcd⟩ := F.ex
  have K : gl.K.In h := T.ki.keeps (Le.trans hT hG)
  refine codeAny_call_cells (by have := hA.2.1; omega) (K _ _ ho) rfl (T.nolimit.keeps (Le.trans hT hG)) (codeRec_of K hcd) rfl (hbind name doc pm cdv ct) rfl (hkind _) (fun s₁ X => ?_) hco hgen hk
  obtain ⟨h₁, tk₁, rfl⟩ := X.toInCall.same
  have hk₁ : Le h.get? h₁.get? := X.toInCall.keep
  have above : ∀ c, h.objs.size ≤ c → h.get? c = none := fun c hc => by
    cases q : h.get? c with
    | none => rfl
    | some o => exact absurd (Heap.lt_size q) (Nat.not_lt.mpr hc)
  have aboveG : ∀ c, h.objs.size ≤ c → G c = none := fun c hc => by
    cases q : G c with
    | none => rfl
    | some o => have := hG _ _ q; rw [above c hc] at this; cases this
  show wpAny _ (A.deeper (envOfC qual (scopeOf st) h.objs.size a cdv)) (execs (bodyOf st) (envOfC qual (scopeOf st) h.objs.size a cdv)) _ _ _
  have S : St gl (fFx (envOfC qual (scopeOf st) h.objs.size a cdv) (A.deeper (envOfC qual (scopeOf st) h.objs.size a cdv)) n mu pl G h) ⟨G, binds.reverse, [], pl⟩ h₁ := by
    refine ⟨hG.trans hk₁, hT, hA.deeper _, fun _ _ _ => rfl, Le.rfl, fun b o e => ⟨o, hk₁ _ _ e⟩, fun b o _ e => hk₁ _ _ e, hk, ⟨_, X.toInCall.ns, fun x v e q => ?_⟩, fun x v e n => ?_, fun _ => ⟨fresh_size h, aboveG _ (Nat.le_refl _)⟩,
      fun _ => ⟨fun c hc => ?_, X.apart⟩, fun e he => (by cases he), List.nodup_nil, ⟨fun p hp => ?_, hpl.nd, hpl.np⟩, fun p hp q => ?_, fun p hp => .inl ⟨p, hp, rfl⟩, fun e he => (by cases he)⟩
    · rw [bindL_look (by exact q)]
      have e : binds.reverse.lookup x = some v := e
      rw [e]; rfl
    · have e : binds.reverse.lookup x = some v := e
      rcases hkind (h.objs.size + 1) _ (List.mem_reverse.mp (mem_of_lookup e)) with q | ⟨q, q2⟩
      · exact absurd q n
      · obtain ⟨c, hc⟩ := Option.isSome_iff_exists.mp q2
        refine ⟨c, hc, ?_⟩
        have := X.cell x c hc
        rw [bindC_look (by exact n), e] at this
        exact this
    · have hl := hcd2 _ c hc
      have ha := Nat.le_of_lt (X.above c.1 c.2 hc)
      exact ⟨above _ ha, aboveG _ ha, _, X.cell c.1 c.2 hl⟩
    · obtain ⟨b1, b2, ⟨es, k, b3, b4⟩⟩ := hpl.each p hp
      exact ⟨b1, b2, ⟨es, k, hk₁ _ _ b3, b4⟩⟩
    · obtain ⟨es, k, b3, _⟩ := (hpl.each p hp).2.2
      have q : p.da = h.objs.size := q
      rw [q, fresh_size] at b3; cases b3
  refine body h.objs.size cdv _ h h₁ g d _ os _ _ S fun f σ' h' tk' S' p => ?_
  have X : Ext gl mu G h pl σ'.G h' σ'.pl := ⟨S'.keep, S'.live, S'.sub, S'.le0, S'.old, S'.pl, S'.pln⟩
  cases f with
  | ret v => exact hR _ _ _ _ _ X p
  | next => exact hR _ _ _ _ _ X p
  | brk => exact hR _ _ _ _ _ X p
  | cont => exact hR _ _ _ _ _ X p

end Mine

end
section
namespace Mine

/-! what values stand for -/
noncomputable abbrev RP (α : Type) := PM → α → Value → Prop
noncomputable def Mono {α : Type} (R : RP α) : Prop := ∀ G G' x v, Le G G' → R G x v → R G' x v

inductive Rs {α : Type} (R : α → Value → Prop) : List α → List Value → Prop
  | nil : Rs R [] []
  | cons {x v xs vs} (h : R x v) (t : Rs R xs vs) : Rs R (x :: xs) (v :: vs)

noncomputable def RI : RP Int := fun _ i v => ∃ t, v = .int i t
noncomputable def RN : RP Nat := fun _ k v => ∃ t, v = .int (k : Nat) t
noncomputable def RS : RP Str := fun _ s v => ∃ t, v = .str s t
noncomputable def RL {α : Type} (R : RP α) : RP (List α) := fun G xs v => ∃ a vs, v = .ref a ∧ IsLst G a vs ∧ Rs (R G) xs vs
noncomputable def RT2 {α β : Type} (R : RP α) (R' : RP β) : RP (α × β) := fun G p v => ∃ a x y, v = .ref a ∧ IsTpl G a [x, y] ∧ R G p.1 x ∧ R' G p.2 y
noncomputable def RPl (n : Nat) (pas : Nat → Addr) : RP Nat := fun _ i v => i < n ∧ v = .ref (pas i)

theorem Rs.length {α : Type} {R : α → Value → Prop} {xs vs} (h : Rs R xs vs) : vs.length = xs.length := by
  induction h with
  | nil => rfl
  | cons _ _ ih => simp [ih]
theorem Rs.get {α : Type} {R : α → Value → Prop} {xs vs} (h : Rs R xs vs) : ∀ {i : Nat} {x}, xs[i]? = some x → ∃ v, vs[i]? = some v ∧ R x v := by
  induction h with
  | nil => intro i x e; simp at e
  | cons hd _ ih =>
    intro i x e
    cases i with
    | zero => simp at e; subst e; exact ⟨_, rfl, hd⟩
    | succ i => simp at e; simpa using ih e
theorem Rs.get' {α : Type} {R : α → Value → Prop} {xs vs} (h : Rs R xs vs) : ∀ {i : Nat} {v}, vs[i]? = some v → ∃ x, xs[i]? = some x ∧ R x v := by
  induction h with
  | nil => intro i x e; simp at e
  | cons hd _ ih =>
    intro i x e
    cases i with
    | zero => simp at e; subst e; exact ⟨_, rfl, hd⟩
    | succ i => simp at e; simpa using ih e
theorem Rs.mem {α : Type} {R : α → Value → Prop} {xs vs} (h : Rs R xs vs) {v} (hv : v ∈ vs) : ∃ x ∈ xs, R x v := by
  obtain ⟨i, e⟩ := List.getElem?_of_mem hv
  obtain ⟨x, e', r⟩ := h.get' e
  exact ⟨x, List.mem_of_getElem? e', r⟩
theorem Rs.append {α : Type} {R : α → Value → Prop} {xs vs ys ws} (h : Rs R xs vs) (h' : Rs R ys ws) : Rs R (xs ++ ys) (vs ++ ws) := by
  induction h with
  | nil => exact h'
  | cons hd _ ih => exact .cons hd ih
theorem Rs.one {α : Type} {R : α → Value → Prop} {x v} (h : R x v) : Rs R [x] [v] := .cons h .nil
theorem Rs.imp {α : Type} {R R' : α → Value → Prop} {xs vs} (h : Rs R xs vs) (k : ∀ x v, x ∈ xs → R x v → R' x v) : Rs R' xs vs := by
  induction h with
  | nil => exact .nil
  | cons hd _ ih => exact .cons (k _ _ (List.mem_cons_self ..) hd) (ih fun x v hx => k x v (List.mem_cons_of_mem _ hx))
theorem Rs.mono {α : Type} {R : RP α} (m : Mono R) {G G' : PM} (l : Le G G') {xs vs} (h : Rs (R G) xs vs) : Rs (R G') xs vs := h.imp fun x v _ => m _ _ _ _ l
theorem Rs.drop {α : Type} {R : α → Value → Prop} : ∀ {xs vs} (n : Nat), Rs R xs vs → Rs R (xs.drop n) (vs.drop n)
  | _, _, 0, h => by simpa using h
  | _, _, n + 1, .nil => by simpa using Rs.nil
  | _, _, n + 1, .cons _ t => by simpa using t.drop n
theorem Rs.take {α : Type} {R : α → Value → Prop} : ∀ {xs vs} (n : Nat), Rs R xs vs → Rs R (xs.take n) (vs.take n)
  | _, _, 0, h => by simpa using Rs.nil
  | _, _, n + 1, .nil => by simpa using Rs.nil
  | _, _, n + 1, .cons h t => by simpa using Rs.cons h (t.take n)
theorem Rs.set {α : Type} {R : α → Value → Prop} {x v} (hx : R x v) : ∀ {xs vs} (n : Nat), Rs R xs vs → Rs R (xs.set n x) (vs.set n v)
  | _, _, _, .nil => by simpa using Rs.nil
  | _, _, 0, .cons _ t => by simpa using Rs.cons hx t
  | _, _, n + 1, .cons h t => by simpa using Rs.cons h (t.set hx n)
theorem Rs.map {α β : Type} {R : α → Value → Prop} {R' : β → Value → Prop} {f : α → β} {xs vs} (h : Rs R xs vs) (k : ∀ x v, x ∈ xs → R x v → R' (f x) v) : Rs R' (xs.map f) vs := by
  induction h with
  | nil => exact .nil
  | cons hd _ ih => exact .cons (k _ _ (List.mem_cons_self ..) hd) (ih fun x v hx => k x v (List.mem_cons_of_mem _ hx))

theorem fm_filter {α : Type} (p : α → Bool) : ∀ xs : List α, xs.filterMap (fun x => if p x = true then some x else none) = xs.filter p
  | [] => rfl
  | x :: r => by
    rw [List.filterMap_cons, List.filter_cons, fm_filter p r]
    cases p x <;> rfl
theorem fm_filter_map {α β : Type} (p : α → Bool) (f : α → β) : ∀ xs : List α, xs.filterMap (fun x => if p x = true then some (f x) else none) = (xs.filter p).map f
  | [] => rfl
  | x :: r => by
    rw [List.filterMap_cons, List.filter_cons, fm_filter_map p f r]
    cases p x <;> rfl
theorem fm_map {α β : Type} (f : α → β) (xs : List α) : xs.filterMap (fun x => some (f x)) = xs.map f := by rw [← List.filterMap_eq_map]; rfl
theorem ite_isSome {α : Type} (b : Bool) (x : α) : (if b = true then some x else none).isSome = b := by cases b <;> rfl
theorem ite_some {α : Type} {b : Bool} {x y : α} (h : (if b = true then some x else none) = some y) : b = true ∧ x = y := by cases b <;> simp_all
theorem RI.mono : Mono RI := fun _ _ _ _ _ h => h
theorem RN.mono : Mono RN := fun _ _ _ _ _ h => h
theorem RS.mono : Mono RS := fun _ _ _ _ _ h => h
theorem RPl.mono {n pas} : Mono (RPl n pas) := fun _ _ _ _ _ h => h
theorem RL.mono {α : Type} {R : RP α} (m : Mono R) : Mono (RL R) := fun G G' xs v l ⟨a, vs, e, hl, h⟩ => ⟨a, vs, e, hl.mono l, h.mono m l⟩
theorem RT2.mono {α β : Type} {R : RP α} {R' : RP β} (m : Mono R) (m' : Mono R') : Mono (RT2 R R') := fun G G' xs v l ⟨a, x, y, e, hl, h, h'⟩ => ⟨a, x, y, e, hl.mono l, m _ _ _ _ l h, m' _ _ _ _ l h'⟩

/-- a value that a loop runs over -/
noncomputable def Itb {α : Type} (R : RP α) : RP (List α) := fun G xs v => (∃ a vs, v = .ref a ∧ IsLst G a vs ∧ Rs (R G) xs vs) ∨ (∃ a, v = .ref a ∧ IsRng G a (xs.length : Nat) ∧ ∀ i x t, xs[i]? = some x → R G x (.int (i : Nat) t))
theorem RL.itb {α : Type} {R : RP α} {G xs v} (h : RL R G xs v) : Itb R G xs v := .inl h
theorem IsRng.itb {G : PM} {a : Addr} {n : Nat} (h : IsRng G a n) : Itb RN G (List.range n) (.ref a) :=
  .inr ⟨a, rfl, by rw [List.length_range]; exact h, fun i x t e => ⟨t, by
    obtain ⟨hl, e⟩ := List.getElem?_eq_some_iff.mp e
    rw [List.getElem_range] at e; rw [e]⟩⟩

section
variable {gl : Gl} {Φ : Fx} {σ : Sta}

theorem TT.iterX {α : Type} {R : RP α} {xs : List α} {v : Value} (hI : Itb R σ.G xs v) (hz : xs.length ≤ 1000) {P : Value → Sta → Prop}
    (p : ∀ (c : Nat → Cl) (val : Nat → Value → Prop) (Gp : PM → Prop) (ia : Addr), Steps gl c xs.length val Gp → Gp σ.G → (∀ i w, val i w → i < xs.length → ∃ x, xs[i]? = some x ∧ R σ.G x w) → P (.ref ia) (wi ia (c 0) σ)) : TT gl Φ (pyIter v) σ P := by
  rcases hI with ⟨a, vs, rfl, L, h⟩ | ⟨a, rfl, L, h⟩
  · refine .iterL (.inl L) fun it => p _ _ _ it (h.length ▸ Steps.list a vs) L fun i w e _ => h.get' e
  · refine .iterR L (by omega) fun it => ?_
    have := p (fun i => .riter (0 + (i : Nat)) ((xs.length : Nat) - (i : Nat)) 1) _ _ it (Steps.range 0 xs.length) trivial fun i w ⟨t, e⟩ hi => ?_
    · simpa using this
    · refine ⟨xs[i], List.getElem?_eq_getElem hi, ?_⟩
      have := h i _ t (List.getElem?_eq_getElem hi)
      rw [e]; simpa using this

/-- fewer names at the end -/
inductive KWk {α : Type} (P : α → Sta → Prop) (a : α) (σ' : Sta) : Prop
  | mk (m' : List (Str × Value)) (s : SubM m' σ'.m) (p : P a { σ' with m := m' }) : KWk P a σ'
theorem TT.weak {α : Type} {t : Sem α} {P : α → Sta → Prop} (x : TT gl Φ t σ (KWk P)) : TT gl Φ t σ P :=
  fun h g d tk os Q E S q => x h g d tk os Q E S fun a σ' h' tk' S' ⟨m', s, p⟩ => q _ _ _ _ (S'.weaken s.lookup) p
/-- fewer names from here on -/
theorem TT.few {α : Type} {t : Sem α} {P : α → Sta → Prop} (m' : List (Str × Value)) (s : SubM m' σ.m) (x : TT gl Φ t { σ with m := m' } P) : TT gl Φ t σ P :=
  fun h g d tk os Q E S q => x h g d tk os Q E (S.weaken s.lookup) q
/-- an owned list is frozen -/
theorem TT.frz {α : Type} {t : Sem α} {P : α → Sta → Prop} {i : Nat} {a : Addr} {vs : List Value} (hi : σ.own[i]? = some (a, .lst vs))
    (x : ∀ G', Le σ.G G' → IsLst G' a vs → TT gl Φ t { σ with G := G', own := σ.own.eraseIdx i } P) : TT gl Φ t σ P :=
  fun h g d tk os Q E S q => by
    obtain ⟨⟨n, e⟩, _, hG, _⟩ := S.own _ (mem_of_get hi)
    have hG : σ.G a = none := hG
    have e : h.get? a = some (LstO vs n) := e
    exact x _ (le_addG hG) ⟨n, by simp [addG]⟩ h g d tk os Q E (S.freeze hi e) q
/-- after t: an owned list is frozen -/
theorem TT.frzP {α : Type} {t : Sem α} {P : α → Sta → Prop} (x : TT gl Φ t σ fun r σ' => ∃ i a vs, σ'.own[i]? = some (a, .lst vs) ∧ ∀ G', Le σ'.G G' → IsLst G' a vs → P r { σ' with G := G', own := σ'.own.eraseIdx i }) : TT gl Φ t σ P :=
  fun h g d tk os Q E S q => x h g d tk os Q E S fun r σ' h' tk' S' ⟨i, a, vs, hi, k⟩ => by
    obtain ⟨⟨n, e⟩, _, hG, _⟩ := S'.own _ (mem_of_get hi)
    have hG : σ'.G a = none := hG
    have e : h'.get? a = some (LstO vs n) := e
    exact q _ _ _ _ (S'.freeze hi e) (k _ (le_addG hG) ⟨n, by simp [addG]⟩)
theorem TT.drop {α : Type} {t : Sem α} {P : α → Sta → Prop} (i : Nat) (x : TT gl Φ t { σ with own := σ.own.eraseIdx i } P) : TT gl Φ t σ P :=
  fun h g d tk os Q E S q => x h g d tk os Q E (S.dropOwn i) q
theorem TT.dropP {α : Type} {t : Sem α} {P : α → Sta → Prop} (x : TT gl Φ t σ fun r σ' => ∃ i, P r { σ' with own := σ'.own.eraseIdx i }) : TT gl Φ t σ P :=
  fun h g d tk os Q E S q => x h g d tk os Q E S fun r σ' h' tk' S' ⟨i, k⟩ => q _ _ _ _ (S'.dropOwn i) k

inductive KFor {α : Type} (gl : Gl) (Φ : Fx) (R : RP α) (target : Expr) (body : List Stmt) (P : Flow → Sta → Prop) (v : Value) (σ₁ : Sta) : Prop
  | mk (xs : List α) (I : Nat → Sta → Prop) (a : Itb R σ₁.G xs v) (b : xs.length ≤ 1000) (c : I 0 σ₁)
    (d : ∀ P' : Addr → Cl → Nat → Sta → Flow → Sta → Prop, (∀ ia c i σ' f σb, (match f with
        | .next | .cont => ∃ σc, σb = wi ia c σc ∧ Le σ'.G σc.G ∧ I (i + 1) σc
        | .brk => P .next σb
        | .ret v => P (.ret v) σb) → P' ia c i σ' f σb) →
        ∀ ia c i x w σ', xs[i]? = some x → R σ'.G x w → Le σ₁.G σ'.G → I i σ' → TT gl Φ (assign target Φ.env w) (wi ia c σ') fun _ σa => TT gl Φ (execs body Φ.env) σa (P' ia c i σ'))
    (e : ∀ σ', Le σ₁.G σ'.G → I xs.length σ' → P .next σ') : KFor gl Φ R target body P v σ₁
theorem TT.forZ {α : Type} {R : RP α} {target iter : Expr} {body : List Stmt} {pos : Pos} {P : Flow → Sta → Prop} (hR : Mono R)
    (x : TT gl Φ (eval iter Φ.env) σ (KFor gl Φ R target body P))
    (hs : ∀ x, foldedSetIterable iter Φ.env x = Pure.pure x := by intro _; rfl) :
    TT gl Φ (exec (.For target iter body [] pos) Φ.env) σ P := by
  refine .for (x.mono ?_) hs
  rintro v σ₁ ⟨xs, I, hI, hz, h0, step, fin⟩
  refine .iterX hI hz fun c val Gp ia W hG hv => ?_
  refine ⟨c, xs.length, val, Gp, fun i σ' => Le σ₁.G σ'.G ∧ I i σ', ia, σ₁, W, rfl, rfl, hG, ⟨Le.rfl, h0⟩, ?_, fun σ' _ ⟨l, h⟩ => fin σ' l h⟩
  rintro ia i w σ' hi hw hG' ⟨l, hI'⟩
  obtain ⟨x, ex, rx⟩ := hv i w hw hi
  refine (step (fun ia c i σ' f σb => match f with
        | .next | .cont => ∃ σc, σb = wi ia c σc ∧ Le σ'.G σc.G ∧ I (i + 1) σc
        | .brk => P .next σb
        | .ret v => P (.ret v) σb) (fun _ _ _ _ _ _ h => h) ia (c (i + 1)) i x w σ' ex (hR _ _ _ _ l rx) l hI').mono fun _ σa y => y.mono fun f σb z => ?_
  cases f with
  | next => obtain ⟨σc, a, b, c⟩ := z; exact ⟨σc, a, W.mono _ _ b hG', l.trans b, c⟩
  | cont => obtain ⟨σc, a, b, c⟩ := z; exact ⟨σc, a, W.mono _ _ b hG', l.trans b, c⟩
  | brk => exact z
  | ret v => exact z

/-- a comprehension whose turns leave the players as they are, kept frozen -/
noncomputable def CT {α β : Type} (gl : Gl) (Φ : Fx) (R : RP α) (R' : RP β) (scope : Scope) (cl : List (Str × Addr)) (target elt : Expr) (ifs : List Expr) (fm : List (Str × Value)) (pl : List Pl) (G : PM) (xs : List α) (f : α → Option β) : Prop :=
  ∀ C h x w G', x ∈ xs → R G' x w → Le G G' → TT gl (cFx Φ scope cl C G' h pl) (assign target (cFx Φ scope cl C G' h pl).env w) ⟨G', fm, [], pl⟩ fun _ σa =>
    TT gl (cFx Φ scope cl C G' h pl) (Tst ifs (cFx Φ scope cl C G' h pl).env) σa fun ok σb => ok = (f x).isSome ∧ (f x = none → σb.pl = pl ∧ Le G' σb.G) ∧ ∀ y, f x = some y →
      TT gl (cFx Φ scope cl C G' h pl) (eval elt (cFx Φ scope cl C G' h pl).env) σb fun u σc => R' σc.G y u ∧ σc.pl = pl ∧ Le G' σc.G

theorem CT.turns {α β : Type} {R : RP α} {R' : RP β} {scope : Scope} {cl : List (Str × Addr)} {target elt : Expr} {ifs : List Expr} {fm : List (Str × Value)} {pl : List Pl} {G : PM} {xs : List α} {f : α → Option β} (hR : Mono R) (hR' : Mono R')
    (T : CT gl Φ R R' scope cl target elt ifs fm pl G xs f) {val : Nat → Value → Prop} (hv : ∀ i w, val i w → i < xs.length → ∃ x, xs[i]? = some x ∧ R G x w) :
    ∀ C h i v G' pl' ys, i < xs.length → val i v → Le G G' → (pl' = pl ∧ Le G G' ∧ Rs (R' G') ((xs.take i).filterMap f) ys) →
      Turn gl Φ scope cl target elt ifs fm (fun i G' pl' ys => pl' = pl ∧ Le G G' ∧ Rs (R' G') ((xs.take i).filterMap f) ys) i v C h G' pl' ys := by
  rintro C h i v G' pl' ys hi hw l ⟨rfl, l', hys⟩
  obtain ⟨x, ex, rx⟩ := hv i v hw hi
  have hx : (xs.take (i + 1)).filterMap f = (xs.take i).filterMap f ++ (f x).toList := by
    rw [List.take_add_one, ex, List.filterMap_append]
    cases q : f x <;> simp [q]
  refine (T C h x v G' (List.mem_of_getElem? ex) (hR _ _ _ _ l rx) l).mono fun _ σa y => y.mono fun ok σb z => ?_
  obtain ⟨rfl, z1, z2⟩ := z
  cases q : f x with
  | none =>
    obtain ⟨a, b⟩ := z1 q
    simp only [Option.isSome_none, Bool.false_eq_true, if_false]
    refine ⟨a, l.trans b, ?_⟩
    rw [hx, q]; simpa using hys.mono hR' b
  | some y =>
    simp only [Option.isSome_some, if_true]
    refine (z2 y q).mono fun u σc w => ?_
    obtain ⟨a, b, c⟩ := w
    refine ⟨b, l.trans c, ?_⟩
    rw [hx, q]; exact (hys.mono hR' c).append (.one a)

inductive KCmp {α β : Type} (gl : Gl) (Φ : Fx) (R : RP α) (R' : RP β) (scope : Scope) (cl : List (Str × Addr)) (target elt : Expr) (ifs : List Expr) (fm : List (Str × Value)) (P : Value → Sta → Prop) (v : Value) (σ₁ : Sta) : Prop
  | mk (xs : List α) (f : α → Option β) (a : Itb R σ₁.G xs v) (b : xs.length ≤ 1000) (c : FMok Φ scope cl σ₁.m fm) (d : CT gl Φ R R' scope cl target elt ifs fm σ₁.pl σ₁.G xs f)
    (e : ∀ v G', Le σ₁.G G' → RL R' G' (xs.filterMap f) v → P v { σ₁ with G := G' }) : KCmp gl Φ R R' scope cl target elt ifs fm P v σ₁
inductive KCmpY {α β : Type} (gl : Gl) (Φ : Fx) (R : RP α) (R' : RP β) (scope : Scope) (cl : List (Str × Addr)) (target elt : Expr) (ifs : List Expr) (fm : List (Str × Value)) (y : Str) (P : Flow → Sta → Prop) (v : Value) (σ₁ : Sta) : Prop
  | mk (xs : List α) (f : α → Option β) (a : Itb R σ₁.G xs v) (b : xs.length ≤ 1000) (c : FMok Φ scope cl σ₁.m fm) (d : CT gl Φ R R' scope cl target elt ifs fm σ₁.pl σ₁.G xs f)
    (e : ∀ v G', Le σ₁.G G' → RL R' G' (xs.filterMap f) v → P .next { σ₁ with G := G', m := setL y v σ₁.m }) : KCmpY gl Φ R R' scope cl target elt ifs fm y P v σ₁
theorem TT.compX {α β : Type} {R : RP α} {R' : RP β} {elt target iter : Expr} {ifs : List Expr} {scope : Scope} {pos : Pos} {P : Value → Sta → Prop} (hR : Mono R) (hR' : Mono R') (cl : List (Str × Addr)) (fm : List (Str × Value))
    (x : TT gl Φ (eval iter Φ.env) σ (KCmp gl Φ R R' scope cl target elt ifs fm P))
    (hclos : closureFor scope Φ.env = Pure.pure cl := by rfl) (hcell : ∀ y ∈ scope.names, y.2 ≠ .cell := by decide) (hkind : scope.kind = .function := by rfl)
    (hnames : ∀ y ∈ scope.names, y.2 = .local → scope.names.lookup y.1 = some .local := by decide)
    (hs : ∀ x, foldedSetIterable iter Φ.env x = Pure.pure x := by intro _; rfl) :
    TT gl Φ (eval (.ListComp elt [⟨target, iter, ifs, 0⟩] scope pos) Φ.env) σ P := by
  refine .comp cl fm (x.mono ?_) hclos hcell hkind hnames hs
  rintro v σ₁ ⟨xs, f, hI, hz, hfm, T, fin⟩
  refine .iterX hI hz fun c val Gp ia W hG hv => ?_
  refine ⟨c, xs.length, val, Gp, fun i G' pl' ys => pl' = σ₁.pl ∧ Le σ₁.G G' ∧ Rs (R' G') ((xs.take i).filterMap f) ys, ia, σ₁, W, hz, ?_, rfl, rfl, hG, hfm, ⟨rfl, Le.rfl, ?_⟩, ?_, ?_⟩
  · rintro i G' pl' ys ⟨_, _, h⟩
    rw [h.length]
    exact Nat.le_trans (List.length_filterMap_le ..) (by rw [List.length_take]; omega)
  · simpa using Rs.nil
  · exact fun C h i v G' pl' ys hi hw _ l hJ => T.turns hR hR' hv C h i v G' pl' ys hi hw l hJ
  · rintro G' pl' ys l ⟨rfl, _, h⟩
    rw [List.take_length] at h
    exact .inl fun a G'' l' L => fin _ _ (l.trans l') ⟨a, ys, rfl, L, h.mono hR' l'⟩

theorem TT.compY {α β : Type} {R : RP α} {R' : RP β} {elt target iter : Expr} {ifs : List Expr} {scope : Scope} {pos spos py : Pos} {y : Str} {P : Flow → Sta → Prop} (hR : Mono R) (hR' : Mono R') (cl : List (Str × Addr)) (fm : List (Str × Value))
    (x : TT gl Φ (eval iter Φ.env) σ (KCmpY gl Φ R R' scope cl target elt ifs fm y P))
    (hsw : swapsWith (.ListComp elt [⟨target, iter, ifs, 0⟩] scope pos) (some (.Name y py)) spos.line Φ.env = Pure.pure true := by rfl)
    (hclos : closureFor scope Φ.env = Pure.pure cl := by rfl) (hcell : ∀ y ∈ scope.names, y.2 ≠ .cell := by decide) (hkind : scope.kind = .function := by rfl)
    (hnames : ∀ y ∈ scope.names, y.2 = .local → scope.names.lookup y.1 = some .local := by decide)
    (hy : Φ.env.kindOf y = some .local := by rfl) (hf : Φ.fr = true := by rfl)
    (hs : ∀ x, foldedSetIterable iter Φ.env x = Pure.pure x := by intro _; rfl) :
    TT gl Φ (exec (.Assign [.Name y py] (.ListComp elt [⟨target, iter, ifs, 0⟩] scope pos) spos) Φ.env) σ P := by
  refine .compA cl fm (x.mono ?_) hsw hclos hcell hkind hnames hy hf hs
  rintro v σ₁ ⟨xs, f, hI, hz, hfm, T, fin⟩
  refine .iterX hI hz fun c val Gp ia W hG hv => ?_
  refine ⟨c, xs.length, val, Gp, fun i G' pl' ys => pl' = σ₁.pl ∧ Le σ₁.G G' ∧ Rs (R' G') ((xs.take i).filterMap f) ys, ia, σ₁, W, hz, ?_, rfl, rfl, hG, hfm, ⟨rfl, Le.rfl, ?_⟩, ?_, ?_⟩
  · rintro i G' pl' ys ⟨_, _, h⟩
    rw [h.length]
    exact Nat.le_trans (List.length_filterMap_le ..) (by rw [List.length_take]; omega)
  · simpa using Rs.nil
  · exact fun C h i v G' pl' ys hi hw _ l hJ => T.turns hR hR' hv C h i v G' pl' ys hi hw l hJ
  · rintro G' pl' ys l ⟨rfl, _, h⟩
    rw [List.take_length] at h
    exact .inl fun a G'' l' L => fin _ _ (l.trans l') ⟨a, ys, rfl, L, h.mono hR' l'⟩

/-! calls of the program's functions -/
noncomputable def GFn (gl : Gl) (name : Str) (st : Stmt) : Prop := ∃ a, nsIn gl.K mainGlobals name = some (some (.ref a)) ∧ FnK gl a name st
noncomputable def MFn (gl : Gl) (name qual : Str) (st : Stmt) : Prop := ∃ a, findIn gl.K (.ref gl.C) name = some (some (.ref a)) ∧ isFn gl.K (.ref a) = true ∧ FnK gl a qual st

inductive KCall (gl : Gl) (Φ : Fx) (name : Str) (st : Stmt) (P : Value → Sta → Prop) (vs : List Value) (σ₁ : Sta) : Prop
  | mk (n : Nat) (mu : Bool) (P' : PM → List Pl → Value → Prop) (c : ∀ a, FnK gl a name st → CallP gl n mu (.ref a) vs σ₁.G σ₁.pl P') (hn : n ≤ Φ.n) (hm : mu = true → Φ.mu = true)
    (k : ∀ v G' pl', Le σ₁.G G' → P' G' pl' v → P v { σ₁ with G := G', pl := pl' }) : KCall gl Φ name st P vs σ₁
theorem TT.gcall (T : gl.Ok) {name : Str} {st : Stmt} (F : GFn gl name st) {e : Expr} {rest : List Expr} {pos pos' : Pos} {P : Value → Sta → Prop}
    (x : TT gl Φ (spliced (backTo pos' (starEach (e :: rest) Φ.env))) σ (KCall gl Φ name st P))
    (hk : Φ.env.kindOf name = some .globalImplicit := by rfl) (hg : Φ.env.globals = mainGlobals := by rfl) (hd : (name == ("__debug__" : Str)) = false := by decide)
    (he : eval (.Call (.Name name pos) (e :: rest) [] pos') Φ.env = (do callWith pos' (← eval (.Name name pos) Φ.env) [] (backTo pos' (starEach (e :: rest) Φ.env)) []) := by rfl)
    (he2 : starEach (e :: rest) Φ.env = (false, eval e Φ.env) :: starEach rest Φ.env := by rfl) (hplain : (backTo pos' (starEach rest Φ.env)).any (·.1) = false := by rfl) :
    TT gl Φ (eval (.Call (.Name name pos) (e :: rest) [] pos') Φ.env) σ P := by
  obtain ⟨a, hns, hF⟩ := F
  refine .calln (.glob T hns ?_ hk hg hd) he
  refine .callee T hF.keep (x.mono ?_) he2 hplain
  rintro vs σ₁ ⟨n, mu, P', c, hn, hm, k⟩
  exact .call (c a hF) hn hm k

theorem TT.mcall (T : gl.Ok) {name qual : Str} {st : Stmt} (F : MFn gl name qual st) {o : Expr} {apos pos : Pos} {e : Expr} {rest : List Expr} {pl : Sem Bool} {P : Value → Sta → Prop}
    (x : TT gl Φ (eval o Φ.env) σ fun ov σ₀ => ∃ p, p ∈ σ₀.pl ∧ ov = .ref p.pa ∧ TT gl Φ (spliced (backTo pos (starEach (e :: rest) Φ.env))) σ₀ fun vs => KCall gl Φ qual st P (.ref p.pa :: vs))
    (hv : ∀ p, pmap p name = none := by intro _; rfl)
    (he : eval (.Call (.Attribute o name apos) (e :: rest) [] pos) Φ.env = (do
      let ov ← eval o Φ.env
      standAt apos.atName
      let (f, first) ← holding [ov] (getMethod ov name pl)
      callWith pos f first (backTo pos (starEach (e :: rest) Φ.env)) []) := by rfl)
    (he2 : starEach (e :: rest) Φ.env = (false, eval e Φ.env) :: starEach rest Φ.env := by rfl) (hplain : (backTo pos (starEach rest Φ.env)).any (·.1) = false := by rfl) :
    TT gl Φ (eval (.Call (.Attribute o name apos) (e :: rest) [] pos) Φ.env) σ P := by
  obtain ⟨a, hf, hfn, hF⟩ := F
  refine .callm (x.mono ?_) he
  rintro ov σ₀ ⟨p, hp, rfl, y⟩
  refine .methP T hp hf hfn (hv p) ?_
  refine .callee T hF.keep (y.mono ?_) he2 hplain
  rintro vs σ₁ ⟨n, mu, P', c, hn, hm, k⟩
  exact .call (c a hF) hn hm k
theorem TT.mcall0 (T : gl.Ok) {name qual : Str} {st : Stmt} (F : MFn gl name qual st) {o : Expr} {apos pos : Pos} {pl : Sem Bool} {P : Value → Sta → Prop}
    (x : TT gl Φ (eval o Φ.env) σ fun ov σ₁ => ∃ p, p ∈ σ₁.pl ∧ ov = .ref p.pa ∧ KCall gl Φ qual st P [.ref p.pa] σ₁)
    (hv : ∀ p, pmap p name = none := by intro _; rfl)
    (he : eval (.Call (.Attribute o name apos) [] [] pos) Φ.env = (do
      let ov ← eval o Φ.env
      standAt apos.atName
      let (f, first) ← holding [ov] (getMethod ov name pl)
      callWith pos f first (backTo pos (starEach [] Φ.env)) []) := by rfl) :
    TT gl Φ (eval (.Call (.Attribute o name apos) [] [] pos) Φ.env) σ P := by
  obtain ⟨a, hf, hfn, hF⟩ := F
  refine .callm (x.mono ?_) he
  rintro ov σ₀ ⟨p, hp, rfl, ⟨n, mu, P', c, hn, hm, k⟩⟩
  refine .methP T hp hf hfn (hv p) ?_
  exact .callee0 T hF.keep (.call (c a hF) hn hm k)

end
theorem TT.abs {gl : Gl} {Φ : Fx} {σ : Sta} {α : Type} {t : Sem α} {P : α → Sta → Prop} (x : ∀ P' : α → Sta → Prop, (∀ a σ', P a σ' → P' a σ') → TT gl Φ t σ P') : TT gl Φ t σ P := x P fun _ _ h => h
theorem TT.nm {gl : Gl} {Φ : Fx} {σ : Sta} {ss : List Stmt} {P : Flow → Sta → Prop} (x : let Φ' := Φ; TT gl Φ' (execs ss Φ'.env) σ P) : TT gl Φ (execs ss Φ.env) σ P := x

section
variable {gl : Gl} {Φ : Fx} {σ : Sta}

end

section
variable {gl : Gl} {Φ : Fx} {σ : Sta}
theorem TT.whileZ {test : Expr} {body orelse : List Stmt} {pos : Pos} {P : Flow → Sta → Prop} (I : Nat → Sta → Prop)
    (turn : ∀ (P₁ : Nat → Flow → Sta → Prop) (P₂ : Flow → Sta → Prop), (∀ n f σ₂, (match f with
          | .next | .cont => ∃ m, m < n ∧ I m σ₂
          | .brk => P .next σ₂
          | .ret v => P (.ret v) σ₂) → P₁ n f σ₂) → (∀ f σ₂, P f σ₂ → P₂ f σ₂) →
      ∀ n σ', I n σ' → TT gl Φ (isTrue test Φ.env (eval test Φ.env)) σ' fun b σ₁ => if b then TT gl Φ (execs body Φ.env) σ₁ (P₁ n) else TT gl Φ (execs orelse Φ.env) σ₁ P₂)
    (n : Nat) (hI : I n σ) : TT gl Φ (exec (.While test body orelse pos) Φ.env) σ P :=
  .while I (turn (fun n f σ₂ => match f with
          | .next | .cont => ∃ m, m < n ∧ I m σ₂
          | .brk => P .next σ₂
          | .ret v => P (.ret v) σ₂) P (fun _ _ _ h => h) (fun _ _ h => h)) n hI
end
end Mine

end
section
namespace Mine

noncomputable def nmOf (i : Nat) : Str := Str.ofString "p" ++ Str.ofString (toString (i : Int))
noncomputable def mtV (pas : Nat → Addr) : Option Nat → Value
  | none => .none
  | some j => .ref (pas j)
noncomputable def upd {β : Type} (f : Nat → β) (i : Nat) (v : β) : Nat → β := fun j => if j = i then v else f j

structure Pls (G : PM) (pl : List Pl) (n : Nat) (pas : Nat → Addr) (L : Nat → List Nat) (M : Nat → Option Nat) : Prop where
  len : pl.length = n
  row : ∀ i, i < n → ∃ p, pl[i]? = some p ∧ p.pa = pas i ∧ (∃ t, p.nm = .str (nmOf i) t) ∧ RL (RPl n pas) G (L i) p.pf ∧ p.mt = mtV pas (M i) ∧ ∀ j, M i = some j → j < n
  inj : ∀ i j, i < n → j < n → pas i = pas j → i = j

theorem Pls.mono {G G' pl n pas L M} (W : Pls G pl n pas L M) (l : Le G G') : Pls G' pl n pas L M :=
  ⟨W.len, fun i hi => by obtain ⟨p, a, b, c, d, e⟩ := W.row i hi; exact ⟨p, a, b, c, RL.mono RPl.mono _ _ _ _ l d, e⟩, W.inj⟩

section
variable {gl : Gl} {Φ : Fx} {σ : Sta}

theorem Pls.setM {G pl n pas L M} (W : Pls G pl n pas L M) {i : Nat} {p : Pl} (hp : pl[i]? = some p) (o : Option Nat) (ho : ∀ j, o = some j → j < n) : Pls G (pl.set i { p with mt := mtV pas o }) n pas L (upd M i o) := by
  refine ⟨by rw [List.length_set]; exact W.len, fun j hj => ?_, W.inj⟩
  obtain ⟨q, a, b, c, d, e, f⟩ := W.row j hj
  have hl := W.len
  rw [List.getElem?_set]
  unfold upd
  by_cases h : i = j
  · subst h
    rw [hp] at a; cases a
    rw [if_pos rfl, if_pos (by omega), if_pos rfl]
    exact ⟨_, rfl, b, c, d, rfl, ho⟩
  · rw [if_neg h, if_neg (Ne.symm h)]
    exact ⟨q, a, b, c, d, e, f⟩
theorem Pls.setL {G pl n pas L M} (W : Pls G pl n pas L M) {i : Nat} {p : Pl} (hp : pl[i]? = some p) {xs : List Nat} {v : Value} (hv : RL (RPl n pas) G xs v) : Pls G (pl.set i { p with pf := v }) n pas (upd L i xs) M := by
  refine ⟨by rw [List.length_set]; exact W.len, fun j hj => ?_, W.inj⟩
  obtain ⟨q, a, b, c, d, e, f⟩ := W.row j hj
  have hl := W.len
  rw [List.getElem?_set]
  unfold upd
  by_cases h : i = j
  · subst h
    rw [hp] at a; cases a
    rw [if_pos rfl, if_pos (by omega), if_pos rfl]
    exact ⟨_, rfl, b, c, hv, e, f⟩
  · rw [if_neg h, if_neg (Ne.symm h)]
    exact ⟨q, a, b, c, d, e, f⟩

/-! reads of players -/
theorem Pls.find {G pl n pas L M} (W : Pls G pl n pas L M) {i : Nat} (hi : i < n) : ∃ p ∈ pl, p.pa = pas i := by
  obtain ⟨p, a, b, _⟩ := W.row i hi; exact ⟨p, mem_of_get a, b⟩

theorem TT.prefsW (T : gl.Ok) {n pas L M} (W : Pls σ.G σ.pl n pas L M) {i : Nat} (hi : i < n) {b : Bool} {P : Value → Sta → Prop} (x : ∀ v, RL (RPl n pas) σ.G (L i) v → P v σ) : TT gl Φ (getAttr (.ref (pas i)) "prefs" b) σ P := by
  obtain ⟨p, a, e, c, d, f⟩ := W.row i hi
  obtain ⟨aa, vs, q, _⟩ := id d
  exact e ▸ .getP T (mem_of_get a) T.nprefs rfl (by rw [q]; rfl) (x _ d)
theorem TT.nameW (T : gl.Ok) {n pas L M} (W : Pls σ.G σ.pl n pas L M) {i : Nat} (hi : i < n) {b : Bool} {P : Value → Sta → Prop} (x : ∀ t, P (.str (nmOf i) t) σ) : TT gl Φ (getAttr (.ref (pas i)) "name" b) σ P := by
  obtain ⟨p, a, e, ⟨t, c⟩, d, f⟩ := W.row i hi
  exact e ▸ .getP T (mem_of_get a) T.nname rfl (by rw [c]; rfl) (by rw [c]; exact x t)
theorem TT.mtW (T : gl.Ok) {n pas L M} (W : Pls σ.G σ.pl n pas L M) {i : Nat} (hi : i < n) {b : Bool} {P : Value → Sta → Prop} (x : P (mtV pas (M i)) σ) : TT gl Φ (getAttr (.ref (pas i)) "matching" b) σ P := by
  obtain ⟨p, a, e, c, d, f, g⟩ := W.row i hi
  exact e ▸ .getP T (mem_of_get a) T.nmatching rfl (by rw [f]; cases M i <;> rfl) (f ▸ x)
theorem TT.setPfW (T : gl.Ok) {n pas L M} (W : Pls σ.G σ.pl n pas L M) {i : Nat} (hi : i < n) {xs : List Nat} {v : Value} (hv : RL (RPl n pas) σ.G xs v) (hm : Φ.mu = true) {P : Unit → Sta → Prop}
    (x : ∀ pl', Pls σ.G pl' n pas (upd L i xs) M → P () { σ with pl := pl' }) : TT gl Φ (setAttr (.ref (pas i)) "prefs" v) σ P := by
  obtain ⟨p, a, e, _⟩ := W.row i hi
  exact e ▸ .setPf T a hm (x _ (W.setL a hv))
theorem TT.setMtW (T : gl.Ok) {n pas L M} (W : Pls σ.G σ.pl n pas L M) {i : Nat} (hi : i < n) (o : Option Nat) (ho : ∀ j, o = some j → j < n) (hm : Φ.mu = true) {P : Unit → Sta → Prop}
    (x : ∀ pl', Pls σ.G pl' n pas L (upd M i o) → P () { σ with pl := pl' }) : TT gl Φ (setAttr (.ref (pas i)) "matching" (mtV pas o)) σ P := by
  obtain ⟨p, a, e, _⟩ := W.row i hi
  exact e ▸ .setMt T a hm (x _ (W.setM a o ho))

/-! equality -/
noncomputable def cdec (p : Prop) : Bool := @decide p (Classical.propDecidable p)
theorem cdec_true {p : Prop} (h : p) : cdec p = true := by unfold cdec; exact @decide_eq_true p (Classical.propDecidable p) h
theorem cdec_false {p : Prop} (h : ¬ p) : cdec p = false := by unfold cdec; exact @decide_eq_false p (Classical.propDecidable p) h
noncomputable def EqR {α : Type} [DecidableEq α] (gl : Gl) (Φ : Fx) (σ : Sta) (R : RP α) (k : Nat) : Prop := ∀ x y v w, R σ.G x v → R σ.G y w → EqP gl Φ σ k v w (decide (x = y))
noncomputable def Uq {α : Type} (R : RP α) (G : PM) : Prop := ∀ x y v, R G x v → R G y v → x = y

theorem EqR.rn : EqR gl Φ σ RN 0 := by
  rintro x y v w ⟨t, rfl⟩ ⟨u, rfl⟩
  have := EqP.int (gl := gl) (Φ := Φ) (σ := σ) (a := (x : Int)) (b := (y : Int)) (t := t) (u := u)
  rw [show ((x : Int) == (y : Int)) = decide (x = y) by
    by_cases h : x = y
    · subst h; simp
    · have : (x : Int) ≠ (y : Int) := by omega
      rw [beq_eq_false_iff_ne.mpr this]; simp [h]] at this
  exact this
theorem EqR.rpl (T : gl.Ok) {n pas L M} (W : Pls σ.G σ.pl n pas L M) : EqR gl Φ σ (RPl n pas) 0 := by
  rintro x y v w ⟨hx, rfl⟩ ⟨hy, rfl⟩
  obtain ⟨p, a, e, _⟩ := W.row x hx
  obtain ⟨q, a', e', _⟩ := W.row y hy
  have := EqP.pl (Φ := Φ) (σ := σ) T (mem_of_get a) (mem_of_get a')
  rw [e, e', show decide (pas x = pas y) = decide (x = y) by by_cases h : x = y; · subst h; simp
                                                             · have : pas x ≠ pas y := fun q => h (W.inj _ _ hx hy q)
                                                               simp [h, this]] at this
  exact this
theorem EqR.rs : EqR gl Φ σ RS 0 := by
  rintro x y v w ⟨t, rfl⟩ ⟨u, rfl⟩
  have := EqP.str (gl := gl) (Φ := Φ) (σ := σ) (a := x) (b := y) (t := t) (u := u)
  rw [show (x == y) = decide (x = y) by by_cases h : x = y <;> simp [h]] at this
  exact this
theorem Uq.rs {G : PM} : Uq RS G := by
  rintro x y v ⟨t, rfl⟩ ⟨u, e⟩
  injection e
theorem Uq.rn {G : PM} : Uq RN G := by
  rintro x y v ⟨t, rfl⟩ ⟨u, e⟩
  injection e with e1; omega
theorem Uq.rpl {G : PM} {n pas pl L M} (W : Pls G pl n pas L M) : Uq (RPl n pas) G := by
  rintro x y v ⟨hx, rfl⟩ ⟨hy, e⟩
  injection e with e; exact W.inj _ _ hx hy e

noncomputable def Sta.Ls (σ : Sta) {α : Type} (R : RP α) (xs : List α) (v : Value) : Prop := ∃ a vs, v = .ref a ∧ σ.Lst a vs ∧ Rs (R σ.G) xs vs
theorem RL.ls {α : Type} {R : RP α} {xs : List α} {v : Value} (h : RL R σ.G xs v) : σ.Ls R xs v := let ⟨a, vs, e, l, r⟩ := h; ⟨a, vs, e, .inl l, r⟩

section
variable {α : Type} [DecidableEq α] {R : RP α} {xs : List α} {v w : Value} {y : α}
theorem EqR.f {vs : List Value} {k : Nat} (E : EqR gl Φ σ R k) (U : Uq R σ.G) (hl : Rs (R σ.G) xs vs) (hw : R σ.G y w) : ∃ f : Value → Bool, (∀ v ∈ vs, EqP gl Φ σ k v w (f v)) ∧ ∀ x v, R σ.G x v → f v = decide (x = y) := by
  have key : ∀ x v, R σ.G x v → cdec (∃ x, R σ.G x v ∧ x = y) = decide (x = y) := fun x v hx => by
    by_cases h : x = y
    · subst h; rw [cdec_true ⟨x, hx, rfl⟩]; simp
    · rw [cdec_false fun ⟨z, hz, e⟩ => h (U _ _ _ hx hz ▸ e)]; simp [h]
  refine ⟨fun v => cdec (∃ x, R σ.G x v ∧ x = y), fun v hv => ?_, fun x v hx => key x v hx⟩
  obtain ⟨x, _, hx⟩ := hl.mem hv
  show EqP gl Φ σ k v w (cdec (∃ x, R σ.G x v ∧ x = y))
  rw [key x v hx]; exact E x y v w hx hw

omit [DecidableEq α] in
theorem Rs.findIdx {R : α → Value → Prop} {vs : List Value} (h : Rs R xs vs) {f : Value → Bool} {g : α → Bool} (hf : ∀ x v, R x v → f v = g x) : vs.findIdx? f = xs.findIdx? g := by
  induction h with
  | nil => rfl
  | cons hd _ ih => simp only [List.findIdx?_cons, hf _ _ hd, ih]
omit [DecidableEq α] in
theorem Rs.countP {R : α → Value → Prop} {vs : List Value} (h : Rs R xs vs) {f : Value → Bool} {g : α → Bool} (hf : ∀ x v, R x v → f v = g x) : vs.countP f = xs.countP g := by
  induction h with
  | nil => rfl
  | cons hd _ ih => simp only [List.countP_cons, hf _ _ hd, ih]
omit [DecidableEq α] in
theorem Rs.any {R : α → Value → Prop} {vs : List Value} (h : Rs R xs vs) {f : Value → Bool} {g : α → Bool} (hf : ∀ x v, R x v → f v = g x) : vs.any f = xs.any g := by
  induction h with
  | nil => rfl
  | cons hd _ ih => simp only [List.any_cons, hf _ _ hd, ih]
theorem any_dec : xs.any (fun x => decide (x = y)) = decide (y ∈ xs) := by
  induction xs with
  | nil => simp
  | cons a r ih =>
    rw [List.any_cons, ih]
    by_cases h : a = y
    · subst h; simp
    · simp [h, Ne.symm h]

theorem TT.indexR {k : Nat} {P : Value → Sta → Prop} (L : σ.Ls R xs v) (hz : xs.length ≤ 1000) (E : EqR gl Φ σ R k) (U : Uq R σ.G) (hw : R σ.G y w) (hk : k + 2 ≤ 8 * Φ.n) (hy : y ∈ xs) (x : ∀ v, RN σ.G (xs.idxOf y) v → P v σ) :
    ∀ a, v = .ref a → TT gl Φ (PySem.call (.builtin "list.index") [.ref a, w]) σ P := by
  rintro a rfl
  obtain ⟨a, vs, e, L, hl⟩ := L
  cases e
  obtain ⟨f, f1, f2⟩ := E.f U hl hw
  refine .index L (hl.length ▸ hz) f1 hk (j := xs.idxOf y) ?_ fun t => x _ ⟨t, rfl⟩
  rw [hl.findIdx (g := fun x => decide (x = y)) f2]
  rw [List.findIdx?_eq_some_iff_findIdx_eq]
  refine ⟨List.idxOf_lt_length_iff.mpr hy, ?_⟩
  unfold List.idxOf
  congr 1
theorem TT.countR {k : Nat} {P : Value → Sta → Prop} (L : σ.Ls R xs v) (E : EqR gl Φ σ R k) (U : Uq R σ.G) (hw : R σ.G y w) (hk : k + 2 ≤ 8 * Φ.n) (x : ∀ v, RN σ.G (xs.count y) v → P v σ) :
    ∀ a, v = .ref a → TT gl Φ (PySem.call (.builtin "list.count") [.ref a, w]) σ P := by
  rintro a rfl
  obtain ⟨a, vs, e, L, hl⟩ := L
  cases e
  obtain ⟨f, f1, f2⟩ := E.f U hl hw
  refine .count L f1 hk fun t => x _ ⟨t, ?_⟩
  rw [hl.countP (g := fun x => decide (x = y)) f2]
  unfold List.count
  congr 3
theorem TT.inR {k : Nat} {P : Value → Sta → Prop} (L : σ.Ls R xs v) (E : EqR gl Φ σ R k) (U : Uq R σ.G) (hw : R σ.G y w) (hk : k + 2 ≤ 8 * Φ.n) (x : P (.bool (decide (y ∈ xs))) σ) : TT gl Φ (compareOp .In w v) σ P := by
  obtain ⟨a, vs, rfl, L, hl⟩ := L
  obtain ⟨f, f1, f2⟩ := E.f U hl hw
  refine .isin L f1 hk ?_
  rw [hl.any (g := fun x => decide (x = y)) f2, any_dec]; exact x
theorem TT.ninR {k : Nat} {P : Value → Sta → Prop} (L : σ.Ls R xs v) (E : EqR gl Φ σ R k) (U : Uq R σ.G) (hw : R σ.G y w) (hk : k + 2 ≤ 8 * Φ.n) (x : P (.bool (decide (y ∉ xs))) σ) : TT gl Φ (compareOp .NotIn w v) σ P := by
  obtain ⟨a, vs, rfl, L, hl⟩ := L
  obtain ⟨f, f1, f2⟩ := E.f U hl hw
  refine .notin L f1 hk ?_
  rw [hl.any (g := fun x => decide (x = y)) f2, any_dec, ← decide_not]; exact x
end

section
variable {α : Type} {R : RP α} {xs : List α} {v w : Value} {y : α}
theorem TT.lenR {P : Value → Sta → Prop} (L : σ.Ls R xs v) (hz : xs.length ≤ 1000) (x : ∀ v, RN σ.G xs.length v → P v σ) : TT gl Φ (PySem.call (.builtin "len") [v]) σ P := by
  obtain ⟨a, vs, rfl, L, hl⟩ := L
  exact .len L (by rw [hl.length]; omega) fun t => x _ ⟨t, by rw [hl.length]⟩
theorem TT.itemR {value slice : Expr} {k : Nat} {P : Value → Sta → Prop} (L : σ.Ls R xs v) (hk : RN σ.G k w) (hy : xs[k]? = some y) (hz : k ≤ 1000) (x : ∀ u, R σ.G y u → P u σ)
    (hs : ∀ a k u, subscripted slice false (.ref a) (.int k u) = operate [.ref a, .int k u] (getItem (.ref a) (.int k u)) := by intro _ _ _; with_unfolding_all rfl) : TT gl Φ (subscriptTail value slice v w) σ P := by
  obtain ⟨a, vs, rfl, L, hl⟩ := L
  obtain ⟨t, rfl⟩ := hk
  obtain ⟨u, e, r⟩ := hl.get hy
  exact .item L (by omega) (by simpa using e) (x u r) (by omega) (hs _ _ _)
theorem TT.lastR {value slice : Expr} {t : Tok} {P : Value → Sta → Prop} (L : σ.Ls R xs v) (hy : xs.getLast? = some y) (x : ∀ u, R σ.G y u → P u σ)
    (hs : ∀ a u, subscripted slice false (.ref a) (.int (-1) u) = operate [.ref a, .int (-1) u] (getItem (.ref a) (.int (-1) u)) := by intro _ _; with_unfolding_all rfl) : TT gl Φ (subscriptTail value slice v (.int (-1) t)) σ P := by
  obtain ⟨a, vs, rfl, L, hl⟩ := L
  rw [List.getLast?_eq_getElem?] at hy
  obtain ⟨u, e, r⟩ := hl.get hy
  exact .itemLast L (by rw [List.getLast?_eq_getElem?, hl.length]; exact e) (x u r) (hs _ _)
theorem TT.truthyR {P : Bool → Sta → Prop} (L : σ.Ls R xs v) (hz : xs.length ≤ 1000) (x : P (decide (xs ≠ [])) σ) : TT gl Φ (truthy v) σ P := by
  obtain ⟨a, vs, rfl, L, hl⟩ := L
  refine .truthyL L (by rw [hl.length]; omega) ?_
  have : decide (vs ≠ []) = decide (xs ≠ []) := by cases hl <;> simp
  rw [this]; exact x
inductive KDrop {α : Type} (R : RP α) (P : Value → Sta → Prop) (o vl : Value) (σ₂ : Sta) : Prop
  | mk (xs : List α) (k : Nat) (L : σ₂.Ls R xs o) (hz : xs.length ≤ 1000) (hk : RN σ₂.G k vl) (f : ∀ v G', Le σ₂.G G' → RL R G' (xs.drop k) v → P v { σ₂ with G := G' }) : KDrop R P o vl σ₂
theorem TT.fromR {value e : Expr} {p pos : Pos} {P : Value → Sta → Prop}
    (x : TT gl Φ (eval value Φ.env) σ fun o σ₁ => TT gl Φ (eval e Φ.env) σ₁ (KDrop R P o))
    (hR : Mono R) : TT gl Φ (eval (.Subscript value (.Slice (some e) none none p) pos) Φ.env) σ P := by
  refine .slice (x.mono fun o σ₁ y => .part_some (y.mono fun vl σ₂ z => .part_none ?_))
  obtain ⟨xs, k, ⟨a, vs, rfl, L, hl⟩, hz, ⟨t, rfl⟩, f⟩ := z
  refine ⟨a, vs, some (k : Int), none, rfl, L, hl.length ▸ hz, .int _ _, .none, .inl fun b G' l L' => f _ _ l ⟨b, _, rfl, L', ?_⟩⟩
  rw [pick_from]; exact (hl.mono hR l).drop k
inductive KTake {α : Type} (R : RP α) (P : Value → Sta → Prop) (o vl : Value) (σ₂ : Sta) : Prop
  | mk (xs : List α) (k : Nat) (L : σ₂.Ls R xs o) (hz : xs.length ≤ 1000) (hk : RN σ₂.G k vl) (f : ∀ v G', Le σ₂.G G' → RL R G' (xs.take k) v → P v { σ₂ with G := G' }) : KTake R P o vl σ₂
theorem TT.uptoR {value e : Expr} {p pos : Pos} {P : Value → Sta → Prop}
    (x : TT gl Φ (eval value Φ.env) σ fun o σ₁ => TT gl Φ (eval e Φ.env) σ₁ (KTake R P o))
    (hR : Mono R) : TT gl Φ (eval (.Subscript value (.Slice none (some e) none p) pos) Φ.env) σ P := by
  refine .slice (x.mono fun o σ₁ y => .part_none (.part_some (y.mono fun vl σ₂ z => ?_)))
  obtain ⟨xs, k, ⟨a, vs, rfl, L, hl⟩, hz, ⟨t, rfl⟩, f⟩ := z
  refine ⟨a, vs, none, some (k : Int), rfl, L, hl.length ▸ hz, .none, .int _ _, .inl fun b G' l L' => f _ _ l ⟨b, _, rfl, L', ?_⟩⟩
  rw [pick_upto]; exact (hl.mono hR l).take k
theorem TT.plusR {xs ys : List α} {P : Value → Sta → Prop} (L : σ.Ls R xs v) (L' : σ.Ls R ys w) (hz : xs.length + ys.length ≤ 1000) (hR : Mono R) (f : ∀ v G', Le σ.G G' → RL R G' (xs ++ ys) v → P v { σ with G := G' }) : TT gl Φ (binaryOp .Add v w) σ P := by
  obtain ⟨a, vs, rfl, L, hl⟩ := L
  obtain ⟨b, ws, rfl, L', hl'⟩ := L'
  exact .plus L L' (by rw [hl.length, hl'.length]; exact hz) (.inl fun c G' l M => f _ _ l ⟨c, _, rfl, M, (hl.mono hR l).append (hl'.mono hR l)⟩)
end

end
end Mine

end
section
namespace Mine

theorem ne_cell {o : Option NameKind} (h : o = some .cell) : o ≠ some .local := by rw [h]; intro e; cases e
theorem ne_free {o : Option NameKind} (h : o = some .free) : o ≠ some .local := by rw [h]; intro e; cases e

section
variable {gl : Gl} {Φ : Fx} {σ : Sta}

section
variable {α : Type} [DecidableEq α] {R : RP α}
inductive KIdx {α : Type} [DecidableEq α] (gl : Gl) (Φ : Fx) (R : RP α) (P : Value → Sta → Prop) (ov w : Value) (σ₂ : Sta) : Prop
  | mk (xs : List α) (y : α) (k : Nat) (L : σ₂.Ls R xs ov) (hz : xs.length ≤ 1000) (E : EqR gl Φ σ₂ R k) (U : Uq R σ₂.G) (hw : R σ₂.G y w) (hk : k + 2 ≤ 8 * Φ.n) (hy : y ∈ xs) (f : ∀ v, RN σ₂.G (xs.idxOf y) v → P v σ₂) : KIdx gl Φ R P ov w σ₂
inductive KCnt {α : Type} [DecidableEq α] (gl : Gl) (Φ : Fx) (R : RP α) (P : Value → Sta → Prop) (ov w : Value) (σ₂ : Sta) : Prop
  | mk (xs : List α) (y : α) (k : Nat) (L : σ₂.Ls R xs ov) (E : EqR gl Φ σ₂ R k) (U : Uq R σ₂.G) (hw : R σ₂.G y w) (hk : k + 2 ≤ 8 * Φ.n) (f : ∀ v, RN σ₂.G (xs.count y) v → P v σ₂) : KCnt gl Φ R P ov w σ₂
theorem TT.mIndex {o e : Expr} {apos pos : Pos} {pl : Sem Bool} {P : Value → Sta → Prop}
    (x : TT gl Φ (eval o Φ.env) σ fun ov σ₁ => (∃ xs, σ₁.Ls R xs ov) ∧ TT gl Φ (eval e Φ.env) σ₁ (KIdx gl Φ R P ov))
    (he : eval (.Call (.Attribute o "index" apos) [e] [] pos) Φ.env = (do
      let ov ← eval o Φ.env
      standAt apos.atName
      let (f, first) ← holding [ov] (getMethod ov "index" pl)
      callWith pos f first (backTo pos (starEach [e] Φ.env)) []) := by rfl)
    (he2 : starEach [e] Φ.env = (false, eval e Φ.env) :: starEach [] Φ.env := by rfl) :
    TT gl Φ (eval (.Call (.Attribute o "index" apos) [e] [] pos) Φ.env) σ P := by
  refine .callm (x.mono ?_) he
  rintro ov σ₁ ⟨⟨xs₀, a, vs, rfl, L, _⟩, y⟩
  refine .getM PySem.F.slot_list_index PySem.F.type_list_index L ?_
  refine .calleeB (.sp_cons (y.mono ?_) he2) he2 rfl
  rintro w σ₂ ⟨xs, y, k, Ls, hz, E, U, hw, hk, hy, f⟩
  exact .sp_nil (.indexR Ls hz E U hw hk hy f a rfl)
theorem TT.mCount {o e : Expr} {apos pos : Pos} {pl : Sem Bool} {P : Value → Sta → Prop}
    (x : TT gl Φ (eval o Φ.env) σ fun ov σ₁ => (∃ xs, σ₁.Ls R xs ov) ∧ TT gl Φ (eval e Φ.env) σ₁ (KCnt gl Φ R P ov))
    (he : eval (.Call (.Attribute o "count" apos) [e] [] pos) Φ.env = (do
      let ov ← eval o Φ.env
      standAt apos.atName
      let (f, first) ← holding [ov] (getMethod ov "count" pl)
      callWith pos f first (backTo pos (starEach [e] Φ.env)) []) := by rfl)
    (he2 : starEach [e] Φ.env = (false, eval e Φ.env) :: starEach [] Φ.env := by rfl) :
    TT gl Φ (eval (.Call (.Attribute o "count" apos) [e] [] pos) Φ.env) σ P := by
  refine .callm (x.mono ?_) he
  rintro ov σ₁ ⟨⟨xs₀, a, vs, rfl, L, _⟩, y⟩
  refine .getM PySem.F.slot_list_count PySem.F.type_list_count L ?_
  refine .calleeB (.sp_cons (y.mono ?_) he2) he2 rfl
  rintro w σ₂ ⟨xs, y, k, Ls, E, U, hw, hk, f⟩
  exact .sp_nil (.countR Ls E U hw hk f a rfl)
end

inductive KApp (P : Value → Sta → Prop) (a : Addr) (w : Value) (σ₂ : Sta) : Prop
  | mk (i : Nat) (vs : List Value) (hi : σ₂.own[i]? = some (a, .lst vs)) (hz : vs.length ≤ 1000) (p : P .none { σ₂ with own := σ₂.own.set i (a, .lst (vs ++ [w])) }) : KApp P a w σ₂
theorem TT.mAppend {o e : Expr} {apos pos : Pos} {pl : Sem Bool} {P : Value → Sta → Prop}
    (x : TT gl Φ (eval o Φ.env) σ fun ov σ₁ => ∃ a, ov = .ref a ∧ (∃ vs, σ₁.Lst a vs) ∧ TT gl Φ (eval e Φ.env) σ₁ (KApp P a))
    (he : eval (.Call (.Attribute o "append" apos) [e] [] pos) Φ.env = (do
      let ov ← eval o Φ.env
      standAt apos.atName
      let (f, first) ← holding [ov] (getMethod ov "append" pl)
      callWith pos f first (backTo pos (starEach [e] Φ.env)) []) := by rfl)
    (he2 : starEach [e] Φ.env = (false, eval e Φ.env) :: starEach [] Φ.env := by rfl) :
    TT gl Φ (eval (.Call (.Attribute o "append" apos) [e] [] pos) Φ.env) σ P := by
  refine .callm (x.mono ?_) he
  rintro ov σ₁ ⟨a, rfl, ⟨vs₀, L⟩, y⟩
  refine .getM PySem.F.slot_list_append PySem.F.type_list_append L ?_
  refine .calleeB (.sp_cons (y.mono ?_) he2) he2 rfl
  rintro w σ₂ ⟨i, vs, hi, hz, f⟩
  exact .sp_nil (.append hi hz f)

theorem TT.mcallW (T : gl.Ok) {name qual : Str} {st : Stmt} (F : MFn gl name qual st) {o : Expr} {apos pos : Pos} {e : Expr} {rest : List Expr} {pl : Sem Bool} {P : Value → Sta → Prop}
    (x : TT gl Φ (eval o Φ.env) σ fun ov σ₀ => ∃ N pas L M i, Pls σ₀.G σ₀.pl N pas L M ∧ i < N ∧ ov = .ref (pas i) ∧ TT gl Φ (spliced (backTo pos (starEach (e :: rest) Φ.env))) σ₀ fun vs => KCall gl Φ qual st P (.ref (pas i) :: vs))
    (hv : ∀ p, pmap p name = none := by intro _; rfl)
    (he : eval (.Call (.Attribute o name apos) (e :: rest) [] pos) Φ.env = (do
      let ov ← eval o Φ.env
      standAt apos.atName
      let (f, first) ← holding [ov] (getMethod ov name pl)
      callWith pos f first (backTo pos (starEach (e :: rest) Φ.env)) []) := by rfl)
    (he2 : starEach (e :: rest) Φ.env = (false, eval e Φ.env) :: starEach rest Φ.env := by rfl) (hplain : (backTo pos (starEach rest Φ.env)).any (·.1) = false := by rfl) :
    TT gl Φ (eval (.Call (.Attribute o name apos) (e :: rest) [] pos) Φ.env) σ P := by
  refine .mcall T F (x.mono ?_) hv he he2 hplain
  rintro ov σ₀ ⟨N, pas, L, M, i, W, hi, rfl, y⟩
  obtain ⟨p, hp, e⟩ := W.find hi
  refine ⟨p, hp, by rw [e], ?_⟩
  rw [e]; exact y
theorem TT.mcallW0 (T : gl.Ok) {name qual : Str} {st : Stmt} (F : MFn gl name qual st) {o : Expr} {apos pos : Pos} {pl : Sem Bool} {P : Value → Sta → Prop}
    (x : TT gl Φ (eval o Φ.env) σ fun ov σ₁ => ∃ N pas L M i, Pls σ₁.G σ₁.pl N pas L M ∧ i < N ∧ ov = .ref (pas i) ∧ KCall gl Φ qual st P [.ref (pas i)] σ₁)
    (hv : ∀ p, pmap p name = none := by intro _; rfl)
    (he : eval (.Call (.Attribute o name apos) [] [] pos) Φ.env = (do
      let ov ← eval o Φ.env
      standAt apos.atName
      let (f, first) ← holding [ov] (getMethod ov name pl)
      callWith pos f first (backTo pos (starEach [] Φ.env)) []) := by rfl) :
    TT gl Φ (eval (.Call (.Attribute o name apos) [] [] pos) Φ.env) σ P := by
  refine .mcall0 T F (x.mono ?_) hv he
  rintro ov σ₀ ⟨N, pas, L, M, i, W, hi, rfl, y⟩
  obtain ⟨p, hp, e⟩ := W.find hi
  refine ⟨p, hp, by rw [e], ?_⟩
  rw [e]; exact y

/-! comparisons of players -/
theorem TT.neW (T : gl.Ok) {n pas L M} (W : Pls σ.G σ.pl n pas L M) {i j : Nat} (hi : i < n) (hj : j < n) (hn : 1 ≤ Φ.n) {P : Value → Sta → Prop} (x : P (.bool (decide (i ≠ j))) σ) : TT gl Φ (compareOp .NotEq (.ref (pas i)) (.ref (pas j))) σ P := by
  obtain ⟨p, a, e, _⟩ := W.row i hi
  obtain ⟨q, a', e', _⟩ := W.row j hj
  rw [← e, ← e']
  refine .neP T (mem_of_get a) (mem_of_get a') hn ?_
  rw [e, e', ← decide_not]
  have : decide (¬ pas i = pas j) = decide (i ≠ j) := by
    by_cases h : i = j
    · subst h; simp
    · have : pas i ≠ pas j := fun q => h (W.inj _ _ hi hj q)
      simp [h, this]
  rw [this]; exact x

theorem sp_match (T : gl.Ok) {a : Addr} (F : FnK gl a "Player._match" (methAt 10 1)) {N pas L M G pl i j n} (W : Pls G pl N pas L M) (hi : i < N) (hj : j < N) :
    CallP gl (n + 1) true (.ref a) [.ref (pas i), .ref (pas j)] G pl fun G' pl' v => Pls G' pl' N pas L (upd M i (some j)) := by
  refine CallP.plain T F ["self", "other"] [("self", .ref (pas i)), ("other", .ref (pas j))] (fun _ _ _ _ _ => rfl) (fun L cdv A h => ?_)
  exact .execs_cons (.asgAttr (.name rfl (.name rfl (.setMtW T W hi (some j) (by intro k e; cases e; exact hj) rfl fun pl' W' => .execs_nil W') (.inl rfl)) (.inl rfl)))

theorem sp_unmatch (T : gl.Ok) {a : Addr} (F : FnK gl a "Player._unmatch" (methAt 10 2)) {N pas L M G pl i n} (W : Pls G pl N pas L M) (hi : i < N) :
    CallP gl (n + 1) true (.ref a) [.ref (pas i)] G pl fun G' pl' v => Pls G' pl' N pas L (upd M i none) := by
  refine CallP.plain T F ["self"] [("self", .ref (pas i))] (fun _ _ _ _ _ => rfl) (fun L cdv A h => ?_)
  exact .execs_cons (.asgAttr (.nonev (.name rfl (.setMtW T W hi none (by intro k e; cases e) rfl fun pl' W' => .execs_nil W') (.inl rfl))))

theorem sp_fav (T : gl.Ok) {a : Addr} (F : FnK gl a "Player.get_favourite" (methAt 10 3)) {N pas L M G pl i n f r} (W : Pls G pl N pas L M) (hi : i < N) (hf : L i = f :: r) :
    CallP gl (n + 1) false (.ref a) [.ref (pas i)] G pl fun G' pl' v => pl' = pl ∧ v = .ref (pas f) ∧ f < N := by
  refine CallP.plain T F ["self"] [("self", .ref (pas i))] (fun _ _ _ _ _ => rfl) (fun L cdv A h => ?_)
  refine .execs_cons (.ret (.sub (.attr (.name rfl (.prefsW T W hi fun v hv => .int fun t => ?_) (.inl rfl)))))
  exact .itemR (R := RPl N pas) (k := 0) (y := f) (RL.ls hv) ⟨t, rfl⟩ (by rw [hf]; rfl) (by omega) fun u hu => ⟨rfl, hu.2, hu.1⟩

theorem sp_succ (T : gl.Ok) {a : Addr} (F : FnK gl a "Player.get_successors" (methAt 10 4)) {N pas L M G pl i j n} (W : Pls G pl N pas L M) (hi : i < N) (hz : (L i).length ≤ 100) (hm : M i = some j) (hj : j ∈ L i) :
    CallP gl (n + 2) false (.ref a) [.ref (pas i)] G pl fun G' pl' v => pl' = pl ∧ RL (RPl N pas) G' ((L i).drop ((L i).idxOf j + 1)) v := by
  refine CallP.plain T F ["self"] [("self", .ref (pas i))] (fun _ _ _ _ _ => rfl) (fun La cdv A h => ?_)
  have hjN : j < N := by obtain ⟨p, _, _, _, _, _, f⟩ := W.row i hi; exact f j hm
  refine .execs_cons (.asg (.mIndex (.attr (.name rfl (.prefsW T W hi fun v hv => ⟨⟨_, RL.ls hv⟩, .attr (.name rfl (.mtW T W hi ?_) (.inl rfl))⟩) (.inl rfl)))))
  refine ⟨L i, j, 0, RL.ls hv, by omega, EqR.rpl T W, Uq.rpl W, by rw [hm]; exact ⟨hjN, rfl⟩, by show 0 + 2 ≤ 8 * (n + 1); omega, hj, fun w ⟨t, hw⟩ => ?_⟩
  subst hw
  refine .st (.execs_cons (.ret (.fromR (R := RPl N pas) (.attr (.name rfl (.prefsW T W hi fun v hv => .binop (.name rfl (.int fun t => .add fun t => ?_) (.inl rfl))) (.inl rfl))) RPl.mono)))
  exact ⟨L i, (L i).idxOf j + 1, RL.ls hv, by omega, ⟨_, rfl⟩, fun v G' l r => ⟨rfl, r⟩⟩

theorem sp_forget (T : gl.Ok) {a : Addr} (F : FnK gl a "BasePlayer._forget" (methAt 8 2)) {N pas L M G pl i j n} (W : Pls G pl N pas L M) (hi : i < N) (hj : j < N) (hz : (L i).length ≤ 100) :
    CallP gl (n + 2) true (.ref a) [.ref (pas i), .ref (pas j)] G pl fun G' pl' v => Pls G' pl' N pas (upd L i ((L i).filter fun x => decide (x ≠ j))) M := by
  refine CallP.cells T F ["self", "other"] [("self", .ref (pas i)), ("other", .ref (pas j))] (fun _ _ _ _ _ => rfl) (fun La cdv A h => ?_)
  refine .execs_cons (.asgAttr (.compX (R := RPl N pas) (R' := RPl N pas) RPl.mono RPl.mono [("other", La + 1)] [("other", .ref (pas j))] (.attr (.name rfl (.prefsW T W hi fun v hv => ?_) (.inl rfl)))))
  refine ⟨L i, fun x => if decide (x ≠ j) = true then some x else none, hv.itb, by omega, ⟨⟨rfl, ne_cell rfl, rfl, ne_cell rfl⟩, trivial⟩, fun C h x w G' hx hw l => ?_, fun v G' l hv => ?_⟩
  · obtain ⟨hxN, rfl⟩ := hw
    refine .tgt (.st (.tests_one (.tcmp (.name rfl (.name rfl (.neW T (W.mono l) hxN hj (by show 1 ≤ n + 1; omega) (.truthy_bool ?_)) (.inr (.inl rfl))) (.inl rfl)))))
    refine ⟨(ite_isSome _ _).symm, fun _ => ⟨rfl, Le.rfl⟩, fun y hy => .name rfl ⟨?_, rfl, Le.rfl⟩ (.inl rfl)⟩
    obtain ⟨_, rfl⟩ := ite_some hy
    exact ⟨hxN, rfl⟩
  · rw [fm_filter] at hv
    exact .name rfl (.setPfW T (W.mono l) hi hv rfl fun pl' W' => .execs_nil W') (.inl rfl)

noncomputable def del2 (L : Nat → List Nat) (i j : Nat) : Nat → List Nat :=
  upd (upd L i ((L i).filter fun x => decide (x ≠ j))) j ((upd L i ((L i).filter fun x => decide (x ≠ j)) j).filter fun x => decide (x ≠ i))

structure PlFns (gl : Gl) : Prop where
  forget : MFn gl "_forget" "BasePlayer._forget" (methAt 8 2)
  matc : MFn gl "_match" "Player._match" (methAt 10 1)
  unmatc : MFn gl "_unmatch" "Player._unmatch" (methAt 10 2)
  fav : MFn gl "get_favourite" "Player.get_favourite" (methAt 10 3)
  succ : MFn gl "get_successors" "Player.get_successors" (methAt 10 4)

theorem sp_delete (T : gl.Ok) (Tp : PlFns gl) {a : Addr} (F : FnK gl a "_delete_pair" (stmtAt 2)) {N pas L M G pl i j n} (W : Pls G pl N pas L M) (hi : i < N) (hj : j < N) (hz : ∀ i, (L i).length ≤ 100) :
    CallP gl (n + 3) true (.ref a) [.ref (pas i), .ref (pas j)] G pl fun G' pl' v => Pls G' pl' N pas (del2 L i j) M := by
  refine CallP.plain T F ["player", "other"] [("player", .ref (pas i)), ("other", .ref (pas j))] (fun _ _ _ _ _ => rfl) (fun La cdv A h => ?_)
  refine .execs_cons (.expr (.mcallW T Tp.forget (.name rfl ⟨N, pas, L, M, i, W, hi, rfl, .sp_cons (.name rfl (.sp_nil ?_) (.inl rfl))⟩ (.inl rfl))))
  refine ⟨n + 2, true, _, fun a F => sp_forget T F W hi hj (hz i), Nat.le_refl _, fun _ => rfl, fun v G' pl' l W' => ?_⟩
  refine .execs_cons (.expr (.mcallW T Tp.forget (.name rfl ⟨N, pas, _, M, j, W', hj, rfl, .sp_cons (.name rfl (.sp_nil ?_) (.inl rfl))⟩ (.inl rfl))))
  refine ⟨n + 2, true, _, fun a F => sp_forget T F W' hj hi ?_, Nat.le_refl _, fun _ => rfl, fun v G'' pl'' l W'' => .execs_nil W''⟩
  unfold upd; split
  · exact Nat.le_trans (List.length_filter_le ..) (hz i)
  · exact hz j

theorem idx_nm {i : Nat} (h : i < 6) : ((List.range 6).map nmOf).idxOf (nmOf i) = i := by
  match i, h with
  | 0, _ => decide
  | 1, _ => decide
  | 2, _ => decide
  | 3, _ => decide
  | 4, _ => decide
  | 5, _ => decide

theorem nm_len {i : Nat} (h : i < 6) : (Str.ofString "p").length + (Str.ofString (toString (i : Int))).length ≤ 1000 := by
  match i, h with
  | 0, _ => decide
  | 1, _ => decide
  | 2, _ => decide
  | 3, _ => decide
  | 4, _ => decide
  | 5, _ => decide

theorem TT.strN {k : Nat} {v : Value} {G : PM} {P : Value → Sta → Prop} (hv : RN G k v) (hk : k ≤ 1000) (x : ∀ t, P (.str (Str.ofString (toString (k : Int))) t) σ) : TT gl Φ (PySem.call (.type "str") [v]) σ P := by
  obtain ⟨t, rfl⟩ := hv
  exact .strI (by omega) x

theorem sp_number (T : gl.Ok) {a : Addr} (F : FnK gl a "_law_number" (stmtAt 16)) (hstr : nsIn gl.K mainGlobals "str" = some none) (hran : nsIn gl.K mainGlobals "range" = some none) {N pas L M G pl i n} (W : Pls G pl N pas L M) (hi : i < N) (hN : N ≤ 6) :
    CallP gl (n + 2) false (.ref a) [.ref (pas i)] G pl fun G' pl' v => pl' = pl ∧ RN G' i v := by
  refine CallP.plain T F ["player"] [("player", .ref (pas i))] (fun _ _ _ _ _ => rfl) (fun La cdv A h => ?_)
  refine .execs_cons (.ret (.mIndex (R := RS) (.compX (R := RN) (R' := RS) RN.mono RS.mono [] [] (.calln (.built T hran rfl (.calleeT (.sp_cons (.int fun t => .sp_nil (.range fun r G' l hr => ?_)))))))))
  refine ⟨List.range 6, fun k => some (nmOf k), hr.itb (n := 6), by simp, trivial, fun C h x w G'' hx hw l' => ?_, fun v G'' l' hv => ?_⟩
  · have hx : x < 6 := List.mem_range.mp hx
    refine .tgt (.st (.tests_nil ⟨rfl, fun h => (by cases h), fun y hy => ?_⟩))
    cases hy
    exact .binop (.str fun t => .calln (.built T hstr rfl (.calleeT (.sp_cons (.name rfl (.sp_nil (.strN hw (by omega) fun t => .addS (nm_len hx) fun t => ⟨⟨t, rfl⟩, rfl, Le.rfl⟩)) (.inl rfl))))))
  · rw [fm_map] at hv
    refine ⟨⟨_, hv.ls⟩, .attr (.name rfl (.nameW T (W.mono (l.trans l')) hi fun t => ?_) (.inl rfl))⟩
    refine ⟨(List.range 6).map nmOf, nmOf i, 0, hv.ls, by simp, EqR.rs, Uq.rs, ⟨t, rfl⟩, by show 0 + 2 ≤ 8 * (n + 1); omega, List.mem_map_of_mem (List.mem_range.mpr (by omega)), fun v hv => ⟨rfl, ?_⟩⟩
    rw [idx_nm (by omega)] at hv; exact hv

structure Bi (gl : Gl) : Prop where
  str : nsIn gl.K mainGlobals "str" = some none
  range : nsIn gl.K mainGlobals "range" = some none
  len : nsIn gl.K mainGlobals "len" = some none
  int : nsIn gl.K mainGlobals "int" = some none
  abs : nsIn gl.K mainGlobals "abs" = some none
  list : nsIn gl.K mainGlobals "list" = some none
  min : nsIn gl.K mainGlobals "min" = some none
  max : nsIn gl.K mainGlobals "max" = some none
  zip : nsIn gl.K mainGlobals "zip" = some none
  enumerate : nsIn gl.K mainGlobals "enumerate" = some none
  sorted : nsIn gl.K mainGlobals "sorted" = some none
  super : nsIn gl.K mainGlobals "super" = some none

theorem sp_lists (T : gl.Ok) (Tb : Bi gl) (Fn : GFn gl "_law_number" (stmtAt 16)) {a : Addr} (F : FnK gl a "_law_lists" (stmtAt 17)) {N pas L M G pl n v} (W : Pls G pl N pas L M) (hv : RL (RPl N pas) G (List.range N) v) (hN : N ≤ 6)
    (hL : ∀ i < N, (L i).length ≤ 100) : CallP gl (n + 3) false (.ref a) [v] G pl fun G' pl' v => pl' = pl ∧ RL (RL RN) G' ((List.range N).map L) v := by
  refine CallP.plain T F ["players"] [("players", v)] (fun _ _ _ _ _ => rfl) (fun La cdv A h => ?_)
  refine .execs_cons (.ret (.compX (R := RPl N pas) (R' := RL RN) RPl.mono (RL.mono RN.mono) [] [] (.name rfl ?_ (.inl rfl))))
  refine ⟨List.range N, fun k => some (L k), hv.itb, by simp; omega, trivial, fun C h x w G'' hx hw l' => ?_, fun v G'' l' hv => ⟨rfl, by rw [fm_map] at hv; exact hv⟩⟩
  obtain ⟨hx, rfl⟩ := hw
  refine .tgt (.st (.tests_nil ⟨rfl, fun h => (by cases h), fun y hy => ?_⟩))
  cases hy
  refine .compX (R := RPl N pas) (R' := RN) RPl.mono RN.mono [] [] (.attr (.name rfl (.prefsW T (W.mono l') hx fun v hv => ?_) (.inl rfl)))
  refine ⟨L x, fun k => some k, hv.itb, by have := hL x hx; omega, trivial, fun C h y w G₃ hy hw l₃ => ?_, fun v G₃ l₃ hv => ⟨by rw [fm_map, List.map_id'] at hv; exact hv, rfl, l₃⟩⟩
  obtain ⟨hy, rfl⟩ := hw
  refine .tgt (.st (.tests_nil ⟨rfl, fun h => (by cases h), fun y' hy' => ?_⟩))
  cases hy'
  refine .gcall T Fn (.sp_cons (.name rfl (.sp_nil ?_) (.inl rfl)))
  exact ⟨n + 2, false, _, fun a F => sp_number T F Tb.str Tb.range ((W.mono l').mono l₃) hy hN, Nat.le_refl _, fun h => (by cases h), fun v G' pl' l h => ⟨h.2, h.1, l⟩⟩

end
end Mine

end
section
namespace Mine
open PySem.SeqAt PySem.SeqRoads2 PySem.MeetsSeq PySem.MeetsSeq2 PySem.MeetsSeq3
open AutoSeq1 (wpAny_loadPart')

theorem remove_loopAt (l : Addr) (items : Array Value) (n : Nat) (x : Value) (e : Value → Bool) (j : Nat) (hj : j < items.size) (hit : e items[j] = true) (k : Nat) (hs1 : items.size ≤ sizeLine) :
    ∀ i : Nat, j - i = k → i ≤ j → (∀ m (hm : m < items.size), i ≤ m → m < j → e items[m] = false) → Meets (Builtin.«list.remove.loop» ⟨[.ref l, x, rawInt i], []⟩)
      (fun A R s => s.heap.get? l = some { cls := .type "list", dict := none, data := .seq items n, slots := #[] } ∧ (∀ y, y ∈ items → EqAt A.in1 s y x (e y)) ∧ R (.ok (.ret .none)) { s with heap := s.heap.update l (Obj.mapSeq fun xs => xs.eraseIdxIfInBounds j) }) := by
  induction k with
  | zero =>
    intro i hk hij hno prog w A R s h
    obtain ⟨hp, g, d, tk, os⟩ := s; obtain ⟨hl, he, h⟩ := h
    have hij' : i = j := by omega
    subst hij'
    wp_walk using wpAny_loadPart' hl
    have hi : items[((i : Nat) : Int).toNat]? = some items[i] := by simp [hj]
    rw [hi]
    refine wpAny_bind (he _ (Array.getElem_mem hj) prog w _ _ ?_)
    rw [hit]
    have hz' : (items.eraseIdxIfInBounds i).size ≤ sizeLine + 1 := Nat.le_trans (size_erased items _) (Nat.le_succ_of_le hs1)
    wp_walk using (wpAny_updateSeq hl rfl (hz := hs1) (_hz' := hz')), wpAny_loadPart' hl
    simpa using h
  | succ k ih =>
    intro i hk hij hno prog w A R s h
    obtain ⟨hp, g, d, tk, os⟩ := s; obtain ⟨hl, he, h⟩ := h
    have hlt : i < items.size := by omega
    wp_walk using wpAny_loadPart' hl
    have hi : items[((i : Nat) : Int).toNat]? = some items[i] := by simp [hlt]
    have hc : ((i : Int) + 1) = ((i + 1 : Nat) : Int) := by push_cast; rfl
    rw [hi]
    refine wpAny_bind (he _ (Array.getElem_mem hlt) prog w _ _ ?_)
    rw [hno i hlt (Nat.le_refl _) (by omega)]
    wp_walk
    rw [hc]
    exact ⟨plainId_quiet plain_remove_loop _, codeAny_builtin entry_remove_loop (by
      rw [Around.under_plainId plain_remove_loop _]
      exact ih (i + 1) (by omega) (by omega) (fun m hm h1 h2 => hno m hm (by omega) h2) prog w A R _ ⟨hl, he, h⟩)⟩

theorem list_removeAt (l : Addr) (items : Array Value) (n : Nat) (x : Value) (e : Value → Bool) (j : Nat) (hj : j < items.size)
    (hit : e items[j] = true) (hno : ∀ m (hm : m < items.size), m < j → e items[m] = false) (hs1 : items.size ≤ sizeLine) :
    Meets (Builtin.«list.remove» ⟨[.ref l, x], []⟩)
      (fun A R s => s.heap.get? l = some { cls := .type "list", dict := none, data := .seq items n, slots := #[] } ∧ (∀ y, y ∈ items → EqAt A.in1 s y x (e y)) ∧ R (.ok (.ret .none)) { s with heap := s.heap.update l (Obj.mapSeq fun xs => xs.eraseIdxIfInBounds j) }) := by
  intro prog w A R s h
  obtain ⟨hp, g, d, tk, os⟩ := s; obtain ⟨hl, he, h⟩ := h
  wp_walk using wpAny_loadPart' hl
  exact ⟨plainId_quiet plain_remove_loop _, codeAny_builtin entry_remove_loop (by
    rw [Around.under_plainId plain_remove_loop _]
    exact remove_loopAt l items n x e j hj hit _ hs1 0 rfl (Nat.zero_le _) (fun m hm _ h2 => hno m hm h2) prog w A R _ ⟨hl, he, h⟩)⟩

section
variable {gl : Gl} {Φ : Fx} {σ : Sta}

theorem TT.remove {i : Nat} {a : Addr} {vs : List Value} {w : Value} {f : Value → Bool} {j k : Nat} {P : Value → Sta → Prop} (hi : σ.own[i]? = some (a, .lst vs)) (hz : vs.length ≤ 900) (he : ∀ v ∈ vs, EqP gl Φ σ k v w (f v)) (hk : k + 2 ≤ 8 * Φ.n)
    (hj : vs.findIdx? f = some j) (x : P .none { σ with own := σ.own.set i (a, .lst (vs.eraseIdx j)) }) : TT gl Φ (PySem.call (.builtin "list.remove") [.ref a, w]) σ P :=
  fun h g d tk os Q E S q => by
    obtain ⟨⟨n, e⟩, _⟩ := S.own _ (mem_of_get hi)
    have e : IsL h a vs.toArray n := e
    obtain ⟨hjl, hjt, hjm⟩ := List.findIdx?_eq_some_iff_getElem.mp hj
    have hc := S.cline
    have S' := S.mutL hi (·.eraseIdxIfInBounds j)
    have hh : (vs.toArray.eraseIdxIfInBounds j).toList = vs.eraseIdx j := by
      unfold Array.eraseIdxIfInBounds
      rw [dif_pos (by simpa using hjl)]
      simp
    rw [hh] at S'
    exact call_meets PySem.F.slot_list_remove ⟨_, e, rfl⟩ PySem.F.entry_list_remove (PySem.F.args_list_remove_2 _ _)
      (list_removeAt a vs.toArray n w f j (by simpa using hjl) (by simpa using hjt) (fun m hm h2 => by have := hjm m h2; simpa using this) (by rw [List.size_toArray]; exact small (by omega)))
      ⟨e, fun y hy => he y (by simpa using hy) h g d tk os _ S (by simp only [Around.in1_units]; omega), q _ _ _ _ S' x⟩

theorem Rs.erase {α : Type} {R : α → Value → Prop} : ∀ {xs : List α} {vs : List Value} (j : Nat), Rs R xs vs → Rs R (xs.eraseIdx j) (vs.eraseIdx j)
  | _, _, _, .nil => by simpa using Rs.nil
  | _, _, 0, .cons h t => by simpa using t
  | _, _, j + 1, .cons h t => by simpa using Rs.cons h (t.erase j)

theorem erase_eq {α : Type} [DecidableEq α] (y : α) : ∀ xs : List α, xs.eraseIdx (xs.idxOf y) = xs.erase y
  | [] => rfl
  | x :: r => by
    rw [List.idxOf_cons, List.erase_cons]
    by_cases h : x = y
    · subst h; simp
    · have : (x == y) = false := beq_eq_false_iff_ne.mpr h
      simp [this, erase_eq y r]

/-- the list is one's own, and stands for xs -/
noncomputable def OwnL {α : Type} (σ : Sta) (R : RP α) (i : Nat) (a : Addr) (xs : List α) : Prop := ∃ vs, σ.own[i]? = some (a, .lst vs) ∧ Rs (R σ.G) xs vs

inductive KRem {α : Type} [DecidableEq α] (gl : Gl) (Φ : Fx) (R : RP α) (P : Value → Sta → Prop) (a : Addr) (w : Value) (σ₂ : Sta) : Prop
  | mk (i : Nat) (vs : List Value) (xs : List α) (y : α) (k : Nat) (hi : σ₂.own[i]? = some (a, .lst vs)) (hr : Rs (R σ₂.G) xs vs) (hz : xs.length ≤ 900) (E : EqR gl Φ σ₂ R k) (U : Uq R σ₂.G) (hw : R σ₂.G y w) (hk : k + 2 ≤ 8 * Φ.n) (hy : y ∈ xs)
    (p : ∀ vs', Rs (R σ₂.G) (xs.erase y) vs' → P .none { σ₂ with own := σ₂.own.set i (a, .lst vs') }) : KRem gl Φ R P a w σ₂
theorem TT.mRemove {α : Type} [DecidableEq α] {R : RP α} {o e : Expr} {apos pos : Pos} {pl : Sem Bool} {P : Value → Sta → Prop}
    (x : TT gl Φ (eval o Φ.env) σ fun ov σ₁ => ∃ a, ov = .ref a ∧ (∃ vs, σ₁.Lst a vs) ∧ TT gl Φ (eval e Φ.env) σ₁ (KRem gl Φ R P a))
    (he : eval (.Call (.Attribute o "remove" apos) [e] [] pos) Φ.env = (do
      let ov ← eval o Φ.env
      standAt apos.atName
      let (f, first) ← holding [ov] (getMethod ov "remove" pl)
      callWith pos f first (backTo pos (starEach [e] Φ.env)) []) := by rfl)
    (he2 : starEach [e] Φ.env = (false, eval e Φ.env) :: starEach [] Φ.env := by rfl) :
    TT gl Φ (eval (.Call (.Attribute o "remove" apos) [e] [] pos) Φ.env) σ P := by
  refine .callm (x.mono ?_) he
  rintro ov σ₁ ⟨a, rfl, ⟨vs₀, L⟩, y⟩
  refine .getM PySem.F.slot_list_remove PySem.F.type_list_remove L ?_
  refine .calleeB (.sp_cons (y.mono ?_) he2) he2 rfl
  rintro w σ₂ ⟨i, vs, xs, y, k, hi, hr, hz, E, U, hw, hk, hy, p⟩
  refine .sp_nil ?_
  obtain ⟨f, f1, f2⟩ := E.f U hr hw
  refine .remove (j := xs.idxOf y) hi (hr.length ▸ hz) f1 hk ?_ (p _ ?_)
  · rw [hr.findIdx (g := fun x => decide (x = y)) f2, List.findIdx?_eq_some_iff_findIdx_eq]
    refine ⟨List.idxOf_lt_length_iff.mpr hy, ?_⟩
    unfold List.idxOf
    congr 1
  · rw [← erase_eq]; exact hr.erase _
theorem TT.mPop {o : Expr} {apos pos : Pos} {pl : Sem Bool} {P : Value → Sta → Prop}
    (x : TT gl Φ (eval o Φ.env) σ fun ov σ₁ => ∃ (a : Addr) (i : Nat) (vs : List Value) (v : Value), ov = .ref a ∧ σ₁.own[i]? = some (a, .lst (vs ++ [v])) ∧ vs.length ≤ 900 ∧ P v { σ₁ with own := σ₁.own.set i (a, .lst vs) })
    (he : eval (.Call (.Attribute o "pop" apos) [] [] pos) Φ.env = (do
      let ov ← eval o Φ.env
      standAt apos.atName
      let (f, first) ← holding [ov] (getMethod ov "pop" pl)
      callWith pos f first (backTo pos (starEach [] Φ.env)) []) := by rfl) :
    TT gl Φ (eval (.Call (.Attribute o "pop" apos) [] [] pos) Φ.env) σ P := by
  refine .callm (x.mono ?_) he
  rintro ov σ₁ ⟨a, i, vs, v, rfl, hi, hz, p⟩
  refine .getM PySem.F.slot_list_pop PySem.F.type_list_pop (.inr (mem_of_get hi)) ?_
  exact .calleeB0 (.pop hi hz p)

end
end Mine

end
section
namespace Mine

theorem Rs.snoc {α : Type} {R : α → Value → Prop} {xs : List α} {x : α} {vs : List Value} (h : Rs R (xs ++ [x]) vs) : ∃ ws w, vs = ws ++ [w] ∧ Rs R xs ws ∧ R x w := by
  induction xs generalizing vs with
  | nil => cases h with | cons a b => cases b; exact ⟨[], _, rfl, .nil, a⟩
  | cons y r ih =>
    cases h with
    | cons a b =>
      obtain ⟨ws, w, rfl, c, d⟩ := ih b
      exact ⟨_ :: ws, w, rfl, .cons a c, d⟩

theorem ifB_t {b : Bool} {X Y : Prop} (h : b = true) (x : X) : if b = true then X else Y := by subst h; exact x
theorem ifB_f {b : Bool} {X Y : Prop} (h : b = false) (y : Y) : if b = true then X else Y := by subst h; exact y

noncomputable def fpDel (f : Nat) (st : (Nat → List Nat) × List Nat) (s : Nat) : (Nat → List Nat) × List Nat :=
  (del2 st.1 s f, if del2 st.1 s f s = [] ∧ s ∈ st.2 then st.2.erase s else st.2)

noncomputable def fpMid (M : Nat → Option Nat) (f p : Nat) : Nat → Option Nat := upd (match M f with | some _ => upd M f none | none => M) f (some p)
noncomputable def fpFree (M : Nat → Option Nat) (f : Nat) (fr : List Nat) : List Nat := match M f with | some c => fr ++ [c] | none => fr
noncomputable def fpSucc (L : Nat → List Nat) (f p : Nat) : List Nat := (L f).drop ((L f).idxOf p + 1)

structure FpOk (Inv : (Nat → List Nat) → (Nat → Option Nat) → List Nat → Prop) (μ : (Nat → List Nat) → (Nat → Option Nat) → List Nat → Nat) (N : Nat) (L : Nat → List Nat) (M : Nat → Option Nat) (fr : List Nat) (p f : Nat) : Prop where
  hp : p < N
  hf : ∃ r, L p = f :: r
  hfN : f < N
  inL : p ∈ L f
  inv : Inv ((fpSucc L f p).foldl (fpDel f) (L, fpFree M f fr)).1 (fpMid M f p) ((fpSucc L f p).foldl (fpDel f) (L, fpFree M f fr)).2
  dec : μ ((fpSucc L f p).foldl (fpDel f) (L, fpFree M f fr)).1 (fpMid M f p) ((fpSucc L f p).foldl (fpDel f) (L, fpFree M f fr)).2 < μ L M (fr ++ [p])

theorem del2_le (L : Nat → List Nat) (i j k : Nat) : (del2 L i j k).length ≤ (L k).length := by
  unfold del2 upd
  split
  · rename_i h; subst h
    refine Nat.le_trans (List.length_filter_le ..) ?_
    split
    · rename_i h; subst h; exact List.length_filter_le ..
    · exact Nat.le_refl _
  · split
    · rename_i h; subst h; exact List.length_filter_le ..
    · exact Nat.le_refl _
theorem fpDel_le (f : Nat) : ∀ (ss : List Nat) (st : (Nat → List Nat) × List Nat), (∀ k, ((ss.foldl (fpDel f) st).1 k).length ≤ (st.1 k).length) ∧ (ss.foldl (fpDel f) st).2.length ≤ st.2.length
  | [], st => ⟨fun _ => Nat.le_refl _, Nat.le_refl _⟩
  | s :: r, st => by
    obtain ⟨a, b⟩ := fpDel_le f r (fpDel f st s)
    refine ⟨fun k => Nat.le_trans (a k) (del2_le ..), Nat.le_trans b ?_⟩
    show (if _ then st.2.erase s else st.2).length ≤ _
    split
    · exact List.length_erase_le
    · exact Nat.le_refl _

section
variable {gl : Gl} {Φ : Fx} {σ : Sta}

theorem sp_first (T : gl.Ok) (Tp : PlFns gl) (Fd : GFn gl "_delete_pair" (stmtAt 2)) {a : Addr} (F : FnK gl a "first_phase" (stmtAt 4)) {Inv : (Nat → List Nat) → (Nat → Option Nat) → List Nat → Prop}
    {μ : (Nat → List Nat) → (Nat → Option Nat) → List Nat → Nat} {N pas L₀ M₀ G pl n v}
    (hI : ∀ L M fr p, Inv L M (fr ++ [p]) → (∀ i, (L i).length ≤ 100) ∧ fr.length ≤ 100 ∧ ∃ f, FpOk Inv μ N L M fr p f)
    (W : Pls G pl N pas L₀ M₀) (hv : RL (RPl N pas) G (List.range N) v) (hN : N ≤ 6) (h0 : Inv L₀ M₀ (List.range N)) :
    CallP gl (n + 4) true (.ref a) [v] G pl fun G' pl' _ => ∃ L M, Inv L M [] ∧ Pls G' pl' N pas L M := by
  refine CallP.plain T F ["players"] [("players", v)] (fun _ _ _ _ _ => rfl) (fun La cdv A h => .nm ?_)
  intro Φ
  obtain ⟨av, vs, rfl, hl, hr⟩ := hv
  have hlen : vs.length ≤ 6 := by rw [hr.length, List.length_range]; exact hN
  refine .execs_cons (.asg (.slice (.name rfl (.part_none (.part_none ⟨av, vs, none, none, rfl, .inl hl, by omega, .none, .none, .inr fun fa hfa => ?_⟩)) (.inl rfl))))
  rw [pick_all]
  refine .st (.execs_cons ((TT.whileZ (P := fun f σ' => match f with | .next => ∃ L M, Inv L M [] ∧ Pls σ'.G σ'.pl N pas L M ∧ σ'.m.lookup ("players" : Str) = some (.ref av) | _ => False)
    (fun k σ' => ∃ G' pl' L M free ws, σ' = ⟨G', [("players", .ref av), ("free_players", .ref fa)], [(fa, .lst ws)], pl'⟩ ∧ Rs (RPl N pas G') free ws ∧ Pls G' pl' N pas L M ∧ Inv L M free ∧ free.length ≤ 200 ∧ μ L M free = k) ?_ _ ⟨G, pl, L₀, M₀, _, vs, rfl, hr, W, h0, by simp; omega, rfl⟩).mono ?_))
  · rintro P₁ P₂ hP₁ hP₂ k σ' ⟨G', pl', L, M, free, ws, rfl, hrs, W', hinv, hfl, rfl⟩
    refine .tplain (.name rfl (.truthyR (R := RPl N pas) (xs := free) ⟨fa, ws, rfl, .inr (List.mem_cons_self ..), hrs⟩ (by omega) ?_) (.inl rfl))
    by_cases hne : free = []
    · subst hne
      simp only [ne_eq, not_true, decide_false, Bool.false_eq_true, if_false]
      exact .execs_nil (hP₂ _ _ ⟨L, M, hinv, W', rfl⟩)
    · simp only [ne_eq, hne, not_false_iff, decide_true, if_true]
      obtain ⟨fr, p, rfl⟩ : ∃ fr p, free = fr ++ [p] := ⟨free.dropLast, free.getLast hne, (List.dropLast_concat_getLast hne).symm⟩
      obtain ⟨hz, hfz, f, O⟩ := hI L M fr p hinv
      obtain ⟨ws, w, rfl, hrs', hw⟩ := hrs.snoc
      clear hrs; have hrs := hrs'; clear hrs'
      obtain ⟨hpN, rfl⟩ := hw
      obtain ⟨rr, hLp⟩ := O.hf
      refine .execs_cons (.asg (.mPop (.name rfl ⟨fa, 0, ws, .ref (pas p), rfl, rfl, by rw [hrs.length]; omega, .st ?_⟩ (.inl rfl))))
      refine .execs_cons (.asg (.mcallW0 T Tp.fav (.name rfl ⟨N, pas, L, M, p, W', hpN, rfl, n + 3, false, _, fun a F => sp_fav T F W' hpN hLp, Nat.le_refl _, fun h => (by cases h), ?_⟩ (.inl rfl))))
      rintro v₁ G₁ pl₁ l₁ ⟨rfl, rfl, hfN⟩
      have W₁ := W'.mono l₁
      replace hrs := Rs.mono RPl.mono l₁ hrs
      -- the middle: what stands before the favourite is matched
      refine .st (.execs_cons (.asg (.attr (.name rfl (.mtW T W₁ hfN (.st (.execs_cons (TT.mono (P := fun fl σ' => fl = .next ∧ ∃ G₂ pl₂ ws₂, Le G₁ G₂ ∧ σ' = ⟨G₂, [("players", .ref av), ("free_players", .ref fa), ("player", .ref (pas p)), ("favourite", .ref (pas f)), ("current", mtV pas (M f))], [(fa, .lst ws₂)], pl₂⟩ ∧
        Rs (RPl N pas G₂) (fpFree M f fr) ws₂ ∧ Pls G₂ pl₂ N pas L (match M f with | some _ => upd M f none | none => M)) (.ite ?_) ?_)))) (.inl rfl)))))
      · cases hM : M f with
        | none =>
          refine .tcmp (.name rfl (.nonev (.isnotNone (.truthy_bool ?_))) (.inl rfl))
          refine .execs_nil ⟨rfl, G₁, _, ws, Le.rfl, rfl, ?_, ?_⟩
          · unfold fpFree; rw [hM]; exact hrs
          · exact W₁
        | some c =>
          have hcN : c < N := by obtain ⟨q, _, _, _, _, _, g⟩ := W₁.row f hfN; exact g c hM
          refine .tcmp (.name rfl (.nonev (.isnotRef (.truthy_bool ?_))) (.inl rfl))
          refine .execs_cons (.expr (.mcallW0 T Tp.unmatc (.name rfl ⟨N, pas, L, M, f, W₁, hfN, rfl, n + 3, true, _, fun a F => sp_unmatch T F W₁ hfN, Nat.le_refl _, fun _ => rfl, ?_⟩ (.inl rfl))))
          intro v₂ G₂ pl₂ l₂ W₂
          replace hrs := Rs.mono RPl.mono l₂ hrs
          refine .execs_cons (.expr (.mAppend (.name rfl ⟨fa, rfl, ⟨ws, .inr (List.mem_cons_self ..)⟩, .name rfl ⟨0, ws, rfl, by rw [hrs.length]; omega, ?_⟩ (.inl rfl)⟩ (.inl rfl))))
          refine .execs_nil ⟨rfl, G₂, pl₂, _, l₂, rfl, ?_, W₂⟩
          unfold fpFree; rw [hM]; exact hrs.append (.one ⟨hcN, rfl⟩)
      · rintro fl σ' ⟨rfl, G₂, pl₂, ws₂, l₂, rfl, hrs₂, W₂⟩
        show TT gl _ _ _ _
        refine .execs_cons (.expr (.mcallW T Tp.matc (.name rfl ⟨N, pas, L, _, f, W₂, hfN, rfl, .sp_cons (.name rfl (.sp_nil ⟨n + 3, true, _, fun a F => sp_match T F W₂ hfN hpN, Nat.le_refl _, fun _ => rfl, ?_⟩) (.inl rfl))⟩ (.inl rfl))))
        intro v₃ G₃ pl₃ l₃ W₃
        replace hrs₂ := Rs.mono RPl.mono l₃ hrs₂
        have hfl2 : (fpFree M f fr).length ≤ 101 := by
          unfold fpFree; split
          · simp; omega
          · omega
        have hsucc : CallP gl (n + 3) false (.ref 0) [] G₃ pl₃ (fun _ _ _ => True) ∨ True := .inr trivial
        refine .execs_cons (.forZ (R := RPl N pas) RPl.mono (.mcallW0 T Tp.succ (.name rfl ⟨N, pas, L, _, f, W₃, hfN, rfl, n + 3, false, _, fun a F => sp_succ (n := n + 1) T F W₃ hfN (hz f) (j := p) (by unfold upd; simp) O.inL, Nat.le_refl _, fun h => (by cases h), ?_⟩ (.inl rfl))))
        rintro v₄ G₄ pl₄ l₄ ⟨rfl, hss⟩
        refine ⟨fpSucc L f p, fun i σ' => ∃ G' pl' ws', σ' = ⟨G', [("players", .ref av), ("free_players", .ref fa), ("player", .ref (pas p)), ("favourite", .ref (pas f)), ("current", mtV pas (M f))], [(fa, .lst ws')], pl'⟩ ∧
          Rs (RPl N pas G') (((fpSucc L f p).take i).foldl (fpDel f) (L, fpFree M f fr)).2 ws' ∧ Pls G' pl' N pas (((fpSucc L f p).take i).foldl (fpDel f) (L, fpFree M f fr)).1 (fpMid M f p), hss.itb, ?_, ?_, ?_, ?_⟩
        · unfold fpSucc; rw [List.length_drop]; have := hz f; omega
        · exact ⟨G₄, _, ws₂, rfl, Rs.mono RPl.mono l₄ hrs₂, W₃.mono l₄⟩
        · rintro P₄ hP₄ ia c i s w σ' hs hw l₅ ⟨G₅, pl₅, ws₅, rfl, hrs₅, W₅⟩
          obtain ⟨hsN, rfl⟩ := hw
          have htake : (fpSucc L f p).take (i + 1) = (fpSucc L f p).take i ++ [s] := by rw [List.take_add_one, hs]; rfl
          generalize hst : ((fpSucc L f p).take i).foldl (fpDel f) (L, fpFree M f fr) = st at hrs₅ W₅
          have hfold : ((fpSucc L f p).take (i + 1)).foldl (fpDel f) (L, fpFree M f fr) = fpDel f st s := by rw [htake, List.foldl_append, hst]; rfl
          have hle := fpDel_le f ((fpSucc L f p).take i) (L, fpFree M f fr)
          rw [hst] at hle
          have hz5 : ∀ k, (st.1 k).length ≤ 100 := fun k => Nat.le_trans (hle.1 k) (hz k)
          have hf5 : st.2.length ≤ 101 := Nat.le_trans hle.2 hfl2
          refine .tgt (.st ?_)
          refine .execs_cons (.expr (.gcall T Fd (.sp_cons (.name rfl (.sp_cons (.name rfl (.sp_nil ⟨n + 3, true, _, fun a F => sp_delete T Tp F W₅ hsN hfN hz5, Nat.le_refl _, fun _ => rfl, ?_⟩) (.inl rfl))) (.inl rfl)))))
          intro v₆ G₆ pl₆ l₆ W₆
          replace hrs₅ := Rs.mono RPl.mono l₆ hrs₅
          refine .execs_cons (.weak (.ite ?_))
          refine .tand (.tnot (.tplain (.attr (.name rfl (.prefsW T W₆ hsN fun pv hpv => .truthyR (R := RPl N pas) hpv.ls (Nat.le_trans (del2_le ..) (Nat.le_trans (hz5 s) (by omega))) ?_) (.inl rfl)))))
          have hend : ∀ (σ₇ : Sta) ws₇, σ₇ = ⟨G₆, [("players", .ref av), ("free_players", .ref fa), ("player", .ref (pas p)), ("favourite", .ref (pas f)), ("current", mtV pas (M f)), ("successor", .ref (pas s))], [(ia, c), (fa, .lst ws₇)], pl₆⟩ →
              Rs (RPl N pas G₆) (fpDel f st s).2 ws₇ → ∃ m', SubM m' σ₇.m ∧ ∃ σc, { σ₇ with m := m' } = wi ia c σc ∧ Le G₅ σc.G ∧ ∃ G' pl' ws', σc = ⟨G', [("players", .ref av), ("free_players", .ref fa), ("player", .ref (pas p)), ("favourite", .ref (pas f)), ("current", mtV pas (M f))], [(fa, .lst ws')], pl'⟩ ∧
                  Rs (RPl N pas G') (((fpSucc L f p).take (i + 1)).foldl (fpDel f) (L, fpFree M f fr)).2 ws' ∧ Pls G' pl' N pas (((fpSucc L f p).take (i + 1)).foldl (fpDel f) (L, fpFree M f fr)).1 (fpMid M f p) := by
            rintro σ₇ ws₇ rfl h7
            refine ⟨[("players", .ref av), ("free_players", .ref fa), ("player", .ref (pas p)), ("favourite", .ref (pas f)), ("current", mtV pas (M f))], ⟨rfl, rfl, rfl, rfl, rfl, trivial⟩, ⟨G₆, [("players", .ref av), ("free_players", .ref fa), ("player", .ref (pas p)), ("favourite", .ref (pas f)), ("current", mtV pas (M f))], [(fa, .lst ws₇)], pl₆⟩, rfl, l₆, G₆, pl₆, ws₇, rfl, ?_, ?_⟩
            · rw [hfold]; exact h7
            · rw [hfold]; exact W₆
          by_cases hnil : del2 st.1 s f s = []
          · refine ifB_t (by simp [hnil]) ?_
            refine .tand (.tcmp (.name rfl (.name rfl (.inR (R := RPl N pas) (xs := st.2) (k := 0) ⟨fa, ws₅, rfl, .inr (List.mem_cons_of_mem _ (List.mem_cons_self ..)), hrs₅⟩ (EqR.rpl T W₆) (Uq.rpl W₆) ⟨hsN, rfl⟩ (by show 0 + 2 ≤ 8 * (n + 3); omega) (.truthy_bool ?_)) (.inl rfl)) (.inl rfl)))
            by_cases hmem : s ∈ st.2
            · refine ifB_t (by simp [hmem]) (.tand_nil (ifB_t rfl ?_))
              refine .execs_cons (.expr (.mRemove (.name rfl ⟨fa, rfl, ⟨ws₅, .inr (List.mem_cons_of_mem _ (List.mem_cons_self ..))⟩, .name rfl ⟨1, ws₅, st.2, s, 0, rfl, hrs₅, by omega, EqR.rpl T W₆, Uq.rpl W₆, ⟨hsN, rfl⟩, by show 0 + 2 ≤ 8 * (n + 3); omega, hmem, fun ws₈ hrs₈ => ?_⟩ (.inl rfl)⟩ (.inl rfl))))
              obtain ⟨m', sm, e⟩ := hend _ ws₈ rfl (by unfold fpDel; rw [if_pos ⟨hnil, hmem⟩]; exact hrs₈)
              exact .execs_nil ⟨m', sm, .execs_nil (hP₄ _ _ _ _ _ _ e)⟩
            · refine ifB_f (by simp [hmem]) (ifB_f rfl ?_)
              obtain ⟨m', sm, e⟩ := hend _ ws₅ rfl (by unfold fpDel; rw [if_neg (fun h => hmem h.2)]; exact hrs₅)
              exact .execs_nil ⟨m', sm, .execs_nil (hP₄ _ _ _ _ _ _ e)⟩
          · refine ifB_f (by simp [hnil]) (ifB_f rfl ?_)
            obtain ⟨m', sm, e⟩ := hend _ ws₅ rfl (by unfold fpDel; rw [if_neg (fun h => hnil h.1)]; exact hrs₅)
            exact .execs_nil ⟨m', sm, .execs_nil (hP₄ _ _ _ _ _ _ e)⟩
        · rintro σ' l₅ ⟨G₅, pl₅, ws₅, rfl, hrs₅, W₅⟩
          rw [List.take_length] at hrs₅ W₅
          have hle := fpDel_le f (fpSucc L f p) (L, fpFree M f fr)
          exact .weak (.execs_nil ⟨[("players", .ref av), ("free_players", .ref fa)], ⟨rfl, rfl, trivial⟩, hP₁ _ _ _ ⟨_, O.dec, G₅, pl₅, _, _, _, ws₅, rfl, hrs₅, W₅, O.inv, Nat.le_trans hle.2 (Nat.le_trans hfl2 (by decide)), rfl⟩⟩)
  · rintro fl σ' hp
    cases fl with
    | next =>
      obtain ⟨L, M, hinv, W', hm⟩ := hp
      exact .execs_cons (.ret (.name hm ⟨L, M, hinv, W'⟩ (.inl rfl)))
    | _ => exact hp.elim

end
end Mine

end
section
namespace Mine
open PySem.SeqAt PySem.SeqRoads2 PySem.MeetsSeq PySem.MeetsSeq2 PySem.MeetsSeq3

noncomputable abbrev IsZip2 (h : Heap) (z TI TO : Addr) (T : Addr) (b : Bool) : Prop :=
  h.get? z = some { cls := .type "zip", dict := none, data := .fields #[rawInt T, .bool b, .bool false, .ref TI, .ref TO], slots := #[] }

section
variable {prog : Program} {w : World} {A : Around} {E : Value → Shared → Prop} {s : Shared}

theorem wpAny_loadIfAlive {a : Addr} {o : Obj} {Q : Option Obj → Shared → Prop} (h : s.heap.get? a = some o) (q : Q (some o) s) : wpAny (model prog w) A (loadIfAlive a) Q E s := by
  intro Γ p _
  show Sem.wp (model prog w) Γ (.loadIfAlive a Sem.pure) _ _ p s
  rw [Sem.wp_loadIfAlive, h]
  exact q

theorem zip_free2 {z TI TO T : Addr} {b : Bool} {o : Obj} {Q : Bool → Shared → Prop} (hz : IsZip2 s.heap z TI TO T b) (hT : s.heap.get? T = some o)
    (hQ : ∀ h', IsZip2 h' z TI TO T true → Heap.SameBut z s.heap h' → Q false { s with heap := h' }) : wpAny (model prog w) A (Builtin.SmallTypes.ownedTupleIsFree (.ref z)) Q E s := by
  unfold Builtin.SmallTypes.ownedTupleIsFree
  refine wpAny_bind (wpAny_field hz rfl (x := rawInt T) rfl ?_)
  show wpAny _ _ (loadIfAlive (T : Int).toNat >>= _) _ _ _
  refine wpAny_bind (wpAny_loadIfAlive (by simpa using hT) ?_)
  simp only [Option.isNone_some, Bool.false_eq_true, if_false]
  refine wpAny_bind (wpAny_field hz rfl (x := .bool b) rfl ?_)
  cases b with
  | true =>
    rw [if_neg (by decide)]
    exact wpAny_pure (hQ _ hz ⟨rfl, fun _ _ => rfl⟩)
  | false =>
    rw [if_pos (by decide)]
    exact wpAny_bind (wpAny_setField_rec hz (by simp) fun h₁ hz₁ hs₁ => wpAny_pure (hQ _ hz₁ hs₁))

theorem zip_next_item2 {z TI TO i1 i2 l1 l2 T : Addr} {b : Bool} {oT : Obj} {k1 k2 : Nat} {xs ys : Array Value} {x y : Value} {Q : Value → Shared → Prop} (D : ZipApart z TI TO i1 i2 l1 l2)
    (hz : IsZip2 s.heap z TI TO T b) (hTI : IsPair s.heap TI (.ref i1) (.ref i2)) (hT : s.heap.get? T = some oT)
    (h1 : s.heap.IsListIter i1 l1 k1) (h2 : s.heap.IsListIter i2 l2 k2) (hl1 : s.heap.IsList l1 xs) (hl2 : s.heap.IsList l2 ys) (hx : xs[k1]? = some x) (hy : ys[k2]? = some y)
    (hQ : ∀ h', IsZip2 h' z TI TO T true → h'.IsListIter i1 l1 (k1 + 1) → h'.IsListIter i2 l2 (k2 + 1) → IsPair h' s.heap.objs.size x y →
      (∀ c o, c ≠ z → c ≠ i1 → c ≠ i2 → s.heap.get? c = some o → h'.get? c = some o) → Q (.ref s.heap.objs.size) { s with heap := h' }) :
    wpAny (model prog w) A (Builtin.«zip.__next__» ⟨[.ref z], []⟩) (fun fin s' => ∃ v, fin = .done (.ret v) ∧ Q v s') E s := by
  show wpAny _ _ (field (.ref z) 2 >>= _) _ _ _
  refine wpAny_bind (wpAny_field hz rfl (x := .bool false) rfl ?_)
  show wpAny _ _ (field (.ref z) 3 >>= _) _ _ _
  refine wpAny_bind (wpAny_field hz rfl (x := .ref TI) rfl ?_)
  refine wpAny_bind (wpAny_seqItems hTI rfl ?_)
  show wpAny _ _ (Builtin.SmallTypes.ownedTupleIsFree (.ref z) >>= _) _ _ _
  refine wpAny_bind (zip_free2 hz hT fun h₁ hz₁ hs₁ => ?_)
  simp only [Bool.false_eq_true, if_false]
  rw [← Array.forIn_toList]
  simp only [List.forIn_cons, List.forIn_nil]
  have up₁ := hs₁.extBut
  refine wpAny_bind (wpAny_bind (wpAny_bind (wpAny_holding ?_)))
  show wpAny _ _ (Builtin.SmallTypes.nextOf (.ref i1) >>= _) _ _ _
  refine wpAny_bind (wpAny_nextOf_list_item (h1.extBut up₁ D.i1z) (hl1.extBut up₁ D.l1z) hx fun h₂ h1₂ hs₂ => wpAny_pure (wpAny_pure ?_))
  dsimp only
  refine wpAny_bind (wpAny_bind (wpAny_holding ?_))
  show wpAny _ _ (Builtin.SmallTypes.nextOf (.ref i2) >>= _) _ _ _
  refine wpAny_bind (wpAny_nextOf_list_item ((h2.extBut up₁ D.i2z).extBut hs₂.extBut D.i12.symm) ((hl2.extBut up₁ D.l2z).extBut hs₂.extBut D.l2i1) hy fun h₃ h2₃ hs₃ => wpAny_pure (wpAny_pure (wpAny_pure ?_)))
  dsimp only
  refine wpAny_bind (wpAny_newTuple ?_ (small (by simp)))
  have hsz : h₃.objs.size = s.heap.objs.size := by rw [hs₃.1, hs₂.1, hs₁.1]
  refine wpAny_pure ⟨_, rfl, ?_⟩
  show Q (.ref h₃.objs.size) _
  rw [hsz]
  refine hQ _ (Heap.get?_push_of_some _ (hs₃.extBut _ _ D.i2z.symm (hs₂.extBut _ _ D.i1z.symm hz₁))) ?_ ?_ ?_ fun c o c1 c2 c3 e => Heap.get?_push_of_some _ (hs₃.extBut _ _ c3 (hs₂.extBut _ _ c2 (up₁ _ _ c1 e)))
  · exact (h1₂.extBut hs₃.extBut D.i12).at fun o e => Heap.get?_push_of_some _ e
  · exact h2₃.at fun o e => Heap.get?_push_of_some _ e
  · rw [← hsz]; exact Heap.get?_push_size _ rfl

theorem zip_next_end2 {z TI TO i1 i2 l1 l2 T : Addr} {b : Bool} {oT : Obj} {k1 k2 : Nat} {xs ys : Array Value} {Q : Fin → Shared → Prop} (hh : A.handled = none) (D : ZipApart z TI TO i1 i2 l1 l2)
    (hz : IsZip2 s.heap z TI TO T b) (hTI : IsPair s.heap TI (.ref i1) (.ref i2)) (hT : s.heap.get? T = some oT)
    (h1 : s.heap.IsListIter i1 l1 k1) (h2 : s.heap.IsListIter i2 l2 k2) (hl1 : s.heap.IsList l1 xs) (hl2 : s.heap.IsList l2 ys) (hx : xs[k1]? = none)
    (hE : ∀ h' e, (∀ c o, c ≠ z → c ≠ i1 → c ≠ i2 → s.heap.get? c = some o → h'.get? c = some o) → (∃ o, h'.get? e = some o ∧ o.cls = .type "StopIteration") → E (.ref e) { s with heap := h' }) :
    wpAny (model prog w) A (Builtin.«zip.__next__» ⟨[.ref z], []⟩) Q E s := by
  show wpAny _ _ (field (.ref z) 2 >>= _) _ _ _
  refine wpAny_bind (wpAny_field hz rfl (x := .bool false) rfl ?_)
  show wpAny _ _ (field (.ref z) 3 >>= _) _ _ _
  refine wpAny_bind (wpAny_field hz rfl (x := .ref TI) rfl ?_)
  refine wpAny_bind (wpAny_seqItems hTI rfl ?_)
  show wpAny _ _ (Builtin.SmallTypes.ownedTupleIsFree (.ref z) >>= _) _ _ _
  refine wpAny_bind (zip_free2 hz hT fun h₁ hz₁ hs₁ => ?_)
  simp only [Bool.false_eq_true, if_false]
  rw [← Array.forIn_toList]
  simp only [List.forIn_cons, List.forIn_nil]
  have up₁ := hs₁.extBut
  refine wpAny_bind (wpAny_bind (wpAny_bind (wpAny_holding ?_)))
  show wpAny _ _ (Builtin.SmallTypes.nextOf (.ref i1) >>= _) _ _ _
  refine wpAny_bind (wpAny_nextOf_list_end hh (h1.extBut up₁ D.i1z) (hl1.extBut up₁ D.l1z) hx fun h₂ e hs₂ he => ?_)
  exact hE h₂ e (fun c o c1 c2 c3 x => hs₂ _ _ c2 (up₁ _ _ c1 x)) he

/-- the zip after i items: its two iterators stand at i -/
structure ZAt (h : Heap) (z TI TO i1 i2 l1 l2 : Addr) (xs ys : Array Value) (i : Nat) : Prop where
  zz : (i = 0 ∧ IsZip h z TI TO .none) ∨ ∃ T b o, IsZip2 h z TI TO T b ∧ h.get? T = some o ∧ T ≠ z ∧ T ≠ TO ∧ T ≠ i1 ∧ T ≠ i2
  ti : IsPair h TI (.ref i1) (.ref i2)
  to : ∃ a b, IsPair h TO a b
  a1 : h.IsListIter i1 l1 i
  a2 : h.IsListIter i2 l2 i
  b1 : h.IsList l1 xs
  b2 : h.IsList l2 ys
theorem ZAt.upd {h : Heap} {z TI TO i1 i2 l1 l2 : Addr} {xs ys : Array Value} {i : Nat} (Z : ZAt h z TI TO i1 i2 l1 l2 xs ys i) {S : Addr} {f : Obj → Obj} (hS : ∀ c, (c = z ∨ c = TI ∨ c = TO ∨ c = i1 ∨ c = i2 ∨ c = l1 ∨ c = l2) → c ≠ S)
    (hT : ∀ T b, IsZip2 h z TI TO T b → T ≠ S) : ZAt (h.update S f) z TI TO i1 i2 l1 l2 xs ys i := by
  have k : ∀ c o, c ≠ S → h.get? c = some o → (h.update S f).get? c = some o := fun c o hc e => (Heap.get?_update_other _ _ (Ne.symm hc)).trans e
  refine ⟨?_, k _ _ (hS _ (by simp)) Z.ti, ?_, Z.a1.at fun o e => k _ o (hS _ (by simp)) e, Z.a2.at fun o e => k _ o (hS _ (by simp)) e, Z.b1.at fun o e => k _ o (hS _ (by simp)) e, Z.b2.at fun o e => k _ o (hS _ (by simp)) e⟩
  · rcases Z.zz with ⟨a, b⟩ | ⟨T, b, o, a, c, d⟩
    · exact .inl ⟨a, k _ _ (hS _ (by simp)) b⟩
    · exact .inr ⟨T, b, o, k _ _ (hS _ (by simp)) a, k _ _ (hT _ _ a) c, d⟩
  · obtain ⟨a, b, e⟩ := Z.to; exact ⟨a, b, k _ _ (hS _ (by simp)) e⟩

theorem zip_pyNext_item {z TI TO i1 i2 l1 l2 : Addr} {xs ys : Array Value} {x y : Value} {i : Nat} {Q : Option Value → Shared → Prop} (D : ZipApart z TI TO i1 i2 l1 l2) (Z : ZAt s.heap z TI TO i1 i2 l1 l2 xs ys i) (hx : xs[i]? = some x) (hy : ys[i]? = some y)
    (hQ : ∀ h', ZAt h' z TI TO i1 i2 l1 l2 xs ys (i + 1) → IsPair h' s.heap.objs.size x y → (∀ T b, IsZip2 h' z TI TO T b → T = s.heap.objs.size ∨ IsZip2 s.heap z TI TO T b ∨ ∃ b', IsZip2 s.heap z TI TO T b') →
      (∀ c o, c ≠ z → c ≠ TO → c ≠ i1 → c ≠ i2 → s.heap.get? c = some o → h'.get? c = some o) → Q (some (.ref s.heap.objs.size)) { s with heap := h' }) : wpAny (model prog w) A (pyNext (.ref z)) Q E s := by
  obtain ⟨a, b, hTO⟩ := Z.to
  have lt : ∀ {c o}, s.heap.get? c = some o → s.heap.objs.size ≠ c := fun e => Nat.ne_of_gt (Heap.lt_size e)
  rcases Z.zz with ⟨_, hz⟩ | ⟨T, bb, o, hz, hT, d1, d2, d3, d4⟩
  · refine wpAny_pyNext_zip_item D hz Z.ti hTO Z.a1 Z.a2 Z.b1 Z.b2 hx hy fun h' c1 c2 c3 c4 c5 c6 hk => ?_
    refine hQ h' ⟨.inr ⟨_, false, _, c1, c5, lt hz, lt hTO, ?_, ?_⟩, hk _ _ D.TIz D.TITO D.TIi1 D.TIi2 Z.ti, ⟨_, _, c2⟩, c3, c4, Z.b1.at fun o e => hk _ o D.l1z D.l1TO D.l1i1 D.l1i2 e, Z.b2.at fun o e => hk _ o D.l2z D.l2TO D.l2i1 D.l2i2 e⟩ c5 (fun T b e => ?_) hk
    · obtain ⟨_, e, _⟩ := Z.a1; exact lt e
    · obtain ⟨_, e, _⟩ := Z.a2; exact lt e
    · have e1 : h'.get? z = _ := c1
      have e2 : h'.get? z = _ := e
      rw [e1] at e2
      left
      have := congrArg (fun o : Option Obj => o.map fun o => match o.data with | .fields a => a[0]? | _ => none) e2
      simp [rawInt] at this
      exact (Int.ofNat_inj.mp this).symm
  · have hTT : s.TypeIs (.ref z) "zip" := ⟨_, hz, rfl⟩
    unfold pyNext
    refine wpAny_bind (wpAny_attempt (wpAny_callSpecial?_slot (name := Str.ofString "__next__") hTT F.slot_zip_next
      (wpAny_call_entry F.slot_zip_next hTT F.entry_zip_next
        (zip_next_item2 D hz Z.ti hT Z.a1 Z.a2 Z.b1 Z.b2 hx hy fun h' a1 a2 a3 a4 hk => wpAny_pure (hQ h' ?_ a4 (fun T' b' e => ?_) fun c o c1 c2 c3 c4 e => hk c o c1 c3 c4 e)) (F.args_zip_next_1 _))))
    · exact ⟨.inr ⟨T, true, o, a1, hk _ _ d1 d3 d4 hT, d1, d2, d3, d4⟩, hk _ _ D.TIz D.TIi1 D.TIi2 Z.ti, ⟨_, _, hk _ _ D.TOz D.TOi1 D.TOi2 hTO⟩, a2, a3, Z.b1.at fun o e => hk _ o D.l1z D.l1i1 D.l1i2 e, Z.b2.at fun o e => hk _ o D.l2z D.l2i1 D.l2i2 e⟩
    · have e1 : h'.get? z = _ := a1
      have e2 : h'.get? z = _ := e
      rw [e1] at e2
      have := congrArg (fun o : Option Obj => o.map fun o => match o.data with | .fields a => a[0]? | _ => none) e2
      simp [rawInt] at this
      have : T = T' := Int.ofNat_inj.mp this
      subst this
      exact .inr (.inr ⟨bb, hz⟩)

theorem zip_pyNext_end {z TI TO i1 i2 l1 l2 : Addr} {xs ys : Array Value} {i : Nat} {Q : Option Value → Shared → Prop} (hh : A.handled = none) (D : ZipApart z TI TO i1 i2 l1 l2) (Z : ZAt s.heap z TI TO i1 i2 l1 l2 xs ys i) (hx : xs[i]? = none)
    (hQ : ∀ h', (∀ c o, c ≠ z → c ≠ TO → c ≠ i1 → c ≠ i2 → s.heap.get? c = some o → h'.get? c = some o) → Q none { s with heap := h' }) : wpAny (model prog w) A (pyNext (.ref z)) Q E s := by
  obtain ⟨a, b, hTO⟩ := Z.to
  rcases Z.zz with ⟨_, hz⟩ | ⟨T, bb, o, hz, hT, d1, d2, d3, d4⟩
  · exact wpAny_pyNext_zip_end hh D hz Z.ti hTO Z.a1 Z.a2 Z.b1 Z.b2 (.inl hx) hQ
  · have hTT : s.TypeIs (.ref z) "zip" := ⟨_, hz, rfl⟩
    unfold pyNext
    refine wpAny_bind (wpAny_attempt (wpAny_callSpecial?_slot (name := Str.ofString "__next__") hTT F.slot_zip_next
      (wpAny_call_entry F.slot_zip_next hTT F.entry_zip_next (zip_next_end2 hh D hz Z.ti hT Z.a1 Z.a2 Z.b1 Z.b2 hx fun h' e hk he => ?_) (F.args_zip_next_1 _))))
    obtain ⟨o, ho, hc⟩ := he
    refine wpAny_bind (wpAny_isInstance (T := "StopIteration") (b := true) ⟨o, ho, hc⟩ isSubtype_stop ?_)
    exact wpAny_pure (hQ _ fun c o c1 c2 c3 c4 e => hk c o c1 c3 c4 e)

end
end Mine

end
section
namespace Mine
open PySem.SeqAt PySem.SeqRoads2 PySem.MeetsSeq PySem.MeetsSeq2 PySem.MeetsSeq3

/-- G with everything new frozen -/
noncomputable def growG (G : PM) (h h' : Heap) : PM := fun a => match h.get? a with | some _ => G a | none => h'.get? a
section
variable {gl : Gl} {Φ : Fx} {σ : Sta}

theorem St.newG {X : List (Addr × Cl)} {h h' : Heap} (S : St gl Φ { σ with own := X ++ σ.own } h) (hk : ∀ b o, (∀ e ∈ X, e.1 ≠ b) → h.get? b = some o → h'.get? b = some o)
    (hnc : ∀ e ∈ X, ∀ v, ¬ ∃ o, h.get? e.1 = some o ∧ o.data = .cell v) : St gl Φ { σ with G := growG σ.G h h' } h' := by
  have nX : ∀ {b o}, σ.G b = some o → ∀ e ∈ X, e.1 ≠ b := fun e q hq z => by
    have := (S.own _ (List.mem_append_left _ hq)).2.2.1
    have this : σ.G q.1 = none := this
    rw [z, e] at this; cases this
  have nX0 : ∀ {b o}, Φ.h₀.get? b = some o → ∀ e ∈ X, e.1 ≠ b := fun e q hq z => by
    have := (S.own _ (List.mem_append_left _ hq)).2.1
    rw [z, e] at this; cases this
  have gOld : ∀ {b o}, h.get? b = some o → growG σ.G h h' b = σ.G b := fun e => by unfold growG; rw [e]
  have gNew : ∀ {b}, h.get? b = none → growG σ.G h h' b = h'.get? b := fun e => by unfold growG; rw [e]
  have le : Le σ.G (growG σ.G h h') := fun b o e => (gOld (S.sub b o e)).trans e
  have sub : Le (growG σ.G h h') h'.get? := fun b o e => by
    cases q : h.get? b with
    | none => rw [gNew q] at e; exact e
    | some o' =>
      rw [gOld q] at e
      exact hk b o (nX e) (S.sub b o e)
  obtain ⟨m₀, hm₀, hl⟩ := S.loc
  have hL : ∀ e ∈ X, e.1 ≠ Φ.env.locals := fun e he => (S.own _ (List.mem_append_left _ he)).2.2.2.1
  have hC : Φ.fc = true → ∀ e ∈ X, ∀ c ∈ Φ.env.cells, e.1 ≠ c.2 := fun f e he => (S.own _ (List.mem_append_left _ he)).2.2.2.2 f
  have cellX : ∀ {c v}, h.IsCell c v → ∀ e ∈ X, e.1 ≠ c := fun ⟨o, e, d⟩ q hq z => hnc q hq _ ⟨o, z ▸ e, d⟩
  have keepC : ∀ {c v}, h.IsCell c v → h'.IsCell c v := fun x => let ⟨o, e, d⟩ := id x; ⟨o, hk _ _ (cellX x) e, d⟩
  have nd : ((X ++ σ.own).map (·.1)).Nodup := S.ownd
  rw [List.map_append, List.nodup_append] at nd
  have ox : ∀ e ∈ X, ∀ q ∈ σ.own, e.1 ≠ q.1 := fun e he q hq => nd.2.2 _ (List.mem_map.mpr ⟨e, he, rfl⟩) _ (List.mem_map.mpr ⟨q, hq, rfl⟩)
  refine ⟨sub, S.top.trans le, S.room, fun a o e => ?_, S.le0.trans le, fun a o e => ?_, fun a o n e => hk a o (nX0 e) (S.keep a o n e), S.kf, ⟨m₀, hm₀.at' fun o e => hk _ _ hL e, hl⟩, fun x v e n => ?_, fun f => ?_, fun f => ?_, fun e he => ?_, nd.2.1,
    ⟨fun p hp => ?_, S.pl.nd, S.pl.np⟩, S.pll, S.pln, fun e he p hp => S.ox e (List.mem_append_right _ he) p hp⟩
  · obtain ⟨o', e'⟩ := S.live a o e
    exact (gOld e').trans (S.old a o e)
  · obtain ⟨o', e'⟩ := S.live a o e
    exact ⟨o', hk _ _ (nX0 e) e'⟩
  · obtain ⟨c0, e1, e2⟩ := S.cel x v e n
    exact ⟨c0, e1, keepC e2⟩
  · obtain ⟨f1, f2⟩ := S.fr f
    obtain ⟨o, es, ep, e, r⟩ := hm₀
    exact ⟨f1, (gOld e).trans f2⟩
  · obtain ⟨f3, f4⟩ := S.fc f
    refine ⟨fun x hx => ?_, f4⟩
    obtain ⟨g1, g2, v, g3⟩ := f3 x hx
    obtain ⟨o, e, _⟩ := id g3
    exact ⟨g1, (gOld e).trans g2, v, keepC g3⟩
  · obtain ⟨b1, b2, b3, b4⟩ := S.own _ (List.mem_append_right _ he)
    obtain ⟨o, q⟩ := b1.alive
    exact ⟨b1.of fun o q => hk _ _ (fun z hz => ox z hz e he) q, b2, (gOld q).trans b3, b4⟩
  · obtain ⟨b1, b2, ⟨es, n, b3, b4⟩⟩ := S.pl.each p hp
    exact ⟨le _ _ b1, (gOld b3).trans b2, ⟨es, n, hk _ _ (fun z hz => S.ox z (List.mem_append_left _ hz) p hp) b3, b4⟩⟩

theorem TT.newG {α : Type} {t : Sem α} {P : α → Sta → Prop} {X : List (Addr × Cl)}
    (hw : ∀ h g d tk os (Q : α → Shared → Prop) (E : Value → Shared → Prop), St gl Φ { σ with own := X ++ σ.own } h →
      (∀ a h' tk', (∀ b o, (∀ e ∈ X, e.1 ≠ b) → h.get? b = some o → h'.get? b = some o) → (∀ G', Le σ.G G' → (∀ b o, h.get? b = none → h'.get? b = some o → G' b = some o) → P a { σ with G := G' }) → Q a ⟨h', g, d, tk', os⟩) →
      wpAny (model gl.prog gl.w) Φ.A t Q E ⟨h, g, d, tk, os⟩)
    (hnc : ∀ h, St gl Φ { σ with own := X ++ σ.own } h → ∀ e ∈ X, ∀ v, ¬ ∃ o, h.get? e.1 = some o ∧ o.data = .cell v) : TT gl Φ t { σ with own := X ++ σ.own } P :=
  fun h g d tk os Q E S q => hw h g d tk os Q E S fun a h' tk' hk p => by
    have S' := S.newG hk (hnc h S)
    refine q _ _ _ _ S' (p _ (fun b o e => ?_) fun b o e e' => ?_)
    · unfold growG; rw [S.sub b o e]; exact e
    · unfold growG; rw [e]; exact e'

/-! list(range(n)) -/
theorem TT.listrange {r : Addr} {n : Nat} {P : Value → Sta → Prop} (R : IsRng σ.G r n) (hn : n ≤ 1000) (p : ∀ v G', Le σ.G G' → RL RN G' (List.range n) v → P v { σ with G := G' }) :
    TT gl Φ (PySem.call (.type "list") [.ref r]) σ P := by
  refine TT.newG (X := []) (σ := σ) (fun h g d tk os Q E S q => ?_) fun h S e he => by cases he
  obtain ⟨t, u, v, e⟩ := R
  refine call_list_range (n := n) S.hh (S.sub _ _ e) (small_one (by omega) (by omega) (by omega) (by omega)) (by rw [rangeSize_one]; split <;> omega) (by omega) fun h' tk acc' c' hk hS hI => ?_
  refine q _ _ _ (fun b o _ e => hk b o e) fun G' l hn' => p _ _ l ?_
  refine ⟨_, acc'.toList, rfl, ⟨c', by simpa using hn' _ _ (fresh_size h) hS⟩, ?_⟩
  obtain ⟨h1, h2⟩ := hI
  have : ∀ (k : Nat) (ys : List Value) (i : Nat), ys.length = k → (∀ (j : Nat) (v : Value), ys[j]? = some v → ∃ t, v = Value.int ((i + j : Nat) : Int) t) → Rs (RN G') (List.range' i k) ys := by
    intro k
    induction k with
    | zero => intro ys i hy _; cases ys with
      | nil => exact .nil
      | cons a b => simp at hy
    | succ k ih =>
      intro ys i hy hz
      cases ys with
      | nil => simp at hy
      | cons a b =>
        refine .cons (hz 0 a rfl) (ih b (i + 1) (by simpa using hy) fun j v e => ?_)
        have := hz (j + 1) v (by simpa using e)
        rw [show i + (j + 1) = i + 1 + j by omega] at this
        exact this
  rw [List.range_eq_range']
  refine this n acc'.toList 0 (by simpa using h1) fun j v e => ?_
  obtain ⟨t, e'⟩ := h2 j v (by simpa using e)
  exact ⟨t, by rw [e']; congr 1; omega⟩

theorem zip_no_len : typeLookup (.type "zip") "__len__" = pure none := by rw [typeLookup_type, builtinLookup_eq_fast]; kernel_rfl
theorem zip_no_hint : typeLookup (.type "zip") "__length_hint__" = pure none := by rw [typeLookup_type, builtinLookup_eq_fast]; kernel_rfl

section
variable {prog : Program} {w : World} {A : Around} {E : Value → Shared → Prop} {s : Shared}

noncomputable def ZItems (h : Heap) (S z TO i1 i2 : Addr) (h0 : Heap) (xs ys : Array Value) (acc : Array Value) (i : Nat) : Prop :=
  acc.size = i ∧ ∀ (j : Nat) (v : Value), acc[j]? = some v → ∃ t x y, v = Value.ref t ∧ xs[j]? = some x ∧ ys[j]? = some y ∧ IsPair h t x y ∧ h0.get? t = none ∧ t ≠ S ∧ t ≠ z ∧ t ≠ TO ∧ t ≠ i1 ∧ t ≠ i2

theorem extend_loop_zip {R : Result → Shared → Prop} {z TI TO i1 i2 l1 l2 S : Addr} {xs ys : Array Value} {res : Value} {h0 : Heap} (hh : A.handled = none) (D : ZipApart z TI TO i1 i2 l1 l2) (hlen : xs.size = ys.size) (hn : xs.size ≤ 1000)
    (hS7 : ∀ c, (c = z ∨ c = TI ∨ c = TO ∨ c = i1 ∨ c = i2 ∨ c = l1 ∨ c = l2) → c ≠ S) :
    ∀ (k i : Nat) (s : Shared) (acc : Array Value) (c : Nat), xs.size - i = k → i ≤ xs.size → ZAt s.heap z TI TO i1 i2 l1 l2 xs ys i → (∀ T b, IsZip2 s.heap z TI TO T b → T ≠ S) → (∀ b o, h0.get? b = some o → ∃ o', s.heap.get? b = some o') →
    s.heap.get? S = some { cls := .type "list", dict := none, data := .seq acc c, slots := #[] } → ZItems s.heap S z TO i1 i2 h0 xs ys acc i →
    (∀ h' acc' c', (∀ b o, b ≠ S → b ≠ z → b ≠ TO → b ≠ i1 → b ≠ i2 → s.heap.get? b = some o → h'.get? b = some o) → h'.get? S = some { cls := .type "list", dict := none, data := .seq acc' c', slots := #[] } → ZItems h' S z TO i1 i2 h0 xs ys acc' xs.size →
      R (.ok (.ret res)) { s with heap := h' }) →
    codeAny (model prog w) A (.builtin "list.extend.loop" ⟨[.ref S, .ref z, res], []⟩) R s := by
  intro k
  induction k with
  | zero =>
    intro i s acc c hk hi hZ hTS hlv hS hacc hR
    have hin : i = xs.size := by omega
    subst hin
    refine codeAny_builtin F.entry_extend_loop ?_
    rw [Around.under_plainId F.plain_extend_loop _]
    show wpAny _ A.in1 (pyNext (.ref z) >>= _) _ _ s
    refine wpAny_bind (zip_pyNext_end (A := A.in1) hh D hZ (Array.getElem?_eq_none (Nat.le_refl _)) fun h' hk' => ?_)
    refine wpAny_pure (hR h' acc c (fun b o b1 b2 b3 b4 b5 e => hk' b o b2 b3 b4 b5 e) (hk' _ _ (Ne.symm (hS7 z (by simp))) (Ne.symm (hS7 TO (by simp))) (Ne.symm (hS7 i1 (by simp))) (Ne.symm (hS7 i2 (by simp))) hS) ⟨hacc.1, fun j v e => ?_⟩)
    obtain ⟨t, x, y, a1, a2, a3, a4, a5, a6, a7, a8, a9, a10⟩ := hacc.2 j v e
    exact ⟨t, x, y, a1, a2, a3, hk' _ _ a7 a8 a9 a10 a4, a5, a6, a7, a8, a9, a10⟩
  | succ k ih =>
    intro i s acc c hk hi hZ hTS hlv hS hacc hR
    have hlt : i < xs.size := by omega
    refine codeAny_builtin F.entry_extend_loop ?_
    rw [Around.under_plainId F.plain_extend_loop _]
    show wpAny _ A.in1 (pyNext (.ref z) >>= _) _ _ s
    refine wpAny_bind (zip_pyNext_item (x := xs[i]) (y := ys[i]'(by omega)) D hZ (Array.getElem?_eq_getElem hlt) (Array.getElem?_eq_getElem (by omega)) fun h' hZ' hp hT' hk' => ?_)
    have fr : ∀ {c o}, s.heap.get? c = some o → s.heap.objs.size ≠ c := fun e => Nat.ne_of_gt (Heap.lt_size e)
    have hS' := hk' S _ (Ne.symm (hS7 z (by simp))) (Ne.symm (hS7 TO (by simp))) (Ne.symm (hS7 i1 (by simp))) (Ne.symm (hS7 i2 (by simp))) hS
    have hTS' : ∀ T b, IsZip2 h' z TI TO T b → T ≠ S := fun T b e => by
      rcases hT' T b e with q | q | ⟨b', q⟩
      · rw [q]; exact fr hS
      · exact hTS T b q
      · exact hTS T b' q
    have alive' : ∀ b o, s.heap.get? b = some o → ∃ o', h'.get? b = some o' := fun b o e => by
      obtain ⟨a1, a2, hTO⟩ := hZ'.to
      obtain ⟨x1, y1, _⟩ := hZ'.a1
      obtain ⟨x2, y2, _⟩ := hZ'.a2
      by_cases q1 : b = z
      · subst q1; rcases hZ'.zz with ⟨_, q⟩ | ⟨_, _, _, q, _⟩
        · exact ⟨_, q⟩
        · exact ⟨_, q⟩
      · by_cases q2 : b = TO
        · subst q2; exact ⟨_, hTO⟩
        · by_cases q3 : b = i1
          · subst q3; exact ⟨_, y1⟩
          · by_cases q4 : b = i2
            · subst q4; exact ⟨_, y2⟩
            · exact ⟨o, hk' b o q1 q2 q3 q4 e⟩
    show wpAny _ A.in1 (updateSeq S (·.push (.ref s.heap.objs.size)) >>= _) _ _ _
    refine wpAny_bind ?_
    refine wpAny_updateSeq hS' rfl (wpAny_pure ⟨plainId_quiet F.plain_extend_loop _, ih (i + 1) _ (acc.push (.ref s.heap.objs.size)) _ (by omega) hlt (hZ'.upd hS7 hTS') ?_ ?_ (Heap.get?_update_self _ hS' rfl) ?_ ?_⟩)
      (by rw [hacc.1, sizeLine_eq]; omega) (by show (acc.push _).size ≤ sizeLine + 1; rw [Array.size_push, hacc.1, sizeLine_eq]; omega)
    · intro T b e
      have e : (h'.update S _).get? z = _ := e
      rw [Heap.get?_update_other _ _ (Ne.symm (hS7 z (by simp)))] at e
      exact hTS' T b e
    · intro b o e
      obtain ⟨o₁, e₁⟩ := hlv b o e
      obtain ⟨o₂, e₂⟩ := alive' b o₁ e₁
      by_cases q : b = S
      · subst q; exact ⟨_, Heap.get?_update_self _ hS' rfl⟩
      · exact ⟨o₂, (Heap.get?_update_other _ _ (Ne.symm q)).trans e₂⟩
    · refine ⟨by rw [Array.size_push, hacc.1], fun j v e => ?_⟩
      rw [Array.getElem?_push] at e
      have upS : ∀ {t o}, t ≠ S → h'.get? t = some o → (h'.update S (Obj.mapSeq (·.push (.ref s.heap.objs.size)))).get? t = some o := fun hq e => (Heap.get?_update_other _ _ (Ne.symm hq)).trans e
      split at e
      · rename_i hj
        cases e
        rw [hacc.1] at hj; subst hj
        have nS := fr hS
        refine ⟨_, _, _, rfl, Array.getElem?_eq_getElem hlt, Array.getElem?_eq_getElem (by omega), upS nS hp, ?_, nS, ?_, ?_, ?_, ?_⟩
        · cases q : h0.get? s.heap.objs.size with
          | none => rfl
          | some o => obtain ⟨o', e'⟩ := hlv _ _ q; exact absurd (Heap.lt_size e') (Nat.lt_irrefl _)
        · rcases hZ.zz with ⟨_, q⟩ | ⟨_, _, _, q, _⟩ <;> exact fr q
        · obtain ⟨_, _, q⟩ := hZ.to; exact fr q
        · obtain ⟨_, q, _⟩ := hZ.a1; exact fr q
        · obtain ⟨_, q, _⟩ := hZ.a2; exact fr q
      · obtain ⟨t, x, y, a1, a2, a3, a4, a5, a6, a7, a8, a9, a10⟩ := hacc.2 j v e
        exact ⟨t, x, y, a1, a2, a3, upS a6 (hk' _ _ a7 a8 a9 a10 a4), a5, a6, a7, a8, a9, a10⟩
    · intro h'' acc' c' hk'' hS'' hacc'
      exact hR h'' acc' c' (fun b o b1 b2 b3 b4 b5 e => hk'' b o b1 b2 b3 b4 b5 ((Heap.get?_update_other _ _ (Ne.symm b1)).trans (hk' b o b2 b3 b4 b5 e))) hS'' hacc'

end
end
end Mine

end
section
namespace Mine
open PySem.SeqAt PySem.SeqRoads2 PySem.MeetsSeq PySem.MeetsSeq2 PySem.MeetsSeq3

section
variable {gl : Gl} {Φ : Fx} {σ : Sta}

theorem St.addMany {G' : PM} {h h' : Heap} (S : St gl Φ σ h) (S' : St gl Φ { σ with G := G' } h') : ∀ X : List (Addr × Cl), (∀ e ∈ X, h.get? e.1 = none ∧ G' e.1 = none ∧ e.2.At h' e.1) → (X.map (·.1)).Nodup →
    St gl Φ { σ with G := G', own := X ++ σ.own } h'
  | [], _, _ => S'
  | (a, c) :: r, hX, nd => by
    rw [List.map_cons, List.nodup_cons] at nd
    have ih := St.addMany S S' r (fun e he => hX e (List.mem_cons_of_mem _ he)) nd.2
    obtain ⟨x1, x2, x3⟩ := hX _ (List.mem_cons_self ..)
    obtain ⟨f1, f2, f3, f4, f5, f6⟩ := S.fresh x1
    refine ih.cons x3 f1 x2 f3 f4 (fun e he => ?_) fun p hp => Ne.symm (f6 p hp)
    rcases List.mem_append.mp he with he | he
    · exact fun q => nd.1 (List.mem_map.mpr ⟨e, he, q⟩)
    · exact f5 e he

noncomputable def zipX (z TI TO i1 i2 l1 l2 : Addr) : List (Addr × Cl) :=
  [(z, .ob { cls := .type "zip", dict := none, data := .fields #[.none, .bool false, .bool false, .ref TI, .ref TO], slots := #[] }), (TO, .ob { cls := .type "tuple", data := .seq #[.none, .none] }), (i1, .liter l1 0), (i2, .liter l2 0)]

theorem TT.zip {l1 l2 : Addr} {xs ys : List Value} {P : Value → Sta → Prop} (L1 : IsLst σ.G l1 xs) (L2 : IsLst σ.G l2 ys)
    (p : ∀ z TI TO i1 i2 G', Le σ.G G' → IsTpl G' TI [.ref i1, .ref i2] → P (.ref z) { σ with G := G', own := zipX z TI TO i1 i2 l1 l2 ++ σ.own }) : TT gl Φ (PySem.call (.type "zip") [.ref l1, .ref l2]) σ P :=
  fun h g d tk os Q E S q => by
    obtain ⟨n1, e1⟩ := L1
    obtain ⟨n2, e2⟩ := L2
    refine call_zip_2 (IsL.isList (S.sub _ _ e1)) (IsL.isList (S.sub _ _ e2)) fun h' c1 c2 c3 c4 c5 c6 hk => ?_
    have fr : ∀ k, h.get? (h.objs.size + k) = none := fun k => by
      cases q : h.get? (h.objs.size + k) with
      | none => rfl
      | some o => exact absurd (Heap.lt_size q) (by show ¬ h.objs.size + k < _; omega)
    have S1 : St gl Φ { σ with G := addG σ.G (h.objs.size + 2) _ } h' := S.frozen (fr 2) hk c2
    have S2 := S.addMany S1 (zipX (h.objs.size + 4) (h.objs.size + 2) (h.objs.size + 3) h.objs.size (h.objs.size + 1) l1 l2) (fun e he => ?_) (by simp [zipX])
    · exact q _ _ _ _ S2 (p _ _ _ _ _ _ (le_addG (S.fresh (fr 2)).2.1) (by unfold IsTpl addG; rw [if_pos rfl]))
    · have f0 := (S.fresh (fresh_size h)).2.1
      have f1 := (S.fresh (fr 1)).2.1
      have f3 := (S.fresh (fr 3)).2.1
      have f4 := (S.fresh (fr 4)).2.1
      simp only [zipX, List.mem_cons, List.not_mem_nil, or_false] at he
      rcases he with rfl | rfl | rfl | rfl
      · exact ⟨fr 4, by unfold addG; rw [if_neg (by show ¬ h.objs.size + 4 = h.objs.size + 2; omega)]; exact f4, c1⟩
      · exact ⟨fr 3, by unfold addG; rw [if_neg (by show ¬ h.objs.size + 3 = h.objs.size + 2; omega)]; exact f3, c3⟩
      · exact ⟨fresh_size h, by unfold addG; rw [if_neg (by show ¬ h.objs.size = h.objs.size + 2; omega)]; exact f0, c4⟩
      · exact ⟨fr 1, by unfold addG; rw [if_neg (by show ¬ h.objs.size + 1 = h.objs.size + 2; omega)]; exact f1, c5⟩

theorem TT.listzip {α β : Type} {R : RP α} {R' : RP β} {z TI TO i1 i2 l1 l2 : Addr} {xs : List α} {ys : List β} {vs ws : List Value} {P : Value → Sta → Prop} (L1 : IsLst σ.G l1 vs) (L2 : IsLst σ.G l2 ws) (H1 : Rs (R σ.G) xs vs) (H2 : Rs (R' σ.G) ys ws)
    (hR : Mono R) (hR' : Mono R') (hlen : xs.length = ys.length) (hz : xs.length ≤ 1000) (hTI : IsTpl σ.G TI [.ref i1, .ref i2])
    (p : ∀ v G', Le σ.G G' → RL (RT2 R R') G' (xs.zip ys) v → P v { σ with G := G' }) : TT gl Φ (PySem.call (.type "list") [.ref z]) { σ with own := zipX z TI TO i1 i2 l1 l2 ++ σ.own } P := by
  refine TT.newG (σ := σ) (fun h g d tk os Q E S q => ?_) fun h S e he v => ?_
  · obtain ⟨n1, e1⟩ := L1
    obtain ⟨n2, e2⟩ := L2
    have e1' : h.get? l1 = some (LstO vs n1) := S.sub _ _ e1
    have e2' : h.get? l2 = some (LstO ws n2) := S.sub _ _ e2
    have eT : h.get? TI = some (TupO [.ref i1, .ref i2]) := S.sub _ _ hTI
    have oz := S.own (z, _) (List.mem_append_left _ (List.mem_cons_self ..))
    have oTO := S.own (TO, _) (List.mem_append_left _ (List.mem_cons_of_mem _ (List.mem_cons_self ..)))
    have o1 := S.own (i1, .liter l1 0) (List.mem_append_left _ (List.mem_cons_of_mem _ (List.mem_cons_of_mem _ (List.mem_cons_self ..))))
    have o2 := S.own (i2, .liter l2 0) (List.mem_append_left _ (List.mem_cons_of_mem _ (List.mem_cons_of_mem _ (List.mem_cons_of_mem _ (List.mem_cons_self ..)))))
    have hzz : IsZip h z TI TO .none := oz.1
    have hTO : IsPair h TO .none .none := oTO.1
    have h1 : h.IsListIter i1 l1 0 := o1.1
    have h2 : h.IsListIter i2 l2 0 := o2.1
    have gz : σ.G z = none := oz.2.2.1
    have gTO : σ.G TO = none := oTO.2.2.1
    have g1 : σ.G i1 = none := o1.2.2.1
    have g2 : σ.G i2 = none := o2.2.2.1
    have nG : ∀ {b c o}, σ.G b = some o → σ.G c = none → b ≠ c := fun e f q => by rw [q, f] at e; cases e
    have nd : ((zipX z TI TO i1 i2 l1 l2 ++ σ.own).map (·.1)).Nodup := S.ownd
    have nd2 : (z :: TO :: i1 :: i2 :: σ.own.map (·.1)).Nodup := by simpa [zipX] using nd
    simp only [List.nodup_cons, List.mem_cons, not_or] at nd2
    obtain ⟨⟨d1, d2, d3, _⟩, ⟨d4, d5, _⟩, ⟨d6, _⟩, _⟩ := nd2
    have hTI' : σ.G TI = some _ := hTI
    have D : ZipApart z TI TO i1 i2 l1 l2 := ⟨nG hTI' gz, Ne.symm d1, Ne.symm d2, Ne.symm d3, nG hTI' gTO, nG hTI' g1, nG hTI' g2, d4, d5, d6, nG e1 gz, nG e1 gTO, nG e1 g1, nG e1 g2, nG e2 gz, nG e2 gTO, nG e2 g1, nG e2 g2⟩
    refine callType_codes (Q₁ := fun obj s₁ => obj = .ref h.objs.size ∧ s₁ = (⟨h.push { cls := .type "list", data := .seq #[] }, g, d, tk, os⟩ : Shared)) F.called_list (F.typeCall_list_1 _) F.entry_list_init
      (code_list_new _ ⟨rfl, rfl⟩) fun obj s₁ h₁ => ?_
    obtain ⟨rfl, rfl⟩ := h₁
    have hS : (h.push { cls := .type "list", data := .seq #[] }).get? h.objs.size = some { cls := .type "list", data := .seq #[] } := Heap.get?_push_size _ rfl
    refine ⟨⟨_, hS, rfl⟩, F.args_list_init_2 _ _, ?_⟩
    have ne7 : ∀ c, (c = z ∨ c = TI ∨ c = TO ∨ c = i1 ∨ c = i2 ∨ c = l1 ∨ c = l2) → c ≠ h.objs.size := by
      have lt : ∀ {c o}, h.get? c = some o → c ≠ h.objs.size := fun e => Nat.ne_of_lt (Heap.lt_size e)
      obtain ⟨_, q1, _⟩ := id h1
      obtain ⟨_, q2, _⟩ := id h2
      exact fun c hc => hc.elim (fun e => e ▸ lt hzz) fun hc => hc.elim (fun e => e ▸ lt eT) fun hc => hc.elim (fun e => e ▸ lt hTO) fun hc => hc.elim (fun e => e ▸ lt q1) fun hc => hc.elim (fun e => e ▸ lt q2) fun hc => hc.elim (fun e => e ▸ lt e1') fun e => e ▸ lt e2'
    show wpAny _ Φ.A.in1.in1 (do let old ← Builtin.List.listItems (.ref h.objs.size); Builtin.List.listUpdate (.ref h.objs.size) (fun _ => #[]); letGo old.toList.reverse; Builtin.List.listExtendWith (.ref h.objs.size) (.ref z) .none) _ _ _
    refine wpAny_bind ?_
    unfold Builtin.List.listItems
    refine wpAny_bind (wpAny_seqItems hS rfl (wpAny_pure ?_))
    show wpAny _ _ (updateSeq h.objs.size (fun _ => #[]) >>= fun _ => letGo (#[] : Array Value).toList.reverse >>= fun _ => Builtin.List.listExtendWith (.ref h.objs.size) (.ref z) .none) _ _ _
    refine wpAny_bind (wpAny_updateSeq hS rfl ?_)
    have hS₂ := Heap.get?_update_self (Obj.mapSeq (fun _ => (#[] : Array Value))) hS rfl
    refine wpAny_bind (wpAny_letGo ?_)
    unfold Builtin.List.listExtendWith
    have hzT : ∀ {H : Heap}, IsZip H z TI TO .none → (⟨H, g, d, tk, os⟩ : Shared).TypeIs (.ref z) "zip" := fun q => ⟨_, q, rfl⟩
    have Z0 : ZAt (h.push { cls := .type "list", data := .seq #[] }) z TI TO i1 i2 l1 l2 vs.toArray ws.toArray 0 :=
      ⟨.inl ⟨rfl, Heap.get?_push_of_some _ hzz⟩, Heap.get?_push_of_some _ eT, ⟨_, _, Heap.get?_push_of_some _ hTO⟩, h1.at fun o e => Heap.get?_push_of_some _ e, h2.at fun o e => Heap.get?_push_of_some _ e,
        (IsL.isList e1').at fun o e => Heap.get?_push_of_some _ e, (IsL.isList e2').at fun o e => Heap.get?_push_of_some _ e⟩
    have noT : ∀ {H : Heap} {T b}, IsZip H z TI TO .none → ¬ IsZip2 H z TI TO T b := fun q q' => by
      have q : Heap.get? _ z = _ := q
      have q' : Heap.get? _ z = _ := q'
      rw [q] at q'
      have := congrArg (fun o : Option Obj => o.map fun o => match o.data with | .fields a => a[0]? | _ => none) q'
      simp [rawInt] at this
    have z0 : IsZip (h.push { cls := .type "list", data := .seq #[] }) z TI TO .none := Heap.get?_push_of_some _ hzz
    have Z1 := Z0.upd (S := h.objs.size) (f := Obj.mapSeq (fun _ => (#[] : Array Value))) ne7 (fun T b e => absurd e (noT z0))
    have up : ∀ {H : Heap} {f : Obj → Obj}, IsZip H z TI TO .none → IsZip (H.update h.objs.size f) z TI TO .none := fun q => (Heap.get?_update_other _ _ (Ne.symm (ne7 z (by simp)))).trans q
    have z1 := up (f := Obj.mapSeq (fun _ => (#[] : Array Value))) z0
    refine wpAny_bind (wpAny_typeOf (hzT z1) ?_)
    have k1 : Builtin.List.listSameRef (.ref h.objs.size) (.ref z) = false := by simp [Builtin.List.listSameRef]; exact Ne.symm (ne7 z (by simp))
    have k2 : (Value.type "zip" == Value.type "list") = false := by decide
    have k3 : (Value.type "zip" == Value.type "tuple") = false := by decide
    simp only [k1, k2, k3, Bool.or_false, Bool.false_eq_true, if_false]
    refine wpAny_bind (wpAny_pyIter_zip z1 ?_)
    refine wpAny_bind (wpAny_holding ?_)
    unfold Builtin.List.listLengthHint
    refine wpAny_bind (wpAny_specialOf (hzT z1) zip_no_len ?_)
    show wpAny _ _ (specialOf (Value.ref z) (Str.ofString "__length_hint__") >>= _) _ _ _
    refine wpAny_bind (wpAny_specialOf (hzT z1) zip_no_hint ?_)
    refine wpAny_pure ?_
    show wpAny _ Φ.A.in1.in1 (rule "list.extend.makes-room" >>= fun _ => Builtin.List.listTouch (.ref h.objs.size) >>= fun _ =>
      again (.builtin "list.extend.loop" ⟨[.ref h.objs.size, .ref z, .none], []⟩)) _ _ _
    refine wpAny_bind (wpAny_rule ?_)
    refine wpAny_bind ?_
    show wpAny _ Φ.A.in1.in1 (updateSeq h.objs.size (·.push .none) >>= fun _ => updateSeq h.objs.size (·.pop)) _ _ _
    refine wpAny_bind (wpAny_updateSeq hS₂ rfl ?_)
    have hS₃ := Heap.get?_update_self (Obj.mapSeq (·.push Value.none)) hS₂ rfl
    refine wpAny_updateSeq hS₃ rfl ?_
    have hS₄ := Heap.get?_update_self (Obj.mapSeq (·.pop)) hS₃ rfl
    have Z2 := Z1.upd (S := h.objs.size) (f := Obj.mapSeq (·.push Value.none)) ne7 (fun T b e => absurd e (noT z1))
    have z2 := up (f := Obj.mapSeq (·.push Value.none)) z1
    have Z3 := Z2.upd (S := h.objs.size) (f := Obj.mapSeq (·.pop)) ne7 (fun T b e => absurd e (noT z2))
    have z3 := up (f := Obj.mapSeq (·.pop)) z2
    have keep3 : ∀ b o, h.get? b = some o → ((((h.push { cls := .type "list", data := .seq #[] }).update h.objs.size (Obj.mapSeq (fun _ => (#[] : Array Value)))).update h.objs.size (Obj.mapSeq (·.push Value.none))).update h.objs.size (Obj.mapSeq (·.pop))).get? b = some o := fun b o e => by
      have hb : h.objs.size ≠ b := Nat.ne_of_gt (Heap.lt_size e)
      rw [Heap.get?_update_other _ _ hb, Heap.get?_update_other _ _ hb, Heap.get?_update_other _ _ hb]
      exact Heap.get?_push_of_some _ e
    refine wpAny_pure ⟨plainId_quiet F.plain_extend_loop _, extend_loop_zip (A := Φ.A.in1) (h0 := h) S.hh D (by simp only [List.size_toArray]; rw [H1.length, H2.length, hlen]) (by simp only [List.size_toArray]; rw [H1.length]; exact hz) ne7 _ 0 _ _ _ rfl (Nat.zero_le _) Z3 (fun T b e => absurd e (noT z3))
      (fun b o e => ⟨o, keep3 b o e⟩) hS₄ ⟨rfl, fun j v e => by simp at e⟩ fun h' acc' c' hk hS' hacc => ?_⟩
    refine ⟨rfl, q _ _ _ (fun b o hb e => ?_) fun G' l hn => p _ _ l ?_⟩
    · have b1 := hb (z, _) (List.mem_cons_self ..)
      have b2 := hb (TO, _) (List.mem_cons_of_mem _ (List.mem_cons_self ..))
      have b3 := hb (i1, .liter l1 0) (List.mem_cons_of_mem _ (List.mem_cons_of_mem _ (List.mem_cons_self ..)))
      have b4 := hb (i2, .liter l2 0) (List.mem_cons_of_mem _ (List.mem_cons_of_mem _ (List.mem_cons_of_mem _ (List.mem_cons_self ..))))
      exact hk b o (Nat.ne_of_lt (Heap.lt_size e)) (Ne.symm b1) (Ne.symm b2) (Ne.symm b3) (Ne.symm b4) (keep3 b o e)
    · refine ⟨_, acc'.toList, rfl, ⟨c', by simpa using hn _ _ (fresh_size h) hS'⟩, ?_⟩
      obtain ⟨a1, a2⟩ := hacc
      have H1' := H1.mono hR l
      have H2' := H2.mono hR' l
      have gen : ∀ (as : List α) (bs : List β) (vs ws us : List Value), Rs (R G') as vs → Rs (R' G') bs ws → as.length = bs.length → us.length = as.length →
          (∀ (j : Nat) (v : Value), us[j]? = some v → ∃ t x y, v = Value.ref t ∧ vs[j]? = some x ∧ ws[j]? = some y ∧ IsTpl G' t [x, y]) → Rs (RT2 R R' G') (as.zip bs) us := by
        intro as
        induction as with
        | nil => intro bs vs ws us _ _ hb hu _; cases us with
          | nil => exact .nil
          | cons _ _ => simp at hu
        | cons a as ih =>
          intro bs vs ws us ha hb hl hu hj
          cases bs with
          | nil => simp at hl
          | cons b bs =>
            cases ha with
            | cons ha ha' =>
              cases hb with
              | cons hb hb' =>
                cases us with
                | nil => simp at hu
                | cons u us =>
                  obtain ⟨t, x, y, rfl, e1, e2, e3⟩ := hj 0 u rfl
                  cases e1; cases e2
                  exact .cons ⟨t, _, _, rfl, e3, ha, hb⟩ (ih bs _ _ us ha' hb' (by simpa using hl) (by simpa using hu) fun j v e => hj (j + 1) v e)
      refine gen xs ys vs ws acc'.toList H1' H2' hlen ?_ fun j v e => ?_
      · rw [Array.length_toList, a1, List.size_toArray, H1.length]
      · obtain ⟨t, x, y, b1, b2, b3, b4, b5, _⟩ := a2 j v (by simpa using e)
        exact ⟨t, x, y, b1, by simpa using b2, by simpa using b3, hn _ _ b5 b4⟩
  · have hO : e.2.At h e.1 := (S.own e (List.mem_append_left _ he)).1
    simp only [zipX, List.mem_cons, List.not_mem_nil, or_false] at he
    rcases he with rfl | rfl | rfl | rfl
    · rintro ⟨o, a, b⟩; have hO : h.get? z = some _ := hO; rw [hO] at a; cases a; cases b
    · rintro ⟨o, a, b⟩; have hO : h.get? TO = some _ := hO; rw [hO] at a; cases a; cases b
    · exact not_cell_liter hO v
    · exact not_cell_liter hO v

end
end Mine

end
section
namespace Mine

noncomputable def sec (L : Nat → List Nat) (p : Nat) : Nat := (L p).getD 1 0
noncomputable def nx (L : Nat → List Nat) (p : Nat) : Nat := (L (sec L p)).getLastD 0
noncomputable def itr (L : Nat → List Nat) (p : Nat) : Nat → Nat
  | 0 => p
  | k + 1 => nx L (itr L p k)
noncomputable def lastsOf (L : Nat → List Nat) (p m : Nat) : List Nat := (List.range (m + 1)).map (itr L p)
noncomputable def secsOf (L : Nat → List Nat) (p m : Nat) : List Nat := (List.range m).map fun k => sec L (itr L p k)
noncomputable def cycOf (L : Nat → List Nat) (p idx m : Nat) : List (Nat × Nat) := ((lastsOf L p m).drop (idx + 1)).zip ((secsOf L p m).drop idx)

structure Walk (L : Nat → List Nat) (p idx m : Nat) : Prop where
  lt : idx < m
  ne : ∀ i j, i < j → j < m → itr L p i ≠ itr L p j
  eq : itr L p m = itr L p idx

theorem nodup_le : ∀ (N : Nat) (xs : List Nat), xs.Nodup → (∀ x ∈ xs, x < N) → xs.length ≤ N
  | 0, xs, _, h => by
    cases xs with
    | nil => simp
    | cons x r => exact absurd (h x (List.mem_cons_self ..)) (Nat.not_lt_zero _)
  | N + 1, xs, hd, h => by
    have h1 := nodup_le N (xs.erase N) (hd.erase N) fun x hx => by
      have h1 := h x (List.mem_of_mem_erase hx)
      have h2 : x ≠ N := fun e => by subst e; exact (List.Nodup.not_mem_erase hd) hx
      omega
    have := List.length_erase_of_mem (a := N) (l := xs)
    by_cases hm : N ∈ xs
    · have := this hm; omega
    · rw [List.erase_of_not_mem hm] at h1; omega

theorem lastsOf_succ (L : Nat → List Nat) (p m : Nat) : lastsOf L p (m + 1) = lastsOf L p m ++ [itr L p (m + 1)] := by
  unfold lastsOf; rw [List.range_succ (n := m + 1), List.map_append]; rfl
theorem secsOf_succ (L : Nat → List Nat) (p m : Nat) : secsOf L p (m + 1) = secsOf L p m ++ [sec L (itr L p m)] := by
  unfold secsOf; rw [List.range_succ, List.map_append]; rfl
theorem lastsOf_length (L : Nat → List Nat) (p m : Nat) : (lastsOf L p m).length = m + 1 := by simp [lastsOf]
theorem secsOf_length (L : Nat → List Nat) (p m : Nat) : (secsOf L p m).length = m := by simp [secsOf]

section
variable {gl : Gl} {Φ : Fx} {σ : Sta}

theorem sp_locate (T : gl.Ok) (Tb : Bi gl) {a : Addr} (F : FnK gl a "locate_all_or_nothing_cycle" (stmtAt 5)) {N pas L M G pl n p} (W : Pls G pl N pas L M) (hp : p < N) (hN : N ≤ 6) (hz : ∀ i, (L i).length ≤ 100) (C : Nat → Prop)
    (hC : ∀ p, p < N → C p → 2 ≤ (L p).length ∧ L (sec L p) ≠ [] ∧ nx L p < N ∧ C (nx L p)) (h0 : C p) :
    CallP gl (n + 2) false (.ref a) [.ref (pas p)] G pl fun G' pl' v => pl' = pl ∧ ∃ idx m, Walk L p idx m ∧ (∀ k, itr L p k < N ∧ C (itr L p k)) ∧ RL (RT2 (RPl N pas) (RPl N pas)) G' (cycOf L p idx m) v := by
  refine CallP.plain T F ["player"] [("player", .ref (pas p))] (fun _ _ _ _ _ => rfl) (fun La cdv A h => .abs fun P₀ hP₀ => .nm ?_)
  intro Φ
  refine .execs_cons (.asg (.list (.sp_cons (.name rfl (.sp_nil ⟨by simp, .inr fun la hla => .st ?_⟩) (.inl rfl)))))
  refine .execs_cons (.asg (.list (.sp_nil ⟨by simp, .inr fun sa hsa => .st ?_⟩)))
  have step : ∀ q, q < N → C q → ∃ s qn, (L q)[1]? = some s ∧ s = sec L q ∧ (L s).getLast? = some qn ∧ qn = nx L q := fun q hq hCq => by
    obtain ⟨c1, c2, _, c3⟩ := hC q hq hCq
    have e1 : (L q)[1]? = some (sec L q) := by
      rw [List.getElem?_eq_getElem (by omega)]
      unfold sec
      rw [List.getD_eq_getElem?_getD, List.getElem?_eq_getElem (by omega)]; rfl
    refine ⟨_, _, e1, rfl, ?_, rfl⟩
    unfold nx
    cases h : L (sec L q) with
    | nil => exact absurd h c2
    | cons a r => simp [List.getLastD_cons, List.getLast?_cons]
  refine .execs_cons ((TT.whileZ (P := fun f σ' => match f with
      | .next => ∃ G' lvs svs idx m, σ'.own = [(sa, .lst svs), (la, .lst lvs)] ∧ σ'.G = G' ∧ Le G G' ∧ σ'.pl = pl ∧ σ'.m.lookup ("player" : Str) = some (.ref (pas (itr L p m))) ∧ σ'.m.lookup ("lasts" : Str) = some (.ref la) ∧ σ'.m.lookup ("seconds" : Str) = some (.ref sa) ∧
          Rs (RPl N pas G') (lastsOf L p m) lvs ∧ Rs (RPl N pas G') (secsOf L p m) svs ∧ Walk L p idx m ∧ idx = (lastsOf L p m).idxOf (itr L p m) ∧ (∀ k, k ≤ m → itr L p k < N ∧ C (itr L p k)) ∧ m ≤ N
      | _ => False)
    (fun k σ' => ∃ G' lvs svs m, k = N - m ∧ σ' = ⟨G', [("player", .ref (pas (itr L p m))), ("lasts", .ref la), ("seconds", .ref sa)], [(sa, .lst svs), (la, .lst lvs)], pl⟩ ∧ Le G G' ∧
        Rs (RPl N pas G') (lastsOf L p m) lvs ∧ Rs (RPl N pas G') (secsOf L p m) svs ∧ (lastsOf L p m).Nodup ∧ (∀ k, k ≤ m → itr L p k < N ∧ C (itr L p k)) ∧ m ≤ N) ?_ _ ⟨G, _, _, 0, rfl, rfl, Le.rfl, .one ⟨hp, rfl⟩, .nil, by simp [lastsOf], fun k hk => ?_, by omega⟩).mono ?_)
  · rintro P₁ P₂ hP₁ hP₂ k σ' ⟨G', lvs, svs, m, rfl, rfl, l, h1, h2, hnd, hall, hm⟩
    have hmN : m + 1 ≤ N := by
      have := nodup_le N _ hnd fun x hx => by
        obtain ⟨i, hi, rfl⟩ := List.mem_map.mp hx
        exact (hall i (by have := List.mem_range.mp hi; omega)).1
      rw [lastsOf_length] at this; exact this
    obtain ⟨hq, hCq⟩ := hall m (Nat.le_refl _)
    obtain ⟨s, qn, e1, rfl, e2, rfl⟩ := step _ hq hCq
    have W' := W.mono l
    refine .tplain (.bool (.truthy_bool (ifB_t rfl ?_)))
    refine .execs_cons (.asg (.sub (.attr (.name rfl (.prefsW T W' hq fun v hv => .int fun t => ?_) (.inl rfl)))))
    refine .itemR (R := RPl N pas) (k := 1) (RL.ls hv) ⟨t, rfl⟩ e1 (by omega) ?_
    rintro u ⟨hs, rfl⟩
    refine .st (.execs_cons (.asg (.sub (.attr (.name rfl (.prefsW T W' hs fun v hv => .unary (.int fun t => .neg fun t => ?_)) (.inl rfl))))))
    refine .lastR (R := RPl N pas) (RL.ls hv) e2 ?_
    rintro u ⟨hqn, rfl⟩
    refine .st (.execs_cons (.expr (.mAppend (.name rfl ⟨sa, rfl, ⟨svs, .inr (List.mem_cons_self ..)⟩, .name rfl ⟨0, svs, rfl, by rw [h2.length, secsOf_length]; omega, ?_⟩ (.inl rfl)⟩ (.inl rfl)))))
    refine .execs_cons (.expr (.mAppend (.name rfl ⟨la, rfl, ⟨lvs, .inr (List.mem_cons_of_mem _ (List.mem_cons_self ..))⟩, .name rfl ⟨1, lvs, rfl, by rw [h1.length, lastsOf_length]; omega, ?_⟩ (.inl rfl)⟩ (.inl rfl))))
    refine .execs_cons (.asg (.name rfl (.st ?_) (.inl rfl)))
    have h1' : Rs (RPl N pas G') (lastsOf L p (m + 1)) (lvs ++ [.ref (pas (nx L (itr L p m)))]) := by rw [lastsOf_succ]; exact h1.append (.one ⟨hqn, rfl⟩)
    have h2' : Rs (RPl N pas G') (secsOf L p (m + 1)) (svs ++ [.ref (pas (sec L (itr L p m)))]) := by rw [secsOf_succ]; exact h2.append (.one ⟨hs, rfl⟩)
    have hall' : ∀ k, k ≤ m + 1 → itr L p k < N ∧ C (itr L p k) := fun k hk => by
      rcases Nat.lt_or_ge k (m + 1) with h | h
      · exact hall k (by omega)
      · have : k = m + 1 := by omega
        subst this
        exact ⟨hqn, (hC _ hq hCq).2.2.2⟩
    refine .execs_cons (.ite (.tcmp (.mCount (R := RPl N pas) (.name rfl ⟨⟨lastsOf L p (m + 1), la, _, rfl, .inr (List.mem_cons_of_mem _ (List.mem_cons_self ..)), h1'⟩, .name rfl ⟨lastsOf L p (m + 1), itr L p (m + 1), 0, ⟨la, _, rfl, .inr (List.mem_cons_of_mem _ (List.mem_cons_self ..)), h1'⟩,
      EqR.rpl T W', Uq.rpl W', ⟨hqn, rfl⟩, by show 0 + 2 ≤ 8 * (n + 1); omega, ?_⟩ (.inl rfl)⟩ (.inl rfl)))))
    rintro cv ⟨t, rfl⟩
    refine .int fun t => .gtI (.truthy_bool ?_)
    by_cases hc : itr L p (m + 1) ∈ lastsOf L p m
    · refine ifB_t ?_ (.execs_cons (.brk (hP₁ _ _ _ ⟨G', _, _, (lastsOf L p (m + 1)).idxOf (itr L p (m + 1)), m + 1, rfl, rfl, l, rfl, rfl, rfl, rfl, h1', h2', ?_, rfl, hall', hmN⟩)))
      · rw [lastsOf_succ, List.count_append]
        have := List.count_pos_iff.mpr hc
        simp
        omega
      · have e : (lastsOf L p (m + 1)).idxOf (itr L p (m + 1)) = (lastsOf L p m).idxOf (itr L p (m + 1)) := by rw [lastsOf_succ, List.idxOf_append, if_pos hc]
        have hlt := List.idxOf_lt_length_iff.mpr hc
        rw [lastsOf_length] at hlt
        refine ⟨by omega, fun i j hij hj q => ?_, ?_⟩
        · have hi' : (lastsOf L p m)[i]? = some (itr L p i) := by unfold lastsOf; rw [List.getElem?_map, List.getElem?_range (by omega)]; rfl
          have hj' : (lastsOf L p m)[j]? = some (itr L p j) := by unfold lastsOf; rw [List.getElem?_map, List.getElem?_range (by omega)]; rfl
          rw [q, ← hj'] at hi'
          have := (List.getElem?_inj (by rw [lastsOf_length]; omega) hnd).mp hi'
          omega
        · rw [e]
          have := List.getElem_idxOf (List.idxOf_lt_length_iff.mpr hc)
          unfold lastsOf at this
          rw [List.getElem_map, List.getElem_range] at this
          exact this.symm
    · refine ifB_f ?_ ?_
      · rw [lastsOf_succ, List.count_append, List.count_eq_zero_of_not_mem hc]
        simp
      · exact .execs_nil (.weak (.execs_nil ⟨[("player", .ref (pas (itr L p (m + 1)))), ("lasts", .ref la), ("seconds", .ref sa)], ⟨rfl, rfl, rfl, trivial⟩, hP₁ _ _ _ ⟨N - (m + 1), by omega, G', _, _, m + 1, rfl, rfl, l, h1', h2',
          by rw [lastsOf_succ]; exact List.nodup_append.mpr ⟨hnd, by simp, fun x hx y hy e => by simp at hy; subst hy; exact hc (e ▸ hx)⟩, hall', hmN⟩⟩))
  · have : k = 0 := by omega
    subst this; exact ⟨hp, h0⟩
  · rintro f σ' hf
    cases f with
    | next => 
      obtain ⟨G', lvs, svs, idx, m, o1, rfl, l, o2, m1, m2, m3, h1, h2, Wk, hidx, hall, hmN⟩ := hf
      obtain ⟨Gs, ms, os, ps⟩ := σ'
      dsimp only at o1 o2 m1 m2 m3 h1 h2 l
      subst o1; subst o2
      have allk : ∀ k, itr L p k < N ∧ C (itr L p k) := fun k => by
        induction k with
        | zero => exact ⟨hp, h0⟩
        | succ k ih => exact ⟨(hC _ ih.1 ih.2).2.2.1, (hC _ ih.1 ih.2).2.2.2⟩
      have W' := W.mono l
      have hin : itr L p m ∈ lastsOf L p m := by
        unfold lastsOf; exact List.mem_map.mpr ⟨m, List.mem_range.mpr (by omega), rfl⟩
      have Ll : ∀ {Gx : PM} {mx}, Le Gs Gx → (⟨Gx, mx, [(sa, .lst svs), (la, .lst lvs)], ps⟩ : Sta).Ls (RPl N pas) (lastsOf L p m) (.ref la) := fun lx => ⟨la, _, rfl, .inr (List.mem_cons_of_mem _ (List.mem_cons_self ..)), h1.mono RPl.mono lx⟩
      have Ls : ∀ {Gx : PM} {mx}, Le Gs Gx → (⟨Gx, mx, [(sa, .lst svs), (la, .lst lvs)], ps⟩ : Sta).Ls (RPl N pas) (secsOf L p m) (.ref sa) := fun lx => ⟨sa, _, rfl, .inr (List.mem_cons_self ..), h2.mono RPl.mono lx⟩
      refine .execs_cons (.asg (.mIndex (R := RPl N pas) (.name m2 ⟨⟨_, Ll Le.rfl⟩, .name m1 ⟨lastsOf L p m, itr L p m, 0, Ll Le.rfl, by rw [lastsOf_length]; omega, EqR.rpl T W', Uq.rpl W', ⟨(hall m (Nat.le_refl _)).1, rfl⟩, by show 0 + 2 ≤ 8 * (n + 1); omega, hin, ?_⟩ (.inl rfl)⟩ (.inl rfl))))
      rw [← hidx]
      rintro iv ⟨t, rfl⟩
      refine .st (.few [("lasts", .ref la), ("seconds", .ref sa), ("idx", .int (idx : Nat) t)] ⟨by rw [lookup_setL, if_neg (by decide)]; exact m2, by rw [lookup_setL, if_neg (by decide)]; exact m3, by rw [lookup_setL, if_pos rfl], trivial⟩ ?_)
      refine .execs_cons (.asg (.calln (.built T Tb.list rfl (.calleeT (.sp_cons (.calln (.built T Tb.zip rfl (.calleeT (.sp_cons (.fromR (R := RPl N pas) (.name rfl (.binop (.name rfl (.int fun t => .add fun t => ?_) (.inl rfl))) (.inl rfl)) RPl.mono))))))))))
      refine ⟨lastsOf L p m, idx + 1, Ll Le.rfl, by rw [lastsOf_length]; omega, ⟨t, rfl⟩, fun v₁ G₁ l₁ r₁ => ?_⟩
      refine .sp_cons (.fromR (R := RPl N pas) (.name rfl (.name rfl ?_ (.inl rfl)) (.inl rfl)) RPl.mono)
      refine ⟨secsOf L p m, idx, Ls l₁, by rw [secsOf_length]; omega, ⟨_, rfl⟩, fun v₂ G₂ l₂ r₂ => .sp_nil ?_⟩
      obtain ⟨a₁, vs₁, rfl, q₁, s₁⟩ := RL.mono RPl.mono _ _ _ _ l₂ r₁
      obtain ⟨a₂, vs₂, rfl, q₂, s₂⟩ := r₂
      refine .zip q₁ q₂ fun z TI TO i1 i2 G₃ l₃ hTI => .sp_nil ?_
      refine TT.listzip (σ := ⟨G₃, [("lasts", .ref la), ("seconds", .ref sa), ("idx", .int (idx : Nat) _)], [(sa, .lst svs), (la, .lst lvs)], ps⟩) (q₁.mono l₃) (q₂.mono l₃) (s₁.mono RPl.mono l₃) (s₂.mono RPl.mono l₃) RPl.mono RPl.mono ?_ ?_ hTI fun v G₄ l₄ r₄ => ?_
      · rw [List.length_drop, List.length_drop, lastsOf_length, secsOf_length]; omega
      · rw [List.length_drop, lastsOf_length]; omega
      · exact .st (.execs_cons (.ret (.name rfl (hP₀ _ _ ⟨rfl, idx, m, Wk, allk, r₄⟩) (.inl rfl))))
    | _ => exact hf.elim

end
end Mine

end
section
namespace Mine
open PySem.SeqAt PySem.SeqRoads2 PySem.MeetsSeq PySem.MeetsSeq2 PySem.MeetsSeq3

section
variable {gl : Gl} {Φ : Fx} {σ : Sta}

/-! a pair taken apart -/
theorem TT.asg2 {e1 e2 : Expr} {k : Nat} {pos : Pos} {t : Addr} {x y : Value} {P : Unit → Sta → Prop} (ht : IsTpl σ.G t [x, y])
    (p : TT gl Φ (assign e1 Φ.env x) σ fun _ σ₁ => TT gl Φ (assign e2 Φ.env y) σ₁ P)
    (he : assignEach [e1, e2] Φ.env = [(false, assign e1 Φ.env), (false, assign e2 Φ.env)] := by rfl) : TT gl Φ (assign (.Tuple [e1, e2] k pos) Φ.env (.ref t)) σ P :=
  fun h g d tk os Q E S q => by
    have hT : h.IsTuple t #[x, y] := ⟨_, S.sub _ _ ht, rfl, 0, rfl⟩
    refine wpAny_assign_Tuple (s := ⟨h, g, d, tk, os⟩) S.hh hT (by rw [he]; rfl) (by rw [he]; rfl) fun h' hx => ?_
    rw [he]
    have S' : St gl Φ σ h' := S.same fun b o e => hx b o (Nat.ne_of_lt (Heap.lt_size e)) e
    show wpAny _ Φ.A (do holding [y] (assign e1 Φ.env x); do holding [] (assign e2 Φ.env y); Pure.pure ()) _ _ _
    refine wpAny_bind (wpAny_holding (p h' g d tk os _ E S' fun _ σ₁ h₁ tk₁ S₁ p₁ => ?_))
    refine wpAny_bind (wpAny_holding (p₁ h₁ g d tk₁ os _ E S₁ fun _ σ₂ h₂ tk₂ S₂ p₂ => wpAny_pure ?_))
    exact q _ _ _ _ S₂ p₂

/-! more of ints -/
theorem TT.modI {a b : Int} {t u} {P : Value → Sta → Prop} (hb : b ≠ 0) (x : ∀ t, P (.int (a.fmod b) t) σ) : TT gl Φ (binaryOp .Mod (.int a t) (.int b u)) σ P := .calmE fun _ _ _ _ _ _ _ _ q => PyProof.Rows.mod_int' hb (q _ _ (x _))
theorem TT.divI {a b : Int} {t u} {P : Value → Sta → Prop} (hb : b ≠ 0) (hs : b.natAbs < 1073741824) (x : ∀ t, P (.int (a.fdiv b) t) σ) : TT gl Φ (binaryOp .FloorDiv (.int a t) (.int b u)) σ P :=
  .calmE fun _ _ _ _ _ _ _ _ q => PyProof.Rows.floordiv_int hb (q _ _ (x _)) (.inl (PyProof.noPylong_small hs))
theorem TT.mulI {a b : Int} {t u} {P : Value → Sta → Prop} (hm : IntMulOk a b) (x : ∀ t, P (.int (a * b) t) σ) : TT gl Φ (binaryOp .Mult (.int a t) (.int b u)) σ P := .calmE fun _ _ _ _ _ _ _ _ q => PySem.P.mul_int (q _ _ (x _)) hm

theorem TT.addN {a b : Nat} {v w : Value} {P : Value → Sta → Prop} (ha : RN σ.G a v) (hb : RN σ.G b w) (x : ∀ v, RN σ.G (a + b) v → P v σ) : TT gl Φ (binaryOp .Add v w) σ P := by
  obtain ⟨t, rfl⟩ := ha; obtain ⟨u, rfl⟩ := hb
  exact .add fun t => x _ ⟨t, by rw [Int.natCast_add]⟩
theorem TT.modN {a b : Nat} {v w : Value} {P : Value → Sta → Prop} (ha : RN σ.G a v) (hb : RN σ.G b w) (h0 : b ≠ 0) (x : ∀ v, RN σ.G (a % b) v → P v σ) : TT gl Φ (binaryOp .Mod v w) σ P := by
  obtain ⟨t, rfl⟩ := ha; obtain ⟨u, rfl⟩ := hb
  exact .modI (by omega) fun t => x _ ⟨t, by rw [Int.fmod_eq_emod_of_nonneg _ (by omega), Int.natCast_emod]⟩
theorem TT.divN {a b : Nat} {v w : Value} {P : Value → Sta → Prop} (ha : RN σ.G a v) (hb : RN σ.G b w) (h0 : b ≠ 0) (hs : b ≤ 1000) (x : ∀ v, RN σ.G (a / b) v → P v σ) : TT gl Φ (binaryOp .FloorDiv v w) σ P := by
  obtain ⟨t, rfl⟩ := ha; obtain ⟨u, rfl⟩ := hb
  exact .divI (by omega) (by omega) fun t => x _ ⟨t, by rw [Int.fdiv_eq_ediv_of_nonneg _ (by omega), Int.natCast_ediv]⟩
theorem TT.ltN {a b : Nat} {v w : Value} {P : Value → Sta → Prop} (ha : RN σ.G a v) (hb : RN σ.G b w) (x : P (.bool (decide (a < b))) σ) : TT gl Φ (compareOp .Lt v w) σ P := by
  obtain ⟨t, rfl⟩ := ha; obtain ⟨u, rfl⟩ := hb
  refine .ltI ?_
  rw [show decide ((a : Int) < b) = decide (a < b) by by_cases h : a < b <;> simp [h] <;> omega]; exact x
theorem TT.gtN {a b : Nat} {v w : Value} {P : Value → Sta → Prop} (ha : RN σ.G a v) (hb : RN σ.G b w) (x : P (.bool (decide (a > b))) σ) : TT gl Φ (compareOp .Gt v w) σ P := by
  obtain ⟨t, rfl⟩ := ha; obtain ⟨u, rfl⟩ := hb
  refine .gtI ?_
  rw [show decide ((a : Int) > b) = decide (a > b) by by_cases h : b < a <;> simp [h] <;> omega]; exact x
theorem TT.eqN {a b : Nat} {v w : Value} {P : Value → Sta → Prop} (ha : RN σ.G a v) (hb : RN σ.G b w) (x : P (.bool (decide (a = b))) σ) : TT gl Φ (compareOp .Eq v w) σ P := by
  obtain ⟨t, rfl⟩ := ha; obtain ⟨u, rfl⟩ := hb
  refine .eqI ?_
  rw [show ((a : Int) == b) = decide (a = b) by by_cases h : a = b <;> simp [h] <;> omega]; exact x
theorem TT.neN {a b : Nat} {v w : Value} {P : Value → Sta → Prop} (ha : RN σ.G a v) (hb : RN σ.G b w) (x : P (.bool (decide (a ≠ b))) σ) : TT gl Φ (compareOp .NotEq v w) σ P := by
  obtain ⟨t, rfl⟩ := ha; obtain ⟨u, rfl⟩ := hb
  refine .neI ?_
  rw [show ((a : Int) != b) = decide (a ≠ b) by by_cases h : a = b <;> simp [h] <;> omega]; exact x
theorem TT.intN {a : Nat} {k pos} {P : Value → Sta → Prop} (x : ∀ v, RN σ.G a v → P v σ) : TT gl Φ (eval (.Constant (.int a) k pos) Φ.env) σ P := .int fun t => x _ ⟨t, rfl⟩

/-! equality of pairs and of lists -/
theorem Uq.rt2 {α β : Type} {R : RP α} {R' : RP β} {G : PM} (U : Uq R G) (U' : Uq R' G) : Uq (RT2 R R') G := by
  rintro ⟨a, b⟩ ⟨a', b'⟩ v ⟨t, x, y, rfl, ht, hx, hy⟩ ⟨t', x', y', e, ht', hx', hy'⟩
  injection e with e; subst e
  have ht : G t = _ := ht
  have ht' : G t = _ := ht'
  rw [ht] at ht'
  have e := congrArg (fun o : Option Obj => o.map fun o => match o.data with | .seq a _ => a.toList | _ => []) ht'
  simp at e
  obtain ⟨rfl, rfl⟩ := e
  exact Prod.ext (U _ _ _ hx hx') (U' _ _ _ hy hy')
theorem Uq.lst {α : Type} {R : α → Value → Prop} (U : ∀ x y v, R x v → R y v → x = y) : ∀ {xs ys : List α} {vs : List Value}, Rs R xs vs → Rs R ys vs → xs = ys
  | _, _, _, .nil, .nil => rfl
  | _, _, _, .cons h t, .cons h' t' => by rw [U _ _ _ h h', Uq.lst U t t']
theorem Uq.rl {α : Type} {R : RP α} {G : PM} (U : Uq R G) : Uq (RL R) G := by
  rintro xs ys v ⟨a, vs, rfl, ⟨n, ha⟩, h⟩ ⟨a', vs', e, ⟨n', ha'⟩, h'⟩
  injection e with e; subst e
  rw [ha] at ha'
  have e := congrArg (fun o : Option Obj => o.map fun o => match o.data with | .seq a _ => a.toList | _ => []) ha'
  simp at e
  subst e
  exact Uq.lst U h h'

theorem EqR.rt2 {α β : Type} [DecidableEq α] [DecidableEq β] {R : RP α} {R' : RP β} {k : Nat} (E : EqR gl Φ σ R k) (E' : EqR gl Φ σ R' k) (U : Uq R σ.G) (U' : Uq R' σ.G) : EqR gl Φ σ (RT2 R R') (k + 1) := by
  rintro ⟨a, b⟩ ⟨a', b'⟩ v w hv hw
  obtain ⟨t, x, y, rfl, ht, hx, hy⟩ := id hv
  obtain ⟨t', x', y', rfl, ht', hx', hy'⟩ := id hw
  intro h g d tk os A S hu
  by_cases e : t = t'
  · subst e
    rw [Uq.rt2 U U' _ _ _ hv hw]
    simp only [decide_true]
    exact EqAt.same _
  · have h1 : h.IsTuple t #[x, y] := ⟨_, S.sub _ _ ht, rfl, 0, rfl⟩
    have h2 : h.IsTuple t' #[x', y'] := ⟨_, S.sub _ _ ht', rfl, 0, rfl⟩
    have := RcAt.tuples (A := A) (s := ⟨h, g, d, tk, os⟩) (e := fun j => if j = 0 then decide (a = a') else decide (b = b')) h1 h2 (by omega) fun j j1 j2 => by
      have : A.in1.units + k < cLine := by simp only [Around.in1_units]; omega
      match j, j1 with
      | 0, _ => exact E _ _ _ _ hx hx' h g d tk os A.in1 S this
      | 1, _ => exact E' _ _ _ _ hy hy' h g d tk os A.in1 S this
    have e2 : ((List.range (min #[x, y].size #[x', y'].size)).all (fun j => if j = 0 then decide (a = a') else decide (b = b')) && #[x, y].size == #[x', y'].size) = decide ((a, b) = (a', b')) := by
      show ([0, 1].all _ && true) = _
      by_cases q : a = a' <;> by_cases q' : b = b' <;> simp [q, q']
    rw [e2] at this
    exact EqAt.of_refs e this

theorem all_eq {α : Type} [DecidableEq α] : ∀ (xs ys : List α), xs.length = ys.length → (List.range xs.length).all (fun j => decide (xs[j]? = ys[j]?)) = decide (xs = ys)
  | xs, ys, hl => by
    by_cases h : xs = ys
    · subst h; simp
    · rw [decide_eq_false h]
      apply Bool.eq_false_iff.mpr
      intro hall
      rw [List.all_eq_true] at hall
      apply h
      apply List.ext_getElem?
      intro j
      by_cases hj : j < xs.length
      · exact of_decide_eq_true (hall j (List.mem_range.mpr hj))
      · rw [List.getElem?_eq_none (by omega), List.getElem?_eq_none (by omega)]

section
variable {α : Type} [DecidableEq α] {R : RP α} {k : Nat}
theorem EqR.elems (E : EqR gl Φ σ R k) {xs ys : List α} {vs ws : List Value} (H : Rs (R σ.G) xs vs) (H' : Rs (R σ.G) ys ws) {h : Heap} {g : Array GenState} {d : Drawn} {tk : Nat} {os : OsState} {A : Around} (S : St gl Φ σ h) (hu : A.units + 1 + k < cLine) :
    ∀ j (h1 : j < vs.toArray.size) (h2 : j < ws.toArray.size), EqAt A.in1 ⟨h, g, d, tk, os⟩ vs.toArray[j] ws.toArray[j] (decide (xs[j]? = ys[j]?)) := fun j h1 h2 => by
  simp only [List.size_toArray] at h1 h2
  obtain ⟨x, ex, rx⟩ := H.get' (List.getElem?_eq_getElem h1)
  obtain ⟨y, ey, ry⟩ := H'.get' (List.getElem?_eq_getElem h2)
  have := E x y _ _ rx ry h g d tk os A.in1 S (by simp only [Around.in1_units]; omega)
  rw [ex, ey]
  simpa using this

theorem EqR.rl (E : EqR gl Φ σ R k) (U : Uq R σ.G) : EqR gl Φ σ (RL R) (k + 1) := by
  intro xs ys v w hv hw
  obtain ⟨a, vs, rfl, ⟨n, ha⟩, H⟩ := id hv
  obtain ⟨b, ws, rfl, ⟨n', hb⟩, H'⟩ := id hw
  intro h g d tk os A S hu
  by_cases e : a = b
  · subst e
    rw [Uq.rl U _ _ _ hv hw]
    simp only [decide_true]
    exact EqAt.same _
  · refine EqAt.of_refs e ?_
    have i1 : h.IsList a vs.toArray := IsL.isList (S.sub _ _ ha)
    have i2 : h.IsList b ws.toArray := IsL.isList (S.sub _ _ hb)
    by_cases hl : xs.length = ys.length
    · have := RcAt.lists (A := A) (s := ⟨h, g, d, tk, os⟩) i1 i2 (by simp only [List.size_toArray]; rw [H.length, H'.length, hl]) (by omega) (E.elems H H' S (by omega))
      rw [List.size_toArray, H.length, all_eq _ _ hl] at this
      exact this
    · rw [decide_eq_false (fun q => hl (by rw [q]))]
      exact RcAt.lists_lengths i1 i2 (by simp only [List.size_toArray]; rw [H.length, H'.length]; simpa using hl) (by omega)

theorem TT.eqLs {xs ys : List α} {v w : Value} {P : Value → Sta → Prop} (H : σ.Ls R xs v) (H' : σ.Ls R ys w) (E : EqR gl Φ σ R k) (hk : k + 2 ≤ 8 * Φ.n) (x : P (.bool (decide (xs = ys))) σ) : TT gl Φ (compareOp .Eq v w) σ P :=
  .calmE fun h g d tk os Q E' S q => by
    obtain ⟨a, vs, rfl, L, H⟩ := H
    obtain ⟨b, ws, rfl, L', H'⟩ := H'
    obtain ⟨n, e1⟩ := S.lst L
    obtain ⟨n', e2⟩ := S.lst L'
    have hc := S.cline
    by_cases hl : xs.length = ys.length
    · have := RcAt.lists (A := Φ.A) (s := ⟨h, g, d, tk, os⟩) e1.isList e2.isList (by simp only [List.size_toArray]; rw [H.length, H'.length, hl]) (by omega) (E.elems H H' S (by omega))
      rw [List.size_toArray, H.length, all_eq _ _ hl] at this
      exact this _ _ _ _ (q _ _ x)
    · rw [decide_eq_false (fun q => hl (by rw [q]))] at x
      exact RcAt.lists_lengths e1.isList e2.isList (by simp only [List.size_toArray]; rw [H.length, H'.length]; simpa using hl) (by omega) _ _ _ _ (q _ _ x)
theorem TT.neLs {xs ys : List α} {v w : Value} {P : Value → Sta → Prop} (H : σ.Ls R xs v) (H' : σ.Ls R ys w) (E : EqR gl Φ σ R k) (hk : k + 2 ≤ 8 * Φ.n) (x : P (.bool (decide (xs ≠ ys))) σ) : TT gl Φ (compareOp .NotEq v w) σ P :=
  .calmE fun h g d tk os Q E' S q => by
    obtain ⟨a, vs, rfl, L, H⟩ := H
    obtain ⟨b, ws, rfl, L', H'⟩ := H'
    obtain ⟨n, e1⟩ := S.lst L
    obtain ⟨n', e2⟩ := S.lst L'
    have hc := S.cline
    by_cases hl : xs.length = ys.length
    · have := RcNeAt.lists (A := Φ.A) (s := ⟨h, g, d, tk, os⟩) e1.isList e2.isList (by simp only [List.size_toArray]; rw [H.length, H'.length, hl]) (by omega) (E.elems H H' S (by omega))
      rw [List.size_toArray, H.length, all_eq _ _ hl, ← decide_not] at this
      exact this _ _ _ _ (q _ _ x)
    · have : decide (xs ≠ ys) = true := decide_eq_true (fun q => hl (by rw [q]))
      rw [this] at x
      exact RcNeAt.lists_lengths e1.isList e2.isList (by simp only [List.size_toArray]; rw [H.length, H'.length]; simpa using hl) (by omega) _ _ _ _ (q _ _ x)
end

/-! pair[::-1] -/
theorem slicePart_m1 {prog : Program} {w : World} {A : Around} {E : Value → Shared → Prop} {s : Shared} {sl : Addr} {u : Tok} {Q : Int × Int × Nat → Shared → Prop} (hs : s.heap.IsSliceOf sl .none .none (.int (-1) u)) (h : Q (1, -1, 2) s) :
    wpAny (model prog w) A (Builtin.Slice.sliceApplied (.ref sl) (Pure.pure (2 : Int))) Q E s := by
  obtain ⟨os, hos, hcs, hds⟩ := id hs
  unfold Builtin.Slice.sliceApplied Builtin.Slice.sliceFields
  refine wpAny_bind (wpAny_bind (wpAny_field hos hds (x := .none) rfl (wpAny_bind (wpAny_field hos hds (x := .none) rfl (wpAny_bind (wpAny_field hos hds (x := .int (-1) u) rfl (wpAny_pure ?_)))))))
  refine wpAny_bind (slicePart_int ?_)
  show wpAny _ _ (if ((-1 : Int) == 0) = true then _ else _) _ _ s
  rw [if_neg (by decide)]
  refine wpAny_bind (slicePart_none (wpAny_bind (slicePart_none (wpAny_bind (wpAny_pure ?_)))))
  exact wpAny_pure h

theorem TT.rev2 {value e : Expr} {p pos : Pos} {P : Value → Sta → Prop}
    (x : TT gl Φ (eval value Φ.env) σ fun o σ₁ => TT gl Φ (eval e Φ.env) σ₁ fun ve σ₂ => ∃ a v w t, o = .ref a ∧ ve = .int (-1) t ∧ IsTpl σ₂.G a [v, w] ∧ ∀ b G', Le σ₂.G G' → IsTpl G' b [w, v] → P (.ref b) { σ₂ with G := G' }) :
    TT gl Φ (eval (.Subscript value (.Slice none none (some e) p) pos) Φ.env) σ P :=
  fun h g d tk os Q E S q => by
    rw [eval_Subscript]
    refine wpAny_bind (x h g d tk os _ E S fun o σ₁ h₁ tk₁ S₁ y => wpAny_bind (wpAny_holding (wpAny_Slice ?_)))
    rw [evalPart_none]
    refine wpAny_pure (wpAny_pure (y h₁ g d tk₁ os _ E S₁ fun ve σ₂ h₂ tk₂ S₂ z => ?_))
    obtain ⟨a, v, w, t, rfl, rfl, ht, f⟩ := z
    refine wpAny_bind (wpAny_standAt ?_)
    have e2 : h₂.get? a = some (TupO [v, w]) := S₂.sub _ _ ht
    have hk := le_push h₂ { cls := .type "slice", data := .fields #[Value.none, Value.none, Value.int (-1) t] }
    have hT : IsTup (h₂.push { cls := .type "slice", data := .fields #[Value.none, Value.none, Value.int (-1) t] }) a #[v, w] := ⟨_, hk _ _ e2, rfl, 0, rfl⟩
    have hTI : (⟨h₂.push { cls := .type "slice", data := .fields #[Value.none, Value.none, Value.int (-1) t] }, g, d, tk₂, os⟩ : Shared).TypeIs (.ref a) "tuple" := ⟨_, hk _ _ e2, rfl⟩
    refine wpAny_bind ?_
    rw [getitemInPython_of_ne hTI.not_modules]
    refine wpAny_bind (wpAny_specialOf hTI slot_tuple_getitem.lookup ?_)
    have fin : wpAny (model gl.prog gl.w) Φ.A (getItem (.ref a) (.ref h₂.objs.size)) (fun r s₄ => wpAny (model gl.prog gl.w) Φ.A (letTemporaryGo value (.ref a) r >>= fun _ => Pure.pure r) Q E s₄) E
        ⟨h₂.push { cls := .type "slice", data := .fields #[Value.none, Value.none, Value.int (-1) t] }, g, d, tk₂, os⟩ := by
      have hsl := Heap.IsSliceOf.new h₂ Value.none Value.none (Value.int (-1) t)
      obtain ⟨os', hos, hcs, hds⟩ := id hsl
      have hTs : (⟨h₂.push { cls := .type "slice", data := .fields #[Value.none, Value.none, Value.int (-1) t] }, g, d, tk₂, os⟩ : Shared).TypeIs (.ref h₂.objs.size) "slice" := ⟨os', hos, hcs⟩
      unfold getItem
      try with_reducible refine wpAny_holding ?_
      first | refine wpAny_bind (wpAny_pure ?_) | skip
      refine wpAny_bind (wpAny_sequenceKey hTI (by decide) ?_)
      refine wpAny_bind (wpAny_callSpecial?_slot (name := Str.ofString "__getitem__") hTI slot_tuple_getitem
        (wpAny_call_entry slot_tuple_getitem hTI entry_tuple_getitem ?_ (args_tuple_getitem _ _)))
      show wpAny _ _ (Builtin.Tuple.tupleItemsOf (.ref a) >>= _) _ _ _
      refine wpAny_bind (tupleItemsOf_ hT ?_)
      refine wpAny_bind (wpAny_typeOf hTs ?_)
      rw [if_pos (by decide)]
      refine wpAny_bind (slicePart_m1 hsl ?_)
      show wpAny _ _ (if ((1 : Int) == 0 && (-1 : Int) == 1 && 2 == 2) = true then _ else _) _ _ _
      rw [if_neg (by decide)]
      have fin2 : wpAny (model gl.prog gl.w) Φ.A (letTemporaryGo value (.ref a) (.ref (h₂.push { cls := .type "slice", data := .fields #[Value.none, Value.none, Value.int (-1) t] }).objs.size) >>= fun _ => Pure.pure (.ref (h₂.push { cls := .type "slice", data := .fields #[Value.none, Value.none, Value.int (-1) t] }).objs.size)) Q E
          ⟨(h₂.push { cls := .type "slice", data := .fields #[Value.none, Value.none, Value.int (-1) t] }).push (TupO [w, v]), g, d, tk₂, os⟩ := by
        refine wpAny_bind (wpAny_letTemporaryGo (wpAny_pure ?_))
        rw [Heap.size_push]
        have hG := (S₂.fresh (fresh_push (h := h₂) (TupO []))).2.1
        have S₃ := S₂.frozen (ob := TupO [w, v]) (fresh_push (h := h₂) (TupO [])) (hk.trans (le_push _ _)) (by
          have := Heap.get?_push_size (h₂.push { cls := .type "slice", data := .fields #[Value.none, Value.none, Value.int (-1) t] }) (o := TupO [w, v]) rfl
          rw [Heap.size_push] at this
          exact this)
        exact q _ _ _ _ S₃ (f _ _ (le_addG hG) (by unfold IsTpl addG; rw [if_pos rfl]))
      have hpk : ((List.range 2).filterMap fun (k : Nat) => (#[v, w] : Array Value)[((1 : Int) + (k : Int) * (-1)).toNat]?).toArray = [w, v].toArray := rfl
      rw [hpk]
      first
        | exact wpAny_bind (m := Builtin.Tuple.tupleExact _) (wpAny_newObj_type (wpAny_pure ⟨_, rfl, wpAny_pure fin2⟩) (small (by simp)))
        | exact wpAny_bind (m := Builtin.Tuple.tupleExact _) (wpAny_newObj_type (wpAny_bind (wpAny_pure (wpAny_pure ⟨_, rfl, wpAny_pure fin2⟩))) (small (by simp)))
        | exact wpAny_bind (wpAny_bind (m := Builtin.Tuple.tupleExact _) (wpAny_newObj_type (wpAny_pure (wpAny_pure ⟨_, rfl, wpAny_pure fin2⟩)) (small (by simp))))
        | exact wpAny_bind (wpAny_bind (m := Builtin.Tuple.tupleExact _) (wpAny_newObj_type (wpAny_pure ⟨_, rfl, wpAny_pure fin2⟩) (small (by simp))))
    first
      | exact wpAny_pure (wpAny_bind (wpAny_operating fin))
      | exact wpAny_bind (wpAny_pure (wpAny_bind (wpAny_operating fin)))
      | exact wpAny_bind (wpAny_operating fin)

end
end Mine

end
section
namespace Mine
open PySem.SeqAt PySem.SeqRoads2 PySem.MeetsSeq PySem.MeetsSeq2 PySem.MeetsSeq3

noncomputable def enO (it : Addr) (i : Nat) (old : Value) : Obj := { cls := .type "enumerate", dict := none, data := .fields #[.none, .bool false, .ref it, rawInt i, .none, old], slots := #[] }
noncomputable abbrev eX (e it l : Addr) (i : Nat) (old : Value) (σ : Sta) : Sta := { σ with own := [(e, .ob (enO it i old)), (it, .liter l i)] ++ σ.own }

section
variable {gl : Gl} {Φ : Fx} {σ : Sta}

theorem St.reown {h h' : Heap} {G' : PM} {X : List (Addr × Cl)} (S : St gl Φ { σ with own := X ++ σ.own } h) (S' : St gl Φ { σ with G := G' } h') (hG : ∀ e ∈ X, G' e.1 = none) :
    ∀ X' : List (Addr × Cl), X'.map (·.1) = X.map (·.1) → (∀ e ∈ X', e.2.At h' e.1) → St gl Φ { σ with G := G', own := X' ++ σ.own } h' := by
  have main : ∀ (X' Y : List (Addr × Cl)), X'.map (·.1) = Y.map (·.1) → (∀ e ∈ Y, e ∈ X) → ((Y ++ σ.own).map (·.1)).Nodup → (∀ e ∈ X', e.2.At h' e.1) → St gl Φ { σ with G := G', own := X' ++ σ.own } h' := by
    intro X'
    induction X' with
    | nil => intro Y _ _ _ _; exact S'
    | cons e r ih =>
      intro Y hm hY hd ha
      cases Y with
      | nil => simp at hm
      | cons f Y =>
        simp only [List.map_cons, List.cons.injEq] at hm
        rw [List.cons_append, List.map_cons, List.nodup_cons] at hd
        have ih' := ih Y hm.2 (fun e he => hY e (List.mem_cons_of_mem _ he)) hd.2 fun e he => ha e (List.mem_cons_of_mem _ he)
        obtain ⟨b1, b2, b3, b4⟩ := S.own f (List.mem_append_left _ (hY f (List.mem_cons_self ..)))
        have ea : e.1 = f.1 := hm.1
        obtain ⟨ea1, ec⟩ := e
        simp only at ea
        subst ea
        refine ih'.cons (ha _ (List.mem_cons_self ..)) b2 (hG f (hY f (List.mem_cons_self ..))) b4.1 b4.2 (fun q hq z => hd.1 ?_) fun p hp => Ne.symm (S.ox f (List.mem_append_left _ (hY f (List.mem_cons_self ..))) p hp)
        rw [← z]
        rcases List.mem_append.mp hq with hq | hq
        · have : q.1 ∈ Y.map (·.1) := hm.2 ▸ List.mem_map.mpr ⟨q, hq, rfl⟩
          rw [List.map_append]; exact List.mem_append_left _ this
        · rw [List.map_append]; exact List.mem_append_right _ (List.mem_map.mpr ⟨q, hq, rfl⟩)
  exact fun X' hm ha => main X' X hm (fun _ h => h) S.ownd ha

theorem TT.enum {l : Addr} {vs : List Value} {P : Value → Sta → Prop} (L : IsLst σ.G l vs) (p : ∀ e it, P (.ref e) (eX e it l 0 .none σ)) : TT gl Φ (PySem.call (.type "enumerate") [.ref l]) σ P :=
  fun h g d tk os Q E S q => by
    obtain ⟨n, e⟩ := L
    have e : h.get? l = some (LstO vs n) := S.sub _ _ e
    refine call_enumerate_list (IsL.isList e) fun h' c1 c2 c3 hk => ?_
    have fr : ∀ k, h.get? (h.objs.size + k) = none := fun k => by
      cases q : h.get? (h.objs.size + k) with
      | none => rfl
      | some o => exact absurd (Heap.lt_size q) (by show ¬ h.objs.size + k < _; omega)
    have S1 : St gl Φ σ h' := S.same hk
    have S2 := S.addMany S1 [(h.objs.size + 1, .ob (enO h.objs.size 0 .none)), (h.objs.size, .liter l 0)] (fun e he => ?_) (by simp)
    · exact q _ _ _ _ S2 (p _ _)
    · simp only [List.mem_cons, List.not_mem_nil, or_false] at he
      rcases he with rfl | rfl
      · exact ⟨fr 1, (S.fresh (fr 1)).2.1, c1⟩
      · exact ⟨fresh_size h, (S.fresh (fresh_size h)).2.1, c2⟩

theorem eX_at {h : Heap} {e it l : Addr} {i : Nat} {old : Value} (S : St gl Φ (eX e it l i old σ) h) : IsEnum h e it i old ∧ h.IsListIter it l i ∧ e ≠ it ∧ σ.G e = none ∧ σ.G it = none := by
  have a := S.own (e, .ob (enO it i old)) (List.mem_cons_self ..)
  have b := S.own (it, .liter l i) (List.mem_cons_of_mem _ (List.mem_cons_self ..))
  have c : ((e, Cl.ob (enO it i old)) :: (it, .liter l i) :: σ.own |>.map (·.1)).Nodup := S.ownd
  simp only [List.map_cons, List.nodup_cons, List.mem_cons, not_or] at c
  exact ⟨a.1, b.1, c.1.1, a.2.2.1, b.2.2.1⟩

theorem eX_nc {h : Heap} {e it l : Addr} {i : Nat} {old : Value} (S : St gl Φ (eX e it l i old σ) h) : ∀ q ∈ [(e, Cl.ob (enO it i old)), (it, Cl.liter l i)], ∀ v, ¬ ∃ o, h.get? q.1 = some o ∧ o.data = .cell v := by
  obtain ⟨he, hi, _⟩ := eX_at S
  intro q hq v
  simp only [List.mem_cons, List.not_mem_nil, or_false] at hq
  rcases hq with rfl | rfl
  · rintro ⟨o, a, b⟩; have he : h.get? e = _ := he; rw [he] at a; cases a; cases b
  · exact not_cell_liter hi v

theorem TT.forEZ {elts : List Expr} {tk : Nat} {tpos : Pos} {iter : Expr} {body : List Stmt} {pos : Pos} {P : Flow → Sta → Prop}
    (x : TT gl Φ (eval iter Φ.env) σ fun v σ₁ => ∃ (e it l : Addr) (vs : List Value) (σ₃ : Sta) (I : Nat → Sta → Prop), v = .ref e ∧ σ₁ = eX e it l 0 .none σ₃ ∧ IsLst σ₃.G l vs ∧ I 0 σ₃ ∧
      (∀ P' : Nat → Sta → Flow → Sta → Prop, (∀ i σ' f σb, (match f with
        | .next | .cont => ∃ old σc, σb = eX e it l (i + 1) old σc ∧ Le σ'.G σc.G ∧ I (i + 1) σc
        | .brk => P .next σb
        | .ret v => P (.ret v) σb) → P' i σ' f σb) →
        ∀ (i : Nat) (w : Value) (T : Addr) (t : Tok) (old : Value) (σ' : Sta) (G' : PM), vs[i]? = some w → I i σ' → Le σ₃.G σ'.G → Le σ'.G G' → IsTpl G' T [.int (i : Nat) t, w] →
        TT gl Φ (assign (.Tuple elts tk tpos) Φ.env (.ref T)) (eX e it l (i + 1) old { σ' with G := G' }) fun _ σa => TT gl Φ (execs body Φ.env) σa (P' i σ')) ∧
      (∀ σ', Le σ₃.G σ'.G → I vs.length σ' → P .next σ'))
    (hs : ∀ x, foldedSetIterable iter Φ.env x = Pure.pure x := by intro _; rfl) :
    TT gl Φ (exec (.For (.Tuple elts tk tpos) iter body [] pos) Φ.env) σ P :=
  fun h g d tk os Q E S q => by
    refine wpAny_For (x h g d tk os _ E S fun v σ₁ h₁ tk₁ S₁ y => ?_) hs
    obtain ⟨e, it, l, vs, σ₃, I, rfl, rfl, L, h0, step, fin⟩ := y
    obtain ⟨he₁, hi₁, _⟩ := eX_at S₁
    refine wpAny_pyIter_enum he₁ ?_
    refine codeAny_forLoop_any (fun k s => ∃ i old σ' h' tk', k = vs.length + 1 - i ∧ i ≤ vs.length ∧ s = ⟨h', g, d, tk', os⟩ ∧ St gl Φ (eX e it l i old σ') h' ∧ Le σ₃.G σ'.G ∧ I i σ') ?_ (vs.length + 1) ⟨0, .none, σ₃, h₁, tk₁, rfl, Nat.zero_le _, rfl, S₁, Le.rfl, h0⟩
    rintro k s ⟨i, old, σ', h', tk', rfl, hin, rfl, S', hle, hI⟩
    obtain ⟨he, hi, hne, gE, gI⟩ := eX_at S'
    obtain ⟨n, eL⟩ := L.mono hle
    have eL : h'.get? l = some (LstO vs n) := S'.sub _ _ eL
    by_cases hlt : i < vs.length
    · refine wpAny_pyNext_enum_item (x := vs[i]) he hi (IsL.isList eL) (by simp [hlt]) hne fun h₂ c1 c2 c3 c4 hk => ?_
      have S₂ := S'.newG (X := [(e, .ob (enO it i old)), (it, .liter l i)]) (fun b o hb eb => hk b o (Ne.symm (hb _ (List.mem_cons_self ..))) (Ne.symm (hb _ (List.mem_cons_of_mem _ (List.mem_cons_self ..)))) eb) (eX_nc S')
      have gOld : ∀ {b o}, h'.get? b = some o → growG σ'.G h' h₂ b = σ'.G b := fun e => by unfold growG; rw [e]
      have aE : ∃ o, h'.get? e = some o := ⟨_, he⟩
      have aI : ∃ o, h'.get? it = some o := by obtain ⟨o, e, _⟩ := hi; exact ⟨o, e⟩
      have S₃ := S'.reown S₂ (fun q hq => by
        simp only [List.mem_cons, List.not_mem_nil, or_false] at hq
        rcases hq with rfl | rfl
        · obtain ⟨o, eo⟩ := aE; exact (gOld eo).trans gE
        · obtain ⟨o, eo⟩ := aI; exact (gOld eo).trans gI)
        [(e, .ob { cls := .type "enumerate", dict := none, data := .fields #[rawInt h'.objs.size, .bool false, .ref it, rawInt ((i : Int) + 1), .none, vs[i]], slots := #[] }), (it, .liter l (i + 1))] rfl (fun q hq => by
        simp only [List.mem_cons, List.not_mem_nil, or_false] at hq
        rcases hq with rfl | rfl
        · exact c1
        · exact c2)
      have lG : Le σ'.G (growG σ'.G h' h₂) := fun b o e => (gOld (S'.sub b o e)).trans e
      have hT : IsTpl (growG σ'.G h' h₂) h'.objs.size [.int (i : Nat) tk', vs[i]] := by
        unfold IsTpl growG; rw [fresh_size]; exact c3
      refine wpAny_letOwnedTupleGo_enum c1 fun h₄ c5 hs₅ => ?_
      have S₄ : St gl Φ (eX e it l (i + 1) vs[i] { σ' with G := growG σ'.G h' h₂ }) h₄ := by
        refine S₃.setOwn (i := 0) (c' := .ob (enO it (i + 1) vs[i])) rfl (fun b o hb eb => hs₅.extBut b o hb eb) ?_ ?_
        · show h₄.get? e = _
          have : ((i + 1 : Nat) : Int) = (i : Int) + 1 := by push_cast; rfl
          unfold enO; rw [this]; exact c5
        · rintro v ⟨o, a, b⟩; have c1 : h₂.get? e = _ := c1; rw [c1] at a; cases a; cases b
      refine step (fun i σ' f σb => match f with
        | .next | .cont => ∃ old σc, σb = eX e it l (i + 1) old σc ∧ Le σ'.G σc.G ∧ I (i + 1) σc
        | .brk => P .next σb
        | .ret v => P (.ret v) σb) (fun _ _ _ _ h => h) i vs[i] h'.objs.size tk' vs[i] σ' _ (by simp [hlt]) hI hle lG hT h₄ g d _ os _ _ S₄ fun _ σ₅ h₅ tk₅ S₅ u => ?_
      refine u h₅ g d tk₅ os _ _ S₅ fun f σ₆ h₆ tk₆ S₆ w => ?_
      cases f with
      | next => obtain ⟨old', σ₇, rfl, a, b⟩ := w; exact ⟨vs.length + 1 - (i + 1), by omega, i + 1, old', σ₇, h₆, tk₆, rfl, hlt, rfl, S₆, hle.trans a, b⟩
      | cont => obtain ⟨old', σ₇, rfl, a, b⟩ := w; exact ⟨vs.length + 1 - (i + 1), by omega, i + 1, old', σ₇, h₆, tk₆, rfl, hlt, rfl, S₆, hle.trans a, b⟩
      | brk => exact q _ _ _ _ S₆ w
      | ret v => exact q _ _ _ _ S₆ w
    · have e' : i = vs.length := by omega
      subst e'
      refine wpAny_pyNext_enum_end S.hh he hi (IsL.isList eL) (by simp) fun h₂ hx => ?_
      have S₂ : St gl Φ (wi it (.liter l vs.length) (wi e (.ob (enO it vs.length old)) σ')) h' := S'.perm (List.Perm.swap _ _ _)
      have S₃ := S₂.forget (h' := h₂) (fun b o hb eb => hx b o hb eb) (not_cell_liter hi)
      exact wpAny_execs_nil (q _ _ _ _ (S₃.dropOwn 0) (fin σ' hle hI))

end
end Mine

end
section
namespace Mine

noncomputable def gpStep (r : Nat) (acc : List (Nat × Nat)) (s : Nat) : List (Nat × Nat) := if (r, s) ∉ acc ∧ (s, r) ∉ acc then acc ++ [(r, s)] else acc
noncomputable def cycPrev (cyc : List (Nat × Nat)) (i : Nat) : Nat := (cyc.getD ((i + cyc.length - 1) % cyc.length) (0, 0)).1
noncomputable def gpSuccs (L : Nat → List Nat) (cyc : List (Nat × Nat)) (i : Nat) : List Nat := (L (cyc.getD i (0, 0)).2).drop ((L (cyc.getD i (0, 0)).2).idxOf (cycPrev cyc i) + 1)
noncomputable def gpRow (L : Nat → List Nat) (cyc : List (Nat × Nat)) (acc : List (Nat × Nat)) (i : Nat) : List (Nat × Nat) := (gpSuccs L cyc i).foldl (gpStep (cyc.getD i (0, 0)).2) acc
noncomputable def gpAll (L : Nat → List Nat) (cyc : List (Nat × Nat)) : List (Nat × Nat) := (List.range cyc.length).foldl (gpRow L cyc) []

theorem gpStep_len (r : Nat) (acc : List (Nat × Nat)) (s : Nat) : (gpStep r acc s).length ≤ acc.length + 1 := by
  unfold gpStep; split
  · simp
  · omega
theorem gpFold_len (r : Nat) : ∀ (ss : List Nat) (acc : List (Nat × Nat)), (ss.foldl (gpStep r) acc).length ≤ acc.length + ss.length
  | [], acc => by simp
  | s :: t, acc => by
    have := gpFold_len r t (gpStep r acc s)
    have := gpStep_len r acc s
    simp only [List.foldl_cons, List.length_cons]; omega

section
variable {gl : Gl} {Φ : Fx} {σ : Sta}

set_option maxHeartbeats 4000000 in
theorem sp_pairs (T : gl.Ok) (Tb : Bi gl) {a : Addr} (F : FnK gl a "get_pairs_to_delete" (stmtAt 6)) {N pas L M G pl n cyc v} (W : Pls G pl N pas L M) (hv : RL (RT2 (RPl N pas) (RPl N pas)) G cyc v) (hz : ∀ i, (L i).length ≤ 10) (hc : cyc.length ≤ 10)
    (hin : ∀ i, i < cyc.length → cycPrev cyc i ∈ L (cyc.getD i (0, 0)).2) :
    CallP gl (n + 2) false (.ref a) [v] G pl fun G' pl' w => pl' = pl ∧ RL (RT2 (RPl N pas) (RPl N pas)) G' (gpAll L cyc) w := by
  refine CallP.plain T F ["cycle"] [("cycle", v)] (fun _ _ _ _ _ => rfl) (fun La cdv A h => .abs fun P₀ hP₀ => .nm ?_)
  intro Φ
  refine .execs_cons (.asg (.list (.sp_nil ⟨by simp, .inr fun pa hpa => .st ?_⟩)))
  obtain ⟨ca, cvs, rfl, hcl, hcr⟩ := hv
  have hkr : 3 + 2 ≤ 8 * (n + 1) := by omega
  refine .execs_cons (.forEZ (.calln (.built T Tb.enumerate rfl (.calleeT (.sp_cons (.name rfl (.sp_nil (.enum hcl fun e it => ⟨e, it, ca, cvs, ⟨G, [("cycle", .ref ca), ("pairs", .ref pa)], [(pa, .lst [])], pl⟩, fun i σ' => ∃ G' pvs, σ' = ⟨G', [("cycle", .ref ca), ("pairs", .ref pa)], [(pa, .lst pvs)], pl⟩ ∧ Le G G' ∧
      Rs (RT2 (RPl N pas) (RPl N pas) G') ((List.range i).foldl (gpRow L cyc) []) pvs ∧ ((List.range i).foldl (gpRow L cyc) []).length ≤ 10 * i, rfl, rfl, hcl, ⟨G, [], rfl, Le.rfl, .nil, by simp⟩, ?_, ?_⟩)) (.inl rfl)))))))
  · rintro P₁ hP₁ i w Tt t old σ' G₁ hw ⟨G', pvs, rfl, l, hp, hpl⟩ _ l₁ hTt
    obtain ⟨⟨x, r⟩, ex, rx⟩ := hcr.get' hw
    obtain ⟨hlt, ex'⟩ := List.getElem?_eq_some_iff.mp ex
    have hgd : cyc.getD i (0, 0) = (x, r) := by rw [List.getD_eq_getElem?_getD, ex]; rfl
    have hinI := hin i hlt
    rw [hgd] at hinI
    obtain ⟨ta, xv, rv, rfl, htp, ⟨hx, rfl⟩, ⟨hr, rfl⟩⟩ := RT2.mono RPl.mono RPl.mono _ _ _ _ (l.trans l₁) rx
    have hr : r < N := hr
    have W₁ := (W.mono l).mono l₁
    refine .asg2 hTt (.tgt (.st (.asg2 htp (.tgt (.st (.tgt (.st ?_)))))))
    -- the one before
    have hprev : ∃ y, cyc[(i + cyc.length - 1) % cyc.length]? = some y ∧ y.1 = cycPrev cyc i := by
      have : (i + cyc.length - 1) % cyc.length < cyc.length := Nat.mod_lt _ (by omega)
      refine ⟨_, List.getElem?_eq_getElem this, ?_⟩
      unfold cycPrev; rw [List.getD_eq_getElem?_getD, List.getElem?_eq_getElem this]; rfl
    obtain ⟨⟨lf, y2⟩, ey, hy⟩ := hprev
    simp only at hy
    subst hy
    refine .execs_cons (.asg (.sub (.sub (.name rfl (.binop (.binop (.name rfl (.int fun t₂ => .minus fun t₃ => .calln (.built T Tb.len rfl (.calleeB (.sp_cons (.name rfl (.sp_nil (.lenR (R := RT2 (RPl N pas) (RPl N pas)) (xs := cyc) ⟨ca, cvs, rfl, .inl ((hcl.mono l).mono l₁), (hcr.mono (RT2.mono RPl.mono RPl.mono) l).mono (RT2.mono RPl.mono RPl.mono) l₁⟩ (by omega) ?_)) (.inl rfl)))))) (.inl rfl))) ) (.inl rfl)))))
    rintro lv ⟨t₄, rfl⟩
    refine .modI (by omega) fun t₅ => ?_
    have hmod : (((i : Nat) : Int) - 1).fmod (cyc.length : Nat) = (((i + cyc.length - 1) % cyc.length : Nat) : Int) := by
      rw [Int.fmod_eq_emod_of_nonneg _ (by omega), Int.natCast_emod]
      have e1 : ((i + cyc.length - 1 : Nat) : Int) = ((i : Int) - 1) + (cyc.length : Int) := by omega
      rw [e1, Int.add_emod_right]
    refine .itemR (R := RT2 (RPl N pas) (RPl N pas)) (xs := cyc) (k := (i + cyc.length - 1) % cyc.length) ⟨ca, cvs, rfl, .inl ((hcl.mono l).mono l₁), (hcr.mono (RT2.mono RPl.mono RPl.mono) l).mono (RT2.mono RPl.mono RPl.mono) l₁⟩ ⟨_, by rw [hmod]⟩ ey
      (by have : (i + cyc.length - 1) % cyc.length < cyc.length := Nat.mod_lt _ (by omega)
          omega) ?_
    rintro u ⟨ua, u1, u2, rfl, hut, ⟨hlf, rfl⟩, _⟩
    refine .int fun t₆ => .itemT hut (by omega) rfl (.st ?_)
    -- the successors
    refine .execs_cons (.asg (.fromR (R := RPl N pas) (.attr (.name rfl (.prefsW T W₁ hr fun pv hpv => .binop (.mIndex (R := RPl N pas) (.attr (.name rfl (.prefsW T W₁ hr fun pv2 hpv2 => ⟨⟨_, RL.ls hpv2⟩, .name rfl
      ⟨L r, cycPrev cyc i, 0, RL.ls hpv2, by have := hz r; omega, EqR.rpl T W₁, Uq.rpl W₁, ⟨hlf, rfl⟩, by show 0 + 2 ≤ 8 * (n + 1); omega, hinI, ?_⟩ (.inl rfl)⟩) (.inl rfl)))) ) (.inl rfl))) RPl.mono))
    rintro iv ⟨t₇, rfl⟩
    refine .int fun t₈ => .add fun t₉ => ⟨L r, (L r).idxOf (cycPrev cyc i) + 1, RL.ls hpv, by have := hz r; omega, ⟨_, rfl⟩, fun sv G₂ l₂ hsv => .st ?_⟩
    have hsu : gpSuccs L cyc i = (L r).drop ((L r).idxOf (cycPrev cyc i) + 1) := by unfold gpSuccs; rw [hgd]
    rw [← hsu] at hsv
    have hsul : (gpSuccs L cyc i).length ≤ 10 := by rw [hsu, List.length_drop]; have := hz r; omega
    have W₂ := W₁.mono l₂
    generalize hacc : (List.range i).foldl (gpRow L cyc) [] = acc at hp hpl
    have hfold : (List.range (i + 1)).foldl (gpRow L cyc) [] = (gpSuccs L cyc i).foldl (gpStep r) acc := by
      rw [List.range_succ, List.foldl_append, hacc]; show gpRow L cyc acc i = _; unfold gpRow; rw [hgd]
    refine .execs_cons (.forZ (R := RPl N pas) RPl.mono (.name rfl ⟨gpSuccs L cyc i, fun j σ' => ∃ G' pvs, σ' = eX e it ca (i + 1) old ⟨G', [("cycle", .ref ca), ("pairs", .ref pa), ("i", .int (i : Nat) t), ("_", .ref (pas x)), ("right", .ref (pas r)), ("left", .ref (pas (cycPrev cyc i))), ("successors", sv)], [(pa, .lst pvs)], pl⟩ ∧ Le G₂ G' ∧
      Rs (RT2 (RPl N pas) (RPl N pas) G') (((gpSuccs L cyc i).take j).foldl (gpStep r) acc) pvs, hsv.itb, by omega, ⟨G₂, pvs, rfl, Le.rfl, (hp.mono (RT2.mono RPl.mono RPl.mono) l₁).mono (RT2.mono RPl.mono RPl.mono) l₂⟩, ?_, ?_⟩ (.inl rfl)))
    · rintro P₂ hP₂ ia c j s w σ' hs ⟨hsN, rfl⟩ _ ⟨G₃, pvs₃, rfl, l₃, hp₃⟩
      have W₃ := W₂.mono l₃
      have htake : (gpSuccs L cyc i).take (j + 1) = (gpSuccs L cyc i).take j ++ [s] := by rw [List.take_add_one, hs]; rfl
      generalize hst : ((gpSuccs L cyc i).take j).foldl (gpStep r) acc = st at hp₃
      have hstl : st.length ≤ 200 := by
        have := gpFold_len r ((gpSuccs L cyc i).take j) acc
        rw [hst, List.length_take] at this
        omega
      have hstep : ((gpSuccs L cyc i).take (j + 1)).foldl (gpStep r) acc = gpStep r st s := by rw [htake, List.foldl_append, hst]; rfl
      refine .tgt (.st (.execs_cons (.asg (.tuple (.sp_cons (.name rfl (.sp_cons (.name rfl (.sp_nil ⟨by simp, .inl fun pa₁ G₄ l₄ hpa₁ => .st ?_⟩) (.inl rfl))) (.inl rfl)))))))
      have W₄ := W₃.mono l₄
      replace hp₃ := hp₃.mono (RT2.mono RPl.mono RPl.mono) l₄
      have hrs : RT2 (RPl N pas) (RPl N pas) G₄ (r, s) (.ref pa₁) := ⟨pa₁, _, _, rfl, hpa₁, ⟨hr, rfl⟩, ⟨hsN, rfl⟩⟩
      refine .execs_cons (.weak (.ite ?_))
      refine .tand (.tcmp (.name rfl (.name rfl (.ninR (R := RT2 (RPl N pas) (RPl N pas)) (xs := st) (k := 1) ⟨pa, pvs₃, rfl, .inr (List.mem_cons_of_mem _ (List.mem_cons_of_mem _ (List.mem_cons_of_mem _ (List.mem_cons_self ..)))), hp₃⟩ (EqR.rt2 (EqR.rpl T W₄) (EqR.rpl T W₄) (Uq.rpl W₄) (Uq.rpl W₄)) (Uq.rt2 (Uq.rpl W₄) (Uq.rpl W₄)) hrs (by show 1 + 2 ≤ 8 * (n + 1); omega) (.truthy_bool ?_)) (.inl rfl)) (.inl rfl)))
      have hend : ∀ (σ₇ : Sta) G₇ ws₇, σ₇ = wi ia c (eX e it ca (i + 1) old ⟨G₇, [("cycle", .ref ca), ("pairs", .ref pa), ("i", .int (i : Nat) t), ("_", .ref (pas x)), ("right", .ref (pas r)), ("left", .ref (pas (cycPrev cyc i))), ("successors", sv), ("successor", .ref (pas s)), ("pair", .ref pa₁)], [(pa, .lst ws₇)], pl⟩) → Le G₃ G₇ →
          Rs (RT2 (RPl N pas) (RPl N pas) G₇) (gpStep r st s) ws₇ → ∃ m', SubM m' σ₇.m ∧ ∃ σc, { σ₇ with m := m' } = wi ia c σc ∧ Le G₃ σc.G ∧ ∃ G' pvs, σc = eX e it ca (i + 1) old ⟨G', [("cycle", .ref ca), ("pairs", .ref pa), ("i", .int (i : Nat) t), ("_", .ref (pas x)), ("right", .ref (pas r)), ("left", .ref (pas (cycPrev cyc i))), ("successors", sv)], [(pa, .lst pvs)], pl⟩ ∧ Le G₂ G' ∧
            Rs (RT2 (RPl N pas) (RPl N pas) G') (((gpSuccs L cyc i).take (j + 1)).foldl (gpStep r) acc) pvs := by
        rintro σ₇ G₇ ws₇ rfl l₇ h₇
        exact ⟨[("cycle", .ref ca), ("pairs", .ref pa), ("i", .int (i : Nat) t), ("_", .ref (pas x)), ("right", .ref (pas r)), ("left", .ref (pas (cycPrev cyc i))), ("successors", sv)], ⟨rfl, rfl, rfl, rfl, rfl, rfl, rfl, trivial⟩, eX e it ca (i + 1) old ⟨G₇, [("cycle", .ref ca), ("pairs", .ref pa), ("i", .int (i : Nat) t), ("_", .ref (pas x)), ("right", .ref (pas r)), ("left", .ref (pas (cycPrev cyc i))), ("successors", sv)], [(pa, .lst ws₇)], pl⟩, rfl, l₇, G₇, ws₇, rfl, l₃.trans l₇, hstep ▸ h₇⟩
      by_cases h1 : (r, s) ∈ st
      · refine ifB_f (by simp [h1]) (ifB_f rfl ?_)
        obtain ⟨m', sm, e'⟩ := hend _ G₄ pvs₃ rfl l₄ (by unfold gpStep; rw [if_neg (fun h => h.1 h1)]; exact hp₃)
        exact .execs_nil ⟨m', sm, .execs_nil (hP₂ _ _ _ _ _ _ e')⟩
      · refine ifB_t (by simp [h1]) ?_
        refine .tand (.tcmp (.rev2 (.name rfl (.unary (.int fun t => .neg fun t => ⟨pa₁, _, _, _, rfl, rfl, hpa₁, fun pb G₅ l₅ hpb => ?_⟩)) (.inl rfl))))
        have W₅ := W₄.mono l₅
        replace hp₃ := hp₃.mono (RT2.mono RPl.mono RPl.mono) l₅
        have hsr : RT2 (RPl N pas) (RPl N pas) G₅ (s, r) (.ref pb) := ⟨pb, _, _, rfl, hpb, ⟨hsN, rfl⟩, ⟨hr, rfl⟩⟩
        refine .name rfl (.ninR (R := RT2 (RPl N pas) (RPl N pas)) (xs := st) (k := 1) ⟨pa, pvs₃, rfl, .inr (List.mem_cons_of_mem _ (List.mem_cons_of_mem _ (List.mem_cons_of_mem _ (List.mem_cons_self ..)))), hp₃⟩ (EqR.rt2 (EqR.rpl T W₅) (EqR.rpl T W₅) (Uq.rpl W₅) (Uq.rpl W₅)) (Uq.rt2 (Uq.rpl W₅) (Uq.rpl W₅)) hsr (by show 1 + 2 ≤ 8 * (n + 1); omega) (.truthy_bool ?_)) (.inl rfl)
        by_cases h2 : (s, r) ∈ st
        · refine ifB_f (by simp [h2]) (ifB_f rfl ?_)
          obtain ⟨m', sm, e'⟩ := hend _ G₅ pvs₃ rfl (l₄.trans l₅) (by unfold gpStep; rw [if_neg (fun h => h.2 h2)]; exact hp₃)
          exact .execs_nil ⟨m', sm, .execs_nil (hP₂ _ _ _ _ _ _ e')⟩
        · refine ifB_t (by simp [h2]) (.tand_nil (ifB_t rfl ?_))
          refine .execs_cons (.expr (.mAppend (.name rfl ⟨pa, rfl, ⟨pvs₃, .inr (List.mem_cons_of_mem _ (List.mem_cons_of_mem _ (List.mem_cons_of_mem _ (List.mem_cons_self ..))))⟩, .tuple (.sp_cons (.name rfl (.sp_cons (.name rfl (.sp_nil ⟨by simp, .inl fun pa₂ G₆ l₆ hpa₂ =>
            ⟨3, pvs₃, rfl, by rw [hp₃.length]; omega, ?_⟩⟩) (.inl rfl))) (.inl rfl)))⟩ (.inl rfl))))
          obtain ⟨m', sm, e'⟩ := hend _ G₆ (pvs₃ ++ [.ref pa₂]) rfl ((l₄.trans l₅).trans l₆) (by
            unfold gpStep; rw [if_pos ⟨h1, h2⟩]
            exact (hp₃.mono (RT2.mono RPl.mono RPl.mono) l₆).append (.one ⟨pa₂, _, _, rfl, hpa₂, ⟨hr, rfl⟩, ⟨hsN, rfl⟩⟩))
          exact .execs_nil ⟨m', sm, .execs_nil (hP₂ _ _ _ _ _ _ e')⟩
    · rintro σ' _ ⟨G₃, pvs₃, rfl, l₃, hp₃⟩
      rw [List.take_length] at hp₃
      refine .weak (.execs_nil ⟨[("cycle", .ref ca), ("pairs", .ref pa)], ⟨rfl, rfl, trivial⟩, hP₁ _ _ _ _ ⟨old, ⟨G₃, [("cycle", .ref ca), ("pairs", .ref pa)], [(pa, .lst pvs₃)], pl⟩, rfl, (l₁.trans l₂).trans l₃, G₃, pvs₃, rfl, ((l.trans l₁).trans l₂).trans l₃, ?_, ?_⟩⟩)
      · rw [hfold]; exact hp₃
      · rw [hfold]
        have := gpFold_len r (gpSuccs L cyc i) acc
        omega
  · rintro σ' _ ⟨G', pvs, rfl, l, hp, _⟩
    rw [hcr.length] at hp
    exact .frz (i := 0) rfl fun G'' l' hL => .execs_cons (.ret (.name rfl (hP₀ _ _ ⟨rfl, pa, pvs, rfl, hL, hp.mono (RT2.mono RPl.mono RPl.mono) l'⟩) (.inl rfl)))

end
end Mine

end
section
namespace Mine

/-- the script stands in the heap of the start -/
noncomputable def Scr (gl : Gl) (v : Value) (ns : List Int) : Prop := ∃ a vs, v = .ref a ∧ gl.H.IsList a (vs : List Value).toArray ∧ IntsAre vs ns ∧ ns.length ≤ 1000
noncomputable def cellM (ns : List Int) (k : Nat) : Nat := if k < ns.length then (ns.getD k 0).natAbs else 37 * k + 11

theorem ints_length : ∀ {vs ns}, IntsAre vs ns → vs.length = ns.length
  | _, _, .nil => rfl
  | _, _, .cons _ _ t => by simp [ints_length t]
theorem ints_get : ∀ {vs : List Value} {ns : List Int}, IntsAre vs ns → ∀ (k : Nat), k < ns.length → ∃ t, vs[k]? = some (.int (ns.getD k 0) t)
  | _, _, .nil, k, h => by simp at h
  | _, _, .cons n t r, 0, _ => ⟨t, rfl⟩
  | _, _, .cons n t r, k + 1, h => by simpa using ints_get r k (by simpa using h)

section
variable {gl : Gl} {Φ : Fx} {σ : Sta}

theorem TT.lenS {v : Value} {ns : List Int} {P : Value → Sta → Prop} (L : Scr gl v ns) (x : ∀ v, RN σ.G ns.length v → P v σ) : TT gl Φ (PySem.call (.builtin "len") [v]) σ P :=
  .calmE fun h g d tk os Q E S q => by
    obtain ⟨a, vs, rfl, hl, hi, hz⟩ := L
    have hl' : h.IsList a vs.toArray := hl.at fun o e => S.topH _ _ e
    have e := ints_length hi
    exact call_len_list hl' (by rw [List.size_toArray]; omega) (by rw [List.size_toArray, e]; exact q _ _ (x _ ⟨_, rfl⟩))
theorem TT.itemS {value slice : Expr} {v w : Value} {ns : List Int} {k : Nat} {P : Value → Sta → Prop} (L : Scr gl v ns) (hw : RN σ.G k w) (hk : k < ns.length) (p : ∀ t, P (.int (ns.getD k 0) t) σ)
    (hs : ∀ a k u, subscripted slice false (.ref a) (.int k u) = operate [.ref a, .int k u] (getItem (.ref a) (.int k u)) := by intro _ _ _; with_unfolding_all rfl) : TT gl Φ (subscriptTail value slice v w) σ P :=
  .calmE fun h g d tk os Q E S q => by
    obtain ⟨a, vs, rfl, hl, hi, hz⟩ := L
    obtain ⟨u, rfl⟩ := hw
    have hl' : h.IsList a vs.toArray := hl.at fun o e => S.topH _ _ e
    obtain ⟨t, e⟩ := ints_get hi k hk
    exact tail_any hl'.typeIs slot_list_getitem.lookup (wpAny_getItem_list hl' (by omega) (by omega) (by simpa using e) (q _ _ (p t))) (hs _ _ _)

theorem sp_cell (T : gl.Ok) (Tb : Bi gl) {a : Addr} (F : FnK gl a "_law_cell" (stmtAt 12)) {G pl n sv ns k kv} (hs : Scr gl sv ns) (hk : RN G k kv) :
    CallP gl (n + 1) false (.ref a) [sv, kv] G pl fun G' pl' v => pl' = pl ∧ RN G' (cellM ns k) v := by
  refine CallP.plain T F ["script", "k"] [("script", sv), ("k", kv)] (fun _ _ _ _ _ => rfl) (fun La cdv A h => ?_)
  refine .execs_cons (.ite (.tcmp (.name rfl (.calln (.built T Tb.len rfl (.calleeB (.sp_cons (.name rfl (.sp_nil (.lenS hs fun lv hl => .ltN (a := k) (b := ns.length) hk hl (.truthy_bool ?_))) (.inl rfl))))) ) (.inl rfl))))
  by_cases h : k < ns.length
  · refine ifB_t (by simp [h]) ?_
    refine .execs_cons (.ret (.calln (.built T Tb.abs rfl (.calleeB (.sp_cons (.calln (.built T Tb.int rfl (.calleeT (.sp_cons (.sub (.name rfl (.name rfl (.itemS hs hk h fun t => .sp_nil (.intI (.sp_nil (.absI fun t => ?_)))) (.inl rfl)) (.inl rfl))))))))))))
    exact ⟨rfl, t, by unfold cellM; rw [if_pos h]⟩
  · refine ifB_f (by simp [h]) (.execs_nil ?_)
    obtain ⟨t, rfl⟩ := hk
    refine .execs_cons (.ret (.binop (.binop (.int fun t₁ => .name rfl (.mulI (.of_left (by decide)) fun t₂ => .int fun t₃ => .add fun t₄ => ?_) (.inl rfl)))))
    exact ⟨rfl, t₄, by unfold cellM; rw [if_neg h]; push_cast; rfl⟩

theorem perm_pick {α : Type} (ord lf : List α) (i : Nat) (x : α) (h : lf[i]? = some x) : ((ord ++ [x]) ++ (lf.take i ++ lf.drop (i + 1))).Perm (ord ++ lf) := by
  obtain ⟨hl, e⟩ := List.getElem?_eq_some_iff.mp h
  have : lf = lf.take i ++ x :: lf.drop (i + 1) := by rw [← e, List.getElem_cons_drop, List.take_append_drop]
  conv => rhs; rw [this]
  rw [List.append_assoc]
  exact List.Perm.append_left ord (List.perm_middle (a := x) (l₁ := lf.take i) (l₂ := lf.drop (i + 1))).symm

theorem sp_order (T : gl.Ok) (Tb : Bi gl) {a : Addr} (F : FnK gl a "_law_order" (stmtAt 13)) {G pl n count cell cv kv} (hc : RN G count cv) (hcell : RN G cell kv) (hz : count ≤ 10) :
    CallP gl (n + 1) false (.ref a) [cv, kv] G pl fun G' pl' v => pl' = pl ∧ ∃ xs : List Nat, xs.Perm (List.range count) ∧ RL RN G' xs v := by
  refine CallP.plain T F ["count", "cell"] [("count", cv), ("cell", kv)] (fun _ _ _ _ _ => rfl) (fun La cdv A h => .abs fun P₀ hP₀ => .nm ?_)
  intro Φ
  obtain ⟨tc, rfl⟩ := hc
  refine .execs_cons (.asg (.calln (.built T Tb.list rfl (.calleeT (.sp_cons (.calln (.built T Tb.range rfl (.calleeT (.sp_cons (.name rfl (.sp_nil (.range fun r G₁ l₁ hr => .sp_nil (.listrange hr (by omega) fun lv G₂ l₂ hlv => .st ?_))) (.inl rfl)))))))))))
  refine .execs_cons (.asg (.list (.sp_nil ⟨by simp, .inr fun oa hoa => .st ?_⟩)))
  refine .execs_cons (.forZ (R := RN) RN.mono (.calln (.built T Tb.range rfl (.calleeT (.sp_cons (.name rfl (.sp_nil (.range fun r₂ G₃ l₃ hr₂ => ?_)) (.inl rfl)))))))
  refine ⟨List.range count, fun i σ' => ∃ G' cell cellv lf leftv ord ovs, σ' = ⟨G', [("cell", cellv), ("count", .int (count : Nat) tc), ("left", leftv), ("order", .ref oa)], [(oa, .lst ovs)], pl⟩ ∧ Le G₃ G' ∧ RN G' cell cellv ∧ RL RN G' lf leftv ∧ Rs (RN G') ord ovs ∧ (ord ++ lf).Perm (List.range count) ∧ ord.length = i,
    hr₂.itb, by simp; omega, ⟨G₃, cell, kv, List.range count, lv, [], [], rfl, Le.rfl, hcell, RL.mono RN.mono _ _ _ _ l₃ hlv, .nil, List.Perm.refl _, rfl⟩, ?_, ?_⟩
  · rintro P₁ hP₁ ia c i x w σ' hx hw _ ⟨G', cell, cellv, lf, leftv, ord, ovs, rfl, l, hcell, hlf, hord, hperm, hol⟩
    have hi : i < count := by have := (List.getElem?_eq_some_iff.mp hx).1; simpa using this
    have hlfl : lf.length = count - i := by have := hperm.length_eq; simp at this; omega
    refine .tgt (.st ?_)
    refine .execs_cons (.asg (.binop (.name rfl (.calln (.built T Tb.len rfl (.calleeB (.sp_cons (.name rfl (.sp_nil (.lenR hlf.ls (by omega) fun nv hn => .modN hcell hn (by omega) fun av ha => .st ?_)) (.inl rfl)))))) (.inl rfl))))
    have hat : cell % lf.length < lf.length := Nat.mod_lt _ (by omega)
    refine .execs_cons (.asg (.binop (.name rfl (.calln (.built T Tb.len rfl (.calleeB (.sp_cons (.name rfl (.sp_nil (.lenR hlf.ls (by omega) fun nv hn => .divN hcell hn (by omega) (by omega) fun cv' hc' => .st ?_)) (.inl rfl)))))) (.inl rfl))))
    refine .execs_cons (.expr (.mAppend (.name rfl ⟨oa, rfl, ⟨ovs, .inr (List.mem_cons_of_mem _ (List.mem_cons_self ..))⟩, .sub (.name rfl (.name rfl (.itemR hlf.ls ha (List.getElem?_eq_getElem hat) (by omega) fun u hu => ⟨1, ovs, rfl, by rw [hord.length]; omega, ?_⟩) (.inl rfl)) (.inl rfl))⟩ (.inl rfl))))
    refine .execs_cons (.asg (.binop (.uptoR (R := RN) (.name rfl (.name rfl ⟨lf, cell % lf.length, hlf.ls, by omega, ha, fun v₁ G₄ l₄ hv₁ => ?_⟩ (.inl rfl)) (.inl rfl)) RN.mono)))
    refine .fromR (R := RN) (.name rfl (.binop (.name rfl (.intN (a := 1) fun ov ho => .addN ha ho fun sv hsv => ⟨lf, cell % lf.length + 1, (RL.mono RN.mono _ _ _ _ l₄ hlf).ls, by omega, hsv, fun v₂ G₅ l₅ hv₂ => ?_⟩) (.inl rfl))) (.inl rfl)) RN.mono
    refine .plusR (R := RN) (RL.mono RN.mono _ _ _ _ l₅ hv₁).ls hv₂.ls (by rw [List.length_take, List.length_drop]; omega) RN.mono fun v₃ G₆ l₆ hv₃ => .st ?_
    have l₇ := (l₄.trans l₅).trans l₆
    refine .weak (.execs_nil ⟨[("cell", cv'), ("count", .int (count : Nat) tc), ("left", v₃), ("order", .ref oa)], ⟨rfl, rfl, rfl, rfl, trivial⟩, hP₁ _ _ _ _ _ _ ⟨⟨G₆, [("cell", cv'), ("count", .int (count : Nat) tc), ("left", v₃), ("order", .ref oa)], [(oa, .lst (ovs ++ [u]))], pl⟩, rfl, l₇, G₆, _, _, _, _, _, _, rfl, l.trans l₇, hc', hv₃, (hord.append (.one hu)).mono RN.mono l₇, ?_, ?_⟩⟩)
    · exact (perm_pick ord lf _ _ (List.getElem?_eq_getElem hat)).trans hperm
    · rw [List.length_append, hol]; rfl
  · rintro σ' _ ⟨G', cell, cellv, lf, leftv, ord, ovs, rfl, l, hcell, hlf, hord, hperm, hol⟩
    refine .frz (i := 0) rfl fun G'' l' hL => .execs_cons (.ret (.name rfl (hP₀ _ _ ⟨rfl, ord, ?_, oa, ovs, rfl, hL, hord.mono RN.mono l'⟩) (.inl rfl)))
    have : lf = [] := by
      have := hperm.length_eq
      simp at this hol
      exact List.length_eq_zero_iff.mp (by omega)
    subst this
    simpa using hperm

end
end Mine

end
section
namespace Mine

noncomputable def othersOf (count k : Nat) : List Nat := (List.range count).filter fun j => decide (j ≠ k)
theorem othersOf_len (count k : Nat) (h : k < count) : (othersOf count k).length = count - 1 := by
  have e : othersOf count k = (List.range count).erase k := by
    rw [List.Nodup.erase_eq_filter List.nodup_range]
    unfold othersOf
    congr 1; funext j
    by_cases h : j = k <;> simp [h]
  rw [e, List.length_erase_of_mem (List.mem_range.mpr h), List.length_range]

theorem perm_map_get {α : Type} (l : List α) (d : α) (xs : List Nat) (h : xs.Perm (List.range l.length)) : (xs.map fun j => l.getD j d).Perm l := by
  refine (h.map _).trans ?_
  have : (List.range l.length).map (fun j => l.getD j d) = l := by
    apply List.ext_getElem?
    intro j
    rw [List.getElem?_map]
    by_cases hj : j < l.length
    · rw [List.getElem?_range hj, List.getElem?_eq_getElem hj]
      simp [List.getD_eq_getElem?_getD, List.getElem?_eq_getElem hj]
    · rw [List.getElem?_eq_none (by simpa using Nat.not_lt.mp hj), List.getElem?_eq_none (by omega)]; rfl
  rw [this]

/-- the orders of a law: each list is a permutation of the others -/
structure Orders (count : Nat) (os : List (List Nat)) : Prop where
  len : os.length = count
  perm : ∀ (k : Nat) (o : List Nat), os[k]? = some o → o.Perm (othersOf count k)

section
variable {gl : Gl} {Φ : Fx} {σ : Sta}

theorem sp_orders (T : gl.Ok) (Tb : Bi gl) (Fo : GFn gl "_law_order" (stmtAt 13)) (Fc : GFn gl "_law_cell" (stmtAt 12)) {a : Addr} (F : FnK gl a "_law_orders" (stmtAt 14)) {G pl n sv ns count cv} (hs : Scr gl sv ns) (hc : RN G count cv) (hz : count ≤ 10) :
    CallP gl (n + 2) false (.ref a) [sv, cv] G pl fun G' pl' v => pl' = pl ∧ ∃ os, Orders count os ∧ RL (RL RN) G' os v := by
  refine CallP.cells T F ["script", "count"] [("script", sv), ("count", cv)] (fun _ _ _ _ _ => rfl) (fun La cdv A h => .abs fun P₀ hP₀ => .nm ?_)
  intro Φ
  obtain ⟨tc, rfl⟩ := hc
  refine .execs_cons (.asg (.list (.sp_nil ⟨by simp, .inr fun oa hoa => .st ?_⟩)))
  refine .execs_cons (.forZ (R := RN) RN.mono (.calln (.built T Tb.range rfl (.calleeT (.sp_cons (.name rfl (.sp_nil (.range fun r G₁ l₁ hr => ?_)) (.inl rfl)))))))
  refine ⟨List.range count, fun i σ' => ∃ G' os ovs, σ' = ⟨G', [("count", .int (count : Nat) tc), ("script", sv), ("orders", .ref oa)], [(oa, .lst ovs)], pl⟩ ∧ Le G₁ G' ∧ Rs (RL RN G') os ovs ∧ os.length = i ∧ ∀ (k : Nat) (o : List Nat), os[k]? = some o → o.Perm (othersOf count k),
    hr.itb, by simp; omega, ⟨G₁, [], [], rfl, Le.rfl, .nil, rfl, fun k o e => by simp at e⟩, ?_, ?_⟩
  · rintro P₁ hP₁ ia c i k kv σ' hx hkv _ ⟨G', os, ovs, rfl, l, hos, hol, hper⟩
    obtain ⟨hi, hki⟩ := List.getElem?_eq_some_iff.mp hx
    rw [List.getElem_range] at hki
    subst hki
    have hi : i < count := by simpa using hi
    refine .tgt (.stC ?_)
    refine .execs_cons (.asg (.compX (R := RN) (R' := RN) RN.mono RN.mono [("k", La + 1)] [("k", kv)] (.calln (.built T Tb.range rfl (.calleeT (.sp_cons (.name rfl (.sp_nil (.range fun r₂ G₂ l₂ hr₂ => ?_)) (.inl rfl))))))))
    refine ⟨List.range count, fun j => if decide (j ≠ i) = true then some j else none, hr₂.itb, by simp; omega, ⟨⟨rfl, ne_cell rfl, rfl, ne_cell rfl⟩, trivial⟩, fun C h x w G₃ hx hw l₃ => ?_, fun otv G₃ l₃ hot => .stC ?_⟩
    · refine .tgt (.st (.tests_one (.tcmp (.name rfl (.name rfl (.neN hw hkv (.truthy_bool ?_)) (.inr (.inl rfl))) (.inl rfl)))))
      refine ⟨(ite_isSome _ _).symm, fun _ => ⟨rfl, Le.rfl⟩, fun y hy => .name rfl ⟨?_, rfl, Le.rfl⟩ (.inl rfl)⟩
      obtain ⟨_, rfl⟩ := ite_some hy
      exact hw
    · rw [fm_filter] at hot
      have hot : RL RN G₃ (othersOf count i) otv := hot
      have hlen := othersOf_len count i hi
      refine .execs_cons (.expr (.mAppend (.name rfl ⟨oa, rfl, ⟨ovs, .inr (List.mem_cons_of_mem _ (List.mem_cons_self ..))⟩, .compX (R := RN) (R' := RN) RN.mono RN.mono [("others", La + 2)] [("others", otv)] (.gcall T Fo (.sp_cons (.binop (.name rfl (.int fun t => .minus fun t₂ => ?_) (.inl rfl)))))⟩ (.inl rfl))))
      refine .sp_cons (.gcall T Fc (.sp_cons (.name rfl (.sp_cons (.binop (.intN (a := 1) fun ov ho => .name rfl (.addN ho hkv fun av ha => .sp_nil ?_) (.inr (.inl rfl))))) (.inl rfl))))
      refine ⟨n + 1, false, _, fun a F => sp_cell T Tb F hs ha, Nat.le_refl _, fun h => (by cases h), ?_⟩
      rintro clv G₄ pl₄ l₄ ⟨rfl, hcl⟩
      refine .sp_nil ⟨n + 1, false, _, fun a F => sp_order T Tb F (count := count - 1) ⟨t₂, by congr 1; omega⟩ hcl (by omega), Nat.le_refl _, fun h => (by cases h), ?_⟩
      rintro xv G₅ pl₅ l₅ ⟨rfl, xs, hxs, hxv⟩
      have l₄₅ := l₄.trans l₅
      have hxl : ∀ j ∈ xs, j < count - 1 := fun j hj => List.mem_range.mp (hxs.mem_iff.mp hj)
      have hxlen : xs.length = count - 1 := by rw [hxs.length_eq, List.length_range]
      refine ⟨xs, fun j => some ((othersOf count i).getD j 0), hxv.itb, by omega, ⟨⟨rfl, ne_cell rfl, rfl, ne_cell rfl⟩, trivial⟩, fun C h x w G₆ hx hw l₆ => ?_, fun ov G₆ l₆ hov => ⟨1, ovs, rfl, by rw [hos.length]; omega, ?_⟩⟩
      · refine .tgt (.st (.tests_nil ⟨rfl, fun h => (by cases h), fun y hy => ?_⟩))
        cases hy
        refine .sub (.name rfl (.name rfl (.itemR (R := RN) (xs := othersOf count i) (RL.mono RN.mono _ _ _ _ (l₄₅.trans l₆) hot).ls hw (y := (othersOf count i).getD x 0) ?_ (by have := hxl x hx; omega) fun u hu => ⟨hu, rfl, Le.rfl⟩) (.inl rfl)) (.inr (.inl rfl)))
        have := hxl x hx
        rw [List.getD_eq_getElem?_getD, List.getElem?_eq_getElem (by omega)]; rfl
      · rw [fm_map] at hov
        have l₇ : Le G' G₆ := (((l₂.trans l₃).trans l₄).trans l₅).trans l₆
        refine .weak (.execs_nil ⟨[("count", .int (count : Nat) tc), ("script", sv), ("orders", .ref oa)], ⟨rfl, rfl, rfl, trivial⟩, hP₁ _ _ _ _ _ _ ⟨⟨G₆, [("count", .int (count : Nat) tc), ("script", sv), ("orders", .ref oa)], [(oa, .lst (ovs ++ [ov]))], pl₅⟩, rfl, l₇, G₆, _, _, rfl, l.trans l₇, (hos.mono (RL.mono RN.mono) l₇).append (.one hov), ?_, ?_⟩⟩)
        · rw [List.length_append, hol]; rfl
        · intro k o ho
          rw [List.getElem?_append] at ho
          split at ho
          · exact hper k o ho
          · rename_i hk
            have : k = i := by
              have := (List.getElem?_eq_some_iff.mp ho).1
              simp at this
              omega
            subst this
            simp [hol] at ho
            subst ho
            have := perm_map_get (othersOf count k) 0 xs (by rw [hlen]; exact hxs)
            simpa using this
  · rintro σ' _ ⟨G', os, ovs, rfl, l, hos, hol, hper⟩
    simp only [List.length_range] at hol
    exact .frz (i := 0) rfl fun G'' l' hL => .execs_cons (.ret (.name rfl (hP₀ _ _ ⟨rfl, os, ⟨hol, hper⟩, oa, ovs, rfl, hL, hos.mono (RL.mono RN.mono) l'⟩) (.inl rfl)))

end
end Mine

end
section
namespace Mine

noncomputable def pairingsF : Nat → List Nat → List (List (Nat × Nat))
  | 0, _ => [[]]
  | _ + 1, [] => [[]]
  | f + 1, a :: r => r.flatMap fun o => (pairingsF f (r.filter fun x => decide (x ≠ o))).map fun row => (a, o) :: row

noncomputable def fct : Nat → Nat
  | 0 => 1
  | n + 1 => (n + 1) * fct n
theorem fct_pos : ∀ n, 1 ≤ fct n
  | 0 => Nat.le_refl _
  | n + 1 => Nat.mul_le_mul (Nat.le_add_left 1 n) (fct_pos n)
theorem fct_mono {m : Nat} : ∀ {n}, m ≤ n → fct m ≤ fct n
  | 0, h => by have : m = 0 := by omega
               subst this; exact Nat.le_refl _
  | n + 1, h => by
    by_cases e : m = n + 1
    · subst e; exact Nat.le_refl _
    · refine Nat.le_trans (fct_mono (n := n) (by omega)) ?_
      show fct n ≤ (n + 1) * fct n
      exact Nat.le_mul_of_pos_left _ (Nat.succ_pos n)

theorem filter_ne_len {o : Nat} : ∀ {r : List Nat}, o ∈ r → (r.filter fun x => decide (x ≠ o)).length + 1 ≤ r.length
  | x :: r, h => by
    by_cases e : x = o
    · have h1 := List.length_filter_le (fun x => decide (x ≠ o)) r
      rw [List.filter_cons, if_neg (by simp [e]), List.length_cons]
      omega
    · have h' : o ∈ r := by
        rcases List.mem_cons.mp h with h | h
        · exact absurd h.symm e
        · exact h
      have h1 := filter_ne_len h'
      rw [List.filter_cons, if_pos (by simp [e]), List.length_cons, List.length_cons]
      omega

theorem flat_le {α β : Type} (g : α → List β) (B : Nat) : ∀ r : List α, (∀ o ∈ r, (g o).length ≤ B) → (r.flatMap g).length ≤ r.length * B
  | [], _ => by simp
  | a :: r, h => by
    have h1 := h a (List.mem_cons_self ..)
    have h2 := flat_le g B r fun o ho => h o (List.mem_cons_of_mem _ ho)
    rw [List.flatMap_cons, List.length_append, List.length_cons, Nat.succ_mul]
    omega

theorem pairingsF_len : ∀ (f : Nat) (left : List Nat), left.length ≤ f → (pairingsF f left).length ≤ fct left.length
  | 0, left, h => fct_pos _
  | f + 1, [], h => by show 1 ≤ _; exact fct_pos _
  | f + 1, a :: r, h => by
    have hr : r.length ≤ f := by simpa using h
    have : (pairingsF (f + 1) (a :: r)).length ≤ r.length * fct (r.length - 1) := by
      refine flat_le _ _ r fun o ho => ?_
      rw [List.length_map]
      have hl := filter_ne_len ho
      exact Nat.le_trans (pairingsF_len f _ (by omega)) (fct_mono (by omega))
    refine Nat.le_trans this ?_
    cases hn : r.length with
    | zero => simp
    | succ k =>
      show (k + 1) * fct k ≤ fct ((a :: r).length)
      rw [List.length_cons, hn]
      exact fct_mono (n := k + 2) (m := k + 1) (by omega)

theorem pairingsF_row : ∀ (f : Nat) (left : List Nat), left.length ≤ f → ∀ row ∈ pairingsF f left, row.length ≤ left.length
  | 0, left, _, row, hr => by simp [pairingsF] at hr; subst hr; simp
  | f + 1, [], _, row, hr => by simp [pairingsF] at hr; subst hr; simp
  | f + 1, a :: r, h, row, hr => by
    simp only [pairingsF, List.mem_flatMap, List.mem_map] at hr
    obtain ⟨o, ho, row', hr', rfl⟩ := hr
    have hl := filter_ne_len ho
    have := pairingsF_row f _ (by simp at h; omega) row' hr'
    rw [List.length_cons, List.length_cons]; omega

section
variable {gl : Gl} {Φ : Fx} {σ : Sta}

set_option maxHeartbeats 2000000 in
theorem sp_pairings (T : gl.Ok) (Fp : GFn gl "_law_pairings" (stmtAt 18)) : ∀ (f : Nat) {a : Addr} (F : FnK gl a "_law_pairings" (stmtAt 18)) {G pl n left v} (hl : left.length ≤ f) (hz : left.length ≤ 6) (hv : RL RN G left v),
    CallP gl (n + f + 2) false (.ref a) [v] G pl fun G' pl' w => pl' = pl ∧ RL (RL (RT2 RN RN)) G' (pairingsF f left) w := by
  intro f
  induction f with
  | zero =>
    intro a F G pl n left v hl hz hv
    have : left = [] := List.length_eq_zero_iff.mp (by omega)
    subst this
    refine CallP.cells T F ["left"] [("left", v)] (fun _ _ _ _ _ => rfl) (fun La cdv A h => ?_)
    refine .execs_cons (.ite (.tcmp (.name rfl (.list (.sp_nil ⟨by simp, .inl fun ea G₁ l₁ he => .eqLs (R := RN) (k := 0) (ys := []) (RL.mono RN.mono _ _ _ _ l₁ hv).ls ⟨ea, [], rfl, .inl he, .nil⟩ EqR.rn (by show 0 + 2 ≤ 8 * (n + 0 + 1); omega) (.truthy_bool (ifB_t (by simp) ?_))⟩)) (.inl rfl))))
    exact .execs_cons (.ret (.list (.sp_cons (.list (.sp_nil ⟨by simp, .inl fun ia G₂ l₂ hi => .sp_nil ⟨by simp, .inl fun ja G₃ l₃ hj => ⟨rfl, ja, _, rfl, hj, .one ⟨ia, [], rfl, hi.mono l₃, .nil⟩⟩⟩⟩)))))
  | succ f ih =>
    intro a F G pl n left v hl hz hv
    refine CallP.cells T F ["left"] [("left", v)] (fun _ _ _ _ _ => rfl) (fun La cdv A h => .nm ?_)
    intro Φ
    refine .execs_cons (.ite (.tcmp (.name rfl (.list (.sp_nil ⟨by simp, .inl fun ea G₁ l₁ he => .eqLs (R := RN) (k := 0) (ys := []) (RL.mono RN.mono _ _ _ _ l₁ hv).ls ⟨ea, [], rfl, .inl he, .nil⟩ EqR.rn (by show 0 + 2 ≤ 8 * (n + (f + 1) + 1); omega) (.truthy_bool ?_)⟩)) (.inl rfl))))
    cases left with
    | nil =>
      refine ifB_t (by simp) ?_
      exact .execs_cons (.ret (.list (.sp_cons (.list (.sp_nil ⟨by simp, .inl fun ia G₂ l₂ hi => .sp_nil ⟨by simp, .inl fun ja G₃ l₃ hj => ⟨rfl, ja, _, rfl, hj, .one ⟨ia, [], rfl, hi.mono l₃, .nil⟩⟩⟩⟩)))))
    | cons x r =>
      have hrl : r.length ≤ f := by simpa using hl
      have hr6 : r.length ≤ 5 := by simpa using hz
      refine ifB_f (by simp) (.execs_nil ?_)
      have hv₁ := RL.mono RN.mono _ _ _ _ l₁ hv
      refine .execs_cons (.asg (.list (.sp_nil ⟨by simp, .inr fun ra hra => .st ?_⟩)))
      refine .execs_cons (.forZ (R := RN) RN.mono (.fromR (R := RN) (.name rfl (.intN (a := 1) fun ov ho => ⟨x :: r, 1, hv₁.ls, by simp; omega, ho, fun sv G₂ l₂ hsv => ?_⟩) (.inl rfl)) RN.mono))
      have hv₂ := RL.mono RN.mono _ _ _ _ l₂ hv₁
      refine ⟨r, fun i σ' => ∃ G' rows rvs, σ' = ⟨G', [("left", v), ("rows", .ref ra)], [(ra, .lst rvs)], pl⟩ ∧ Le G₂ G' ∧ Rs (RL (RT2 RN RN) G') rows rvs ∧ rows = (r.take i).flatMap (fun o => (pairingsF f (r.filter fun x => decide (x ≠ o))).map fun row => (x, o) :: row) ∧ rows.length ≤ i * 120,
        hsv.itb, by omega, ⟨G₂, [], [], rfl, Le.rfl, .nil, by simp, by simp⟩, ?_, ?_⟩
      · rintro P₁ hP₁ ia c i o w σ' hx hw _ ⟨G', rows, rvs, rfl, l, hrows, hre, hrlen⟩
        have ho : o ∈ r := List.mem_of_getElem? hx
        have hi : i < r.length := (List.getElem?_eq_some_iff.mp hx).1
        have hfl := filter_ne_len ho
        have hrf : (pairingsF f (r.filter fun x => decide (x ≠ o))).length ≤ 120 :=
          Nat.le_trans (pairingsF_len f _ (by omega)) (Nat.le_trans (fct_mono (n := 5) (by omega)) (by decide))
        refine .tgt (.stC ?_)
        refine .execs_cons (.forZ (R := RL (RT2 RN RN)) (RL.mono (RT2.mono RN.mono RN.mono)) (.gcall T Fp (.sp_cons (.compX (R := RN) (R' := RN) RN.mono RN.mono [("other", La + 1)] [("other", w)] (.fromR (R := RN) (.name rfl (.intN (a := 1) fun ov ho => ⟨x :: r, 1, (RL.mono RN.mono _ _ _ _ l hv₂).ls, by simp; omega, ho, fun sv G₃ l₃ hsv => ?_⟩) (.inl rfl)) RN.mono)))))
        refine ⟨r, fun y => if decide (y ≠ o) = true then some y else none, hsv.itb, by omega, ⟨⟨rfl, ne_cell rfl, rfl, ne_cell rfl⟩, trivial⟩, fun C h y yv G₄ hy hyv l₄ => ?_, fun fv G₄ l₄ hfv => .sp_nil ?_⟩
        · refine .tgt (.st (.tests_one (.tcmp (.name rfl (.name rfl (.neN hyv hw (.truthy_bool ?_)) (.inr (.inl rfl))) (.inl rfl)))))
          refine ⟨(ite_isSome _ _).symm, fun _ => ⟨rfl, Le.rfl⟩, fun z hz => .name rfl ⟨?_, rfl, Le.rfl⟩ (.inl rfl)⟩
          obtain ⟨_, rfl⟩ := ite_some hz
          exact hyv
        · rw [fm_filter] at hfv
          refine ⟨n + f + 2, false, _, fun a F => ih F (n := n) (by omega) (by omega) hfv, by show n + f + 2 ≤ n + (f + 1) + 1; omega, fun h => (by cases h), ?_⟩
          rintro pv G₅ pl₅ l₅ ⟨rfl, hpv⟩
          have l₅' : Le G' G₅ := (l₃.trans l₄).trans l₅
          have hv₅ := RL.mono RN.mono _ _ _ _ (l.trans l₅') hv₂
          refine ⟨pairingsF f (r.filter fun x => decide (x ≠ o)), fun j σ' => ∃ G' rvs', σ' = wi ia c ⟨G', [("left", v), ("rows", .ref ra), ("other", w)], [(ra, .lst rvs')], pl₅⟩ ∧ Le G₅ G' ∧
            Rs (RL (RT2 RN RN) G') (rows ++ ((pairingsF f (r.filter fun x => decide (x ≠ o))).take j).map fun row => (x, o) :: row) rvs', hpv.itb, by omega, ⟨G₅, rvs, rfl, Le.rfl, by simpa using hrows.mono (RL.mono (RT2.mono RN.mono RN.mono)) l₅'⟩, ?_, ?_⟩
          · rintro P₂ hP₂ ib d j row rv σ' hrow hrv _ ⟨G₆, rvs₆, rfl, l₆, hrs₆⟩
            have hrowl := pairingsF_row f _ (by omega) row (List.mem_of_getElem? hrow)
            have hj := (List.getElem?_eq_some_iff.mp hrow).1
            have hrs6l : rvs₆.length ≤ 900 := by
              rw [hrs₆.length, List.length_append, List.length_map, List.length_take]
              have : i * 120 ≤ 5 * 120 := Nat.mul_le_mul_right _ (by omega)
              omega
            refine .tgt (.st ?_)
            refine .execs_cons (.expr (.mAppend (.name rfl ⟨ra, rfl, ⟨rvs₆, .inr (List.mem_cons_of_mem _ (List.mem_cons_of_mem _ (List.mem_cons_self ..)))⟩, .binop (.list (.sp_cons (.tuple (.sp_cons (.sub (.name rfl (.intN (a := 0) fun zv hz => ?_) (.inl rfl))))))) ⟩ (.inl rfl))))
            refine .itemR (R := RN) (xs := x :: r) (RL.mono RN.mono _ _ _ _ l₆ hv₅).ls hz rfl (by omega) fun xv hxv => ?_
            refine .sp_cons (.name rfl (.sp_nil ⟨by simp, .inl fun ta G₇ l₇ hta => .sp_nil ⟨by simp, .inl fun la G₈ l₈ hla => ?_⟩⟩) (.inr (.inl rfl)))
            have hone : RL (RT2 RN RN) G₈ [(x, o)] (.ref la) := ⟨la, _, rfl, hla, .one ⟨ta, _, _, rfl, l₈ _ _ hta, hxv, hw⟩⟩
            refine .name rfl (.plusR (R := RT2 RN RN) hone.ls (RL.mono (RT2.mono RN.mono RN.mono) _ _ _ _ (l₇.trans l₈) hrv).ls (by rw [List.length_singleton]; omega) (RT2.mono RN.mono RN.mono) fun nv G₉ l₉ hnv => ⟨2, rvs₆, rfl, by omega, ?_⟩) (.inl rfl)
            have l₁₀ : Le G₆ G₉ := (l₇.trans l₈).trans l₉
            refine .weak (.execs_nil ⟨[("left", v), ("rows", .ref ra), ("other", w)], ⟨rfl, rfl, rfl, trivial⟩, hP₂ _ _ _ _ _ _ ⟨wi ia c ⟨G₉, [("left", v), ("rows", .ref ra), ("other", w)], [(ra, .lst (rvs₆ ++ [nv]))], pl₅⟩, rfl, l₁₀, G₉, _, rfl, l₆.trans l₁₀, ?_⟩⟩)
            rw [List.take_add_one, hrow, Option.toList, List.map_append, ← List.append_assoc]
            exact (hrs₆.mono (RL.mono (RT2.mono RN.mono RN.mono)) l₁₀).append (.one hnv)
          · rintro σ' _ ⟨G₆, rvs₆, rfl, l₆, hrs₆⟩
            rw [List.take_length] at hrs₆
            refine .weak (.execs_nil ⟨[("left", v), ("rows", .ref ra)], ⟨rfl, rfl, trivial⟩, hP₁ _ _ _ _ _ _ ⟨⟨G₆, [("left", v), ("rows", .ref ra)], [(ra, .lst rvs₆)], pl₅⟩, rfl, l₅'.trans l₆, G₆, _, rvs₆, rfl, l.trans (l₅'.trans l₆), hrs₆, ?_, ?_⟩⟩)
            · rw [List.take_add_one, hx, Option.toList, List.flatMap_append, hre]
              simp
            · rw [List.length_append, List.length_map]; omega
      · rintro σ' _ ⟨G', rows, rvs, rfl, l, hrows, hre, hrlen⟩
        rw [List.take_length] at hre
        refine .frz (i := 0) rfl fun G'' l' hL => .execs_cons (.ret (.name rfl ⟨rfl, ?_⟩ (.inl rfl)))
        have : pairingsF (f + 1) (x :: r) = rows := by rw [hre]; rfl
        rw [this]
        exact ⟨ra, rvs, rfl, hL, hrows.mono (RL.mono (RT2.mono RN.mono RN.mono)) l'⟩

end
end Mine

end
section
namespace Mine
open PySem.SeqAt PySem.SeqRoads2 PySem.MeetsSeq PySem.MeetsSeq2 PySem.MeetsSeq3

noncomputable def matesStep (m : List Nat) (p : Nat × Nat) : List Nat := (m.set p.1 p.2).set p.2 p.1
noncomputable def matesOf (n : Nat) (row : List (Nat × Nat)) : List Nat := row.foldl matesStep (List.replicate n 0)
noncomputable def badAt (os : List (List Nat)) (mates : List Nat) (i j : Nat) : Bool := decide ((os.getD j []).idxOf i < (os.getD j []).idxOf (mates.getD j 0))
noncomputable def goodRow (os : List (List Nat)) (mates : List Nat) (i : Nat) : Bool := ((os.getD i []).take ((os.getD i []).idxOf (mates.getD i 0))).all fun j => !badAt os mates i j
noncomputable def goodM (os : List (List Nat)) (mates : List Nat) : Bool := (List.range os.length).all (goodRow os mates)
noncomputable def stableM (os : List (List Nat)) : List (List (Nat × Nat)) := if os.length % 2 = 1 then [] else (pairingsF os.length (List.range os.length)).filter fun row => goodM os (matesOf os.length row)

theorem matesFold_len : ∀ (row : List (Nat × Nat)) (m : List Nat), (row.foldl matesStep m).length = m.length
  | [], m => rfl
  | p :: r, m => by rw [List.foldl_cons, matesFold_len r]; simp [matesStep]

theorem all_take_succ {α : Type} (p : α → Bool) (l : List α) (i : Nat) (x : α) (h : l[i]? = some x) : (l.take (i + 1)).all p = ((l.take i).all p && p x) := by
  rw [List.take_add_one, h, List.all_append]; simp

theorem mulL {prog : Program} {w : World} {A : Around} {E : Value → Shared → Prop} {s : Shared} {l : Addr} {items : Array Value} {k : Nat} {x : Int} {u : Tok} {Q : Value → Shared → Prop}
    (hl : s.heap.get? l = some { cls := .type "list", dict := none, data := .seq items k, slots := #[] })
    (hlo : -(2 ^ 63 : Int) ≤ x) (hhi : x < 2 ^ 63) (hsz : items.size * x.toNat ≤ 2 ^ 24)
    (h : Q (.ref s.heap.objs.size) { s with heap := s.heap.push { cls := .type "list", data := .seq (List.foldl (fun x1 x2 => x1 ++ x2) #[] (List.replicate (if items.isEmpty = true then 0 else x.toNat) items)) } }) :
    wpAny (model prog w) A (binaryOp .Mult (.ref l) (.int x u)) Q E s :=
  wpAny_binaryOp_repeat_ref (T := "list") (U := "int") (by decide) ⟨_, hl, rfl⟩ (fun s' => typeIs_int s' x u) noFill_list_mul F.fills_int_mul F.slot_int_rmul repeat_list F.slot_int_index.lookup
    (call_meets F.slot_int_rmul (typeIs_int s x u) F.entry_int_rmul (F.args_int_rmul_2 _ _) (int___rmul___int_list x u l items k)
      ⟨hl, rfl, ⟨_, hl, rfl⟩, call_meets F.slot_list_mul ⟨_, hl, rfl⟩ F.entry_list_mul (F.args_list_mul_2 _ _)
        (AutoListH.list___mul___list_int_3 l items k x u (by simp [Builtin.List.listFitsIndex]; omega) (by omega) (by simp [Builtin.List.listTooLong, sizeLine]; omega))
        ⟨hl, h⟩⟩)

theorem fold_rep (t : Tok) (n : Nat) : (List.foldl (fun x1 x2 => x1 ++ x2) #[] (List.replicate (if (#[Value.int 0 t] : Array Value).isEmpty = true then 0 else ((n : Nat) : Int).toNat) #[Value.int 0 t])) = (List.replicate n (Value.int 0 t)).toArray := by
  have key : ∀ (m : Nat) (acc : Array Value), List.foldl (fun x1 x2 => x1 ++ x2) acc (List.replicate m #[Value.int 0 t]) = acc ++ (List.replicate m (Value.int 0 t)).toArray := by
    intro m
    induction m with
    | zero => intro acc; simp
    | succ m ih =>
      intro acc
      rw [List.replicate_succ, List.foldl_cons, ih, List.replicate_succ]
      apply Array.ext'
      simp
  have e0 : (#[Value.int 0 t] : Array Value).isEmpty = false := rfl
  rw [e0, if_neg (by decide), Int.toNat_natCast, key]; simp

section
variable {gl : Gl} {Φ : Fx} {σ : Sta}

theorem TT.rep0 {a : Addr} {t t' : Tok} {n : Nat} {P : Value → Sta → Prop} (L : σ.Lst a [.int 0 t]) (hn : n ≤ 1000) (M : MkL σ (List.replicate n (.int 0 t)) P) : TT gl Φ (binaryOp .Mult (.ref a) (.int (n : Nat) t')) σ P :=
  .mk (fun h g d tk os Q E S q => by
    obtain ⟨k, hl⟩ := S.lst L
    refine mulL (items := #[Value.int 0 t]) hl (by omega) (by omega) (by simp; omega) ?_
    rw [fold_rep]
    exact q _ _ _ (fresh_size h) (le_push h _) (Heap.get?_push_size _ rfl)) (M.mk 0)

end
end Mine

end
section
namespace Mine

/-- what the walk of the stable rows needs of a row -/
structure RowOk (n : Nat) (os : List (List Nat)) (row : List (Nat × Nat)) : Prop where
  lt : ∀ p ∈ row, p.1 < n ∧ p.2 < n
  mem : ∀ i, i < n → (matesOf n row).getD i 0 ∈ os.getD i []

theorem Rs.rep {R : Nat → Value → Prop} {x : Nat} {v : Value} (h : R x v) : ∀ n, Rs R (List.replicate n x) (List.replicate n v)
  | 0 => .nil
  | n + 1 => by rw [List.replicate_succ, List.replicate_succ]; exact .cons h (Rs.rep h n)

section
variable {gl : Gl} {Φ : Fx} {σ : Sta}

set_option maxHeartbeats 4000000 in
theorem sp_stable (T : gl.Ok) (Tb : Bi gl) (Fp : GFn gl "_law_pairings" (stmtAt 18)) {a : Addr} (F : FnK gl a "_law_stable" (stmtAt 19)) {G pl n os v} (hv : RL (RL RN) G os v) (hz : os.length ≤ 6) (hz2 : ∀ i, (os.getD i []).length ≤ 6)
    (hrow : os.length % 2 = 0 → ∀ row ∈ pairingsF os.length (List.range os.length), RowOk os.length os row)
    (hmu : ∀ i, i < os.length → ∀ j ∈ os.getD i [], j < os.length ∧ i ∈ os.getD j []) :
    CallP gl (n + 9) false (.ref a) [v] G pl fun G' pl' w => pl' = pl ∧ RL (RL (RT2 RN RN)) G' (stableM os) w := by
  refine CallP.plain T F ["orders"] [("orders", v)] (fun _ _ _ _ _ => rfl) (fun La cdv A h => .abs fun P₀ hP₀ => .nm ?_)
  intro Φ
  have get : ∀ i, i < os.length → os[i]? = some (os.getD i []) := fun i hi => by
    rw [List.getD_eq_getElem?_getD, List.getElem?_eq_getElem hi]; rfl
  refine .execs_cons (.asg (.list (.sp_nil ⟨by simp, .inr fun fa hfa => .st ?_⟩)))
  refine .execs_cons (.asg (.calln (.built T Tb.len rfl (.calleeB (.sp_cons (.name rfl (.sp_nil (.lenR hv.ls (by omega) fun cv hc => .st ?_)) (.inl rfl))))))) 
  obtain ⟨tc, rfl⟩ := hc
  refine .execs_cons (.ite (.tcmp (.binop (.name rfl (.intN (a := 2) fun two h2 => .modN (a := os.length) ⟨tc, rfl⟩ h2 (by omega) fun mv hm => .intN (a := 1) fun one h1 => .eqN hm h1 (.truthy_bool ?_)) (.inl rfl)))))
  by_cases hodd : os.length % 2 = 1
  · refine ifB_t (by simp [hodd]) ?_
    exact .frz (i := 0) rfl fun G'' l' hL => .execs_cons (.ret (.name rfl (hP₀ _ _ ⟨rfl, fa, [], rfl, hL, by unfold stableM; rw [if_pos hodd]; exact .nil⟩) (.inl rfl)))
  refine ifB_f (by simp [hodd]) (.execs_nil ?_)
  have hrow := hrow (by omega)
  refine .execs_cons (.forZ (R := RL (RT2 RN RN)) (RL.mono (RT2.mono RN.mono RN.mono)) (.gcall T Fp (.sp_cons (.calln (.built T Tb.list rfl (.calleeT (.sp_cons (.calln (.built T Tb.range rfl (.calleeT (.sp_cons (.name rfl (.sp_nil (.range fun r G₁ l₁ hr => .sp_nil (.listrange hr (by omega) fun lv G₂ l₂ hlv => .sp_nil ?_))) (.inl rfl)))))))))))))
  refine ⟨n + os.length + 2, false, _, fun a F => sp_pairings T Fp os.length F (n := n) (by simp) (by simpa using hz) hlv, by show n + os.length + 2 ≤ n + 8; omega, fun h => (by cases h), ?_⟩
  rintro pv G₃ pl₃ l₃ ⟨rfl, hpv⟩
  have l₁₃ := (l₁.trans l₂).trans l₃
  have hv₃ := RL.mono (RL.mono RN.mono) _ _ _ _ l₁₃ hv
  have hplen : (pairingsF os.length (List.range os.length)).length ≤ 900 := by
    have := pairingsF_len os.length (List.range os.length) (by simp)
    refine Nat.le_trans this (Nat.le_trans (fct_mono (n := 6) (by simpa using hz)) (by decide))
  refine ⟨pairingsF os.length (List.range os.length), fun i σ' => ∃ G' fvs, σ' = ⟨G', [("orders", v), ("found", .ref fa), ("count", .int (os.length : Nat) tc)], [(fa, .lst fvs)], pl₃⟩ ∧ Le G₃ G' ∧
    Rs (RL (RT2 RN RN) G') (((pairingsF os.length (List.range os.length)).take i).filter fun row => goodM os (matesOf os.length row)) fvs, hpv.itb, by omega, ⟨G₃, [], rfl, Le.rfl, by simpa using Rs.nil⟩, ?_, ?_⟩
  · rintro P₁ hP₁ ia c i row rv σ' hx hrv _ ⟨G', fvs, rfl, l, hf⟩
    have hro := hrow row (List.mem_of_getElem? hx)
    have hi := (List.getElem?_eq_some_iff.mp hx).1
    have hfl : fvs.length ≤ 900 := by
      rw [hf.length]
      exact Nat.le_trans (List.length_filter_le ..) (by rw [List.length_take]; omega)
    refine .tgt (.st ?_)
    -- mates
    refine .execs_cons (.asg (.binop (.list (.sp_cons (.int fun t₀ => .sp_nil ⟨by simp, .inl fun za G₄ l₄ hza => .name rfl (.rep0 (t := t₀) (.inl hza) (by omega) (.inr fun ma hma => .st ?_)) (.inl rfl)⟩)))))
    have hrv := RL.mono (RT2.mono RN.mono RN.mono) _ _ _ _ l₄ hrv
    refine .execs_cons (.forZ (R := RT2 RN RN) (RT2.mono RN.mono RN.mono) (.name rfl ⟨row, fun j σ' => ∃ G' mvs, σ' = ⟨G', [("orders", v), ("found", .ref fa), ("count", .int (os.length : Nat) tc), ("pairs", rv), ("mates", .ref ma)], (ma, .lst mvs) :: (ia, c) :: [(fa, .lst fvs)], pl₃⟩ ∧ Le G₄ G' ∧
      Rs (RN G') ((row.take j).foldl matesStep (List.replicate os.length 0)) mvs, hrv.itb, ?_, ⟨G₄, _, rfl, Le.rfl, Rs.rep (x := 0) ⟨t₀, rfl⟩ _⟩, ?_, ?_⟩ (.inl rfl)))
    · have := pairingsF_row os.length (List.range os.length) (by simp) row (List.mem_of_getElem? hx)
      rw [List.length_range] at this; omega
    · rintro P₂ hP₂ ib d j ⟨p1, p2⟩ w σ' hp ⟨ta, xv, yv, rfl, hta, ⟨t1, rfl⟩, ⟨t2, rfl⟩⟩ _ ⟨G₅, mvs, rfl, l₅, hm⟩
      obtain ⟨h1, h2⟩ := hro.lt _ (List.mem_of_getElem? hp)
      simp only at h1 h2 hta
      have hml : mvs.length = os.length := by rw [hm.length, matesFold_len, List.length_replicate]
      refine .asg2 hta (.tgt (.st (.tgt (.st ?_))))
      refine .execs_cons (.asgSub (.name rfl (.name rfl (.name rfl (.setItem (i := 1) rfl (by omega) (by omega) (by omega) ?_) (.inl rfl)) (.inl rfl)) (.inl rfl)))
      refine .execs_cons (.asgSub (.name rfl (.name rfl (.name rfl (.setItem (i := 1) rfl (by omega) (by simp; omega) (by omega) ?_) (.inl rfl)) (.inl rfl)) (.inl rfl)))
      refine .weak (.execs_nil ⟨[("orders", v), ("found", .ref fa), ("count", .int (os.length : Nat) tc), ("pairs", rv), ("mates", .ref ma)], ⟨rfl, rfl, rfl, rfl, rfl, trivial⟩, hP₂ _ _ _ _ _ _ ⟨⟨G₅, _, (ma, .lst ((mvs.set p1 (.int (p2 : Nat) t2)).set p2 (.int (p1 : Nat) t1))) :: (ia, c) :: [(fa, .lst fvs)], pl₃⟩, rfl, Le.rfl, G₅, _, rfl, l₅, ?_⟩⟩)
      rw [List.take_add_one, hp, Option.toList, List.foldl_append]
      have := (hm.set (x := p2) (v := .int (p2 : Nat) t2) ⟨t2, rfl⟩ p1).set (x := p1) (v := .int (p1 : Nat) t1) ⟨t1, rfl⟩ p2
      simpa [matesStep] using this
    · rintro σ' _ ⟨G₅, mvs, rfl, l₅, hm⟩
      rw [List.take_length] at hm
      have hm : Rs (RN G₅) (matesOf os.length row) mvs := hm
      have hml : (matesOf os.length row).length = os.length := by unfold matesOf; rw [matesFold_len, List.length_replicate]
      refine .frz (i := 0) rfl fun G₆ l₆ hmL => ?_
      have hmv : RL RN G₆ (matesOf os.length row) (.ref ma) := ⟨ma, mvs, rfl, hmL, hm.mono RN.mono l₆⟩
      have l₃₆ : Le G₃ G₆ := ((l.trans l₄).trans l₅).trans l₆
      have hv₆ := RL.mono (RL.mono RN.mono) _ _ _ _ l₃₆ hv₃
      have gm : ∀ i, i < os.length → (matesOf os.length row)[i]? = some ((matesOf os.length row).getD i 0) := fun i hi => by
        rw [List.getD_eq_getElem?_getD, List.getElem?_eq_getElem (by omega)]; rfl
      refine .execs_cons (.asg (.bool (.st ?_)))
      refine .execs_cons (.forZ (R := RN) RN.mono (.calln (.built T Tb.range rfl (.calleeT (.sp_cons (.name rfl (.sp_nil (.range fun r₇ G₇ l₇ hr₇ => ?_)) (.inl rfl)))))))
      refine ⟨List.range os.length, fun i σ' => ∃ G', σ' = ⟨G', [("orders", v), ("found", .ref fa), ("count", .int (os.length : Nat) tc), ("pairs", rv), ("mates", .ref ma), ("good", .bool (((List.range os.length).take i).all (goodRow os (matesOf os.length row))))], (ia, c) :: [(fa, .lst fvs)], pl₃⟩ ∧ Le G₆ G',
        hr₇.itb, by simp; omega, ⟨G₇, rfl, l₇⟩, ?_, ?_⟩
      · rintro P₃ hP₃ ib d i x w σ' hx ⟨tx, rfl⟩ _ ⟨G₈, rfl, l₈⟩
        obtain ⟨hxl, hxe⟩ := List.getElem?_eq_some_iff.mp hx
        rw [List.getElem_range] at hxe
        subst hxe
        have hil : i < os.length := by simpa using hxl
        have hv₈ := RL.mono (RL.mono RN.mono) _ _ _ _ l₈ hv₆
        have hm₈ := RL.mono RN.mono _ _ _ _ l₈ hmv
        generalize hg : ((List.range os.length).take i).all (goodRow os (matesOf os.length row)) = g
        refine .tgt (.st ?_)
        refine .execs_cons (.forZ (R := RN) RN.mono (.uptoR (R := RN) (.sub (.name rfl (.name rfl (.itemR (R := RL RN) hv₈.ls (k := i) ⟨tx, rfl⟩ (get i hil) (by omega) fun ov hov => .mIndex (R := RN) (.sub (.name rfl (.name rfl (.itemR (R := RL RN) hv₈.ls (k := i) ⟨tx, rfl⟩ (get i hil) (by omega) fun ov₂ hov₂ => ⟨⟨_, hov₂.ls⟩, .sub (.name rfl (.name rfl (.itemR (R := RN) hm₈.ls (k := i) ⟨tx, rfl⟩ (gm i hil) (by omega) fun mv hmv' =>
          ⟨os.getD i [], (matesOf os.length row).getD i 0, 0, hov₂.ls, by have := hz2 i; omega, EqR.rn, Uq.rn, hmv', by show 0 + 2 ≤ 8 * (n + 8); omega, hro.mem i hil, fun kv hk => ⟨os.getD i [], _, hov.ls, by have := hz2 i; omega, hk, fun sv G₉ l₉ hsv => ?_⟩⟩) (.inl rfl)) (.inl rfl))⟩) (.inl rfl)) (.inl rfl)))) (.inl rfl)) (.inl rfl))) RN.mono))
        have hsub : ∀ j ∈ (os.getD i []).take ((os.getD i []).idxOf ((matesOf os.length row).getD i 0)), j < os.length ∧ i ∈ os.getD j [] := fun j hj => hmu i hil j (List.mem_of_mem_take hj)
        refine ⟨(os.getD i []).take ((os.getD i []).idxOf ((matesOf os.length row).getD i 0)), fun j σ' => ∃ G', σ' = wi ib d ⟨G', [("orders", v), ("found", .ref fa), ("count", .int (os.length : Nat) tc), ("pairs", rv), ("mates", .ref ma), ("good", .bool (g && (((os.getD i []).take ((os.getD i []).idxOf ((matesOf os.length row).getD i 0))).take j).all fun j => !badAt os (matesOf os.length row) i j)), ("i", .int (i : Nat) tx)], (ia, c) :: [(fa, .lst fvs)], pl₃⟩ ∧ Le G₉ G',
          hsv.itb, ?_, ⟨G₉, by simp; rfl, Le.rfl⟩, ?_, ?_⟩
        · have := hz2 i; rw [List.length_take]; omega
        · rintro P₄ hP₄ ic e j y w σ' hy hw _ ⟨G₁₀, rfl, l₁₀⟩
          obtain ⟨hyl, hyi⟩ := hsub y (List.mem_of_getElem? hy)
          have hv₁₀ := RL.mono (RL.mono RN.mono) _ _ _ _ (l₉.trans l₁₀) hv₈
          have hm₁₀ := RL.mono RN.mono _ _ _ _ (l₉.trans l₁₀) hm₈
          have hl6 := hz2 y
          generalize hg2 : (g && (((os.getD i []).take ((os.getD i []).idxOf ((matesOf os.length row).getD i 0))).take j).all fun j => !badAt os (matesOf os.length row) i j) = g2
          have hnext : (g && (((os.getD i []).take ((os.getD i []).idxOf ((matesOf os.length row).getD i 0))).take (j + 1)).all fun j => !badAt os (matesOf os.length row) i j) = (g2 && !badAt os (matesOf os.length row) i y) := by
            rw [all_take_succ _ _ _ _ hy, ← hg2, Bool.and_assoc]
          refine .tgt (.st ?_)
          refine .execs_cons (.weak (.ite (.tcmp (.mIndex (R := RN) (.sub (.name rfl (.name rfl (.itemR (R := RL RN) hv₁₀.ls hw (get y hyl) (by omega) fun ov hov => ⟨⟨_, hov.ls⟩, .name rfl ⟨os.getD y [], i, 0, hov.ls, by omega, EqR.rn, Uq.rn, ⟨tx, rfl⟩, by show 0 + 2 ≤ 8 * (n + 8); omega, hyi, fun k1 hk1 => ?_⟩ (.inl rfl)⟩) (.inl rfl)) (.inl rfl)))))))
          refine .mIndex (R := RN) (.sub (.name rfl (.name rfl (.itemR (R := RL RN) hv₁₀.ls hw (get y hyl) (by omega) fun ov hov => ⟨⟨_, hov.ls⟩, .sub (.name rfl (.name rfl (.itemR (R := RN) hm₁₀.ls hw (gm y hyl) (by omega) fun mv hmv' => ⟨os.getD y [], (matesOf os.length row).getD y 0, 0, hov.ls, by omega, EqR.rn, Uq.rn, hmv', by show 0 + 2 ≤ 8 * (n + 8); omega, hro.mem y hyl, fun k2 hk2 => ?_⟩) (.inl rfl)) (.inl rfl))⟩) (.inl rfl)) (.inl rfl)))
          refine .ltN hk1 hk2 (.truthy_bool ?_)
          cases hb : badAt os (matesOf os.length row) i y with
          | true =>
            refine ifB_t (by unfold badAt at hb; exact hb) (.execs_cons (.asg (.bool (.st (.execs_nil ?_)))))
            refine ⟨[("orders", v), ("found", .ref fa), ("count", .int (os.length : Nat) tc), ("pairs", rv), ("mates", .ref ma), ("good", .bool false), ("i", .int (i : Nat) tx)], ⟨rfl, rfl, rfl, rfl, rfl, rfl, rfl, trivial⟩, .execs_nil (hP₄ _ _ _ _ _ _ ⟨wi ib d ⟨G₁₀, _, (ia, c) :: [(fa, .lst fvs)], pl₃⟩, rfl, Le.rfl, G₁₀, ?_, l₁₀⟩)⟩
            rw [hnext, hb]; simp
          | false =>
            refine ifB_f (by unfold badAt at hb; exact hb) (.execs_nil ?_)
            refine ⟨[("orders", v), ("found", .ref fa), ("count", .int (os.length : Nat) tc), ("pairs", rv), ("mates", .ref ma), ("good", .bool g2), ("i", .int (i : Nat) tx)], ⟨rfl, rfl, rfl, rfl, rfl, rfl, rfl, trivial⟩, .execs_nil (hP₄ _ _ _ _ _ _ ⟨wi ib d ⟨G₁₀, _, (ia, c) :: [(fa, .lst fvs)], pl₃⟩, rfl, Le.rfl, G₁₀, ?_, l₁₀⟩)⟩
            rw [hnext, hb]; simp
        · rintro σ' _ ⟨G₁₀, rfl, l₁₀⟩
          rw [List.take_length]
          refine .weak (.execs_nil ⟨[("orders", v), ("found", .ref fa), ("count", .int (os.length : Nat) tc), ("pairs", rv), ("mates", .ref ma), ("good", .bool (g && goodRow os (matesOf os.length row) i))], ⟨rfl, rfl, rfl, rfl, rfl, rfl, trivial⟩, hP₃ _ _ _ _ _ _ ⟨⟨G₁₀, _, (ia, c) :: [(fa, .lst fvs)], pl₃⟩, rfl, l₉.trans l₁₀, G₁₀, ?_, (l₈.trans l₉).trans l₁₀⟩⟩)
          rw [all_take_succ _ _ _ _ hx, hg]
      · rintro σ' _ ⟨G₈, rfl, l₈⟩
        rw [List.take_length]
        have hgood : (List.range os.length).all (goodRow os (matesOf os.length row)) = goodM os (matesOf os.length row) := rfl
        rw [hgood]
        have l₄₈ : Le G' G₈ := ((l₄.trans l₅).trans l₆).trans l₈
        have hf₈ := hf.mono (RL.mono (RT2.mono RN.mono RN.mono)) l₄₈
        have hrv₈ := RL.mono (RT2.mono RN.mono RN.mono) _ _ _ _ ((l₅.trans l₆).trans l₈) hrv
        have hnext : (((pairingsF os.length (List.range os.length)).take (i + 1)).filter fun row => goodM os (matesOf os.length row)) = (((pairingsF os.length (List.range os.length)).take i).filter fun row => goodM os (matesOf os.length row)) ++ (if goodM os (matesOf os.length row) then [row] else []) := by
          rw [List.take_add_one, hx, Option.toList, List.filter_append, List.filter_cons, List.filter_nil]
        refine .execs_cons (.weak (.ite (.tplain (.name rfl (.truthy_bool ?_) (.inl rfl)))))
        cases hb : goodM os (matesOf os.length row) with
        | true =>
          refine ifB_t rfl (.execs_cons (.expr (.mAppend (.name rfl ⟨fa, rfl, ⟨fvs, .inr (List.mem_cons_of_mem _ (List.mem_cons_self ..))⟩, .name rfl ⟨1, fvs, rfl, by omega, .execs_nil ?_⟩ (.inl rfl)⟩ (.inl rfl)))))
          refine ⟨[("orders", v), ("found", .ref fa), ("count", .int (os.length : Nat) tc)], ⟨rfl, rfl, rfl, trivial⟩, .execs_nil (hP₁ _ _ _ _ _ _ ⟨⟨G₈, _, [(fa, .lst (fvs ++ [rv]))], pl₃⟩, rfl, l₄₈, G₈, _, rfl, l.trans l₄₈, ?_⟩)⟩
          rw [hnext, hb]; exact hf₈.append (.one hrv₈)
        | false =>
          refine ifB_f rfl (.execs_nil ?_)
          refine ⟨[("orders", v), ("found", .ref fa), ("count", .int (os.length : Nat) tc)], ⟨rfl, rfl, rfl, trivial⟩, .execs_nil (hP₁ _ _ _ _ _ _ ⟨⟨G₈, _, [(fa, .lst fvs)], pl₃⟩, rfl, l₄₈, G₈, _, rfl, l.trans l₄₈, ?_⟩)⟩
          rw [hnext, hb]; simpa using hf₈
  · rintro σ' _ ⟨G', fvs, rfl, l, hf⟩
    rw [List.take_length] at hf
    refine .frz (i := 0) rfl fun G'' l' hL => .execs_cons (.ret (.name rfl (hP₀ _ _ ⟨rfl, fa, fvs, rfl, hL, ?_⟩) (.inl rfl)))
    unfold stableM; rw [if_neg hodd]
    exact hf.mono (RL.mono (RT2.mono RN.mono RN.mono)) l'

end
end Mine

end
section
namespace Mine

noncomputable def inLists (lists : List (List Nat)) (p : Nat × Nat) : Bool := decide (p.2 ∈ lists.getD p.1 [])
noncomputable def withinM (st : List (List (Nat × Nat))) (lists : List (List Nat)) : List (List (Nat × Nat)) := st.filter fun row => decide ((row.filter (inLists lists)).length = row.length)

section
variable {gl : Gl} {Φ : Fx} {σ : Sta}

theorem sp_within (T : gl.Ok) (Tb : Bi gl) {a : Addr} (F : FnK gl a "_law_within" (stmtAt 20)) {G pl n st lists sv lv} (hs : RL (RL (RT2 RN RN)) G st sv) (hl : RL (RL RN) G lists lv) (hz : st.length ≤ 900) (hz2 : ∀ row ∈ st, row.length ≤ 900)
    (hz3 : ∀ i, (lists.getD i []).length ≤ 900) (hlt : ∀ row ∈ st, ∀ p ∈ row, p.1 < lists.length) (hl9 : lists.length ≤ 900) :
    CallP gl (n + 2) false (.ref a) [sv, lv] G pl fun G' pl' w => pl' = pl ∧ RL (RL (RT2 RN RN)) G' (withinM st lists) w := by
  refine CallP.cells T F ["stable", "lists"] [("stable", sv), ("lists", lv)] (fun _ _ _ _ _ => rfl) (fun La cdv A h => ?_)
  have hR := RL.mono (RT2.mono RN.mono RN.mono)
  refine .execs_cons (.ret (.compX (R := RL (RT2 RN RN)) (R' := RL (RT2 RN RN)) hR hR [("lists", La + 1)] [("lists", lv)] (.name rfl ?_ (.inl rfl))))
  refine ⟨st, fun row => if decide ((row.filter (inLists lists)).length = row.length) = true then some row else none, hs.itb, by omega, ⟨⟨rfl, ne_cell rfl, rfl, ne_cell rfl⟩, trivial⟩, fun C h row rv G₁ hrow hrv l₁ => ?_, fun w G₁ l₁ hw => ⟨rfl, by rw [fm_filter] at hw; exact hw⟩⟩
  have hrl := hz2 row hrow
  refine .tgt (.st (.tests_one (.tcmp (.calln (.built T Tb.len rfl (.calleeB (.sp_cons (.compX (R := RT2 RN RN) (R' := RT2 RN RN) (RT2.mono RN.mono RN.mono) (RT2.mono RN.mono RN.mono) [("lists", La + 1)] [("lists", lv)] (.name rfl ⟨row, fun p => if inLists lists p = true then some p else none, hrv.itb, by omega, ⟨⟨rfl, ne_cell rfl, rfl, ne_cell rfl⟩, trivial⟩, fun C h p pv G₂ hp hpv l₂ => ?_, fun w G₂ l₂ hw => .sp_nil ?_⟩ (.inl rfl))))))))))
  · obtain ⟨ta, xv, yv, rfl, hta, hx, hy⟩ := id hpv
    have hl₂ := RL.mono (RL.mono RN.mono) _ _ _ _ (l₁.trans l₂) hl
    have hp1 := hlt row hrow p hp
    have hget : lists[p.1]? = some (lists.getD p.1 []) := by rw [List.getD_eq_getElem?_getD, List.getElem?_eq_getElem hp1]; rfl
    have h3 := hz3 p.1
    refine .tgt (.st (.tests_one (.tcmp (.sub (.name rfl (.int fun t => .itemT hta (by omega) rfl (.sub (.name rfl (.sub (.name rfl (.int fun t => .itemT hta (by omega) rfl (.itemR (R := RL RN) hl₂.ls hx hget (by omega) fun u hu => ?_)) (.inl rfl))) (.inr (.inl rfl))))) (.inl rfl))))))
    refine .inR (R := RN) (k := 0) hu.ls EqR.rn Uq.rn hy (by show 0 + 2 ≤ 8 * (n + 1); omega) (.truthy_bool ?_)
    refine ⟨(ite_isSome _ _).symm, fun _ => ⟨rfl, Le.rfl⟩, fun y hy => .name rfl ⟨?_, rfl, Le.rfl⟩ (.inl rfl)⟩
    obtain ⟨_, rfl⟩ := ite_some hy
    exact hpv
  · rw [fm_filter] at hw
    refine .lenR hw.ls (Nat.le_trans (List.length_filter_le ..) (by omega)) fun v₁ h₁ => .calln (.built T Tb.len rfl (.calleeB (.sp_cons (.name rfl (.sp_nil (.lenR (RL.mono (RT2.mono RN.mono RN.mono) _ _ _ _ l₂ hrv).ls (by omega) fun v₂ h₂ => .eqN h₁ h₂ (.truthy_bool ?_))) (.inl rfl)))))
    refine ⟨(ite_isSome _ _).symm, fun _ => ⟨rfl, l₂⟩, fun y hy => .name rfl ⟨?_, rfl, l₂⟩ (.inl rfl)⟩
    obtain ⟨_, rfl⟩ := ite_some hy
    exact RL.mono (RT2.mono RN.mono RN.mono) _ _ _ _ l₂ hrv

theorem sp_mutual (T : gl.Ok) (Tb : Bi gl) {a : Addr} (F : FnK gl a "_law_mutual" (stmtAt 21)) {G pl n os lists ov lv} (ho : RL (RL RN) G os ov) (hl : RL (RL RN) G lists lv) (hlen : lists.length ≤ os.length) (hz : os.length ≤ 900)
    (hz2 : ∀ i, (os.getD i []).length ≤ 900) (hz3 : ∀ i, (lists.getD i []).length ≤ 900)
    (hf : ∀ k, k < lists.length → (os.getD k []).filter (fun j => decide (j ∈ lists.getD k [])) = lists.getD k []) (hm : ∀ k, k < lists.length → ∀ j ∈ lists.getD k [], j < lists.length ∧ k ∈ lists.getD j []) :
    CallP gl (n + 2) false (.ref a) [ov, lv] G pl fun G' pl' w => pl' = pl ∧ w = .bool true := by
  refine CallP.cells T F ["orders", "lists"] [("orders", ov), ("lists", lv)] (fun _ _ _ _ _ => rfl) (fun La cdv A h => .nm ?_)
  intro Φ
  have get : ∀ i, i < lists.length → lists[i]? = some (lists.getD i []) := fun i hi => by rw [List.getD_eq_getElem?_getD, List.getElem?_eq_getElem hi]; rfl
  have getO : ∀ i, i < lists.length → os[i]? = some (os.getD i []) := fun i hi => by rw [List.getD_eq_getElem?_getD, List.getElem?_eq_getElem (by omega)]; rfl
  refine .execs_cons (.forZ (R := RN) RN.mono (.calln (.built T Tb.range rfl (.calleeT (.sp_cons (.calln (.built T Tb.len rfl (.calleeB (.sp_cons (.name rfl (.sp_nil (.lenR hl.ls (by omega) fun cv hc => .sp_nil ?_)) (.inr (.inl rfl))))))))))))
  obtain ⟨tc, rfl⟩ := hc
  refine .range fun r G₁ l₁ hr => ?_
  refine ⟨List.range lists.length, fun i σ' => ∃ G', σ' = ⟨G', [("lists", lv), ("orders", ov)], [], pl⟩ ∧ Le G₁ G', hr.itb, by simp; omega, ⟨G₁, rfl, Le.rfl⟩, ?_, ?_⟩
  · rintro P₁ hP₁ ia c i k kv σ' hx hkv _ ⟨G', rfl, l⟩
    obtain ⟨hi, hki⟩ := List.getElem?_eq_some_iff.mp hx
    rw [List.getElem_range] at hki
    subst hki
    have hi : i < lists.length := by simpa using hi
    have lG := l₁.trans l
    have h2 := hz2 i
    have h3 := hz3 i
    have ho' := RL.mono (RL.mono RN.mono) _ _ _ _ lG ho
    have hl' := RL.mono (RL.mono RN.mono) _ _ _ _ lG hl
    refine .tgt (.stC (.execs_cons (.ite (.tcmp (.compX (R := RN) (R' := RN) RN.mono RN.mono [("lists", La + 1), ("k", La + 2)] [("lists", lv), ("k", kv)] (.sub (.name rfl (.name rfl (.itemR (R := RL RN) ho'.ls hkv (getO i hi) (by omega) fun u hu => ?_) (.inr (.inl rfl))) (.inl rfl))))))))
    refine ⟨os.getD i [], fun j => if decide (j ∈ lists.getD i []) = true then some j else none, hu.itb, by omega, ⟨⟨rfl, ne_cell rfl, rfl, ne_cell rfl⟩, ⟨rfl, ne_cell rfl, rfl, ne_cell rfl⟩, trivial⟩, fun C h x w G₂ hx hw l₂ => ?_, fun w G₂ l₂ hw => ?_⟩
    · refine .tgt (.st (.tests_one (.tcmp (.name rfl (.sub (.name rfl (.name rfl (.itemR (R := RL RN) (RL.mono (RL.mono RN.mono) _ _ _ _ l₂ hl').ls hkv (get i hi) (by omega) fun u hu => .inR (R := RN) (k := 0) hu.ls EqR.rn Uq.rn hw (by show 0 + 2 ≤ 8 * (n + 1); omega) (.truthy_bool ?_)) (.inr (.inl rfl))) (.inr (.inl rfl)))) (.inl rfl)))))
      refine ⟨(ite_isSome _ _).symm, fun _ => ⟨rfl, Le.rfl⟩, fun y hy => .name rfl ⟨?_, rfl, Le.rfl⟩ (.inl rfl)⟩
      obtain ⟨_, rfl⟩ := ite_some hy
      exact hw
    · rw [fm_filter, hf i hi] at hw
      have hl₂ := RL.mono (RL.mono RN.mono) _ _ _ _ l₂ hl'
      refine .sub (.name rfl (.name rfl (.itemR (R := RL RN) hl₂.ls hkv (get i hi) (by omega) fun u hu => .neLs (R := RN) (k := 0) hw.ls hu.ls EqR.rn (by show 0 + 2 ≤ 8 * (n + 1); omega) (.truthy_bool (ifB_f (by simp) (.execs_nil ?_)))) (.inr (.inl rfl))) (.inr (.inl rfl)))
      refine .execs_cons (.forZ (R := RN) RN.mono (.sub (.name rfl (.name rfl (.itemR (R := RL RN) hl₂.ls hkv (get i hi) (by omega) fun u hu => ?_) (.inr (.inl rfl))) (.inr (.inl rfl)))))
      refine ⟨lists.getD i [], fun j σ' => ∃ G', σ' = wi ia c ⟨G', [("lists", lv), ("orders", ov), ("k", kv)], [], pl⟩ ∧ Le G₂ G', hu.itb, by omega, ⟨G₂, rfl, Le.rfl⟩, ?_, ?_⟩
      · rintro P₂ hP₂ ib d j x w σ' hx hw _ ⟨G₃, rfl, l₃⟩
        obtain ⟨hxl, hxi⟩ := hm i hi x (List.mem_of_getElem? hx)
        have hl₃ := RL.mono (RL.mono RN.mono) _ _ _ _ l₃ hl₂
        have h3x := hz3 x
        refine .tgt (.st (.execs_cons (.ite (.tcmp (.name rfl (.sub (.name rfl (.name rfl (.itemR (R := RL RN) hl₃.ls hw (get x hxl) (by omega) fun u hu => .ninR (R := RN) (k := 0) hu.ls EqR.rn Uq.rn hkv (by show 0 + 2 ≤ 8 * (n + 1); omega) (.truthy_bool (ifB_f (decide_eq_false fun h => h hxi) (.weak (.execs_nil ?_))))) (.inl rfl)) (.inr (.inl rfl)))) (.inr (.inl rfl)))))))
        exact ⟨[("lists", lv), ("orders", ov), ("k", kv)], ⟨rfl, rfl, rfl, trivial⟩, .execs_nil (hP₂ _ _ _ _ _ _ ⟨wi ia c ⟨G₃, [("lists", lv), ("orders", ov), ("k", kv)], [], pl⟩, rfl, Le.rfl, G₃, rfl, l₃⟩)⟩
      · rintro σ' _ ⟨G₃, rfl, l₃⟩
        exact .weak (.execs_nil ⟨[("lists", lv), ("orders", ov)], ⟨rfl, rfl, trivial⟩, hP₁ _ _ _ _ _ _ ⟨⟨G₃, [("lists", lv), ("orders", ov)], [], pl⟩, rfl, l₂.trans l₃, G₃, rfl, (l.trans l₂).trans l₃⟩⟩)
  · rintro σ' _ ⟨G', rfl, l⟩
    exact .execs_cons (.ret (.bool ⟨rfl, rfl⟩))

end
end Mine

end
section
namespace Mine

section
variable {gl : Gl} {Φ : Fx} {σ : Sta}

theorem TT.setNew (T : gl.Ok) {i : Nat} {x dx : Addr} {m : Str → Option Value} {k : Nat} {name : Str} {v : Value} {P : Unit → Sta → Prop} (hi : σ.own[i]? = some (dx, .dct m k)) (hx : σ.G x = some (instObj gl.C dx)) (hn : findIn gl.K (.ref gl.C) name = some none) (hk : k ≤ 100) (hm : m name = none)
    (p : P () { σ with own := σ.own.set i (dx, .dct (fun y => if y = name then some v else m y) (k + 1)) }) : TT gl Φ (setAttr (.ref x) name v) σ P :=
  fun h g d tk os Q E S q => by
    have D : PDm h dx m k := (S.own _ (mem_of_get hi)).1
    refine store_attr T (S.inK T) (S.sub _ _ hx) D hn hk fun h' tk' hs' D' => ?_
    rw [hm] at D'
    have hnc : ∀ v, ¬ ∃ o, h.get? dx = some o ∧ o.data = .cell v := by
      rintro v ⟨o, a, b⟩
      obtain ⟨es, n, e, _⟩ := D
      rw [e] at a; cases a; cases b
    exact q _ _ _ _ (S.setOwn (c' := .dct _ _) hi (fun b o hb e => hs'.extBut b o hb e) D' hnc) p

theorem PDm.congr {h : Heap} {d : Addr} {m m' : Str → Option Value} {k k' : Nat} (D : PDm h d m k) (e : ∀ y, m y = m' y) (hk : k ≤ k') : PDm h d m' k' := by
  obtain ⟨es, n, a, b, c⟩ := D
  exact ⟨es, n, a, fun y => by rw [b y, e y], Nat.le_trans c hk⟩

theorem base_body (T : gl.Ok) {x dx : Addr} {v : Value} {La f2 : Addr} {cdv : Value} {A : Around} {n : Nat} {pl : List Pl} {h : Heap} {G : PM} (hx : G x = some (instObj gl.C dx)) :
    TT gl (fFx (envOf "BasePlayer.__init__" (scopeOf (methAt 8 0)) La f2 cdv) A n false pl G (h.hide dx)) (execs (bodyOf (methAt 8 0)) (envOf "BasePlayer.__init__" (scopeOf (methAt 8 0)) La f2 cdv))
      ⟨G, [("name", v), ("self", .ref x)], [(dx, .dct (fun _ => none) 0)], pl⟩ fun f σ' => retV f = .none ∧ σ'.pl = pl ∧ ∃ l1 l2 m, σ'.own = [(dx, .dct m 5)] ∧ IsLst σ'.G l1 [] ∧ IsLst σ'.G l2 [] ∧ (∀ y, m y = pmap ⟨x, dx, v, .ref l1, .none, .ref l2, .none⟩ y) := by
  refine .execs_cons (.asgAttr (.name rfl (.name rfl (.setNew T (i := 0) rfl hx T.nname (by decide) rfl ?_) (.inl rfl)) (.inl rfl)))
  refine .execs_cons (.asgAttr (.list (.sp_nil ⟨by simp, .inl fun l1 G₁ g₁ hl₁ => .name rfl (.setNew T (i := 0) rfl (g₁ _ _ hx) T.nprefs (by decide) rfl ?_) (.inl rfl)⟩)))
  refine .execs_cons (.asgAttr (.nonev (.name rfl (.setNew T (i := 0) rfl (g₁ _ _ hx) T.nmatching (by decide) rfl ?_) (.inl rfl))))
  refine .execs_cons (.asgAttr (.list (.sp_nil ⟨by simp, .inl fun l2 G₂ g₂ hl₂ => .name rfl (.setNew T (i := 0) rfl (g₂ _ _ (g₁ _ _ hx)) T.npn (by decide) rfl ?_) (.inl rfl)⟩)))
  refine .execs_cons (.asgAttr (.nonev (.name rfl (.setNew T (i := 0) rfl (g₂ _ _ (g₁ _ _ hx)) T.nop (by decide) rfl ?_) (.inl rfl))))
  refine .execs_nil ⟨rfl, rfl, l1, l2, _, rfl, hl₁.mono g₂, hl₂, fun y => ?_⟩
  unfold pmap
  by_cases h1 : y = "name"
  · subst h1; rfl
  · by_cases h2 : y = "prefs"
    · subst h2; rfl
    · by_cases h3 : y = "matching"
      · subst h3; rfl
      · by_cases h4 : y = "_pref_names"
        · subst h4; rfl
        · by_cases h5 : y = "_original_prefs"
          · subst h5; rfl
          · simp only [h1, h2, h3, h4, h5, if_false]

theorem base_init (T : gl.Ok) {f2 : Addr} (F : FnK gl f2 "BasePlayer.__init__" (methAt 8 0)) {n : Nat} {A : Around} {h : Heap} {g : Array GenState} {d : Drawn} {tk : Nat} {os : OsState} {x dx : Addr} {v : Value} {R : Result → Shared → Prop} {G : PM} {pl : List Pl}
    (hA : Room A (n + 1)) (hT : Le gl.H.get? G) (hG : Le G h.get?) (hpl : PlOk gl G h pl) (hx : G x = some (instObj gl.C dx)) (hdx : G dx = none) (hD : PDm h dx (fun _ => none) 0) (hdp : ∀ p ∈ pl, p.da ≠ dx)
    (hR : ∀ G' h' l1 l2 tk', Le G G' → Le G' h'.get? → G' dx = none → (∀ a o, a ≠ dx → h.get? a = some o → h'.get? a = some o) → (∀ a o, a ≠ dx → h.get? a = some o → G' a = G a) → IsLst G' l1 [] → IsLst G' l2 [] →
      PDm h' dx (pmap ⟨x, dx, v, .ref l1, .none, .ref l2, .none⟩) 5 → PlOk gl G' h' pl → R (.ok (.ret .none)) ⟨h', g, d, tk', os⟩) :
    codeAny (model gl.prog gl.w) A (.call (.ref f2) ⟨[.ref x, v], []⟩) R ⟨h, g, d, tk, os⟩ := by
  obtain ⟨name, oc, od, osl, doc, pm, cdv, ct, ho, hcd⟩ := F.ex
  have K : gl.K.In h := T.ki.keeps (Le.trans hT hG)
  refine codeAny_call_plain (binds := [("self", .ref x), ("name", v)]) (by have := hA.2.1; omega) (K _ _ ho) rfl (T.nolimit.keeps (Le.trans hT hG)) (codeRec_of K hcd) rfl rfl (show ∀ x ∈ (scopeOf (methAt 8 0)).names, x.2 ≠ .cell by decide) (by
    intro y hy
    simp only [List.mem_cons, List.not_mem_nil, or_false] at hy
    rcases hy with rfl | rfl <;> rfl) (fun h₁ hns hk₁ => ?_) rfl rfl rfl
  show wpAny _ (A.deeper (envOf "BasePlayer.__init__" (scopeOf (methAt 8 0)) h.objs.size f2 cdv)) (execs (bodyOf (methAt 8 0)) (envOf "BasePlayer.__init__" (scopeOf (methAt 8 0)) h.objs.size f2 cdv)) _ _ _
  have hdl : dx ≠ h.objs.size := by
    obtain ⟨es, k, e, _⟩ := hD
    exact Nat.ne_of_lt (Heap.lt_size e)
  have S : St gl (fFx (envOf "BasePlayer.__init__" (scopeOf (methAt 8 0)) h.objs.size f2 cdv) (A.deeper (envOf "BasePlayer.__init__" (scopeOf (methAt 8 0)) h.objs.size f2 cdv)) n false pl G (h.hide dx)) ⟨G, [("name", v), ("self", .ref x)], [(dx, .dct (fun _ => none) 0)], pl⟩ h₁ := by
    refine ⟨hG.trans hk₁, hT, hA.deeper _, fun _ _ _ => rfl, Le.rfl, fun b o e => ⟨o, hk₁ _ _ (Heap.of_hide e)⟩, fun b o _ e => hk₁ _ _ (Heap.of_hide e), rfl, ⟨_, hns, fun y w e _ => e⟩, fun y w e z => ?_, fun _ => ⟨?_, ?_⟩, fun _ => ⟨fun c hc => (by cases hc), List.Pairwise.nil⟩,
      fun e he => ?_, by simp, ⟨fun p hp => ?_, hpl.nd, hpl.np⟩, fun p hp q => ?_, fun p hp => .inl ⟨p, hp, rfl⟩, fun e he p hp => ?_⟩
    · exfalso; apply z
      have := mem_of_lookup e
      simp only [List.mem_cons, List.not_mem_nil, or_false] at this
      rcases this with q | q
      · cases q; rfl
      · cases q; rfl
    · show (h.hide dx).get? h.objs.size = none
      cases q : (h.hide dx).get? h.objs.size with
      | none => rfl
      | some o => have := Heap.of_hide q; rw [fresh_size] at this; cases this
    · show G h.objs.size = none
      cases q : G h.objs.size with
      | none => rfl
      | some o => have := hG _ _ q; rw [fresh_size] at this; cases this
    · simp only [List.mem_singleton] at he
      subst he
      refine ⟨?_, Heap.hide_self .., hdx, hdl, fun _ c hc => by cases hc⟩
      obtain ⟨es, k, a, b⟩ := hD
      exact ⟨es, k, hk₁ _ _ a, b⟩
    · obtain ⟨b1, b2, ⟨es, k, b3, b4⟩⟩ := hpl.each p hp
      exact ⟨b1, b2, ⟨es, k, hk₁ _ _ b3, b4⟩⟩
    · obtain ⟨es, k, b3, _⟩ := (hpl.each p hp).2.2
      have q : p.da = h.objs.size := q
      rw [q, fresh_size] at b3; cases b3
    · simp only [List.mem_singleton] at he
      subst he
      exact Ne.symm (hdp p hp)
  refine base_body T hx h₁ g d _ os _ _ S fun f σ' h' tk' S' p => ?_
  obtain ⟨pr, ppl, l1, l2, m, po, pl1, pl2, pm⟩ := p
  have D' := S'.own (dx, .dct m 5) (by rw [po]; exact List.mem_cons_self ..)
  have fin : R (.ok (.ret .none)) ⟨h', g, d, tk', os⟩ := by
    refine hR σ'.G h' l1 l2 tk' S'.le0 S'.sub D'.2.2.1 (fun a o ha e => S'.keep a o (fun w => by cases w.1) ((Heap.hide_ne h ha).trans e)) (fun a o ha e => S'.old a o ((Heap.hide_ne h ha).trans e)) pl1 pl2 (PDm.congr D'.1 pm (Nat.le_refl _)) (ppl ▸ S'.pl)
  cases f with
  | ret w => have : w = .none := pr; subst this; exact fin
  | next => exact fin
  | brk => exact fin
  | cont => exact fin

end
end Mine

end
section
namespace Mine

structure MkF (gl : Gl) : Prop where
  makes : makesIn gl.K gl.C = true
  keep : keepIn gl.K (.ref gl.C) = true
  super : nsIn gl.K mainGlobals "super" = some none
  top : (gl.prog.main.scope.names.lookup ("super" : Str)).isSome = false
  tp : nsIn gl.K cStatics "thirdparty.any" = some none
  msub : mroIn gl.K gl.C (.ref gl.C) = some true
  ini : ∃ (fi cc f2 cda : Addr) (name : Str) (oc : Value) (od : Option Addr) (osl : Array (Option Value)) (doc pm ct : Value) (an : Option Addr) (ccl : Value) (cdd : Option Addr) (vs : Array Value) (ccs : Array (Option Value)) (file : Str) (tf : Tok) (cl : Value) (cld : Option Addr) (csl : Array (Option Value)) (cdD : ClassData),
    findIn gl.K (.ref gl.C) "__init__" = some (some (.ref fi)) ∧ typeIn gl.K (.ref fi) = some (.type "function") ∧
    gl.K.lookup fi = some ⟨oc, od, .func (ksFn name "Player.__init__" (paramsOf (methAt 10 0)) (bodyOf (methAt 10 0)) (scopeOf (methAt 10 0)) .none .none doc pm an (.ref cda) ct cc), osl⟩ ∧
    codeIn gl.K (.ref cda) "Player.__init__" = true ∧ gl.K.lookup cda = some ⟨ccl, cdd, .fields vs, ccs⟩ ∧ vs[2]? = some (.str file tf) ∧ ((gl.prog.main.file : Str) == file) = true ∧
    gl.K.lookup cc = some ⟨cl, cld, .cell (some (.ref gl.C)), csl⟩ ∧ clsIn gl.K gl.C = some cdD ∧
    ks_superIn gl.K gl.C gl.C "__init__" = some (some (.ref f2)) ∧ typeIn gl.K (.ref f2) = some (.type "function") ∧ fnIn gl.K f2 = true ∧ FnK gl f2 "BasePlayer.__init__" (methAt 8 0)

theorem Room.tcall {A : Around} {n : Nat} (h : Room A (n + 1)) (C : Addr) (rest : List Value) : Room (A.under (.builtin "type.__call__" ⟨.ref C :: rest, []⟩)) n := by
  obtain ⟨a, b, c⟩ := h
  refine ⟨a, ?_, ?_⟩
  · show A.depth + Code.weight (.builtin "type.__call__" ⟨.ref C :: rest, []⟩) + n < recursionLimit
    have : Code.weight (.builtin "type.__call__" ⟨.ref C :: rest, []⟩) ≤ 1 := by
      first | decide | (simp [Code.weight]; done) | exact Nat.le_refl _ | skip
    omega
  · have : (A.under (.builtin "type.__call__" ⟨.ref C :: rest, []⟩)).units = A.units + 1 := rfl
    rw [this]; omega

theorem callWith_M' {M : Model} {A : Around} {E : Value → Shared → Prop} {s : Shared} {K : Frag} {env : Env} {pos : Pos} {q g : Addr} {self : Value} {first : List Value} {e : Expr} {rest : List Expr} {Q : Value → Shared → Prop} (hf : fnIn K g = true)
    (h : wpAny M A (spliced (backTo pos (starEach (e :: rest) env))) (fun vs s₁ => MethP K q g self s₁.heap ∧ wpAny M A (PySem.call (.ref q) (first ++ vs)) Q E s₁) E s)
    (he : starEach (e :: rest) env = (false, eval e env) :: starEach rest env := by rfl) (hplain : (backTo pos (starEach rest env)).any (·.1) = false := by rfl) :
    wpAny M A (callWith pos (.ref q) first (backTo pos (starEach (e :: rest) env)) []) Q E s := by
  rw [he] at h ⊢
  exact callWith_of (by show ((false || (backTo pos (starEach rest env)).any (·.1)) || false) = false; rw [hplain]; rfl) (keeps_M hf) (evalArgs_plain h)

section
variable {gl : Gl}

theorem sp_make (T : gl.Ok) (M : MkF gl) {n : Nat} {v : Value} {G : PM} {pl : List Pl} :
    CallP gl (n + 3) false (.ref gl.C) [v] G pl fun G' pl' w => ∃ p : Pl, pl' = pl ++ [p] ∧ w = .ref p.pa ∧ p.nm = v ∧ (∃ l, p.pf = .ref l ∧ IsLst G' l []) ∧ p.mt = .none ∧ p.op = .none ∧ ∀ q ∈ pl, q.pa ≠ p.pa := by
  intro A h g d tk os R hA hT hG hpl hR
  obtain ⟨fi, cc, f2, cda, name, oc, od, osl, doc, pm, ct, an, ccl, cdd, vs, ccs, file, tf, cl, cld, csl, cdD, hfi, hft, hfo, hcode, hcda, hvs, hfile, hcc, hcls, hsup, hf2t, hf2n, hF2⟩ := M.ini
  have K : gl.K.In h := T.ki.keeps (Le.trans hT hG)
  have fresh0 := fresh_size h
  have hA2 : Room (A.under (.builtin "type.__call__" ⟨.ref gl.C :: [v], []⟩)) (n + 2) := hA.tcall gl.C [v]
  refine make_core (makes_of K M.makes) (looks_findIn K hfi) (fun self => bind_fn K self hft) (.inl rfl) ?_
  -- the new object
  generalize hH2 : (h.push emptyDict).push (instObj gl.C h.objs.size) = H2
  have k2 : Le h.get? H2.get? := fun b o e => hH2 ▸ Heap.get?_push_of_some _ (Heap.get?_push_of_some _ e)
  have hx2 : H2.get? (h.objs.size + 1) = some (instObj gl.C h.objs.size) := by
    have := Heap.get?_push_size (h.push emptyDict) (o := instObj gl.C h.objs.size) rfl
    rw [Heap.size_push] at this
    rw [← hH2]; exact this
  have hd2 : H2.get? h.objs.size = some emptyDict := by
    rw [← hH2]; exact Heap.get?_push_of_some _ (Heap.get?_push_size h rfl)
  have K2 : gl.K.In H2 := K.keeps k2
  have hlim2 : H2.NoLimit := T.nolimit.keeps ((Le.trans hT hG).trans k2)
  have gx : G (h.objs.size + 1) = none := by
    cases q : G (h.objs.size + 1) with
    | none => rfl
    | some o => exact absurd (Heap.lt_size (hG _ _ q)) (by show ¬ h.objs.size + 1 < _; omega)
  have gd : G h.objs.size = none := by
    cases q : G h.objs.size with
    | none => rfl
    | some o => have := hG _ _ q; rw [fresh0] at this; cases this
  refine ks_codeAny_call_defAt (fd := ksFn name "Player.__init__" (paramsOf (methAt 10 0)) (bodyOf (methAt 10 0)) (scopeOf (methAt 10 0)) .none .none doc pm an (.ref cda) ct cc) (body := bodyOf (methAt 10 0)) (binds := [("self", .ref (h.objs.size + 1)), ("name", v)])
    (by have := hA2.2.1; omega) (K2 _ _ hfo) rfl hlim2 (codeRec_of K2 hcode) rfl (BindsTo.of_eq rfl) (show ∀ x ∈ (scopeOf (methAt 10 0)).names, x.2 ≠ .cell by decide) (fun y hy => ?_) (fun h₃ hns k3 => ?_) rfl rfl rfl
  · simp only [List.mem_cons, List.not_mem_nil, or_false] at hy
    rcases hy with rfl | rfl <;> rfl
  show _root_.PySem.wpAt _ ((A.under (.builtin "type.__call__" ⟨.ref gl.C :: [v], []⟩)).deeper (ksEnv "Player.__init__" (scopeOf (methAt 10 0)) H2.objs.size fi (.ref cda) cc)) (.func (bodyOf (methAt 10 0)) (ksEnv "Player.__init__" (scopeOf (methAt 10 0)) H2.objs.size fi (.ref cda) cc))
    (execs (bodyOf (methAt 10 0)) (ksEnv "Player.__init__" (scopeOf (methAt 10 0)) H2.objs.size fi (.ref cda) cc)) _ _ _
  have hA3 : Room ((A.under (.builtin "type.__call__" ⟨.ref gl.C :: [v], []⟩)).deeper (ksEnv "Player.__init__" (scopeOf (methAt 10 0)) H2.objs.size fi (.ref cda) cc)) (n + 1) := hA2.deeper _
  generalize (A.under (.builtin "type.__call__" ⟨.ref gl.C :: [v], []⟩)).deeper (ksEnv "Player.__init__" (scopeOf (methAt 10 0)) H2.objs.size fi (.ref cda) cc) = A3 at hA3 ⊢
  have k3 : Le H2.get? h₃.get? := k3
  have K3 : gl.K.In h₃ := K2.keeps k3
  have topH : ∀ {H : Heap}, Le H2.get? H.get? → Le gl.H.get? H.get? := fun k => ((Le.trans hT hG).trans k2).trans k
  refine ks_wpAt_execs_cons (ks_wpAt_Expr_any (ks_wpAt_MethodCall ?_))
  refine ks_wpAt_super_base (env := ksEnv "Player.__init__" (scopeOf (methAt 10 0)) H2.objs.size fi (.ref cda) cc) rfl rfl (by decide) rfl (K3 _ _ hfo) rfl (ar := (((paramsOf (methAt 10 0)).posonlyargs ++ (paramsOf (methAt 10 0)).args).head?).getD default) rfl rfl (K3 _ _ hcda) rfl hvs hfile M.top ?_
  have kh3 : Le h.get? h₃.get? := k2.trans k3
  refine ks_loadName_global rfl rfl (loadGlobal_builtin (env := ksEnv "Player.__init__" (scopeOf (methAt 10 0)) H2.objs.size fi (.ref cda) cc) (T.g.keeps (topH k3)) (T.mgNone M.super) (T.b.keeps (topH k3)) ((T.boot _ (by decide)).trans rfl) ⟨rfl, ?_⟩)
  refine wpAny_loadName_free rfl rfl rfl ⟨_, K3 _ _ hcc, rfl⟩ ?_
  refine wpAny_loadName_local rfl rfl hns rfl ?_
  obtain ⟨oD, hD1, hD2⟩ : ∃ oD, h₃.get? gl.C = some oD ∧ oD.data = .cls cdD := by
    have hcls' := hcls
    unfold clsIn at hcls'
    split at hcls'
    · rename_i c d' cd' sl ho
      cases hcls'
      exact ⟨_, K3 _ _ ho, rfl⟩
    · cases hcls'
  refine ks_wpAny_isType_cls hD1 hD2 ⟨rfl, ?_⟩
  have hx3 := k3 _ _ hx2
  refine ks_wpAny_call_super hD1 hD2 hx3 rfl (fun c e => by cases e) (looks_mroIn K3 M.msub) (fun h₄ e4 k4 => ?_)
  have k4 : Le h₃.get? h₄.get? := k4
  have K4 : gl.K.In h₄ := K3.keeps k4
  obtain ⟨of, hof, hofc⟩ : ∃ of, h₄.get? f2 = some of ∧ of.cls = .type "function" := by
    have ht' : (gl.K.lookup f2).map (·.cls) = some (.type "function") := hf2t
    cases z : gl.K.lookup f2 with
    | none => rw [z] at ht'; cases ht'
    | some of => rw [z] at ht'; exact ⟨of, K4 _ _ z, Option.some.inj ht'⟩
  have halong : alongIn gl.K "__init__" ((cdD.mro.dropWhile (· != .ref gl.C)).drop 1) = some (some (.ref f2)) := by
    have hsup' := hsup
    unfold ks_superIn at hsup'
    rw [hcls] at hsup'
    exact hsup'
  have hne : h.objs.size + 1 ≠ gl.C := by
    intro q
    have hx3' := hx3
    rw [q, hD1] at hx3'
    cases hx3'
    cases hD2
  refine ks_wpAny_getMethod_super e4 (looks_opaque K4 M.tp) (l₀ := cdD.mro) (fun A Q E s k q => wpAny_bind ((looks_clsIn K4 hcls) A _ E s k (wpAny_pure q))) rfl K4 halong hof hofc hne (by decide) ?_
  generalize hH5 : h₄.push { cls := .type "method", data := .fields #[.ref f2, .ref (h.objs.size + 1)] } = h₅
  have k5 : Le h₄.get? h₅.get? := fun b o e => hH5 ▸ Heap.get?_push_of_some _ e
  have hm5 : h₅.get? h₄.objs.size = some (methodObj (.ref f2) (.ref (h.objs.size + 1))) := by rw [← hH5]; exact Heap.get?_push_size _ rfl
  have kH : Le H2.get? h₅.get? := (k3.trans k4).trans k5
  have K5 : gl.K.In h₅ := K4.keeps k5
  refine callWith_M' hf2n (self := .ref (h.objs.size + 1)) (spliced_more (wpAny_Name (wpAny_loadName_local rfl rfl ((hns.keeps k4).keeps k5) rfl (spliced_none ⟨⟨hm5, K5⟩, ?_⟩)) (by decide)))
  refine wpAny_call (ks_codeAny_call_bound hm5 ?_)
  have gx2 : Le G (addG G (h.objs.size + 1) (instObj gl.C h.objs.size)) := le_addG gx
  have gsub : Le (addG G (h.objs.size + 1) (instObj gl.C h.objs.size)) h₅.get? := fun b o e => by
    unfold addG at e
    split at e
    · cases e; rename_i q; rw [q]; exact kH _ _ hx2
    · exact kH _ _ (k2 _ _ (hG _ _ e))
  have hdp : ∀ p ∈ pl, p.da ≠ h.objs.size := fun p hp q => by
    obtain ⟨es, k, b3, _⟩ := (hpl.each p hp).2.2
    rw [q, fresh0] at b3; cases b3
  have hd5 : h₅.get? h.objs.size = some emptyDict := kH _ _ hd2
  have hdx2 : addG G (h.objs.size + 1) (instObj gl.C h.objs.size) h.objs.size = none := by
    unfold addG; rw [if_neg (by show ¬ h.objs.size = h.objs.size + 1; omega)]; exact gd
  refine base_init T hF2 (n := n) hA3 (Le.trans hT gx2) gsub ⟨fun p hp => ?_, hpl.nd, hpl.np⟩ (by unfold addG; rw [if_pos rfl]) hdx2 ⟨[], 0, hd5, fun y => rfl, Nat.le_refl _⟩ hdp fun G' h₆ l1 l2 tk' g1 g2 g3 g4 g5 g6 g7 g8 g9 => ?_
  · obtain ⟨b1, b2, ⟨es, k, b3, b4⟩⟩ := hpl.each p hp
    refine ⟨gx2 _ _ b1, ?_, ⟨es, k, kH _ _ (k2 _ _ b3), b4⟩⟩
    unfold addG
    rw [if_neg (fun q => by
      have := k2 _ _ b3
      rw [q, hx2] at this; cases this)]
    exact b2
  · have gl1 : Le G G' := gx2.trans g1
    have hne : ∀ {a o}, h.get? a = some o → a ≠ h.objs.size := fun e q => by rw [q, fresh0] at e; cases e
    have hnx : ∀ {a o}, h.get? a = some o → a ≠ h.objs.size + 1 := fun e q => by
      have := Heap.lt_size e; rw [q] at this; exact absurd this (by show ¬ h.objs.size + 1 < _; omega)
    have keep6 : ∀ a o, h.get? a = some o → h₆.get? a = some o := fun a o e => g4 a o (hne e) (kH _ _ (k2 _ _ e))
    have hGx : G' (h.objs.size + 1) = some (instObj gl.C h.objs.size) := g1 _ _ (by unfold addG; rw [if_pos rfl])
    refine wpAt_of_wpAny (wpAny_execs_nil ⟨rfl, ?_⟩)
    refine hR (.ref (h.objs.size + 1)) G' h₆ (pl ++ [⟨h.objs.size + 1, h.objs.size, v, .ref l1, .none, .ref l2, .none⟩]) _ ⟨fun a o _ e => keep6 a o e, fun a o e => ⟨o, keep6 a o e⟩, g2, gl1, fun a o e => ?_, ⟨fun p hp => ?_, ?_, ?_⟩, fun p hp => ?_⟩
      ⟨_, rfl, rfl, rfl, ⟨l1, rfl, g6⟩, rfl, rfl, fun q hq e => ?_⟩
    · rw [g5 a o (hne e) (kH _ _ (k2 _ _ e))]
      unfold addG; rw [if_neg (hnx e)]
    · rcases List.mem_append.mp hp with hp | hp
      · exact g9.each p hp
      · simp only [List.mem_singleton] at hp
        subst hp
        exact ⟨hGx, g3, g8⟩
    · rw [List.map_append, List.nodup_append]
      refine ⟨hpl.nd, by simp, fun a ha b hb => ?_⟩
      obtain ⟨p, hp, rfl⟩ := List.mem_map.mp ha
      simp at hb; subst hb
      exact hdp p hp
    · rw [List.map_append, List.nodup_append]
      refine ⟨hpl.np, by simp, fun a ha b hb => ?_⟩
      obtain ⟨p, hp, rfl⟩ := List.mem_map.mp ha
      simp at hb; subst hb
      intro q
      have := (hpl.each p hp).1
      rw [q, gx] at this; cases this
    · rcases List.mem_append.mp hp with hp | hp
      · exact .inl ⟨p, hp, rfl⟩
      · simp only [List.mem_singleton] at hp
        subst hp
        exact .inr fresh0
    · have := (hpl.each q hq).1
      rw [e, gx] at this; cases this

end
end Mine

end
section
namespace Mine

theorem getElem?_set_self' {α : Type} {l : List α} {i : Nat} {x y : α} (h : l[i]? = some x) : (l.set i y)[i]? = some y := by
  obtain ⟨hl, _⟩ := List.getElem?_eq_some_iff.mp h
  simp [hl]

theorem Pls.setAll {G pl n pas L M} (W : Pls G pl n pas L M) {i : Nat} {p : Pl} (hp : pl[i]? = some p) {xs : List Nat} {v pn op : Value} (hv : RL (RPl n pas) G xs v) : Pls G (pl.set i { p with pf := v, pn := pn, op := op }) n pas (upd L i xs) M := by
  refine ⟨by rw [List.length_set]; exact W.len, fun j hj => ?_, W.inj⟩
  obtain ⟨q, a, b, c, d, e, f⟩ := W.row j hj
  have hl := W.len
  rw [List.getElem?_set]
  unfold upd
  by_cases h : i = j
  · subst h
    rw [hp] at a; cases a
    rw [if_pos rfl, if_pos (by omega), if_pos rfl]
    exact ⟨_, rfl, b, c, hv, e, f⟩
  · rw [if_neg h, if_neg (Ne.symm h)]
    exact ⟨q, a, b, c, d, e, f⟩

section
variable {gl : Gl} {Φ : Fx} {σ : Sta}

theorem TT.isNoneV {v : Value} {P : Value → Sta → Prop} (hv : v = .none) (x : P (.bool true) σ) : TT gl Φ (compareOp .Is v .none) σ P := by subst hv; exact .isNone x

theorem sp_set (T : gl.Ok) {a : Addr} (F : FnK gl a "BasePlayer.set_prefs" (methAt 8 5)) {N pas L M G pl i n p pv xs} (W : Pls G pl N pas L M) (hi : i < N) (hp : pl[i]? = some p) (hop : p.op = .none) (hv : RL (RPl N pas) G xs pv) (hz : xs.length ≤ 100) :
    CallP gl (n + 1) true (.ref a) [.ref p.pa, pv] G pl fun G' pl' v => ∃ pn op, pl' = pl.set i { p with pf := pv, pn := pn, op := op } := by
  refine CallP.plain T F ["self", "players"] [("self", .ref p.pa), ("players", pv)] (fun _ _ _ _ _ => rfl) (fun La cdv A h => ?_)
  refine .execs_cons (.asgAttr (.name rfl (.name rfl (.setPf T hp rfl ?_) (.inl rfl)) (.inl rfl)))
  have W₁ := W.setL hp hv
  have hp₁ : (pl.set i { p with pf := pv })[i]? = some { p with pf := pv } := getElem?_set_self' hp
  refine .execs_cons (.asgAttr (.compX (R := RPl N pas) (R' := RS) RPl.mono RS.mono [] [] (.name rfl ?_ (.inl rfl))))
  refine ⟨xs, fun k => some (nmOf k), hv.itb, by omega, trivial, fun C h x w G₁ hx hw l₁ => ?_, fun pn G₁ l₁ hpn => ?_⟩
  · obtain ⟨hxN, rfl⟩ := hw
    refine .tgt (.st (.tests_nil ⟨rfl, fun h => (by cases h), fun y hy => ?_⟩))
    cases hy
    exact .attr (.name rfl (.nameW T (W₁.mono l₁) hxN fun t => ⟨⟨t, rfl⟩, rfl, Le.rfl⟩) (.inl rfl))
  refine .name rfl (.setPn (i := i) (p := { p with pf := pv }) T hp₁ rfl ?_) (.inl rfl)
  rw [List.set_set]
  have hp₂ : (pl.set i { p with pf := pv, pn := pn })[i]? = some { p with pf := pv, pn := pn } := getElem?_set_self' hp
  refine .execs_cons (.ite (.tcmp (.attr (.name rfl (.getP (p := { p with pf := pv, pn := pn }) T (mem_of_get hp₂) T.nop rfl (by show handedIn p.op = true; rw [hop]; rfl) (.nonev ?_)) (.inl rfl)))))
  show TT gl _ (compareOp .Is p.op .none) _ _
  refine .isNoneV hop (.truthy_bool (ifB_t rfl ?_))
  obtain ⟨av, vs, rfl, hl, hr⟩ := hv
  refine .execs_cons (.asgAttr (.slice (.name rfl (.part_none (.part_none ⟨av, vs, none, none, rfl, .inl (hl.mono l₁), by rw [hr.length]; omega, .none, .none, .inl fun oa G₂ l₂ hoa => ?_⟩)) (.inl rfl))))
  refine .name rfl (.setOp (i := i) (p := { p with pf := .ref av, pn := pn }) T hp₂ rfl (.execs_nil (.execs_nil ⟨pn, .ref oa, ?_⟩))) (.inl rfl)
  rw [List.set_set]

/-- the players while they are made -/
structure PlI (G : PM) (pl : List Pl) (i : Nat) (ys : List Value) : Prop where
  len : pl.length = i
  row : ∀ (j : Nat) (p : Pl), pl[j]? = some p → (∃ t, p.nm = .str (nmOf j) t) ∧ (∃ l, p.pf = .ref l ∧ IsLst G l []) ∧ p.mt = .none ∧ p.op = .none
  ys : ys = pl.map fun p => Value.ref p.pa
  nd : (pl.map (·.pa)).Nodup

noncomputable def pasOf (pl : List Pl) (i : Nat) : Addr := (pl[i]?.map (·.pa)).getD 0

theorem PlI.pls {G pl N ys} (I : PlI G pl N ys) : Pls G pl N (pasOf pl) (fun _ => []) (fun _ => none) := by
  refine ⟨I.len, fun i hi => ?_, fun i j hi hj e => ?_⟩
  · have hl := I.len
    have hp : pl[i]? = some pl[i] := List.getElem?_eq_getElem (by omega)
    obtain ⟨a, ⟨l, b, b'⟩, c, d⟩ := I.row i _ hp
    exact ⟨_, hp, by unfold pasOf; rw [hp]; rfl, a, ⟨l, [], b, b', .nil⟩, c, fun j e => by cases e⟩
  · have hl := I.len
    unfold pasOf at e
    rw [List.getElem?_eq_getElem (by omega), List.getElem?_eq_getElem (by omega)] at e
    have e : pl[i].pa = pl[j].pa := e
    have h1 : (pl.map (·.pa))[i]? = (pl.map (·.pa))[j]? := by
      rw [List.getElem?_map, List.getElem?_map, List.getElem?_eq_getElem (by omega), List.getElem?_eq_getElem (by omega)]
      simp [e]
    exact (List.getElem?_inj (by simp; omega) I.nd).mp h1

end
end Mine

end
section
namespace Mine

section
variable {gl : Gl} {Φ : Fx} {σ : Sta}

set_option maxHeartbeats 2000000 in
theorem sp_players (T : gl.Ok) (Tb : Bi gl) (Mk : MkF gl) (Fset : MFn gl "set_prefs" "BasePlayer.set_prefs" (methAt 8 5)) (hP : nsIn gl.K mainGlobals "Player" = some (some (.ref gl.C))) {a : Addr} (F : FnK gl a "_law_players" (stmtAt 15)) {G n os ov}
    (ho : RL (RL RN) G os ov) (hz : os.length ≤ 6) (hz2 : ∀ i, (os.getD i []).length ≤ 6) (hlt : ∀ i, i < os.length → ∀ j ∈ os.getD i [], j < os.length) :
    CallP gl (n + 4) true (.ref a) [ov] G [] fun G' pl' v => ∃ pas, Pls G' pl' os.length pas (fun i => os.getD i []) (fun _ => none) ∧ RL (RPl os.length pas) G' (List.range os.length) v := by
  refine CallP.cells T F ["orders"] [("orders", ov)] (fun _ _ _ _ _ => rfl) (fun La cdv A h => .abs fun P₀ hP₀ => .nm ?_)
  intro Φ
  have get : ∀ i, i < os.length → os[i]? = some (os.getD i []) := fun i hi => by rw [List.getD_eq_getElem?_getD, List.getElem?_eq_getElem hi]; rfl
  refine .execs_cons (.asg (.comp [] [] (.calln (.built T Tb.range rfl (.calleeT (.sp_cons (.calln (.built T Tb.len rfl (.calleeB (.sp_cons (.name rfl (.sp_nil (.lenR ho.ls (by omega) fun cv hc => .sp_nil ?_)) (.inl rfl))))))))))))
  obtain ⟨tc, rfl⟩ := hc
  refine .range fun r G₁ l₁ hr => ?_
  refine .iterX (R := RN) (xs := List.range os.length) hr.itb (by simp; omega) fun c val Gp ia Wt hG hv => ?_
  refine ⟨c, _, val, Gp, fun i G' pl' ys => Le G₁ G' ∧ PlI G' pl' i ys, ia, _, Wt, by simp; omega, ?_, rfl, rfl, hG, trivial, ⟨Le.rfl, ⟨rfl, fun j p e => by simp at e, rfl, List.nodup_nil⟩⟩, ?_, ?_⟩
  · rintro i G' pl' ys ⟨_, I⟩
    rw [I.ys, List.length_map, I.len]; exact Nat.le_refl _
  · rintro C h' i v G' pl' ys hi hw _ _ ⟨l, I⟩
    obtain ⟨x, hx, hxv⟩ := hv i v hw hi
    obtain ⟨hxl, hxe⟩ := List.getElem?_eq_some_iff.mp hx
    rw [List.getElem_range] at hxe
    subst hxe
    have hil : i < 6 := by simp at hi; omega
    refine .tgt (.st (.tests_nil (ifB_t rfl ?_)))
    refine .calln (.glob T hP (.callee T Mk.keep (.sp_cons (.binop (.str fun t => .calln (.built T Tb.str rfl (.calleeT (.sp_cons (.name rfl (.sp_nil (.strN hxv (by omega) fun t => .addS (nm_len hil) fun t => .sp_nil ?_)) (.inl rfl))))))))))
    refine .call (sp_make (n := n) T Mk) (Nat.le_refl _) (fun h => by cases h) ?_
    rintro w G₂ pl₂ l₂ ⟨p, rfl, rfl, q1, q2, q3, q4, q5⟩
    have hl := I.len
    refine ⟨l.trans l₂, by simp [hl], fun j p' e => ?_, by rw [I.ys]; simp, ?_⟩
    · rw [List.getElem?_append] at e
      split at e
      · obtain ⟨a1, ⟨l, a2, a3⟩, a4⟩ := I.row j p' e
        exact ⟨a1, ⟨l, a2, a3.mono l₂⟩, a4⟩
      · rename_i hj
        have hj : ¬ j < pl'.length := hj
        have hj2 := (List.getElem?_eq_some_iff.mp e).1
        have hj2 : j - pl'.length < [p].length := hj2
        rw [List.length_singleton] at hj2
        have : j = i := by omega
        subst this
        simp [hl] at e
        subst e
        exact ⟨⟨t, q1⟩, q2, q3, q4⟩
    · rw [List.map_append, List.nodup_append]
      refine ⟨I.nd, by simp, fun x hx y hy e => ?_⟩
      obtain ⟨q, hq, rfl⟩ := List.mem_map.mp hx
      simp at hy; subst hy
      exact q5 q hq e
  · rintro G' pl' ys l₂ ⟨_, I⟩
    rw [List.length_range] at I
    have W₀ := I.pls
    refine .inl fun pa G₃ l₃ hpa => .stC ?_
    have hplv : RL (RPl os.length (pasOf pl')) G₃ (List.range os.length) (.ref pa) := by
      refine ⟨pa, ys, rfl, hpa, ?_⟩
      rw [I.ys]
      have key : ∀ (k : Nat) (ps : List Pl) (i : Nat), ps.length = k → (∀ j p, ps[j]? = some p → i + j < os.length ∧ p.pa = pasOf pl' (i + j)) → Rs (RPl os.length (pasOf pl') G₃) (List.range' i k) (ps.map fun p => Value.ref p.pa) := by
        intro k
        induction k with
        | zero => intro ps i hp _; cases ps with
          | nil => exact .nil
          | cons _ _ => simp at hp
        | succ k ih =>
          intro ps i hp hq
          cases ps with
          | nil => simp at hp
          | cons p ps =>
            obtain ⟨q1, q2⟩ := hq 0 p rfl
            refine .cons ⟨q1, by show Value.ref p.pa = _; rw [q2]; rfl⟩ (ih ps (i + 1) (by simpa using hp) fun j p' e => ?_)
            have := hq (j + 1) p' e
            rw [show i + (j + 1) = i + 1 + j by omega] at this
            exact this
      rw [List.range_eq_range']
      refine key os.length pl' 0 I.len fun j p e => ⟨?_, ?_⟩
      · have := (List.getElem?_eq_some_iff.mp e).1; rw [I.len] at this; omega
      · unfold pasOf; rw [Nat.zero_add, e]; rfl
    have ho₃ := RL.mono (RL.mono RN.mono) _ _ _ _ ((l₁.trans l₂).trans l₃) ho
    refine .execs_cons (.forZ (R := RN) RN.mono (.calln (.built T Tb.range rfl (.calleeT (.sp_cons (.calln (.built T Tb.len rfl (.calleeB (.sp_cons (.name rfl (.sp_nil (.lenR ho₃.ls (by omega) fun cv hc => .sp_nil ?_)) (.inl rfl)))))))))))
    obtain ⟨tc₂, rfl⟩ := hc
    refine .range fun r₂ G₄ l₄ hr₂ => ?_
    refine ⟨List.range os.length, fun i σ' => ∃ G' pl₅, σ' = ⟨G', [("orders", ov), ("players", .ref pa)], [], pl₅⟩ ∧ Le G₄ G' ∧ Pls G' pl₅ os.length (pasOf pl') (fun j => if j < i then os.getD j [] else []) (fun _ => none) ∧ ∀ (j : Nat) (p : Pl), i ≤ j → pl₅[j]? = some p → p.op = .none,
      hr₂.itb, by simp; omega, ⟨G₄, pl', rfl, Le.rfl, by simpa using (W₀.mono l₃).mono l₄, fun j p _ e => (I.row j p e).2.2.2⟩, ?_, ?_⟩
    · rintro P₁ hP₁ ib d i x w σ' hx hw _ ⟨G₅, pl₅, rfl, l₅, W₅, hop⟩
      obtain ⟨hxl, hxe⟩ := List.getElem?_eq_some_iff.mp hx
      rw [List.getElem_range] at hxe
      subst hxe
      have hil : i < os.length := by simpa using hxl
      have l₃₅ := l₄.trans l₅
      have hpl₅ := RL.mono RPl.mono _ _ _ _ l₃₅ hplv
      have ho₅ := RL.mono (RL.mono RN.mono) _ _ _ _ l₃₅ ho₃
      have hpos : (List.range os.length)[i]? = some i := List.getElem?_range hil
      refine .tgt (.st ?_)
      obtain ⟨p, hp, hpa', _⟩ := W₅.row i hil
      refine .execs_cons (.expr (.mcall T Fset (.sub (.name rfl (.name rfl (.itemR (R := RPl os.length (pasOf pl')) hpl₅.ls hw hpos (by omega) ?_) (.inl rfl)) (.inr (.inl rfl))))))
      rintro u ⟨_, rfl⟩
      refine ⟨p, mem_of_get hp, by rw [hpa'], .sp_cons (.compX (R := RN) (R' := RPl os.length (pasOf pl')) RN.mono RPl.mono [("players", La + 1)] [("players", .ref pa)] (.sub (.name rfl (.name rfl (.itemR (R := RL RN) ho₅.ls hw (get i hil) (by omega) fun u hu => ?_) (.inl rfl)) (.inl rfl))))⟩
      have h6 := hz2 i
      refine ⟨os.getD i [], fun j => some j, hu.itb, by omega, ⟨⟨rfl, ne_cell rfl, rfl, ne_cell rfl⟩, trivial⟩, fun C h y yv G₆ hy hyv l₆ => ?_, fun pv G₆ l₆ hpv => .sp_nil ?_⟩
      · have hyl := hlt i hil y hy
        refine .tgt (.st (.tests_nil ⟨rfl, fun h => (by cases h), fun z hz => ?_⟩))
        cases hz
        exact .sub (.name rfl (.name rfl (.itemR (R := RPl os.length (pasOf pl')) (RL.mono RPl.mono _ _ _ _ l₆ hpl₅).ls hyv (List.getElem?_range hyl) (by omega) fun u hu => ⟨hu, rfl, Le.rfl⟩) (.inl rfl)) (.inr (.inl rfl)))
      · rw [fm_map, List.map_id'] at hpv
        have W₆ := W₅.mono l₆
        refine ⟨n + 3, true, _, fun a F => sp_set (n := n + 2) T F W₆ hil hp (hop i p (Nat.le_refl _) hp) hpv (by omega), Nat.le_refl _, fun _ => rfl, ?_⟩
        rintro rv G₇ pl₇ l₇ ⟨pn, op, rfl⟩
        have W₇ := (W₆.mono l₇).setAll hp (pn := pn) (op := op) (RL.mono RPl.mono _ _ _ _ l₇ hpv)
        refine .weak (.execs_nil ⟨[("orders", ov), ("players", .ref pa)], ⟨rfl, rfl, trivial⟩, hP₁ _ _ _ _ _ _ ⟨⟨G₇, [("orders", ov), ("players", .ref pa)], [], _⟩, rfl, l₆.trans l₇, G₇, _, rfl, (l₅.trans l₆).trans l₇, ?_, fun j q hj e => ?_⟩⟩)
        · have e : upd (fun j => if j < i then os.getD j [] else []) i (os.getD i []) = fun j => if j < i + 1 then os.getD j [] else [] := by
            funext j
            unfold upd
            by_cases h1 : j = i
            · subst h1; simp
            · dsimp only
              by_cases h2 : j < i
              · rw [if_neg h1, if_pos h2, if_pos (by omega)]
              · rw [if_neg h1, if_neg h2, if_neg (by omega)]
          exact e ▸ W₇
        · rw [List.getElem?_set_ne (by omega)] at e
          exact hop j q (by omega) e
    · rintro σ' _ ⟨G₅, pl₅, rfl, l₅, W₅, _⟩
      rw [List.length_range] at W₅
      refine .execs_cons (.ret (.name rfl (hP₀ _ _ ⟨pasOf pl', ?_, RL.mono RPl.mono _ _ _ _ (l₄.trans l₅) hplv⟩) (.inr (.inl rfl))))
      have W₅' : Pls G₅ pl₅ os.length (pasOf pl') (fun j => if j < os.length then os.getD j [] else []) (fun _ => none) := W₅
      have e : (fun j => if j < os.length then os.getD j [] else []) = fun j => os.getD j [] := by
        funext j
        by_cases h : j < os.length
        · rw [if_pos h]
        · rw [if_neg h, List.getD_eq_getElem?_getD, List.getElem?_eq_none (by omega)]; rfl
      exact e ▸ W₅'

end
end Mine

end
section
namespace Mine
open PySem.SeqAt PySem.SeqRoads2 PySem.MeetsSeq PySem.MeetsSeq2 PySem.MeetsSeq3

/-! the tree of the sort, with answers that do not change -/
noncomputable def tev {α : Type} (ans : Nat → Nat → Bool) : KasT α → α
  | .ret a => a
  | .ask i j k => tev ans (k (ans i j))
noncomputable def TOk {α : Type} (n : Nat) (P : α → Prop) : KasT α → Prop
  | .ret a => P a
  | .ask i j k => i < n ∧ j < n ∧ ∀ b, TOk n P (k b)
theorem TOk.bind {α β : Type} {n : Nat} {P : α → Prop} {P' : β → Prop} {f : α → KasT β} : ∀ {t : KasT α}, TOk n P t → (∀ a, P a → TOk n P' (f a)) → TOk n P' (t.bind f)
  | .ret a, h, k => k a h
  | .ask i j g, ⟨a, b, c⟩, k => ⟨a, b, fun x => TOk.bind (c x) k⟩
theorem TOk.ev {α : Type} {n : Nat} {P : α → Prop} {ans : Nat → Nat → Bool} : ∀ {t : KasT α}, TOk n P t → P (tev ans t)
  | .ret a, h => h
  | .ask i j g, ⟨_, _, c⟩ => TOk.ev (n := n) (P := P) (ans := ans) (t := g (ans i j)) (c _)
theorem TOk.wp {α : Type} {n : Nat} {P : α → Prop} {ans : Nat → Nat → Bool} {cmp : Nat → Nat → (Bool → Shared → Prop) → Shared → Prop} {G : α → Shared → Prop} {s : Shared} (hc : ∀ i j C, i < n → j < n → C (ans i j) s → cmp i j C s) :
    ∀ {t : KasT α}, TOk n P t → G (tev ans t) s → t.kasWp cmp G s
  | .ret a, _, g => g
  | .ask i j k, ⟨a, b, c⟩, g => hc i j _ a b (TOk.wp hc (c _) g)

noncomputable def Pm (n : Nat) (p : Array Nat) : Prop := p.toList.Perm (List.range n)
theorem Pm.lt {n : Nat} {p : Array Nat} (h : Pm n p) (hn : 0 < n) (i : Nat) : p.getD i 0 < n := by
  by_cases hi : i < p.size
  · have e : p.getD i 0 = p[i] := by simp [Array.getD, hi]
    rw [e]
    exact List.mem_range.mp (h.mem_iff.mp (by simp))
  · have e : p.getD i 0 = 0 := by simp [Array.getD, hi]
    rw [e]; exact hn
theorem Pm.rev {n : Nat} {p : Array Nat} (h : Pm n p) (i j : Nat) : Pm n (kas_rev p i j) := (Array.perm_iff_toList_perm.mp (mirror_perm p i j _)).trans h
theorem Pm.bub {n : Nat} {p : Array Nat} (h : Pm n p) (i j : Nat) : Pm n (bubble p i j) := (Array.perm_iff_toList_perm.mp (bubble_perm p i j)).trans h

theorem ok_asc {n : Nat} (hn : 0 < n) {p : Array Nat} (h : Pm n p) : ∀ (f m : Nat), TOk n (fun _ => True) (kas_asc p f m)
  | 0, m => trivial
  | f + 1, m => ⟨h.lt hn _, h.lt hn _, fun b => by cases b with
    | true => exact trivial
    | false => exact ok_asc hn h f (m + 1)⟩
theorem ok_desc {n : Nat} (hn : 0 < n) : ∀ (f : Nat) {p : Array Nat} (m q : Nat), Pm n p → TOk n (fun r => Pm n r.1) (kas_desc f p m q)
  | 0, p, m, q, h => h
  | f + 1, p, m, q, h => ⟨h.lt hn _, h.lt hn _, fun b => by
      cases b with
      | true =>
        simp only [if_true]
        split
        · exact ok_desc hn f _ _ (h.rev _ _)
        · exact ok_desc hn f _ _ h
      | false =>
        simp only [Bool.false_eq_true, if_false]
        exact ⟨h.lt hn _, h.lt hn _, fun c => by
          cases c with
          | true => exact h
          | false => exact ok_desc hn f _ _ h⟩⟩
theorem ok_tail {n : Nat} (hn : 0 < n) {p : Array Nat} (h : Pm n p) (m r : Nat) : TOk n (fun r => Pm n r.2) (kas_tail3 m r p) :=
  (ok_asc hn (h.rev _ _) _ _).bind fun a _ => h.rev _ _
theorem ok_descPart {n : Nat} (hn : 0 < n) {p : Array Nat} (h : Pm n p) (m r : Nat) : TOk n (fun r => Pm n r.2) (kas_descPart m r p) :=
  (ok_desc hn _ _ _ h).bind fun a ha => by
    split
    · exact ok_tail hn (Pm.rev ha _ _) _ _
    · exact ok_tail hn ha _ _
theorem ok_count {n : Nat} (hn : 0 < n) {p : Array Nat} (h : Pm n p) (r : Nat) : TOk n (fun r => Pm n r.2) (kas_count r p) :=
  (ok_asc hn h _ _).bind fun a _ => by
    split
    · exact h
    · split
      · exact ⟨h.lt hn _, h.lt hn _, fun c => by
          cases c with
          | true => exact h
          | false => exact ok_descPart hn (h.rev _ _) _ _⟩
      · exact ok_descPart hn h _ _
theorem ok_place {n : Nat} (hn : 0 < n) {p : Array Nat} (h : Pm n p) (k : Nat) : ∀ (f l r : Nat), TOk n (fun _ => True) (kas_place p k f l r)
  | 0, l, r => trivial
  | f + 1, l, r => by
    unfold kas_place
    split
    · exact trivial
    · exact ⟨h.lt hn _, h.lt hn _, fun c => by
        cases c with
        | true => exact ok_place hn h k f _ _
        | false => exact ok_place hn h k f _ _⟩
theorem ok_bin {n : Nat} (hn : 0 < n) : ∀ (f : Nat) {p : Array Nat} (k : Nat), Pm n p → TOk n (Pm n) (kas_bin f p k)
  | 0, p, k, h => h
  | f + 1, p, k, h => (ok_place hn h k _ _ _).bind fun l _ => ok_bin hn f _ (h.bub _ _)
theorem ok_sort {n : Nat} (hn : 0 < n) : TOk n (Pm n) (kas_sort n) :=
  (ok_count hn (p := List.toArray (List.range n)) (by unfold Pm; simp) n).bind fun r hr => by
    split
    · exact ok_bin hn _ _ hr
    · exact hr

noncomputable def lexLt (p q : Nat × Nat) : Bool := if p.1 = q.1 then (if p.2 = q.2 then false else decide (p.2 < q.2)) else decide (p.1 < q.1)
noncomputable def sortP (xs : List (Nat × Nat)) : List (Nat × Nat) :=
  if xs.length < 2 then xs else (tev (fun i j => lexLt (xs.getD i (0, 0)) (xs.getD j (0, 0))) (kas_sort xs.length)).toList.map fun i => xs.getD i (0, 0)

section
variable {prog : Program} {w : World} {A : Around} {E : Value → Shared → Prop} {s : Shared}

theorem pair_lt {x y : Addr} {a b c d : Nat} {t1 t2 t3 t4 : Tok} {Q : Bool → Shared → Prop} (hx : s.heap.get? x = some (TupO [.int (a : Nat) t1, .int (b : Nat) t2])) (hy : s.heap.get? y = some (TupO [.int (c : Nat) t3, .int (d : Nat) t4]))
    (h : Q (lexLt (a, b) (c, d)) s) : wpAny (model prog w) A (keyLt' (tuples' true) (.ref x) (.ref y)) Q E s := by
  refine kat_lt hx rfl hy rfl ?_
  have eqi : ∀ (p q : Nat) (t u : Tok) {R : Bool → Shared → Prop}, R (decide (p = q)) s → wpAny (model prog w) A (eqBool (.int (p : Nat) t) (.int (q : Nat) u)) R (fun _ _ => False) s := fun p q t u R hr => by
    refine (MeetsSeq.EqGives.int (p : Int) (q : Int) t u) prog w A _ s R ?_
    rw [show ((p : Int) == (q : Int)) = decide (p = q) by by_cases h : p = q <;> simp [h] <;> omega]
    exact hr
  refine kat_cons (eqi a c t1 t3 ?_)
  unfold lexLt at h
  by_cases h1 : a = c
  · rw [decide_eq_true h1]
    refine kat_yes (kat_cons (eqi b d t2 t4 ?_))
    rw [if_pos h1] at h
    by_cases h2 : b = d
    · rw [decide_eq_true h2]
      rw [if_pos h2] at h
      exact kat_yes (kat_nil h)
    · rw [decide_eq_false h2]
      rw [if_neg h2] at h
      refine kat_no (kat_one _ _ (PySem.P.lt_int ?_))
      show Q (decide ((b : Int) < d)) s
      rw [show decide ((b : Int) < d) = decide (b < d) by by_cases h : b < d <;> simp [h] <;> omega]
      exact h
  · rw [decide_eq_false h1]
    rw [if_neg h1] at h
    refine kat_no (oneLt_int ?_)
    rw [show decide ((a : Int) < c) = decide (a < c) by by_cases h : a < c <;> simp [h] <;> omega]
    exact h

theorem sort_pairs {a : Addr} {vs : List Value} {n : Nat} {G : PM} {xs : List (Nat × Nat)} {P : Fin → Shared → Prop} (ho : s.heap.get? a = some (seqObj "list" vs.toArray n)) (hG : Le G s.heap.get?) (hga : G a = none) (H : Rs (RT2 RN RN G) xs vs) (h64 : xs.length < 64)
    (h : ∀ out : List Value, Rs (RT2 RN RN G) (sortP xs) out → P (.done (.ret .none)) { s with heap := sortedHeap s.heap a vs out.toArray }) :
    wpAny (model prog w) A (Builtin.«list.sort» ⟨[.ref a], []⟩) P E s := by
  have hl := H.length
  rw [list_sort_plain]
  have ha : a < s.heap.objs.size := Heap.lt_size ho
  refine wpAny_bind (listItems_at ho rfl ?_)
  refine wpAny_bind (listUpdate_at ho rfl ?_ (by rw [List.size_toArray, sizeLine_eq]; omega) (Nat.zero_le _))
  obtain ⟨e1, ho1⟩ : ∃ e1, (s.heap.update a (Obj.mapSeq fun _ => (#[] : Array Value))).get? a = some (seqObj "list" #[] e1) := ⟨_, get?_update_seq ho (fun _ => #[])⟩
  refine wpAny_bind (seqEpoch_at ho1 rfl ?_)
  refine wpAny_bind (wpAny_newTuple ?_ (by show vs.length ≤ _; rw [sizeLine_eq]; omega))
  refine wpAny_bind (wpAny_newList ?_ (Nat.zero_le _))
  refine wpAny_holding ?_
  have ho6 : (((s.heap.update a (Obj.mapSeq fun _ => (#[] : Array Value))).push (seqObj "tuple" vs.toArray 0)).push (seqObj "list" #[] 0)).get? a = some (seqObj "list" #[] e1) := by
    exact Heap.get?_push_of_some _ (Heap.get?_push_of_some _ ho1)
  have hG6 : Le G (((s.heap.update a (Obj.mapSeq fun _ => (#[] : Array Value))).push (seqObj "tuple" vs.toArray 0)).push (seqObj "list" #[] 0)).get? := fun b o e => by
    have hb : b ≠ a := fun q => by rw [q, hga] at e; cases e
    exact Heap.get?_push_of_some _ (Heap.get?_push_of_some _ ((Heap.get?_update_other _ _ (Ne.symm hb)).trans (hG b o e)))
  show wpAny (model prog w) A _ P E { s with heap := ((s.heap.update a (Obj.mapSeq fun _ => (#[] : Array Value))).push (seqObj "tuple" vs.toArray 0)).push (seqObj "list" #[] 0) }
  dsimp only
  have hsz : vs.toArray.size = vs.length := by simp
  by_cases h2 : vs.toArray.size < 2
  · rw [if_pos h2, if_pos h2]
    refine wpAny_bind (wpAny_pure ?_)
    rw [StateT.run_pure]
    refine wpAny_bind (wpAny_pure ?_)
    dsimp only
    refine wpAny_bind (seqEpoch_at ho6 rfl ?_)
    have e2 : ((arrOf (SortSt.mk' general' (vs.toArray.zip vs.toArray) #[] 7 none)).map (·.2)) = vs.toArray := by
      show (vs.toArray.zip vs.toArray).map (·.2) = vs.toArray
      apply Array.toList_inj.mp
      rw [Array.toList_map, Array.toList_zip]
      simp [List.map_snd_zip]
    rw [e2]
    refine wpAny_bind (listUpdate_at ho6 rfl ?_ (Nat.zero_le _) (by rw [hsz, sizeLine_eq]; omega))
    simp only [bne_self_eq_false, Bool.false_eq_true, if_false]
    refine wpAny_pure (h vs ?_)
    unfold sortP; rw [if_pos (by omega)]; exact H
  · rw [if_neg h2, if_neg h2]
    have hx2 : 2 ≤ xs.length := by omega
    -- the kind of the keys
    have item : ∀ i, i < xs.length → ∃ x t1 t2, vs.getD i Value.none = .ref x ∧ G x = some (TupO [.int ((xs.getD i (0, 0)).1 : Nat) t1, .int ((xs.getD i (0, 0)).2 : Nat) t2]) := fun i hi => by
      obtain ⟨v, ev, x, p, q, rfl, ht, ⟨t1, rfl⟩, ⟨t2, rfl⟩⟩ := H.get (List.getElem?_eq_getElem hi)
      refine ⟨x, t1, t2, by rw [List.getD_eq_getElem?_getD, ev]; rfl, ?_⟩
      rw [List.getD_eq_getElem?_getD, List.getElem?_eq_getElem hi]; exact ht
    have tups : ∀ {h' : Heap}, Le G h'.get? → ∀ {xs vs}, Rs (RT2 RN RN G) xs vs → ∃ fs, KatTups h' vs fs ∧ fs.length = xs.length ∧ ∀ v ∈ fs, ∃ (k : Nat) (t : Tok), v = Value.int (k : Nat) t := by
      intro h' hG' xs vs H
      induction H with
      | nil => exact ⟨[], trivial, rfl, fun v hv => by cases hv⟩
      | cons hd _ ih =>
        obtain ⟨fs, a1, a2, a3⟩ := ih
        obtain ⟨x, p, q, rfl, ht, ⟨t1, rfl⟩, ⟨t2, rfl⟩⟩ := hd
        refine ⟨_ :: fs, KatTups.cons (hG' _ _ ht) rfl rfl rfl a1, by simp [a2], fun v hv => ?_⟩
        rcases List.mem_cons.mp hv with rfl | hv
        · exact ⟨_, _, rfl⟩
        · exact a3 v hv
    obtain ⟨fs, f1, f2, f3⟩ := tups hG6 H
    refine wpAny_bind (kat_kind (T := .type "int") f1 (by omega) (fun v hv => by obtain ⟨k, t, rfl⟩ := f3 v hv; exact Looks.of_pure rfl) (by decide) ?_)
    have hok := ok_sort (n := xs.length) (by omega)
    refine wpAny_bind (wpAny_mono (kat_run (Q := fun st' s' => s' = { s with heap := ((s.heap.update a (Obj.mapSeq fun _ => (#[] : Array Value))).push (seqObj "tuple" vs.toArray 0)).push (seqObj "list" #[] 0) } ∧ failedOf st' = none ∧
        arrOf st' = (tev (fun i j => lexLt (xs.getD i (0, 0)) (xs.getD j (0, 0))) (kas_sort xs.length)).map (kas_item (vs.toArray.zip vs.toArray)))
      (G := fun p s' => s' = { s with heap := ((s.heap.update a (Obj.mapSeq fun _ => (#[] : Array Value))).push (seqObj "tuple" vs.toArray 0)).push (seqObj "list" #[] 0) } ∧ p = tev (fun i j => lexLt (xs.getD i (0, 0)) (xs.getD j (0, 0))) (kas_sort xs.length))
      rfl (by omega) (by omega) (fun p st' s' a1 a2 a3 a4 => ⟨a4.1, a3, a4.2 ▸ a2⟩) ?_) ?_ fun _ _ e => e)
    · rw [hl]
      refine TOk.wp (n := xs.length) (ans := fun i j => lexLt (xs.getD i (0, 0)) (xs.getD j (0, 0))) (fun i j C hi hj hC => ?_) hok ⟨rfl, rfl⟩
      obtain ⟨x, t1, t2, ex, hx⟩ := item i hi
      obtain ⟨y, t3, t4, ey, hy⟩ := item j hj
      unfold kas_ask
      rw [ex, ey]
      exact pair_lt (hG6 _ _ hx) (hG6 _ _ hy) hC
    · rintro ⟨⟨⟩, st'⟩ s' ⟨rfl, hf, har⟩
      dsimp only
      have hout := kat_snds rfl har
      refine wpAny_bind (seqEpoch_at ho6 rfl ?_)
      rw [hout]
      have hpm : Pm xs.length (tev (fun i j => lexLt (xs.getD i (0, 0)) (xs.getD j (0, 0))) (kas_sort xs.length)) := hok.ev
      have hpl : (tev (fun i j => lexLt (xs.getD i (0, 0)) (xs.getD j (0, 0))) (kas_sort xs.length)).toList.length = xs.length := by have := hpm.length_eq; rwa [List.length_range] at this
      refine wpAny_bind (listUpdate_at ho6 rfl ?_ (Nat.zero_le _) (by rw [List.size_toArray, List.length_map, hpl, sizeLine_eq]; omega))
      rw [hf]
      simp only [bne_self_eq_false, Bool.false_eq_true, if_false]
      refine wpAny_pure (h _ ?_)
      unfold sortP; rw [if_neg (by omega)]
      have all : ∀ i ∈ (tev (fun i j => lexLt (xs.getD i (0, 0)) (xs.getD j (0, 0))) (kas_sort xs.length)).toList, i < xs.length := fun i hi => List.mem_range.mp (hpm.mem_iff.mp hi)
      revert all
      generalize (tev (fun i j => lexLt (xs.getD i (0, 0)) (xs.getD j (0, 0))) (kas_sort xs.length)).toList = ps
      intro all
      induction ps with
      | nil => exact .nil
      | cons i r ih =>
        obtain ⟨v, ev, rv⟩ := H.get (List.getElem?_eq_getElem (all i (List.mem_cons_self ..)))
        refine .cons ?_ (ih fun j hj => all j (List.mem_cons_of_mem _ hj))
        show RT2 RN RN G (xs.getD i (0, 0)) (vs.getD i Value.none)
        rw [List.getD_eq_getElem?_getD, List.getD_eq_getElem?_getD, ev, List.getElem?_eq_getElem (all i (List.mem_cons_self ..))]
        exact rv

theorem sorted_pairs {l : Addr} {vs : List Value} {G : PM} {xs : List (Nat × Nat)} {Q : Value → Shared → Prop} (hl : s.heap.IsList l vs.toArray) (hG : Le G s.heap.get?) (H : Rs (RT2 RN RN G) xs vs) (h64 : xs.length < 64)
    (h : ∀ out : List Value, Rs (RT2 RN RN G) (sortP xs) out → Q (.ref (s.heap.objs.size + 1)) { s with heap := sortedAll s.heap vs out.toArray }) :
    wpAny (model prog w) A (PySem.call (.builtin "sorted") [.ref l]) Q E s := by
  have hvl := H.length
  refine Calls.call_function_entry kind_sorted plain_sorted entry_sorted (args_sorted1 _) ?_
  unfold Builtin.«sorted»
  refine wpAny_bind (m := checkCount "sorted" 1 1 _) (wpAny_pure ?_)
  refine wpAny_bind (collect_list hl ?_ (by rw [sizeLine_eq]; omega))
  refine wpAny_bind (wpAny_newList ?_ (by rw [sizeLine_eq]; omega))
  have hsz : ((s.heap.push (seqObj "list" #[] 0)).update s.heap.objs.size (Obj.mapSeq (· ++ vs.toArray))).objs.size = s.heap.objs.size + 1 := by
    rw [Heap.size_update, size_push']
  have hoL : (((s.heap.push (seqObj "list" #[] 0)).update s.heap.objs.size (Obj.mapSeq (· ++ vs.toArray))).push (seqObj "list" vs.toArray 0)).get? (s.heap.objs.size + 1) = some (seqObj "list" vs.toArray 0) := by
    rw [← hsz]; exact Heap.get?_push_size _ rfl
  have hG2 : Le G (((s.heap.push (seqObj "list" #[] 0)).update s.heap.objs.size (Obj.mapSeq (· ++ vs.toArray))).push (seqObj "list" vs.toArray 0)).get? := fun b o e => by
    have hb := hG b o e
    exact Heap.get?_push_of_some _ ((Heap.get?_update_other _ _ (Nat.ne_of_gt (Heap.lt_size hb))).trans (Heap.get?_push_of_some _ hb))
  have hga : G (s.heap.objs.size + 1) = none := by
    cases q : G (s.heap.objs.size + 1) with
    | none => rfl
    | some o => exact absurd (Heap.lt_size (hG _ _ q)) (by show ¬ s.heap.objs.size + 1 < _; omega)
  show wpAny _ _ _ _ _ { s with heap := ((s.heap.push (seqObj "list" #[] 0)).update s.heap.objs.size (Obj.mapSeq (· ++ vs.toArray))).push (seqObj "list" vs.toArray 0) }
  rw [hsz]
  refine wpAny_bind (wpAny_holding (wpAny_call_entry slot_list_sort ⟨_, hoL, rfl⟩ entry_list_sort (sort_pairs hoL hG2 hga H h64 fun out ho => ⟨_, rfl, ?_⟩) (args_list_sort _)))
  exact wpAny_pure ⟨_, rfl, h out ho⟩
end

section
variable {gl : Gl} {Φ : Fx} {σ : Sta}

theorem TT.sortedP {v : Value} {xs : List (Nat × Nat)} {P : Value → Sta → Prop} (L : σ.Ls (RT2 RN RN) xs v) (h64 : xs.length < 64) (p : ∀ v G', Le σ.G G' → RL (RT2 RN RN) G' (sortP xs) v → P v { σ with G := G' }) :
    TT gl Φ (PySem.call (.builtin "sorted") [v]) σ P := by
  obtain ⟨a, vs, rfl, L, H⟩ := L
  refine TT.newG (X := []) (σ := σ) (fun h g d tk os Q E S q => ?_) fun h S e he => by cases he
  obtain ⟨n, e⟩ := S.lst (a := a) (vs := vs) L
  refine sorted_pairs (IsL.isList e) S.sub H h64 fun out ho => ?_
  obtain ⟨e', he'⟩ := sortedAll_at h vs out.toArray
  have f1 : h.get? (h.objs.size + 1) = none := fresh_push (h := h) (TupO [])
  exact q _ _ _ (fun b o _ eb => sortedAll_old eb) fun G' l hn => p _ _ l ⟨_, out, rfl, ⟨e', hn _ _ f1 he'⟩, ho.mono (RT2.mono RN.mono RN.mono) l⟩

end
end Mine

end
section
namespace Mine

section
variable {prog : Program} {w : World} {A : Around} {E : Value → Shared → Prop} {s : Shared}
theorem max_pair {T : Addr} {a b : Int} {t u : Tok} {Q : Value → Shared → Prop} (hh : A.handled = none) (hT : s.heap.IsTuple T (intItems #[(a, t), (b, u)]))
    (h : ∀ h' tk, (∀ c o, s.heap.get? c = some o → h'.get? c = some o) → Q (if b > a then .int b u else .int a t) { s with heap := h', toks := tk }) :
    wpAny (model prog w) A (PySem.call (.builtin "max") [.ref T]) Q E s := by
  refine call_max_walk (wpAny_pyIter_tuple hT ?_)
  have hlt : T < s.heap.objs.size := by obtain ⟨o, e, _⟩ := id hT; exact Heap.lt_size e
  refine ⟨_, [_, T], [_], _, _, _, _, rfl, Walks.tuple (A := A.in1) hh _ T (Nat.ne_of_lt hlt) (intItems #[(a, t), (b, u)]),
    ⟨⟨_, Heap.get?_push_size _ rfl, rfl, rfl⟩, hT.push _⟩, fun c hc => ?_, by simp [intItems], CmpOf.ints_gt (numAt #[(a, t), (b, u)]) (fun _ _ => intItems_at), fun v h' tk hP hk => ?_⟩
  · show c < (s.heap.push _).objs.size
    rw [Heap.size_push]
    rcases List.mem_cons.mp hc with rfl | hc
    · exact Nat.lt_succ_self _
    · rcases List.mem_cons.mp hc with rfl | hc
      · exact Nat.lt_succ_of_lt hlt
      · cases hc
  · have hold : ∀ c o, s.heap.get? c = some o → h'.get? c = some o := fun c o e => by
      refine hk c o (fun hm => ?_) (Heap.get?_push_of_some _ e)
      rcases List.mem_cons.mp hm with e1 | hm
      · have := Heap.lt_size e; rw [e1] at this; exact Nat.lt_irrefl _ this
      · cases hm
    have := h h' tk hold
    have hv : v = if b > a then Value.int b u else Value.int a t := by
      have hP' : (intItems #[(a, t), (b, u)])[argBest (fun i j => decide (numAt #[(a, t), (b, u)] i > numAt #[(a, t), (b, u)] j)) 1]? = some v := by
        have hsz2 : (intItems #[(a, t), (b, u)]).size - 1 = 1 := by simp [intItems]
        rw [← hsz2]; exact hP
      by_cases hba : b > a
      · have e : argBest (fun i j => decide (numAt #[(a, t), (b, u)] i > numAt #[(a, t), (b, u)] j)) 1 = 1 := by simp [argBest, numAt, hba]
        rw [e] at hP'
        simpa [intItems, hba] using hP'.symm
      · have e : argBest (fun i j => decide (numAt #[(a, t), (b, u)] i > numAt #[(a, t), (b, u)] j)) 1 = 0 := by simp [argBest, numAt, hba]
        rw [e] at hP'
        simpa [intItems, hba] using hP'.symm
    rw [hv]; exact this
theorem min_pair {T : Addr} {a b : Int} {t u : Tok} {Q : Value → Shared → Prop} (hh : A.handled = none) (hT : s.heap.IsTuple T (intItems #[(a, t), (b, u)]))
    (h : ∀ h' tk, (∀ c o, s.heap.get? c = some o → h'.get? c = some o) → Q (if b < a then .int b u else .int a t) { s with heap := h', toks := tk }) :
    wpAny (model prog w) A (PySem.call (.builtin "min") [.ref T]) Q E s := by
  refine call_min_walk (wpAny_pyIter_tuple hT ?_)
  have hlt : T < s.heap.objs.size := by obtain ⟨o, e, _⟩ := id hT; exact Heap.lt_size e
  refine ⟨_, [_, T], [_], _, _, _, _, rfl, Walks.tuple (A := A.in1) hh _ T (Nat.ne_of_lt hlt) (intItems #[(a, t), (b, u)]),
    ⟨⟨_, Heap.get?_push_size _ rfl, rfl, rfl⟩, hT.push _⟩, fun c hc => ?_, by simp [intItems], CmpOf.ints_lt (numAt #[(a, t), (b, u)]) (fun _ _ => intItems_at), fun v h' tk hP hk => ?_⟩
  · show c < (s.heap.push _).objs.size
    rw [Heap.size_push]
    rcases List.mem_cons.mp hc with rfl | hc
    · exact Nat.lt_succ_self _
    · rcases List.mem_cons.mp hc with rfl | hc
      · exact Nat.lt_succ_of_lt hlt
      · cases hc
  · have hold : ∀ c o, s.heap.get? c = some o → h'.get? c = some o := fun c o e => by
      refine hk c o (fun hm => ?_) (Heap.get?_push_of_some _ e)
      rcases List.mem_cons.mp hm with e1 | hm
      · have := Heap.lt_size e; rw [e1] at this; exact Nat.lt_irrefl _ this
      · cases hm
    have := h h' tk hold
    have hv : v = if b < a then Value.int b u else Value.int a t := by
      have hP' : (intItems #[(a, t), (b, u)])[argBest (fun i j => decide (numAt #[(a, t), (b, u)] i < numAt #[(a, t), (b, u)] j)) 1]? = some v := by
        have hsz2 : (intItems #[(a, t), (b, u)]).size - 1 = 1 := by simp [intItems]
        rw [← hsz2]; exact hP
      by_cases hba : b < a
      · have e : argBest (fun i j => decide (numAt #[(a, t), (b, u)] i < numAt #[(a, t), (b, u)] j)) 1 = 1 := by simp [argBest, numAt, hba]
        rw [e] at hP'
        simpa [intItems, hba] using hP'.symm
      · have e : argBest (fun i j => decide (numAt #[(a, t), (b, u)] i < numAt #[(a, t), (b, u)] j)) 1 = 0 := by simp [argBest, numAt, hba]
        rw [e] at hP'
        simpa [intItems, hba] using hP'.symm
    rw [hv]; exact this
end

section
variable {gl : Gl} {Φ : Fx} {σ : Sta}
theorem TT.maxT {T : Addr} {x y : Value} {a b : Nat} {P : Value → Sta → Prop} (hT : IsTpl σ.G T [x, y]) (hx : RN σ.G a x) (hy : RN σ.G b y) (p : ∀ v, RN σ.G (max a b) v → P v σ) : TT gl Φ (PySem.call (.builtin "max") [.ref T]) σ P :=
  .grown fun h g d tk os Q E S q => by
    obtain ⟨t, rfl⟩ := hx; obtain ⟨u, rfl⟩ := hy
    refine max_pair S.hh (a := (a : Int)) (t := t) (b := (b : Int)) (u := u) ⟨_, S.sub _ _ hT, rfl, 0, by simp [intItems]⟩ fun h' tk' hk => q _ _ _ hk (p _ ?_)
    by_cases c : (b : Int) > a
    · rw [if_pos c]; exact ⟨u, by rw [show max a b = b by omega]⟩
    · rw [if_neg c]; exact ⟨t, by rw [show max a b = a by omega]⟩
theorem TT.minT {T : Addr} {x y : Value} {a b : Nat} {P : Value → Sta → Prop} (hT : IsTpl σ.G T [x, y]) (hx : RN σ.G a x) (hy : RN σ.G b y) (p : ∀ v, RN σ.G (min a b) v → P v σ) : TT gl Φ (PySem.call (.builtin "min") [.ref T]) σ P :=
  .grown fun h g d tk os Q E S q => by
    obtain ⟨t, rfl⟩ := hx; obtain ⟨u, rfl⟩ := hy
    refine min_pair S.hh (a := (a : Int)) (t := t) (b := (b : Int)) (u := u) ⟨_, S.sub _ _ hT, rfl, 0, by simp [intItems]⟩ fun h' tk' hk => q _ _ _ hk (p _ ?_)
    by_cases c : (b : Int) < a
    · rw [if_pos c]; exact ⟨u, by rw [show min a b = b by omega]⟩
    · rw [if_neg c]; exact ⟨t, by rw [show min a b = a by omega]⟩
theorem TT.maxN {a b : Nat} {v w : Value} {P : Value → Sta → Prop} (ha : RN σ.G a v) (hb : RN σ.G b w) (x : ∀ v, RN σ.G (max a b) v → P v σ) : TT gl Φ (PySem.call (.builtin "max") [v, w]) σ P := by
  obtain ⟨t, rfl⟩ := ha; obtain ⟨u, rfl⟩ := hb
  exact .maxI fun t => x _ ⟨t, by congr 1; omega⟩
theorem TT.minN {a b : Nat} {v w : Value} {P : Value → Sta → Prop} (ha : RN σ.G a v) (hb : RN σ.G b w) (x : ∀ v, RN σ.G (min a b) v → P v σ) : TT gl Φ (PySem.call (.builtin "min") [v, w]) σ P := by
  obtain ⟨t, rfl⟩ := ha; obtain ⟨u, rfl⟩ := hb
  exact .minI fun t => x _ ⟨t, by congr 1; omega⟩
end
end Mine

end
section
namespace Mine

noncomputable def pr (a b : Nat) : Nat × Nat := (min a b, max a b)
noncomputable def dueStep (t : Nat) (acc : List (Nat × Nat)) (j : Nat) : List (Nat × Nat) := if pr t j ∉ acc then acc ++ [pr t j] else acc
noncomputable def dueRow (L : Nat → List Nat) (cyc : List (Nat × Nat)) (acc : List (Nat × Nat)) (i : Nat) : List (Nat × Nat) := (gpSuccs L cyc i).foldl (dueStep (cyc.getD i (0, 0)).2) acc
noncomputable def dueAll (L : Nat → List Nat) (cyc : List (Nat × Nat)) : List (Nat × Nat) := (List.range cyc.length).foldl (dueRow L cyc) []
noncomputable def delAll (L : Nat → List Nat) (ps : List (Nat × Nat)) : Nat → List Nat := ps.foldl (fun L p => del2 L p.1 p.2) L

theorem pr_comm (a b : Nat) : pr a b = pr b a := by unfold pr; rw [Nat.min_comm, Nat.max_comm]
theorem pr_inj {a b c d : Nat} (h : pr a b = pr c d) : (a = c ∧ b = d) ∨ (a = d ∧ b = c) := by
  unfold pr at h
  injection h with h1 h2
  rcases Nat.le_total a b with q | q <;> rcases Nat.le_total c d with q' | q' <;> simp only [Nat.min_eq_left q, Nat.max_eq_right q, Nat.min_eq_right, Nat.max_eq_left, q, Nat.min_eq_left q', Nat.max_eq_right q', q'] at h1 h2
  · exact .inl ⟨h1, h2⟩
  · exact .inr ⟨h1, h2⟩
  · exact .inr ⟨h2, h1⟩
  · exact .inl ⟨h2, h1⟩
theorem gp_due_step (t : Nat) (acc : List (Nat × Nat)) (s : Nat) : (gpStep t acc s).map (fun p => pr p.1 p.2) = dueStep t (acc.map fun p => pr p.1 p.2) s := by
  have key : ((t, s) ∉ acc ∧ (s, t) ∉ acc) ↔ pr t s ∉ acc.map fun p => pr p.1 p.2 := by
    constructor
    · rintro ⟨h1, h2⟩ h
      obtain ⟨⟨a, b⟩, hm, e⟩ := List.mem_map.mp h
      rcases pr_inj e with ⟨rfl, rfl⟩ | ⟨rfl, rfl⟩
      · exact h1 hm
      · exact h2 hm
    · intro h
      exact ⟨fun hm => h (List.mem_map.mpr ⟨(t, s), hm, rfl⟩), fun hm => h (List.mem_map.mpr ⟨(s, t), hm, pr_comm s t⟩)⟩
  unfold gpStep dueStep
  by_cases h : (t, s) ∉ acc ∧ (s, t) ∉ acc
  · rw [if_pos h, if_pos (key.mp h)]; simp
  · rw [if_neg h, if_neg (fun h' => h (key.mpr h'))]
theorem gp_due_fold (t : Nat) : ∀ (ss : List Nat) (acc : List (Nat × Nat)), (ss.foldl (gpStep t) acc).map (fun p => pr p.1 p.2) = ss.foldl (dueStep t) (acc.map fun p => pr p.1 p.2)
  | [], acc => rfl
  | s :: r, acc => by rw [List.foldl_cons, List.foldl_cons, gp_due_fold t r, gp_due_step]
theorem gp_due (L : Nat → List Nat) (cyc : List (Nat × Nat)) : (gpAll L cyc).map (fun p => pr p.1 p.2) = dueAll L cyc := by
  have : ∀ (is : List Nat) (acc : List (Nat × Nat)), (is.foldl (gpRow L cyc) acc).map (fun p => pr p.1 p.2) = is.foldl (dueRow L cyc) (acc.map fun p => pr p.1 p.2) := by
    intro is
    induction is with
    | nil => intro acc; rfl
    | cons i r ih => intro acc; rw [List.foldl_cons, List.foldl_cons, ih]; congr 1; exact gp_due_fold _ _ _
  exact this _ []
theorem dueStep_len (t : Nat) (acc : List (Nat × Nat)) (s : Nat) : (dueStep t acc s).length ≤ acc.length + 1 := by
  unfold dueStep; split
  · simp
  · omega
theorem dueFold_len (t : Nat) : ∀ (ss : List Nat) (acc : List (Nat × Nat)), (ss.foldl (dueStep t) acc).length ≤ acc.length + ss.length
  | [], acc => by simp
  | s :: r, acc => by
    have := dueFold_len t r (dueStep t acc s)
    have := dueStep_len t acc s
    simp only [List.foldl_cons, List.length_cons]; omega

theorem delAll_le : ∀ (ps : List (Nat × Nat)) (L : Nat → List Nat) (k : Nat), (delAll L ps k).length ≤ (L k).length
  | [], L, k => Nat.le_refl _
  | p :: r, L, k => Nat.le_trans (delAll_le r (del2 L p.1 p.2) k) (del2_le ..)

/-- what the law asks of a cycle -/
structure CycOk (N : Nat) (L : Nat → List Nat) (cyc : List (Nat × Nat)) : Prop where
  len : cyc.length ≤ 6
  once : ∀ i, i < cyc.length → (cyc.map (·.1)).count (cyc.getD i (0, 0)).1 = 1
  last : ∀ i, i < cyc.length → (L (cyc.getD i (0, 0)).2).getLast? = some (cyc.getD i (0, 0)).1
  prev : ∀ i, i < cyc.length → 2 ≤ (L (cycPrev cyc i)).length ∧ (L (cycPrev cyc i))[1]? = some (cyc.getD i (0, 0)).2 ∧ cycPrev cyc i ∈ L (cyc.getD i (0, 0)).2 ∧ cycPrev cyc i < N
  lt : ∀ p ∈ cyc, p.1 < N ∧ p.2 < N
  due : dueAll L cyc ≠ []

section
variable {gl : Gl} {Φ : Fx} {σ : Sta}

theorem TT.itemP {α : Type} {R : RP α} {xs : List α} {v : Value} {y : α} {value slice : Expr} {k : Nat} {t : Tok} {P : Value → Sta → Prop} (L : σ.Ls R xs v) (hk : k < xs.length) (hy : xs[(k + xs.length - 1) % xs.length]? = some y) (hz : k ≤ 1000) (x : ∀ u, R σ.G y u → P u σ)
    (hs : ∀ a k u, subscripted slice false (.ref a) (.int k u) = operate [.ref a, .int k u] (getItem (.ref a) (.int k u)) := by intro _ _ _; with_unfolding_all rfl) : TT gl Φ (subscriptTail value slice v (.int ((k : Nat) - 1 : Int) t)) σ P := by
  cases k with
  | zero =>
    have e : (0 + xs.length - 1) % xs.length = xs.length - 1 := by rw [Nat.zero_add, Nat.mod_eq_of_lt (by omega)]
    rw [e] at hy
    exact .lastR L (by rw [List.getLast?_eq_getElem?]; exact hy) x fun a u => hs a (-1) u
  | succ k =>
    have e : (k + 1 + xs.length - 1) % xs.length = k := by
      rw [show k + 1 + xs.length - 1 = k + xs.length by omega, Nat.add_mod_right, Nat.mod_eq_of_lt (by omega)]
    rw [e] at hy
    exact .itemR (k := k) L ⟨t, by congr 1; omega⟩ hy (by omega) x hs

inductive KNum (gl : Gl) (P : Value → Sta → Prop) (v : Value) (σ₁ : Sta) : Prop
  | mk (N : Nat) (pas : Nat → Addr) (L : Nat → List Nat) (M : Nat → Option Nat) (x : Nat) (W : Pls σ₁.G σ₁.pl N pas L M) (hN : N ≤ 6) (hx : x < N) (e : v = .ref (pas x)) (k : ∀ w G', Le σ₁.G G' → RN G' x w → P w { σ₁ with G := G' }) : KNum gl P v σ₁
theorem TT.gnum (T : gl.Ok) (Tb : Bi gl) (Fn : GFn gl "_law_number" (stmtAt 16)) {e : Expr} {pos pos' : Pos} {P : Value → Sta → Prop} (hn : 2 ≤ Φ.n)
    (x : TT gl Φ (eval e Φ.env) σ (KNum gl P))
    (hk : Φ.env.kindOf "_law_number" = some .globalImplicit := by rfl) (hg : Φ.env.globals = mainGlobals := by rfl)
    (he : eval (.Call (.Name "_law_number" pos) [e] [] pos') Φ.env = (do callWith pos' (← eval (.Name "_law_number" pos) Φ.env) [] (backTo pos' (starEach [e] Φ.env)) []) := by rfl)
    (he2 : starEach [e] Φ.env = (false, eval e Φ.env) :: starEach [] Φ.env := by rfl) : TT gl Φ (eval (.Call (.Name "_law_number" pos) [e] [] pos') Φ.env) σ P := by
  refine .gcall T Fn (.sp_cons (x.mono ?_) he2) hk hg (by decide) he he2 rfl
  rintro v σ₁ ⟨N, pas, L, M, x, W, hN, hx, rfl, k⟩
  refine .sp_nil ⟨2, false, _, fun a F => sp_number (n := 0) T F Tb.str Tb.range W hx hN, hn, fun h => (by cases h), fun w G' pl' l he => ?_⟩
  obtain ⟨e, h⟩ := he
  subst e; exact k w G' l h

set_option maxHeartbeats 8000000 in
theorem sp_cycle (T : gl.Ok) (Tb : Bi gl) (Fn : GFn gl "_law_number" (stmtAt 16)) (Fl : GFn gl "_law_lists" (stmtAt 17)) (Floc : GFn gl "locate_all_or_nothing_cycle" (stmtAt 5)) (Fgp : GFn gl "get_pairs_to_delete" (stmtAt 6))
    {a : Addr} (F : FnK gl a "_law_cycle_right" (stmtAt 22)) {N pas L M G pl n pv sv s} (W : Pls G pl N pas L M) (hpv : RL (RPl N pas) G (List.range N) pv) (hsv : RN G s sv) (hs : s < N) (hN : N ≤ 6) (hz : ∀ i, (L i).length ≤ 6)
    (C : Nat → Prop) (hC : ∀ p, p < N → C p → 2 ≤ (L p).length ∧ L (sec L p) ≠ [] ∧ nx L p < N ∧ C (nx L p)) (h0 : C s) (hcy : ∀ idx m, Walk L s idx m → (∀ k, itr L s k < N ∧ C (itr L s k)) → CycOk N L (cycOf L s idx m)) :
    CallP gl (n + 4) true (.ref a) [pv, sv] G pl fun G' pl' w => ∃ idx m, Walk L s idx m ∧ Pls G' pl' N pas (delAll L (gpAll L (cycOf L s idx m))) M ∧ ∃ x, w = .ref x := by
  refine CallP.cells T F ["players", "start"] [("players", pv), ("start", sv)] (fun _ _ _ _ _ => rfl) (fun La cdv A h => .abs fun P hP => .nm ?_)
  intro Φ
  have hn3 : n + 3 ≤ n + 3 := Nat.le_refl _
  refine .execs_cons (.asg (.gcall T Fl (.sp_cons (.name rfl (.sp_nil ⟨n + 3, false, _, fun a F => sp_lists T Tb Fn F W hpv hN (fun i _ => Nat.le_trans (hz i) (by decide)), hn3, fun h => (by cases h), ?_⟩) (.inl rfl)))))
  rintro lv G₁ pl₁ l₁ ⟨rfl, hlv⟩
  have W₁ := W.mono l₁
  refine .st (.execs_cons (.asg (.gcall T Floc (.sp_cons (.sub (.name rfl (.name rfl (.itemR (R := RPl N pas) (RL.mono RPl.mono _ _ _ _ l₁ hpv).ls hsv (List.getElem?_range hs) (by omega) ?_) (.inl rfl)) (.inl rfl)))))))
  rintro u ⟨_, rfl⟩
  refine .sp_nil ⟨n + 2, false, _, fun a F => sp_locate T Tb F W₁ hs hN (fun i => Nat.le_trans (hz i) (by decide)) C hC h0, by show n + 2 ≤ n + 3; omega, fun h => (by cases h), ?_⟩
  rintro cv G₂ pl₂ l₂ ⟨rfl, idx, m, Wk, allk, hcv⟩
  have K := hcy idx m Wk allk
  generalize hcyc : cycOf L s idx m = cyc at hcv K
  have W₂ := W₁.mono l₂
  have hRR : Mono (RT2 (RPl N pas) (RPl N pas)) := RT2.mono RPl.mono RPl.mono
  have hNN : Mono (RT2 RN RN) := RT2.mono RN.mono RN.mono
  have hk := K.len
  -- ones
  refine .st (.execs_cons (.compY (R := RT2 (RPl N pas) (RPl N pas)) (R' := RN) hRR RN.mono [] [] (.name rfl ?_ (.inl rfl))))
  refine ⟨cyc, fun p => some p.1, hcv.itb, by omega, trivial, fun C h p w G₃ hp hw l₃ => ?_, fun onv G₃ l₃ hon => ?_⟩
  · obtain ⟨ta, xv, yv, rfl, hta, ⟨hx, rfl⟩, ⟨hy, rfl⟩⟩ := hw
    refine .asg2 hta (.tgt (.st (.tgt (.st (.tests_nil ⟨rfl, fun h => (by cases h), fun z hz => ?_⟩)))))
    cases hz
    exact .gnum T Tb Fn (by show 2 ≤ n + 3; omega) (.name rfl ⟨N, pas, L, M, p.1, W₂.mono l₃, hN, hx, rfl, fun w G' l h => ⟨h, rfl, l⟩⟩ (.inl rfl))
  rw [fm_map] at hon
  -- twos
  have hcv₃ := RL.mono hRR _ _ _ _ l₃ hcv
  refine .execs_cons (.compY (R := RT2 (RPl N pas) (RPl N pas)) (R' := RN) hRR RN.mono [] [] (.name rfl ?_ (.inl rfl)))
  refine ⟨cyc, fun p => some p.2, hcv₃.itb, by omega, trivial, fun C h p w G₄ hp hw l₄ => ?_, fun twv G₄ l₄ htw => ?_⟩
  · obtain ⟨ta, xv, yv, rfl, hta, ⟨hx, rfl⟩, ⟨hy, rfl⟩⟩ := hw
    refine .asg2 hta (.tgt (.st (.tgt (.st (.tests_nil ⟨rfl, fun h => (by cases h), fun z hz => ?_⟩)))))
    cases hz
    exact .gnum T Tb Fn (by show 2 ≤ n + 3; omega) (.name rfl ⟨N, pas, L, M, p.2, (W₂.mono l₃).mono l₄, hN, hy, rfl, fun w G' l h => ⟨h, rfl, l⟩⟩ (.inl rfl))
  rw [fm_map] at htw
  have l₁₄ : Le G₁ G₄ := (l₂.trans l₃).trans l₄
  have hlv₄ := RL.mono (RL.mono RN.mono) _ _ _ _ l₁₄ hlv
  have hon₄ := RL.mono RN.mono _ _ _ _ l₄ hon
  have W₄ := (W₂.mono l₃).mono l₄
  have hcv₄ := RL.mono hRR _ _ _ _ l₄ hcv₃
  have gL : ∀ x, x < N → ((List.range N).map L)[x]? = some (L x) := fun x hx => by rw [List.getElem?_map, List.getElem?_range hx]; rfl
  have g1 : ∀ k, k < cyc.length → (cyc.map (·.1))[k]? = some (cyc.getD k (0, 0)).1 := fun k hk => by rw [List.getElem?_map, List.getElem?_eq_getElem hk, List.getD_eq_getElem?_getD, List.getElem?_eq_getElem hk]; rfl
  have g2 : ∀ k, k < cyc.length → (cyc.map (·.2))[k]? = some (cyc.getD k (0, 0)).2 := fun k hk => by rw [List.getElem?_map, List.getElem?_eq_getElem hk, List.getD_eq_getElem?_getD, List.getElem?_eq_getElem hk]; rfl
  have g3 : ∀ k, k < cyc.length → (cyc.map (·.1))[(k + (cyc.map (·.1)).length - 1) % (cyc.map (·.1)).length]? = some (cycPrev cyc k) := fun k hk => by
    rw [List.length_map]
    have : (k + cyc.length - 1) % cyc.length < cyc.length := Nat.mod_lt _ (by omega)
    rw [g1 _ this]; rfl
  have gm : ∀ k, k < cyc.length → cyc.getD k (0, 0) ∈ cyc := fun k hk => by rw [List.getD_eq_getElem?_getD, List.getElem?_eq_getElem hk]; exact List.getElem_mem hk
  refine .execs_cons (.asg (.list (.sp_nil ⟨by simp, .inr fun da hda => .st ?_⟩)))
  refine .execs_cons (.forZ (R := RN) RN.mono (.calln (.built T Tb.range rfl (.calleeT (.sp_cons (.calln (.built T Tb.len rfl (.calleeB (.sp_cons (.name rfl (.sp_nil (.lenR hon₄.ls (by simp; omega) fun nv hnv => .sp_nil ?_)) (.inl rfl)))))))))))
  obtain ⟨tn, rfl⟩ := hnv
  rw [List.length_map]
  refine .range fun r G₅ l₅ hr => ?_
  refine ⟨List.range cyc.length, fun i σ' => ∃ G' dvs, σ' = ⟨G', [("start", sv), ("players", pv), ("lists", lv), ("cycle", cv), ("ones", onv), ("twos", twv), ("due", .ref da)], [(da, .lst dvs)], pl₂⟩ ∧ Le G₅ G' ∧ Rs (RT2 RN RN G') ((List.range i).foldl (dueRow L cyc) []) dvs ∧
    ((List.range i).foldl (dueRow L cyc) []).length ≤ 6 * i, hr.itb, by simp; omega, ⟨G₅, [], rfl, Le.rfl, .nil, by simp⟩, ?_, ?_⟩
  · rintro P₁ hP₁ ia c i k kv σ' hx hkv _ ⟨G₆, dvs, rfl, l₆, hd, hdl⟩
    obtain ⟨hkl, hke⟩ := List.getElem?_eq_some_iff.mp hx
    rw [List.getElem_range] at hke
    subst hke
    have hkl : i < cyc.length := by simpa using hkl
    obtain ⟨tk, rfl⟩ := hkv
    have l₄₆ : Le G₄ G₆ := l₅.trans l₆
    have hl := RL.mono (RL.mono RN.mono) _ _ _ _ l₄₆ hlv₄
    have ho := RL.mono RN.mono _ _ _ _ l₄₆ hon₄
    have ht := RL.mono RN.mono _ _ _ _ l₄₆ htw
    obtain ⟨k1, k2, k3, k4⟩ := K.prev i hkl
    have klast := K.last i hkl
    have konce := K.once i hkl
    obtain ⟨q1, q2⟩ := K.lt _ (gm i hkl)
    have hz2 := hz (cyc.getD i (0, 0)).2
    have hz3 := hz (cycPrev cyc i)
    have hsu : gpSuccs L cyc i = (L (cyc.getD i (0, 0)).2).drop ((L (cyc.getD i (0, 0)).2).idxOf (cycPrev cyc i) + 1) := rfl
    generalize hone : (cyc.getD i (0, 0)).1 = one at *
    generalize htwo : (cyc.getD i (0, 0)).2 = two at *
    generalize hprev : cycPrev cyc i = prv at *
    have e1 := g1 i hkl
    have e2 := g2 i hkl
    have e3 := g3 i hkl
    rw [hone] at e1; rw [htwo] at e2; rw [hprev] at e3
    refine .tgt (.st (.execs_cons (.ite ?_)))
    -- the four conditions
    refine .tor (.tcmp (.mCount (R := RN) (.name rfl ⟨⟨_, ho.ls⟩, .sub (.name rfl (.name rfl (.itemR (R := RN) ho.ls (k := i) ⟨tk, rfl⟩ e1 (by omega) fun u hu => ⟨cyc.map (·.1), one, 0, ho.ls, EqR.rn, Uq.rn, hu, by show 0 + 2 ≤ 8 * (n + 3); omega, fun w hw => .intN (a := 1) fun v1 h1 => .neN hw h1 (.truthy_bool (ifB_f (by rw [konce]; rfl) ?_))⟩) (.inl rfl)) (.inl rfl))⟩ (.inl rfl))))
    refine .tor (.tcmp (.sub (.sub (.name rfl (.sub (.name rfl (.name rfl (.itemR (R := RN) ht.ls (k := i) ⟨tk, rfl⟩ e2 (by omega) fun u hu => .itemR (R := RL RN) hl.ls hu (gL two q2) (by omega) fun w hw => .unary (.int fun t => .neg fun t => .lastR (R := RN) hw.ls klast fun z hz' => ?_)) (.inl rfl)) (.inl rfl))) (.inl rfl)))))
    refine .sub (.name rfl (.name rfl (.itemR (R := RN) ho.ls (k := i) ⟨tk, rfl⟩ e1 (by omega) fun u hu => .neN hz' hu (.truthy_bool (ifB_f (by simp) ?_))) (.inl rfl)) (.inl rfl))
    refine .tor (.tcmp (.calln (.built T Tb.len rfl (.calleeB (.sp_cons (.sub (.name rfl (.sub (.name rfl (.binop (.name rfl (.int fun t => .minus fun t => .itemP (R := RN) ho.ls (by rw [List.length_map]; exact hkl) e3 (by omega) fun u hu => .itemR (R := RL RN) hl.ls hu (gL prv k4) (by omega) fun w hw => .sp_nil (.lenR hw.ls (by omega) fun v1 h1 => .intN (a := 2) fun v2 h2 => .ltN h1 h2 (.truthy_bool (ifB_f (by simp; omega) ?_)))) (.inl rfl))) (.inl rfl))) (.inl rfl))))))))
    refine .tor (.tcmp (.sub (.sub (.name rfl (.sub (.name rfl (.binop (.name rfl (.int fun t => .minus fun t => .itemP (R := RN) ho.ls (by rw [List.length_map]; exact hkl) e3 (by omega) fun u hu => .itemR (R := RL RN) hl.ls hu (gL prv k4) (by omega) fun w hw => .intN (a := 1) fun v1 h1 => .itemR (R := RN) hw.ls h1 k2 (by omega) fun z hz' => ?_) (.inl rfl))) (.inl rfl))) (.inl rfl)))))
    refine .sub (.name rfl (.name rfl (.itemR (R := RN) ht.ls (k := i) ⟨tk, rfl⟩ e2 (by omega) fun u hu => .neN hz' hu (.truthy_bool (ifB_f (by simp) (.tor_nil (ifB_f rfl (.execs_nil ?_)))))) (.inl rfl)) (.inl rfl))
    -- what is due
    have hsl : (gpSuccs L cyc i).length ≤ 6 := by rw [hsu, List.length_drop]; omega
    generalize hacc : (List.range i).foldl (dueRow L cyc) [] = acc at hd hdl
    have hfold : (List.range (i + 1)).foldl (dueRow L cyc) [] = (gpSuccs L cyc i).foldl (dueStep two) acc := by
      rw [List.range_succ, List.foldl_append, hacc]; show dueRow L cyc acc i = _; unfold dueRow; rw [htwo]
    refine .execs_cons (.forZ (R := RN) RN.mono (.fromR (R := RN) (.sub (.name rfl (.sub (.name rfl (.name rfl (.itemR (R := RN) ht.ls (k := i) ⟨tk, rfl⟩ e2 (by omega) fun u hu => .itemR (R := RL RN) hl.ls hu (gL two q2) (by omega) fun w hw => .binop (.mIndex (R := RN) ?_)) (.inl rfl)) (.inl rfl))) (.inl rfl))) RN.mono))
    refine .sub (.name rfl (.sub (.name rfl (.name rfl (.itemR (R := RN) ht.ls (k := i) ⟨tk, rfl⟩ e2 (by omega) fun u hu => .itemR (R := RL RN) hl.ls hu (gL two q2) (by omega) fun w₂ hw₂ => ⟨⟨_, hw₂.ls⟩, ?_⟩) (.inl rfl)) (.inl rfl))) (.inl rfl))
    refine .sub (.name rfl (.binop (.name rfl (.int fun t => .minus fun t => .itemP (R := RN) ho.ls (by rw [List.length_map]; exact hkl) e3 (by omega) fun u hu => ⟨L two, prv, 0, hw₂.ls, by omega, EqR.rn, Uq.rn, hu, by show 0 + 2 ≤ 8 * (n + 3); omega, k3, fun iv hiv => .intN (a := 1) fun ov hov => .addN hiv hov fun sv' hsv' => ⟨L two, (L two).idxOf prv + 1, hw.ls, by omega, hsv', fun suv G₇ l₇ hsuv => ?_⟩⟩) (.inl rfl))) (.inl rfl))
    rw [← hsu] at hsuv
    refine ⟨gpSuccs L cyc i, fun j σ' => ∃ G' dvs', σ' = wi ia c ⟨G', [("start", sv), ("players", pv), ("lists", lv), ("cycle", cv), ("ones", onv), ("twos", twv), ("due", .ref da), ("k", .int (i : Nat) tk)], [(da, .lst dvs')], pl₂⟩ ∧ Le G₇ G' ∧
      Rs (RT2 RN RN G') (((gpSuccs L cyc i).take j).foldl (dueStep two) acc) dvs', hsuv.itb, by omega, ⟨G₇, dvs, rfl, Le.rfl, by simpa using hd.mono hNN l₇⟩, ?_, ?_⟩
    · rintro P₂ hP₂ ib d j x xv σ' hx hxv _ ⟨G₈, dvs₈, rfl, l₈, hd₈⟩
      have ht₈ := RL.mono RN.mono _ _ _ _ (l₇.trans l₈) ht
      have htake : (gpSuccs L cyc i).take (j + 1) = (gpSuccs L cyc i).take j ++ [x] := by rw [List.take_add_one, hx]; rfl
      have hlen8 := dueFold_len two ((gpSuccs L cyc i).take j) acc
      rw [List.length_take] at hlen8
      generalize hst : ((gpSuccs L cyc i).take j).foldl (dueStep two) acc = st at hd₈ hlen8
      have hstep : ((gpSuccs L cyc i).take (j + 1)).foldl (dueStep two) acc = dueStep two st x := by rw [htake, List.foldl_append, hst]; rfl
      have base : ∀ (G₉ : PM) (dvs₉ : List Value) (qv : Value), Le G₈ G₉ → Rs (RT2 RN RN G₉) (dueStep two st x) dvs₉ →
          ∃ m', SubM m' [("start", sv), ("players", pv), ("lists", lv), ("cycle", cv), ("ones", onv), ("twos", twv), ("due", .ref da), ("k", .int (i : Nat) tk), ("j", xv), ("pair", qv)] ∧ ∃ σc, (⟨G₉, m', (ib, d) :: (ia, c) :: [(da, .lst dvs₉)], pl₂⟩ : Sta) = wi ib d σc ∧ Le G₈ σc.G ∧
            ∃ G' dvs', σc = wi ia c ⟨G', [("start", sv), ("players", pv), ("lists", lv), ("cycle", cv), ("ones", onv), ("twos", twv), ("due", .ref da), ("k", .int (i : Nat) tk)], [(da, .lst dvs')], pl₂⟩ ∧ Le G₇ G' ∧ Rs (RT2 RN RN G') (((gpSuccs L cyc i).take (j + 1)).foldl (dueStep two) acc) dvs' :=
        fun G₉ dvs₉ qv l₉ h₉ => ⟨[("start", sv), ("players", pv), ("lists", lv), ("cycle", cv), ("ones", onv), ("twos", twv), ("due", .ref da), ("k", .int (i : Nat) tk)], ⟨rfl, rfl, rfl, rfl, rfl, rfl, rfl, rfl, trivial⟩,
          wi ia c ⟨G₉, [("start", sv), ("players", pv), ("lists", lv), ("cycle", cv), ("ones", onv), ("twos", twv), ("due", .ref da), ("k", .int (i : Nat) tk)], [(da, .lst dvs₉)], pl₂⟩, rfl, l₉, G₉, dvs₉, rfl, l₈.trans l₉, hstep ▸ h₉⟩
      refine .tgt (.st ?_)
      refine .execs_cons (.asg (.tuple (.sp_cons (.calln (.built T Tb.min rfl (.calleeB (.sp_cons (.sub (.name rfl (.name rfl (.itemR (R := RN) ht₈.ls (k := i) ⟨tk, rfl⟩ e2 (by omega) fun u hu => .sp_cons (.name rfl (.sp_nil (.minN hu hxv fun mv hmv => ?_)) (.inl rfl))) (.inl rfl)) (.inl rfl))))))))))
      refine .sp_cons (.calln (.built T Tb.max rfl (.calleeB (.sp_cons (.sub (.name rfl (.name rfl (.itemR (R := RN) ht₈.ls (k := i) ⟨tk, rfl⟩ e2 (by omega) fun u hu => .sp_cons (.name rfl (.sp_nil (.maxN hu hxv fun Mv hMv => .sp_nil ⟨by simp, .inl fun qa G₉ l₉ hqa => .st ?_⟩)) (.inl rfl))) (.inl rfl)) (.inl rfl)))))))
      have hq : RT2 RN RN G₉ (pr two x) (.ref qa) := ⟨qa, _, _, rfl, hqa, hmv, hMv⟩
      have hd₉ := hd₈.mono hNN l₉
      refine .execs_cons (.weak (.ite (.tcmp (.name rfl (.name rfl (.ninR (R := RT2 RN RN) (xs := st) (k := 1) ⟨da, dvs₈, rfl, .inr (List.mem_cons_of_mem _ (List.mem_cons_of_mem _ (List.mem_cons_self ..))), hd₉⟩ (EqR.rt2 EqR.rn EqR.rn Uq.rn Uq.rn) (Uq.rt2 Uq.rn Uq.rn) hq (by show 1 + 2 ≤ 8 * (n + 3); omega) (.truthy_bool ?_)) (.inl rfl)) (.inl rfl)))))
      by_cases hm : pr two x ∈ st
      · refine ifB_f (by simp [hm]) (.execs_nil ?_)
        obtain ⟨m', sm, e'⟩ := base G₉ dvs₈ (.ref qa) l₉ (by unfold dueStep; rw [if_neg (fun h => h hm)]; exact hd₉)
        exact ⟨m', sm, .execs_nil (hP₂ _ _ _ _ _ _ e')⟩
      · refine ifB_t (by simp [hm]) (.execs_cons (.expr (.mAppend (.name rfl ⟨da, rfl, ⟨dvs₈, .inr (List.mem_cons_of_mem _ (List.mem_cons_of_mem _ (List.mem_cons_self ..)))⟩, .name rfl ⟨2, dvs₈, rfl, by rw [hd₉.length]; omega, .execs_nil ?_⟩ (.inl rfl)⟩ (.inl rfl)))))
        obtain ⟨m', sm, e'⟩ := base G₉ (dvs₈ ++ [.ref qa]) (.ref qa) l₉ (by unfold dueStep; rw [if_pos hm]; exact hd₉.append (.one hq))
        exact ⟨m', sm, .execs_nil (hP₂ _ _ _ _ _ _ e')⟩
    · rintro σ' _ ⟨G₈, dvs₈, rfl, l₈, hd₈⟩
      rw [List.take_length] at hd₈
      have hlen8 := dueFold_len two (gpSuccs L cyc i) acc
      refine .weak (.execs_nil ⟨[("start", sv), ("players", pv), ("lists", lv), ("cycle", cv), ("ones", onv), ("twos", twv), ("due", .ref da)], ⟨rfl, rfl, rfl, rfl, rfl, rfl, rfl, trivial⟩,
        hP₁ _ _ _ _ _ _ ⟨⟨G₈, [("start", sv), ("players", pv), ("lists", lv), ("cycle", cv), ("ones", onv), ("twos", twv), ("due", .ref da)], [(da, .lst dvs₈)], pl₂⟩, rfl, l₇.trans l₈, G₈, dvs₈, rfl, (l₆.trans l₇).trans l₈, hfold ▸ hd₈, ?_⟩⟩)
      rw [hfold]; omega
  · rintro σ' _ ⟨G₆, dvs, rfl, l₆, hd, hdl⟩
    rw [List.length_range] at hd hdl
    have hd : Rs (RT2 RN RN G₆) (dueAll L cyc) dvs := hd
    have hdl : (dueAll L cyc).length ≤ 6 * cyc.length := hdl
    have l₄₆ : Le G₄ G₆ := l₅.trans l₆
    have W₆ := W₄.mono l₄₆
    have hlv₆ := RL.mono (RL.mono RN.mono) _ _ _ _ l₄₆ hlv₄
    have hpv₆ := RL.mono RPl.mono _ _ _ _ ((l₁.trans l₁₄).trans l₄₆) hpv
    have hmap := gp_due L cyc
    have hgl : (gpAll L cyc).length = (dueAll L cyc).length := by rw [← hmap, List.length_map]
    refine .execs_cons (.asg (.gcall T Fgp (.sp_cons (.name rfl (.sp_nil ⟨n + 2, false, _, fun a F => sp_pairs T Tb F W₆ (RL.mono hRR _ _ _ _ l₄₆ hcv₄) (fun i => Nat.le_trans (hz i) (by decide)) (by omega) (fun i hi => (K.prev i hi).2.2.1), by show n + 2 ≤ n + 3; omega, fun h => (by cases h), ?_⟩) (.inl rfl)))))
    rintro gv G₇ pl₇ l₇ ⟨rfl, hgv⟩
    have W₇ := W₆.mono l₇
    refine .st (.execs_cons (.compY (R := RT2 (RPl N pas) (RPl N pas)) (R' := RT2 RN RN) hRR hNN [] [] (.name rfl ?_ (.inl rfl))))
    refine ⟨gpAll L cyc, fun p => some p, hgv.itb, by omega, trivial, fun C h p w G₈ hp hw l₈ => ?_, fun tv G₈ l₈ htv => ?_⟩
    · obtain ⟨ta, xv, yv, rfl, hta, ⟨hx, rfl⟩, ⟨hy, rfl⟩⟩ := hw
      have W₈ := W₇.mono l₈
      refine .asg2 hta (.tgt (.st (.tgt (.st (.tests_nil ⟨rfl, fun h => (by cases h), fun z hz => ?_⟩)))))
      cases hz
      refine .tuple (.sp_cons (.gnum T Tb Fn (by show 2 ≤ n + 3; omega) (.name rfl ⟨N, pas, L, M, p.1, W₈, hN, hx, rfl, fun w₁ G₉ l₉ h₁ => ?_⟩ (.inl rfl))))
      refine .sp_cons (.gnum T Tb Fn (by show 2 ≤ n + 3; omega) (.name rfl ⟨N, pas, L, M, p.2, W₈.mono l₉, hN, hy, rfl, fun w₂ G₁₀ l₁₀ h₂ => .sp_nil ⟨by simp, .inl fun qa G₁₁ l₁₁ hqa => ?_⟩⟩ (.inl rfl)))
      exact ⟨⟨qa, _, _, rfl, hqa, h₁, h₂⟩, rfl, (l₉.trans l₁₀).trans l₁₁⟩
    rw [fm_map, List.map_id'] at htv
    have hd₈ := hd.mono hNN (l₇.trans l₈)
    refine .execs_cons (.ite (.tor (.tcmp (.calln (.built T Tb.sorted rfl (.calleeB (.sp_cons (.compX (R := RT2 RN RN) (R' := RT2 RN RN) hNN hNN [] [] (.name rfl ?_ (.inl rfl))))))))))
    refine ⟨gpAll L cyc, fun p => some (pr p.1 p.2), htv.itb, by omega, trivial, fun C h p w G₉ hp hw l₉ => ?_, fun mv G₉ l₉ hmv => .sp_nil ?_⟩
    · obtain ⟨ta, xv, yv, rfl, hta, hx, hy⟩ := hw
      refine .tgt (.st (.tests_nil ⟨rfl, fun h => (by cases h), fun z hz => ?_⟩))
      cases hz
      refine .tuple (.sp_cons (.calln (.built T Tb.min rfl (.calleeB (.sp_cons (.name rfl (.sp_nil (.minT hta hx hy fun w₁ h₁ => ?_)) (.inl rfl)))))))
      exact .sp_cons (.calln (.built T Tb.max rfl (.calleeB (.sp_cons (.name rfl (.sp_nil (.maxT hta hx hy fun w₂ h₂ => .sp_nil ⟨by simp, .inl fun qa G₁₁ l₁₁ hqa => ⟨⟨qa, _, _, rfl, hqa, h₁, h₂⟩, rfl, l₁₁⟩⟩)) (.inl rfl))))))
    rw [fm_map, hmap] at hmv
    refine .sortedP hmv.ls (by omega) fun s1 G₁₀ l₁₀ hs1 => .calln (.built T Tb.sorted rfl (.calleeB (.sp_cons (.name rfl (.sp_nil (.sortedP (xs := dueAll L cyc) ⟨da, dvs, rfl, .inr (List.mem_cons_self ..), hd₈.mono hNN (l₉.trans l₁₀)⟩ (by omega) fun s2 G₁₁ l₁₁ hs2 => ?_)) (.inl rfl)))))
    refine .neLs (R := RT2 RN RN) (k := 1) (RL.mono hNN _ _ _ _ l₁₁ hs1).ls hs2.ls (EqR.rt2 EqR.rn EqR.rn Uq.rn Uq.rn) (by show 1 + 2 ≤ 8 * (n + 3); omega) (.truthy_bool (ifB_f (by simp) ?_))
    have l₈₁₁ : Le G₈ G₁₁ := (l₉.trans l₁₀).trans l₁₁
    refine .tor (.tcmp (.name rfl (.list (.sp_nil ⟨by simp, .inl fun ea G₁₂ l₁₂ hea => .eqLs (R := RT2 RN RN) (k := 1) (xs := dueAll L cyc) (ys := []) ⟨da, dvs, rfl, .inr (List.mem_cons_self ..), hd₈.mono hNN (l₈₁₁.trans l₁₂)⟩ ⟨ea, [], rfl, .inl hea, .nil⟩ (EqR.rt2 EqR.rn EqR.rn Uq.rn Uq.rn) (by show 1 + 2 ≤ 8 * (n + 3); omega) (.truthy_bool (ifB_f (by simp [K.due]) (.tor_nil (ifB_f rfl (.execs_nil ?_)))))⟩)) (.inl rfl)))
    have l₆₁₂ : Le G₆ G₁₂ := ((l₇.trans l₈).trans l₈₁₁).trans l₁₂
    have W₁₂ := W₆.mono l₆₁₂
    refine .execs_cons (.ite (.tcmp (.gcall T Fl (.sp_cons (.name rfl (.sp_nil ⟨n + 3, false, _, fun a F => sp_lists T Tb Fn F W₁₂ (RL.mono RPl.mono _ _ _ _ l₆₁₂ hpv₆) hN (fun i _ => Nat.le_trans (hz i) (by decide)), hn3, fun h => (by cases h), ?_⟩) (.inl rfl))))))
    rintro lv₂ G₁₃ pl₁₃ l₁₃ ⟨rfl, hlv₂⟩
    have W₁₃ := W₁₂.mono l₁₃
    have l₆₁₃ := l₆₁₂.trans l₁₃
    refine .name rfl (.neLs (R := RL RN) (k := 1) hlv₂.ls (RL.mono (RL.mono RN.mono) _ _ _ _ l₆₁₃ hlv₆).ls (EqR.rl EqR.rn Uq.rn) (by show 1 + 2 ≤ 8 * (n + 3); omega) (.truthy_bool (ifB_f (by simp) (.execs_nil ?_)))) (.inl rfl)
    -- the pairs go
    have hg₁₃ := RL.mono hRR _ _ _ _ (((l₈.trans l₈₁₁).trans l₁₂).trans l₁₃) hgv
    refine .execs_cons (.forZ (R := RT2 (RPl N pas) (RPl N pas)) hRR (.name rfl ?_ (.inl rfl)))
    refine ⟨gpAll L cyc, fun i σ' => ∃ G' pl', σ' = ⟨G', [("start", sv), ("players", pv), ("lists", lv), ("cycle", cv), ("ones", onv), ("twos", twv), ("due", .ref da), ("pairs", gv), ("told", tv)], [(da, .lst dvs)], pl'⟩ ∧ Le G₁₃ G' ∧ Pls G' pl' N pas (delAll L ((gpAll L cyc).take i)) M,
      hg₁₃.itb, by omega, ⟨G₁₃, _, rfl, Le.rfl, by simpa [delAll] using W₁₃⟩, ?_, ?_⟩
    · rintro P₃ hP₃ ia c i p w σ' hx ⟨ta, xv, yv, rfl, hta, ⟨hx1, rfl⟩, ⟨hx2, rfl⟩⟩ _ ⟨G₁₄, pl₁₄, rfl, l₁₄', W₁₄⟩
      have hlen : ∀ k, (delAll L ((gpAll L cyc).take i) k).length ≤ 6 := fun k => Nat.le_trans (delAll_le ..) (hz k)
      have hnext : delAll L ((gpAll L cyc).take (i + 1)) = del2 (delAll L ((gpAll L cyc).take i)) p.1 p.2 := by
        rw [List.take_add_one, hx, Option.toList]; unfold delAll; rw [List.foldl_append]; rfl
      generalize delAll L ((gpAll L cyc).take i) = L' at W₁₄ hlen hnext
      refine .asg2 hta (.tgt (.stC (.tgt (.stC ?_))))
      refine .execs_cons (.asgAttr (.compX (R := RPl N pas) (R' := RPl N pas) RPl.mono RPl.mono [("two", La + 2)] [("two", .ref (pas p.2))] (.attr (.name rfl (.prefsW T W₁₄ hx1 fun v hv => ?_) (.inr (.inl rfl))))))
      have h61 := hlen p.1
      refine ⟨L' p.1, fun x => if decide (x ≠ p.2) = true then some x else none, hv.itb, by omega, ⟨⟨rfl, ne_cell rfl, rfl, ne_cell rfl⟩, trivial⟩, fun C h y w G₁₅ hy hw l₁₅ => ?_, fun v₂ G₁₅ l₁₅ hv₂ => ?_⟩
      · obtain ⟨hyN, rfl⟩ := hw
        refine .tgt (.st (.tests_one (.tcmp (.name rfl (.name rfl (.neW T (W₁₄.mono l₁₅) hyN hx2 (by show 1 ≤ n + 3; omega) (.truthy_bool ?_)) (.inr (.inl rfl))) (.inl rfl)))))
        refine ⟨(ite_isSome _ _).symm, fun _ => ⟨rfl, Le.rfl⟩, fun z hz => .name rfl ⟨?_, rfl, Le.rfl⟩ (.inl rfl)⟩
        obtain ⟨_, rfl⟩ := ite_some hz
        exact ⟨hyN, rfl⟩
      rw [fm_filter] at hv₂
      refine .name rfl (.setPfW T (W₁₄.mono l₁₅) hx1 hv₂ rfl fun pl₁₅ W₁₅ => ?_) (.inr (.inl rfl))
      refine .execs_cons (.asgAttr (.compX (R := RPl N pas) (R' := RPl N pas) RPl.mono RPl.mono [("one", La + 1)] [("one", .ref (pas p.1))] (.attr (.name rfl (.prefsW T W₁₅ hx2 fun v₃ hv₃ => ?_) (.inr (.inl rfl))))))
      have h62 : (upd L' p.1 ((L' p.1).filter fun x => decide (x ≠ p.2)) p.2).length ≤ 6 := by
        unfold upd; split
        · exact Nat.le_trans (List.length_filter_le ..) h61
        · exact hlen _
      refine ⟨_, fun x => if decide (x ≠ p.1) = true then some x else none, hv₃.itb, by omega, ⟨⟨rfl, ne_cell rfl, rfl, ne_cell rfl⟩, trivial⟩, fun C h y w G₁₆ hy hw l₁₆ => ?_, fun v₄ G₁₆ l₁₆ hv₄ => ?_⟩
      · obtain ⟨hyN, rfl⟩ := hw
        refine .tgt (.st (.tests_one (.tcmp (.name rfl (.name rfl (.neW T (W₁₅.mono l₁₆) hyN hx1 (by show 1 ≤ n + 3; omega) (.truthy_bool ?_)) (.inr (.inl rfl))) (.inl rfl)))))
        refine ⟨(ite_isSome _ _).symm, fun _ => ⟨rfl, Le.rfl⟩, fun z hz => .name rfl ⟨?_, rfl, Le.rfl⟩ (.inl rfl)⟩
        obtain ⟨_, rfl⟩ := ite_some hz
        exact ⟨hyN, rfl⟩
      rw [fm_filter] at hv₄
      refine .name rfl (.setPfW T (W₁₅.mono l₁₆) hx2 hv₄ rfl fun pl₁₆ W₁₆ => ?_) (.inr (.inl rfl))
      refine .weak (.execs_nil ⟨[("start", sv), ("players", pv), ("lists", lv), ("cycle", cv), ("ones", onv), ("twos", twv), ("due", .ref da), ("pairs", gv), ("told", tv)], ⟨rfl, rfl, rfl, rfl, rfl, rfl, rfl, rfl, rfl, trivial⟩,
        hP₃ _ _ _ _ _ _ ⟨⟨G₁₆, [("start", sv), ("players", pv), ("lists", lv), ("cycle", cv), ("ones", onv), ("twos", twv), ("due", .ref da), ("pairs", gv), ("told", tv)], [(da, .lst dvs)], pl₁₆⟩, rfl, l₁₅.trans l₁₆, G₁₆, pl₁₆, rfl, (l₁₄'.trans l₁₅).trans l₁₆, ?_⟩⟩)
      rw [hnext]; exact W₁₆
    · rintro σ' _ ⟨G₁₄, pl₁₄, rfl, l₁₄', W₁₄⟩
      rw [List.take_length] at W₁₄
      exact .frz (i := 0) rfl fun G₁₅ l₁₅ hL => .execs_cons (.ret (.name rfl (hP _ _ ⟨idx, m, Wk, hcyc ▸ W₁₄.mono l₁₅, da, rfl⟩) (.inl rfl)))

end
end Mine

end
section
namespace Mine

/-- the lists as the law sees them -/
noncomputable def lsOf (N : Nat) (L : Nat → List Nat) : List (List Nat) := (List.range N).map L
noncomputable def sumL (N : Nat) (L : Nat → List Nat) : Nat := ((List.range N).map fun i => (L i).length).sum
noncomputable def mateRow (N : Nat) (L : Nat → List Nat) : List (Nat × Nat) := ((List.range N).filter fun k => decide (k < (L k).getD 0 0)).map fun k => (k, (L k).getD 0 0)

/-- the plain law: what the mathematics gives to the walk -/
structure Plain (os : List (List Nat)) (N : Nat) (Ph1 : (Nat → List Nat) → (Nat → Option Nat) → List Nat → Prop) (μ : (Nat → List Nat) → (Nat → Option Nat) → List Nat → Nat) (Ph2 : (Nat → List Nat) → Prop) : Prop where
  rows : os.length % 2 = 0 → ∀ row ∈ pairingsF os.length (List.range os.length), RowOk os.length os row
  init : Ph1 (fun i => os.getD i []) (fun _ => none) (List.range N)
  step : ∀ L M fr p, Ph1 L M (fr ++ [p]) → (∀ i, (L i).length ≤ 100) ∧ fr.length ≤ 100 ∧ ∃ f, FpOk Ph1 μ N L M fr p f
  first : ∀ L M, Ph1 L M [] → Ph2 L
  small : ∀ L, Ph2 L → ∀ i, (L i).length ≤ 6
  filt : ∀ L, Ph2 L → ∀ k, k < N → (os.getD k []).filter (fun j => decide (j ∈ L k)) = L k
  mutl : ∀ L, Ph2 L → ∀ k, k < N → ∀ j ∈ L k, j < N ∧ k ∈ L j
  sum : ∀ L, Ph2 L → sumL N L ≤ N * (N - 1)
  closed : ∀ L, Ph2 L → (∀ i, i < N → L i ≠ []) → ∀ p, p < N → 2 ≤ (L p).length → 2 ≤ (L p).length ∧ L (sec L p) ≠ [] ∧ nx L p < N ∧ 2 ≤ (L (nx L p)).length
  cyc : ∀ L, Ph2 L → (∀ i, i < N → L i ≠ []) → ∀ s, s < N → 2 ≤ (L s).length → ∀ idx m, Walk L s idx m → (∀ k, itr L s k < N ∧ 2 ≤ (L (itr L s k)).length) → CycOk N L (cycOf L s idx m)
  turn : ∀ L, Ph2 L → (∀ i, i < N → L i ≠ []) → ∀ s, s < N → 2 ≤ (L s).length → ∀ idx m, Walk L s idx m → Ph2 (delAll L (gpAll L (cycOf L s idx m))) ∧ sumL N (delAll L (gpAll L (cycOf L s idx m))) < sumL N L ∧
    (withinM (stableM os) (lsOf N L) ≠ [] → withinM (stableM os) (lsOf N (delAll L (gpAll L (cycOf L s idx m)))) ≠ [])
  ends : ∀ L, Ph2 L → (∀ i, i < N → L i ≠ []) → ∀ k, k < N → (L ((L k).getD 0 0)).getLast? = some k
  fin1 : ∀ L, Ph2 L → (∃ i, i < N ∧ L i = []) → stableM os = []
  fin2 : ∀ L, Ph2 L → (∀ i, i < N → (L i).length = 1) → mateRow N L ∈ stableM os
  rowsLt : ∀ row ∈ stableM os, row.length ≤ 6 ∧ ∀ p ∈ row, p.1 < N

structure Fns (gl : Gl) : Prop where
  ok : gl.Ok
  bi : Bi gl
  mkf : MkF gl
  pf : PlFns gl
  set : MFn gl "set_prefs" "BasePlayer.set_prefs" (methAt 8 5)
  player : nsIn gl.K mainGlobals "Player" = some (some (.ref gl.C))
  del : GFn gl "_delete_pair" (stmtAt 2)
  first : GFn gl "first_phase" (stmtAt 4)
  loc : GFn gl "locate_all_or_nothing_cycle" (stmtAt 5)
  gp : GFn gl "get_pairs_to_delete" (stmtAt 6)
  cell : GFn gl "_law_cell" (stmtAt 12)
  order : GFn gl "_law_order" (stmtAt 13)
  orders : GFn gl "_law_orders" (stmtAt 14)
  players : GFn gl "_law_players" (stmtAt 15)
  number : GFn gl "_law_number" (stmtAt 16)
  lists : GFn gl "_law_lists" (stmtAt 17)
  pairings : GFn gl "_law_pairings" (stmtAt 18)
  stable : GFn gl "_law_stable" (stmtAt 19)
  within : GFn gl "_law_within" (stmtAt 20)
  mutual_ : GFn gl "_law_mutual" (stmtAt 21)
  cycle : GFn gl "_law_cycle_right" (stmtAt 22)

theorem lsOf_get {N : Nat} {L : Nat → List Nat} {k : Nat} (h : k < N) : (lsOf N L)[k]? = some (L k) := by unfold lsOf; rw [List.getElem?_map, List.getElem?_range h]; rfl
theorem lsOf_getD {N : Nat} {L : Nat → List Nat} {k : Nat} (h : k < N) : (lsOf N L).getD k [] = L k := by rw [List.getD_eq_getElem?_getD, lsOf_get h]; rfl
theorem lsOf_getD_le {N : Nat} {L : Nat → List Nat} (h : ∀ i, (L i).length ≤ 6) (k : Nat) : ((lsOf N L).getD k []).length ≤ 6 := by
  by_cases hk : k < N
  · rw [lsOf_getD hk]; exact h k
  · rw [List.getD_eq_getElem?_getD, List.getElem?_eq_none (by simp [lsOf]; omega)]; simp
theorem lsOf_len (N : Nat) (L : Nat → List Nat) : (lsOf N L).length = N := by simp [lsOf]
theorem nil_mem_lsOf {N : Nat} {L : Nat → List Nat} : [] ∈ lsOf N L ↔ ∃ i, i < N ∧ L i = [] := by
  unfold lsOf
  rw [List.mem_map]
  constructor
  · rintro ⟨i, hi, e⟩; exact ⟨i, List.mem_range.mp hi, e⟩
  · rintro ⟨i, hi, e⟩; exact ⟨i, List.mem_range.mpr hi, e⟩

theorem Orders.small {N : Nat} {os : List (List Nat)} (O : Orders N os) (hN : N ≤ 6) (i : Nat) : (os.getD i []).length ≤ 6 := by
  rw [List.getD_eq_getElem?_getD]
  cases h : os[i]? with
  | none => simp
  | some o =>
    have := (O.perm i o h).length_eq
    have h2 : (othersOf N i).length ≤ N := by unfold othersOf; exact Nat.le_trans (List.length_filter_le ..) (by simp)
    show o.length ≤ 6
    omega
theorem Orders.mem {N : Nat} {os : List (List Nat)} (O : Orders N os) {i : Nat} (hi : i < N) {j : Nat} : j ∈ os.getD i [] ↔ j < N ∧ j ≠ i := by
  have hl := O.len
  have e : os[i]? = some os[i] := List.getElem?_eq_getElem (by omega)
  rw [List.getD_eq_getElem?_getD, e]
  show j ∈ os[i] ↔ _
  rw [(O.perm i _ e).mem_iff]
  unfold othersOf
  simp
theorem stableM_len {os : List (List Nat)} (h : os.length ≤ 6) : (stableM os).length ≤ 900 := by
  unfold stableM
  split
  · simp
  · refine Nat.le_trans (List.length_filter_le ..) ?_
    have := pairingsF_len os.length (List.range os.length) (by simp)
    exact Nat.le_trans this (Nat.le_trans (fct_mono (n := 6) (by simpa using h)) (by decide))

theorem TT.isRef {gl : Gl} {Φ : Fx} {σ : Sta} {a : Addr} {P : Value → Sta → Prop} (x : P (.bool false) σ) : TT gl Φ (compareOp .Is (.ref a) .none) σ P :=
  .calmE fun h g d tk os Q E S k => wpAny_is_other (by rfl) (by intro z; cases z) (k _ _ x)

section
variable {gl : Gl}

set_option maxHeartbeats 8000000 in
theorem law_body (X : Fns gl) {La a : Addr} {cdv : Value} {A : Around} {n : Nat} {G : PM} {h : Heap} {sv : Value} {ns : List Int} (hs : Scr gl sv ns)
    (hplain : ∀ N os, 2 ≤ N → N ≤ 6 → Orders N os → ∃ Ph1 μ Ph2, Plain os N Ph1 μ Ph2) :
    TT gl (fFx (envOfC "law" (scopeOf (stmtAt 23)) La a cdv) A (n + 10) true [] G h) (execs (bodyOf (stmtAt 23)) (envOfC "law" (scopeOf (stmtAt 23)) La a cdv)) ⟨G, [("script", sv)], [], []⟩ fun f _ => retV f = .bool true := by
  refine .nm ?_
  intro Φ
  have T := X.ok
  have Tb := X.bi
  refine .execs_cons (.asg (.binop (.intN (a := 2) fun tv h2 => .binop (.gcall T X.cell (.sp_cons (.name rfl (.sp_cons (.intN (a := 0) fun zv hz => .sp_nil ⟨n + 10, false, _, fun a F => sp_cell (n := n + 9) T Tb F hs hz, Nat.le_refl _, fun h => (by cases h), ?_⟩)) (.inl rfl)))))))
  rintro cv G₁ pl₁ l₁ ⟨rfl, hcv⟩
  refine .intN (a := 5) fun fv h5 => .modN hcv h5 (by omega) fun mv hm => .addN h2 hm fun Nv hN => .st ?_
  generalize hNd : 2 + cellM ns 0 % 5 = N at hN
  have hN2 : 2 ≤ N := by omega
  have hN6 : N ≤ 6 := by have := Nat.mod_lt (cellM ns 0) (show 0 < 5 by omega); omega
  refine .execs_cons (.asg (.gcall T X.orders (.sp_cons (.name rfl (.sp_cons (.name rfl (.sp_nil ⟨n + 10, false, _, fun a F => sp_orders (n := n + 8) T Tb X.order X.cell F hs hN (by omega), Nat.le_refl _, fun h => (by cases h), ?_⟩) (.inl rfl))) (.inl rfl)))))
  rintro ov G₂ pl₂ l₂ ⟨rfl, os, O, hov⟩
  obtain ⟨Ph1, μ, Ph2, P⟩ := hplain N os hN2 hN6 O
  have hlen := O.len
  have hsm := O.small hN6
  refine .st (.execs_cons (.asg (.gcall T X.stable (.sp_cons (.name rfl (.sp_nil ⟨n + 9, false, _, fun a F => sp_stable (n := n) T Tb X.pairings F hov (by omega) hsm P.rows (fun i hi j hj => ?_), by show n + 9 ≤ n + 10; omega, fun h => (by cases h), ?_⟩) (.inl rfl))))))
  · have := (O.mem (by omega)).mp hj
    exact ⟨by omega, (O.mem (by omega)).mpr ⟨by omega, Ne.symm this.2⟩⟩
  rintro stv G₃ pl₃ l₃ ⟨rfl, hst⟩
  have hov₃ := RL.mono (RL.mono RN.mono) _ _ _ _ l₃ hov
  refine .st (.execs_cons (.asg (.gcall T X.players (.sp_cons (.name rfl (.sp_nil ⟨n + 10, true, _, fun a F => sp_players (n := n + 6) T Tb X.mkf X.set X.player F hov₃ (by omega) hsm (fun i hi j hj => ?_), Nat.le_refl _, fun _ => rfl, ?_⟩) (.inl rfl))))))
  · have := (O.mem (by omega)).mp hj
    omega
  rintro pv G₄ pl₄ l₄ ⟨pas, W₄, hpv⟩
  rw [hlen] at W₄ hpv
  refine .st (.execs_cons (.expr (.gcall T X.first (.sp_cons (.name rfl (.sp_nil ⟨n + 10, true, _, fun a F => sp_first (n := n + 6) T X.pf X.del F (Inv := Ph1) (μ := μ) P.step W₄ hpv hN6 P.init, Nat.le_refl _, fun _ => rfl, ?_⟩) (.inl rfl))))))
  rintro fv2 G₅ pl₅ l₅ ⟨L, M, hph, W₅⟩
  have hph2 := P.first L M hph
  have hpv₅ := RL.mono RPl.mono _ _ _ _ l₅ hpv
  refine .execs_cons (.asg (.gcall T X.lists (.sp_cons (.name rfl (.sp_nil ⟨n + 10, false, _, fun a F => sp_lists (n := n + 7) T Tb X.number F W₅ hpv₅ hN6 (fun i _ => Nat.le_trans (P.small L hph2 i) (by decide)), Nat.le_refl _, fun h => (by cases h), ?_⟩) (.inl rfl)))))
  rintro lv G₆ pl₆ l₆ ⟨rfl, hlv⟩
  have l₃₆ := (l₄.trans l₅).trans l₆
  refine .stC ?_
  obtain ⟨tN, rfl⟩ := hN
  have hsum0 := P.sum L hph2
  have W₆ := W₅.mono l₆
  clear hcv h2 h5 hm
  refine .execs_cons ((TT.mono (P := fun f σ' => f = .next ∧ ∃ G' L lv, Le G₆ G' ∧ σ'.G = G' ∧ σ'.m.lookup ("count" : Str) = some (.int (N : Nat) tN) ∧ σ'.m.lookup ("stable" : Str) = some stv ∧ σ'.m.lookup ("lists" : Str) = some lv ∧ RL (RL RN) G' (lsOf N L) lv ∧ Ph2 L ∧
      ((∃ i, i < N ∧ L i = []) ∨ ∀ i, i < N → (L i).length = 1)) ?_ ?_))
  · refine .forZ (R := RN) RN.mono (.calln (.built T Tb.range rfl (.calleeT (.sp_cons (.binop (.name rfl (.name rfl (.mulI (.of_left (intBits_le_64 (by omega) (by omega))) fun t => .sp_nil ?_) (.inl rfl)) (.inl rfl)))))))
    rw [← Int.natCast_mul]
    refine .range fun r G₇ l₇ hr => ?_
    refine ⟨List.range (N * N), fun i σ' => ∃ G' pl' L lv, σ' = ⟨G', [("script", sv), ("count", .int (N : Nat) tN), ("orders", ov), ("stable", stv), ("players", pv), ("lists", lv)], [], pl'⟩ ∧ Le G₇ G' ∧ Pls G' pl' N pas L M ∧ Ph2 L ∧ RL (RL RN) G' (lsOf N L) lv ∧ sumL N L + i ≤ N * (N - 1),
      hr.itb, by have : N * N ≤ 6 * 6 := Nat.mul_le_mul hN6 hN6; simp; omega, ⟨G₇, _, L, lv, rfl, Le.rfl, W₆.mono l₇, hph2, RL.mono (RL.mono RN.mono) _ _ _ _ l₇ hlv, by omega⟩, ?_, ?_⟩
    · rintro P₁ hP₁ ia c i k kv σ' hx hkv _ ⟨G₈, pl₈, L, lv, rfl, l₈, W, hp2, hlv, hsum⟩
      obtain ⟨hkl, hke⟩ := List.getElem?_eq_some_iff.mp hx
      rw [List.getElem_range] at hke
      subst hke
      have l₆₈ := l₇.trans l₈
      have hsmall := P.small L hp2
      have hst₈ := RL.mono (RL.mono (RT2.mono RN.mono RN.mono)) _ _ _ _ (l₃₆.trans l₆₈) hst
      have hpv₈ := RL.mono RPl.mono _ _ _ _ ((l₅.trans l₆).trans l₆₈) hpv
      have hov₈ := RL.mono (RL.mono RN.mono) _ _ _ _ (l₃₆.trans l₆₈) hov₃
      refine .tgt (.st ?_)
      refine .execs_cons (.compY (R := RN) (R' := RN) RN.mono RN.mono [("lists", La + 1)] [("lists", lv)] (.calln (.built T Tb.range rfl (.calleeT (.sp_cons (.name rfl (.sp_nil (.range fun r₂ G₉ l₉ hr₂ => ?_)) (.inl rfl)))))))
      refine ⟨List.range N, fun k => if decide ((L k).length > 1) = true then some k else none, hr₂.itb, by simp; omega, ⟨⟨rfl, ne_cell rfl, rfl, ne_cell rfl⟩, trivial⟩, fun C h q w G₁₀ hq hw l₁₀ => ?_, fun longv G₁₀ l₁₀ hlong => ?_⟩
      · have hqN := List.mem_range.mp hq
        have h6 := hsmall q
        refine .tgt (.st (.tests_one (.tcmp (.calln (.built T Tb.len rfl (.calleeB (.sp_cons (.sub (.name rfl (.name rfl (.itemR (R := RL RN) (RL.mono (RL.mono RN.mono) _ _ _ _ (l₉.trans l₁₀) hlv).ls hw (lsOf_get hqN) (by omega) fun u hu => .sp_nil (.lenR hu.ls (by omega) fun v1 h1 => .intN (a := 1) fun v2 h2 => .gtN h1 h2 (.truthy_bool ?_))) (.inl rfl)) (.inr (.inl rfl)))))))))))
        refine ⟨(ite_isSome _ _).symm, fun _ => ⟨rfl, Le.rfl⟩, fun y hy => .name rfl ⟨?_, rfl, Le.rfl⟩ (.inl rfl)⟩
        obtain ⟨_, rfl⟩ := ite_some hy
        exact hw
      rw [fm_filter] at hlong
      generalize hlg : ((List.range N).filter fun k => decide ((L k).length > 1)) = lg at hlong
      have hlgm : ∀ k, k ∈ lg ↔ k < N ∧ (L k).length > 1 := fun k => by rw [← hlg]; simp
      have l₈₁₀ := l₉.trans l₁₀
      have hlv₁₀ := RL.mono (RL.mono RN.mono) _ _ _ _ l₈₁₀ hlv
      have exit : ∀ (σ' : Sta) G', σ' = wi ia c ⟨G', [("script", sv), ("count", .int (N : Nat) tN), ("orders", ov), ("stable", stv), ("players", pv), ("lists", lv), ("turn", kv), ("long", longv)], [], pl₈⟩ → Le G₁₀ G' → ((∃ i, i < N ∧ L i = []) ∨ ∀ i, i < N → (L i).length = 1) →
          ∃ G' L lv, Le G₆ G' ∧ σ'.G = G' ∧ σ'.m.lookup ("count" : Str) = some (.int (N : Nat) tN) ∧ σ'.m.lookup ("stable" : Str) = some stv ∧ σ'.m.lookup ("lists" : Str) = some lv ∧ RL (RL RN) G' (lsOf N L) lv ∧ Ph2 L ∧ ((∃ i, i < N ∧ L i = []) ∨ ∀ i, i < N → (L i).length = 1) := by
        rintro σ' G' rfl l hor
        exact ⟨G', L, lv, (l₆₈.trans l₈₁₀).trans l, rfl, rfl, rfl, rfl, RL.mono (RL.mono RN.mono) _ _ _ _ l hlv₁₀, hp2, hor⟩
      refine .execs_cons (.ite (.tor (.tcmp (.name rfl (.list (.sp_nil ⟨by simp, .inl fun ea G₁₁ l₁₁ hea => .eqLs (R := RN) (k := 0) (ys := []) (RL.mono RN.mono _ _ _ _ l₁₁ hlong).ls ⟨ea, [], rfl, .inl hea, .nil⟩ EqR.rn (by show 0 + 2 ≤ 8 * (n + 10); omega) (.truthy_bool ?_)⟩)) (.inl rfl)))))
      by_cases hle : lg = []
      · refine ifB_t (by simp [hle]) (ifB_t rfl (.execs_cons (.brk (hP₁ _ _ _ _ _ _ ⟨rfl, exit _ G₁₁ rfl l₁₁ ?_⟩))))
        by_cases he : ∃ i, i < N ∧ L i = []
        · exact .inl he
        · refine .inr fun i hi => ?_
          have h1 : L i ≠ [] := fun e => he ⟨i, hi, e⟩
          have h2 : ¬ (L i).length > 1 := fun h => by have := (hlgm i).mpr ⟨hi, h⟩; rw [hle] at this; cases this
          have := List.length_pos_iff.mpr h1
          omega
      refine ifB_f (by simp [hle]) ?_
      have hlv₁₁ := RL.mono (RL.mono RN.mono) _ _ _ _ l₁₁ hlv₁₀
      refine .tor (.tcmp (.list (.sp_nil ⟨by simp, .inl fun ea₂ G₁₂ l₁₂ hea₂ => .name rfl (.inR (R := RL RN) (k := 1) (RL.mono (RL.mono RN.mono) _ _ _ _ l₁₂ hlv₁₁).ls (EqR.rl EqR.rn Uq.rn) (Uq.rl Uq.rn) (y := []) ⟨ea₂, [], rfl, hea₂, .nil⟩ (by show 1 + 2 ≤ 8 * (n + 10); omega) (.truthy_bool ?_)) (.inr (.inl rfl))⟩)))
      by_cases hem : [] ∈ lsOf N L
      · exact ifB_t (by simp [hem]) (ifB_t rfl (.execs_cons (.brk (hP₁ _ _ _ _ _ _ ⟨rfl, exit _ G₁₂ rfl (l₁₁.trans l₁₂) (.inl (nil_mem_lsOf.mp hem))⟩))))
      refine ifB_f (by simp [hem]) (.tor_nil (ifB_f rfl (.execs_nil ?_)))
      have hall : ∀ i, i < N → L i ≠ [] := fun i hi e => hem (nil_mem_lsOf.mpr ⟨i, hi, e⟩)
      have l₁₀₁₂ := l₁₁.trans l₁₂
      have l₈₁₂ := l₈₁₀.trans l₁₀₁₂
      have W₁₂ := W.mono l₈₁₂
      have hpv₁₂ := RL.mono RPl.mono _ _ _ _ l₈₁₂ hpv₈
      have hlong₁₂ := RL.mono RN.mono _ _ _ _ l₁₀₁₂ hlong
      have hlv₁₂ := RL.mono (RL.mono RN.mono) _ _ _ _ l₁₂ hlv₁₁
      have hlgl : lg.length ≤ 6 := by
        rw [← hlg]; exact Nat.le_trans (List.length_filter_le ..) (by simpa using hN6)
      have hlg0 : 0 < lg.length := List.length_pos_iff.mpr hle
      -- the cycle
      refine .execs_cons (.ite (.tcmp (.gcall T X.cycle (.sp_cons (.name rfl ?_ (.inl rfl))))))
      refine .sp_cons (.sub (.name rfl (.binop (.gcall T X.cell (.sp_cons (.name rfl ?_ (.inl rfl))))) (.inl rfl)))
      refine .sp_cons (.binop (.intN (a := 8) fun v8 h8 => .binop (.name rfl (.intN (a := 20) fun v20 h20 => .modN hkv h20 (by omega) fun tm htm => .addN h8 htm fun ka hka => .sp_nil ?_) (.inl rfl))))
      refine ⟨n + 10, false, _, fun a F => sp_cell (n := n + 9) T Tb F hs hka, Nat.le_refl _, fun h => (by cases h), ?_⟩
      rintro cv₂ G₁₃ pl₁₃ l₁₃ ⟨rfl, hcv₂⟩
      refine .calln (.built T Tb.len rfl (.calleeB (.sp_cons (.name rfl (.sp_nil (.lenR (RL.mono RN.mono _ _ _ _ l₁₃ hlong₁₂).ls (by omega) fun lnv hlnv => .modN hcv₂ hlnv (by omega) fun iv hiv => ?_)) (.inl rfl)))))
      generalize cellM ns (8 + i % 20) = cc at hiv
      have hilt : cc % lg.length < lg.length := Nat.mod_lt _ hlg0
      refine .itemR (R := RN) (RL.mono RN.mono _ _ _ _ l₁₃ hlong₁₂).ls hiv (List.getElem?_eq_getElem hilt) (by omega) fun stv' hstart => .sp_nil ?_
      obtain ⟨hsN, hs2⟩ := (hlgm _).mp (List.getElem_mem hilt)
      generalize lg[cc % lg.length] = start at hstart hsN hs2
      have W₁₃ := W₁₂.mono l₁₃
      refine ⟨n + 10, true, _, fun a F => sp_cycle (n := n + 6) T Tb X.number X.lists X.loc X.gp F W₁₃ (RL.mono RPl.mono _ _ _ _ l₁₃ hpv₁₂) hstart hsN hN6 hsmall (fun p => 2 ≤ (L p).length) (P.closed L hp2 hall) hs2 (P.cyc L hp2 hall start hsN hs2), Nat.le_refl _, fun _ => rfl, ?_⟩
      rintro rv G₁₄ pl₁₄ l₁₄ ⟨idx, mm, Wk, W₁₄, xa, rfl⟩
      obtain ⟨hp2', hsum', hwith⟩ := P.turn L hp2 hall start hsN hs2 idx mm Wk
      generalize hL' : delAll L (gpAll L (cycOf L start idx mm)) = L' at W₁₄ hp2' hsum' hwith
      have hsmall' := P.small L' hp2'
      refine .nonev (.isRef (.truthy_bool (ifB_f rfl (.execs_nil ?_))))
      have l₈₁₄ := (l₈₁₂.trans l₁₃).trans l₁₄
      -- fresh
      refine .execs_cons (.asg (.gcall T X.lists (.sp_cons (.name rfl (.sp_nil ⟨n + 10, false, _, fun a F => sp_lists (n := n + 7) T Tb X.number F W₁₄ (RL.mono RPl.mono _ _ _ _ l₈₁₄ hpv₈) hN6 (fun i _ => Nat.le_trans (hsmall' i) (by decide)), Nat.le_refl _, fun h => (by cases h), ?_⟩) (.inl rfl)))))
      rintro frv G₁₅ pl₁₅ l₁₅ ⟨rfl, hfr⟩
      have hfr : RL (RL RN) G₁₅ (lsOf N L') frv := hfr
      have l₈₁₅ := l₈₁₄.trans l₁₅
      have W₁₅ := W₁₄.mono l₁₅
      refine .st (.execs_cons (.ite (.tnot (.tplain (.gcall T X.mutual_ (.sp_cons (.name rfl (.sp_cons (.name rfl (.sp_nil ⟨n + 10, false, _, fun a F => sp_mutual (n := n + 8) T Tb F (RL.mono (RL.mono RN.mono) _ _ _ _ l₈₁₅ hov₈) hfr (by rw [lsOf_len]; omega) (by omega) (fun i => Nat.le_trans (hsm i) (by decide)) (fun i => Nat.le_trans (lsOf_getD_le hsmall' i) (by decide)) (fun k hk => ?_) (fun k hk j hj => ?_), Nat.le_refl _, fun h => (by cases h), ?_⟩) (.inl rfl))) (.inl rfl))))))))
      · rw [lsOf_len] at hk
        rw [lsOf_getD hk]; exact P.filt L' hp2' k hk
      · rw [lsOf_len] at hk
        rw [lsOf_getD hk] at hj
        obtain ⟨q1, q2⟩ := P.mutl L' hp2' k hk j hj
        rw [lsOf_len, lsOf_getD q1]
        exact ⟨q1, q2⟩
      rintro bv G₁₆ pl₁₆ l₁₆ ⟨rfl, rfl⟩
      refine .truthy_bool (ifB_f rfl (.execs_nil ?_))
      have l₈₁₆ := l₈₁₅.trans l₁₆
      have hst₁₆ := RL.mono (RL.mono (RT2.mono RN.mono RN.mono)) _ _ _ _ l₈₁₆ hst₈
      have hfr₁₆ := RL.mono (RL.mono RN.mono) _ _ _ _ l₁₆ hfr
      have hlv₁₆ := RL.mono (RL.mono RN.mono) _ _ _ _ l₈₁₆ hlv
      have hEq : ∀ {σ : Sta} {Φ : Fx}, EqR gl Φ σ (RL (RT2 RN RN)) 2 := EqR.rl (EqR.rt2 EqR.rn EqR.rn Uq.rn Uq.rn) (Uq.rt2 Uq.rn Uq.rn)
      have wOk : ∀ {G₂₀ : PM} {pl₂₀ : List Pl} {vst vl : Value} {L₂ : Nat → List Nat} (hst : RL (RL (RT2 RN RN)) G₂₀ (stableM os) vst) (hl : RL (RL RN) G₂₀ (lsOf N L₂) vl) (h6 : ∀ i, (L₂ i).length ≤ 6) (a : Addr) (F : FnK gl a "_law_within" (stmtAt 20)),
          CallP gl (n + 10) false (.ref a) [vst, vl] G₂₀ pl₂₀ fun G' pl' w => pl' = pl₂₀ ∧ RL (RL (RT2 RN RN)) G' (withinM (stableM os) (lsOf N L₂)) w := fun hst hl h6 a F =>
        sp_within (n := n + 8) T Tb F hst hl (stableM_len (by omega)) (fun row hr => Nat.le_trans (P.rowsLt row hr).1 (by decide)) (fun i => Nat.le_trans (lsOf_getD_le h6 i) (by decide)) (fun row hr p hp => by rw [lsOf_len]; exact (P.rowsLt row hr).2 p hp) (by rw [lsOf_len]; omega)
      refine .execs_cons (TT.mono (P := fun f σ' => f = .next ∧ ∃ G₂₀, Le G₁₆ G₂₀ ∧ σ' = wi ia c ⟨G₂₀, [("script", sv), ("count", .int (N : Nat) tN), ("orders", ov), ("stable", stv), ("players", pv), ("lists", lv), ("turn", kv), ("long", longv), ("fresh", frv)], [], pl₁₆⟩) (.abs fun P₃ hP₃ => .ite ?_) ?_)
      · refine .tand (.tcmp (.gcall T X.within (.sp_cons (.name rfl (.sp_cons (.name rfl (.sp_nil ⟨n + 10, false, _, fun a F => wOk hst₁₆ hlv₁₆ hsmall a F, Nat.le_refl _, fun h => (by cases h), ?_⟩) (.inr (.inl rfl)))) (.inl rfl)))))
        rintro w1 G₁₇ pl₁₇ l₁₇ ⟨rfl, hw1⟩
        refine .list (.sp_nil ⟨by simp, .inl fun ea G₁₈ l₁₈ hea => .neLs (R := RL (RT2 RN RN)) (k := 2) (ys := []) (RL.mono (RL.mono (RT2.mono RN.mono RN.mono)) _ _ _ _ l₁₈ hw1).ls ⟨ea, [], rfl, .inl hea, .nil⟩ hEq (by show 2 + 2 ≤ 8 * (n + 10); omega) (.truthy_bool ?_)⟩)
        have l₁₆₁₈ := l₁₇.trans l₁₈
        by_cases hw : withinM (stableM os) (lsOf N L) = []
        · exact ifB_f (by simp [hw]) (ifB_f rfl (.execs_nil (hP₃ _ _ ⟨rfl, G₁₈, l₁₆₁₈, rfl⟩)))
        · refine ifB_t (by simp [hw]) ?_
          refine .tand (.tcmp (.gcall T X.within (.sp_cons (.name rfl (.sp_cons (.name rfl (.sp_nil ⟨n + 10, false, _, fun a F => wOk (RL.mono (RL.mono (RT2.mono RN.mono RN.mono)) _ _ _ _ l₁₆₁₈ hst₁₆) (RL.mono (RL.mono RN.mono) _ _ _ _ l₁₆₁₈ hfr₁₆) hsmall' a F, Nat.le_refl _, fun h => (by cases h), ?_⟩) (.inl rfl))) (.inl rfl)))))
          rintro w2 G₁₉ pl₁₉ l₁₉ ⟨rfl, hw2⟩
          refine .list (.sp_nil ⟨by simp, .inl fun ea G₂₀ l₂₀ hea => .eqLs (R := RL (RT2 RN RN)) (k := 2) (ys := []) (RL.mono (RL.mono (RT2.mono RN.mono RN.mono)) _ _ _ _ l₂₀ hw2).ls ⟨ea, [], rfl, .inl hea, .nil⟩ hEq (by show 2 + 2 ≤ 8 * (n + 10); omega) (.truthy_bool ?_)⟩)
          exact ifB_f (by simp [hwith hw]) (ifB_f rfl (.execs_nil (hP₃ _ _ ⟨rfl, G₂₀, (l₁₆₁₈.trans l₁₉).trans l₂₀, rfl⟩)))
      · rintro f σ' ⟨rfl, G₂₀, l₂₀, rfl⟩
        show TT gl _ _ _ _
        have l₁₅₂₀ := l₁₆.trans l₂₀
        have hfr₂₀ := RL.mono (RL.mono RN.mono) _ _ _ _ l₁₅₂₀ hfr
        have W₂₀ := W₁₅.mono l₁₅₂₀
        have l₈₂₀ := l₈₁₅.trans l₁₅₂₀
        refine .execs_cons (.asg (.name rfl (.stC ?_) (.inl rfl)))
        have fin : ∀ G', Le G₂₀ G' → ∃ σc, (wi ia c ⟨G', [("script", sv), ("count", .int (N : Nat) tN), ("orders", ov), ("stable", stv), ("players", pv), ("lists", frv)], [], pl₁₆⟩ : Sta) = wi ia c σc ∧ Le G₈ σc.G ∧
            ∃ G' pl' L lv, σc = ⟨G', [("script", sv), ("count", .int (N : Nat) tN), ("orders", ov), ("stable", stv), ("players", pv), ("lists", lv)], [], pl'⟩ ∧ Le G₇ G' ∧ Pls G' pl' N pas L M ∧ Ph2 L ∧ RL (RL RN) G' (lsOf N L) lv ∧ sumL N L + (i + 1) ≤ N * (N - 1) := fun G' l =>
          ⟨_, rfl, l₈₂₀.trans l, G', _, L', frv, rfl, l₈.trans (l₈₂₀.trans l), W₂₀.mono l, hp2', RL.mono (RL.mono RN.mono) _ _ _ _ l hfr₂₀, by omega⟩
        refine .execs_cons (.weak (.ite (.tcmp (.list (.sp_nil ⟨by simp, .inl fun ea G₂₁ l₂₁ hea => .name rfl (.ninR (R := RL RN) (k := 1) (RL.mono (RL.mono RN.mono) _ _ _ _ l₂₁ hfr₂₀).ls (EqR.rl EqR.rn Uq.rn) (Uq.rl Uq.rn) (y := []) ⟨ea, [], rfl, hea, .nil⟩ (by show 1 + 2 ≤ 8 * (n + 10); omega) (.truthy_bool ?_)) (.inr (.inl rfl))⟩)))))
        by_cases hem' : [] ∈ lsOf N L'
        · refine ifB_f (by simp [hem']) (.execs_nil ?_)
          exact ⟨[("script", sv), ("count", .int (N : Nat) tN), ("orders", ov), ("stable", stv), ("players", pv), ("lists", frv)], ⟨rfl, rfl, rfl, rfl, rfl, rfl, trivial⟩, .execs_nil (hP₁ _ _ _ _ _ _ (fin G₂₁ l₂₁))⟩
        · refine ifB_t (by simp [hem']) ?_
          have hall' : ∀ i, i < N → L' i ≠ [] := fun i hi e => hem' (nil_mem_lsOf.mpr ⟨i, hi, e⟩)
          refine .few [("script", sv), ("count", .int (N : Nat) tN), ("orders", ov), ("stable", stv), ("players", pv), ("lists", frv)] ⟨rfl, rfl, rfl, rfl, rfl, rfl, trivial⟩ ?_
          refine .execs_cons (.forZ (R := RN) RN.mono (.calln (.built T Tb.range rfl (.calleeT (.sp_cons (.name rfl (.sp_nil (.range fun r₃ G₂₂ l₂₂ hr₃ => ?_)) (.inl rfl)))))))
          refine ⟨List.range N, fun j σ' => ∃ G', σ' = wi ia c ⟨G', [("script", sv), ("count", .int (N : Nat) tN), ("orders", ov), ("stable", stv), ("players", pv), ("lists", frv)], [], pl₁₆⟩ ∧ Le G₂₂ G', hr₃.itb, by simp; omega, ⟨G₂₂, rfl, Le.rfl⟩, ?_, ?_⟩
          · rintro P₂ hP₂ ib d j q w σ' hq hw _ ⟨G₂₃, rfl, l₂₃⟩
            have hqN : q < N := by
              obtain ⟨e1, e2⟩ := List.getElem?_eq_some_iff.mp hq
              rw [List.getElem_range] at e2; subst e2; simpa using e1
            have hends := P.ends L' hp2' hall' q hqN
            have hf0 : (L' q)[0]? = some ((L' q).getD 0 0) := by
              cases hLq : L' q with
              | nil => exact absurd hLq (hall' q hqN)
              | cons a r => rfl
            have hfN : (L' q).getD 0 0 < N := (P.mutl L' hp2' q hqN _ (List.mem_of_getElem? hf0)).1
            have hfr₂₃ := RL.mono (RL.mono RN.mono) _ _ _ _ ((l₂₁.trans l₂₂).trans l₂₃) hfr₂₀
            refine .tgt (.st (.execs_cons (.ite (.tcmp (.sub (.sub (.name rfl (.sub (.sub (.name rfl (.name rfl (.itemR (R := RL RN) hfr₂₃.ls hw (lsOf_get hqN) (by omega) fun u hu => .intN (a := 0) fun zv hz => .itemR (R := RN) hu.ls hz hf0 (by omega) fun u2 hu2 => .itemR (R := RL RN) hfr₂₃.ls hu2 (lsOf_get hfN) (by omega) fun u3 hu3 => .unary (.int fun t => .neg fun t => .lastR (R := RN) hu3.ls hends fun u4 hu4 => ?_)) (.inl rfl)) (.inr (.inl rfl))))) (.inr (.inl rfl)))))))))
            refine .name rfl (.neN hu4 hw (.truthy_bool (ifB_f (by simp) (.weak (.execs_nil ?_))))) (.inl rfl)
            exact ⟨[("script", sv), ("count", .int (N : Nat) tN), ("orders", ov), ("stable", stv), ("players", pv), ("lists", frv)], ⟨rfl, rfl, rfl, rfl, rfl, rfl, trivial⟩, .execs_nil (hP₂ _ _ _ _ _ _ ⟨wi ia c ⟨G₂₃, _, [], pl₁₆⟩, rfl, Le.rfl, G₂₃, rfl, l₂₃⟩)⟩
          · rintro σ' _ ⟨G₂₃, rfl, l₂₃⟩
            exact .execs_nil ⟨[("script", sv), ("count", .int (N : Nat) tN), ("orders", ov), ("stable", stv), ("players", pv), ("lists", frv)], ⟨rfl, rfl, rfl, rfl, rfl, rfl, trivial⟩, .execs_nil (hP₁ _ _ _ _ _ _ (fin G₂₃ ((l₂₁.trans l₂₂).trans l₂₃)))⟩
    · rintro σ' _ ⟨G₈, pl₈, L, lv, rfl, l₈, W, hp2, hlv, hsum⟩
      exfalso
      rw [List.length_range] at hsum
      have : N * (N - 1) < N * N := Nat.mul_lt_mul_of_pos_left (by omega) (by omega)
      omega
  · rintro f σ' ⟨rfl, G', L, lv, l, rfl, m1, m2, m3, hlv, hp2, hor⟩
    show TT gl _ _ _ _
    refine .few [("count", .int (N : Nat) tN), ("stable", stv), ("lists", lv)] ⟨m1, m2, m3, trivial⟩ ?_
    have hst' := RL.mono (RL.mono (RT2.mono RN.mono RN.mono)) _ _ _ _ (l₃₆.trans l) hst
    have hEq : ∀ {σ : Sta} {Φ : Fx}, EqR gl Φ σ (RL (RT2 RN RN)) 2 := EqR.rl (EqR.rt2 EqR.rn EqR.rn Uq.rn Uq.rn) (Uq.rt2 Uq.rn Uq.rn)
    refine .execs_cons (.ite (.tcmp (.list (.sp_nil ⟨by simp, .inl fun ea G₂₁ l₂₁ hea => .name rfl (.inR (R := RL RN) (k := 1) (RL.mono (RL.mono RN.mono) _ _ _ _ l₂₁ hlv).ls (EqR.rl EqR.rn Uq.rn) (Uq.rl Uq.rn) (y := []) ⟨ea, [], rfl, hea, .nil⟩ (by show 1 + 2 ≤ 8 * (n + 10); omega) (.truthy_bool ?_)) (.inr (.inl rfl))⟩))))
    have hst₂₁ := RL.mono (RL.mono (RT2.mono RN.mono RN.mono)) _ _ _ _ l₂₁ hst'
    have hlv₂₁ := RL.mono (RL.mono RN.mono) _ _ _ _ l₂₁ hlv
    by_cases hem : [] ∈ lsOf N L
    · refine ifB_t (by simp [hem]) ?_
      have h0 := P.fin1 L hp2 (nil_mem_lsOf.mp hem)
      refine .execs_cons (.ret (.cmp (.name rfl (.list (.sp_nil ⟨by simp, .inl fun ea G₂₂ l₂₂ hea => .eqLs (R := RL (RT2 RN RN)) (k := 2) (ys := []) (RL.mono (RL.mono (RT2.mono RN.mono RN.mono)) _ _ _ _ l₂₂ hst₂₁).ls ⟨ea, [], rfl, .inl hea, .nil⟩ hEq (by show 2 + 2 ≤ 8 * (n + 10); omega) ?_⟩)) (.inl rfl))))
      show Value.bool (decide (stableM os = [])) = _
      rw [h0]; simp
    · refine ifB_f (by simp [hem]) (.execs_nil ?_)
      have hone : ∀ i, i < N → (L i).length = 1 := by
        rcases hor with h | h
        · exact absurd (nil_mem_lsOf.mpr h) hem
        · exact h
      have hfin := P.fin2 L hp2 hone
      have get0 : ∀ k, k < N → (L k)[0]? = some ((L k).getD 0 0) := fun k hk => by
        cases hLk : L k with
        | nil => have := hone k hk; rw [hLk] at this; cases this
        | cons a r => rfl
      refine .execs_cons (.compY (R := RN) (R' := RT2 RN RN) RN.mono (RT2.mono RN.mono RN.mono) [("lists", La + 1)] [("lists", lv)] (.calln (.built T Tb.range rfl (.calleeT (.sp_cons (.name rfl (.sp_nil (.range fun r₂ G₂₂ l₂₂ hr₂ => ?_)) (.inl rfl)))))))
      refine ⟨List.range N, fun k => if decide (k < (L k).getD 0 0) = true then some (k, (L k).getD 0 0) else none, hr₂.itb, by simp; omega, ⟨⟨rfl, ne_cell rfl, rfl, ne_cell rfl⟩, trivial⟩, fun C h q w G₂₃ hq hw l₂₃ => ?_, fun prv G₂₃ l₂₃ hpr => ?_⟩
      · have hqN := List.mem_range.mp hq
        have hlv₂₃ := RL.mono (RL.mono RN.mono) _ _ _ _ (l₂₂.trans l₂₃) hlv₂₁
        refine .tgt (.st (.tests_one (.tcmp (.name rfl (.sub (.sub (.name rfl (.name rfl (.itemR (R := RL RN) hlv₂₃.ls hw (lsOf_get hqN) (by omega) fun u hu => .intN (a := 0) fun zv hz => .itemR (R := RN) hu.ls hz (get0 q hqN) (by omega) fun u2 hu2 => .ltN hw hu2 (.truthy_bool ?_)) (.inl rfl)) (.inr (.inl rfl))))) (.inl rfl)))))
        refine ⟨(ite_isSome _ _).symm, fun _ => ⟨rfl, Le.rfl⟩, fun y hy => ?_⟩
        obtain ⟨_, rfl⟩ := ite_some hy
        refine .tuple (.sp_cons (.name rfl (.sp_cons (.sub (.sub (.name rfl (.name rfl (.itemR (R := RL RN) hlv₂₃.ls hw (lsOf_get hqN) (by omega) fun u hu => .intN (a := 0) fun zv hz => .itemR (R := RN) hu.ls hz (get0 q hqN) (by omega) fun u2 hu2 => .sp_nil ⟨by simp, .inl fun ta G₂₄ l₂₄ hta => ?_⟩) (.inl rfl)) (.inr (.inl rfl)))))) (.inl rfl)))
        exact ⟨⟨ta, _, _, rfl, hta, hw, hu2⟩, rfl, l₂₄⟩
      · rw [fm_filter_map] at hpr
        have hpr : RL (RT2 RN RN) G₂₃ (mateRow N L) prv := hpr
        refine .execs_cons (.ret (.cmp (.name rfl (.name rfl (.inR (R := RL (RT2 RN RN)) (k := 2) (RL.mono (RL.mono (RT2.mono RN.mono RN.mono)) _ _ _ _ (l₂₂.trans l₂₃) hst₂₁).ls hEq (Uq.rl (Uq.rt2 Uq.rn Uq.rn)) hpr (by show 2 + 2 ≤ 8 * (n + 10); omega) ?_) (.inl rfl)) (.inl rfl))))
        exact congrArg Value.bool (@decide_eq_true _ (_) hfin)

end
end Mine

end
section
namespace Mine

/-! plain mathematics: preference lists, stable pairings -/

structure Prefs (N : Nat) (P : Nat → List Nat) : Prop where
  nd : ∀ k, (P k).Nodup
  mem : ∀ k j, j ∈ P k ↔ k < N ∧ j < N ∧ j ≠ k

noncomputable def rk (P : Nat → List Nat) (i j : Nat) : Nat := (P i).idxOf j

theorem rk_inj {N : Nat} {P : Nat → List Nat} (hP : Prefs N P) {k a b : Nat} (ha : a ∈ P k) (h : rk P k a = rk P k b) : a = b := by
  unfold rk at h
  have h1 := List.idxOf_lt_length_of_mem ha
  have h2 : (P k).idxOf b < (P k).length := by omega
  have e1 : (P k)[(P k).idxOf a] = a := List.getElem_idxOf h1
  have e2 : (P k)[(P k).idxOf b] = b := List.getElem_idxOf h2
  rw [← e1, ← e2]
  congr 1

theorem pairwise_rk {l : List Nat} (h : l.Nodup) : l.Pairwise fun x y => l.idxOf x < l.idxOf y := by
  rw [List.pairwise_iff_getElem]
  intro i j hi hj hij
  rw [h.idxOf_getElem i hi, h.idxOf_getElem j hj]
  exact hij

/-- the lists are what is left of the orders, and each one's list shows the other -/
structure Sub (P : Nat → List Nat) (L : Nat → List Nat) : Prop where
  filt : ∀ k, (P k).filter (fun j => decide (j ∈ L k)) = L k
  mutl : ∀ k j, j ∈ L k → k ∈ L j

section
variable {N : Nat} {P L : Nat → List Nat}

theorem Sub.sub (S : Sub P L) {k j : Nat} (h : j ∈ L k) : j ∈ P k := by
  rw [← S.filt k] at h
  exact (List.mem_filter.mp h).1
theorem Sub.lt (hP : Prefs N P) (S : Sub P L) {k j : Nat} (h : j ∈ L k) : k < N ∧ j < N ∧ j ≠ k := (hP.mem k j).mp (S.sub h)
theorem Sub.pw (hP : Prefs N P) (S : Sub P L) (k : Nat) : (L k).Pairwise fun x y => rk P k x < rk P k y := by
  rw [← S.filt k]
  exact (pairwise_rk (hP.nd k)).sublist List.filter_sublist
theorem Sub.nd (hP : Prefs N P) (S : Sub P L) (k : Nat) : (L k).Nodup := by
  rw [← S.filt k]
  exact (hP.nd k).sublist List.filter_sublist
theorem Sub.len (hP : Prefs N P) (S : Sub P L) (k : Nat) : (L k).length ≤ (P k).length := by
  rw [← S.filt k]
  exact List.length_filter_le ..

theorem Sub.head (hP : Prefs N P) (S : Sub P L) {k a : Nat} {r : List Nat} (e : L k = a :: r) {j : Nat} (h : j ∈ L k) : j = a ∨ rk P k a < rk P k j := by
  have := S.pw hP k
  rw [e] at this h
  rcases List.mem_cons.mp h with rfl | h
  · exact .inl rfl
  · exact .inr ((List.pairwise_cons.mp this).1 j h)
theorem Sub.head_of (hP : Prefs N P) (S : Sub P L) {k a : Nat} (ha : a ∈ L k) (h : ∀ j, j ∈ L k → rk P k a ≤ rk P k j) : ∃ r, L k = a :: r := by
  cases e : L k with
  | nil => rw [e] at ha; cases ha
  | cons b r =>
    rcases S.head hP e ha with rfl | h2
    · exact ⟨r, rfl⟩
    · have := h b (by rw [e]; exact List.mem_cons_self ..)
      omega
theorem Sub.last (hP : Prefs N P) (S : Sub P L) {k a : Nat} (e : (L k).getLast? = some a) {j : Nat} (h : j ∈ L k) : j = a ∨ rk P k j < rk P k a := by
  have h2 := S.pw hP k
  obtain ⟨r, er⟩ := List.getLast?_eq_some_iff.mp e
  rw [er] at h h2
  rcases List.mem_append.mp h with h | h
  · exact .inr ((List.pairwise_append.mp h2).2.2 j h a (List.mem_cons_self ..))
  · exact .inl (List.mem_singleton.mp h)
theorem Sub.last_of (hP : Prefs N P) (S : Sub P L) {k a : Nat} (ha : a ∈ L k) (h : ∀ j, j ∈ L k → rk P k j ≤ rk P k a) : (L k).getLast? = some a := by
  cases e : (L k).getLast? with
  | none => rw [List.getLast?_eq_none_iff] at e; rw [e] at ha; cases ha
  | some b =>
    rcases S.last hP e ha with rfl | h2
    · rfl
    · have := h b (List.mem_of_getLast? e)
      omega
theorem Sub.second (hP : Prefs N P) (S : Sub P L) {k a s : Nat} {r : List Nat} (e : L k = a :: s :: r) {j : Nat} (h : j ∈ L k) : j = a ∨ j = s ∨ rk P k s < rk P k j := by
  have := S.pw hP k
  rw [e] at this h
  rcases List.mem_cons.mp h with rfl | h
  · exact .inl rfl
  · rcases List.mem_cons.mp h with rfl | h
    · exact .inr (.inl rfl)
    · exact .inr (.inr ((List.pairwise_cons.mp (List.pairwise_cons.mp this).2).1 j h))
theorem Sub.behind (hP : Prefs N P) (S : Sub P L) {k a : Nat} (ha : a ∈ L k) {j : Nat} : j ∈ (L k).drop ((L k).idxOf a + 1) ↔ j ∈ L k ∧ rk P k a < rk P k j := by
  have hpw := S.pw hP k
  have hi := List.idxOf_lt_length_of_mem ha
  have ea : (L k)[(L k).idxOf a] = a := List.getElem_idxOf hi
  have es : L k = (L k).take ((L k).idxOf a) ++ a :: (L k).drop ((L k).idxOf a + 1) := by
    conv => lhs; rw [← List.take_append_drop ((L k).idxOf a) (L k)]
    rw [List.drop_eq_getElem_cons hi, ea]
  generalize (L k).take ((L k).idxOf a) = u at es
  generalize (L k).drop ((L k).idxOf a + 1) = v at es
  rw [es] at hpw ⊢
  obtain ⟨h1, h2, h3⟩ := List.pairwise_append.mp hpw
  constructor
  · intro h
    exact ⟨List.mem_append_right _ (List.mem_cons_of_mem _ h), (List.pairwise_cons.mp h2).1 j h⟩
  · rintro ⟨h, hl⟩
    rcases List.mem_append.mp h with h | h
    · have := h3 j h a (List.mem_cons_self ..); omega
    · rcases List.mem_cons.mp h with rfl | h
      · omega
      · exact h

theorem mem_del2 {i j k x : Nat} : x ∈ del2 L i j k ↔ x ∈ L k ∧ ¬ (k = i ∧ x = j) ∧ ¬ (k = j ∧ x = i) := by
  unfold del2 upd
  by_cases h1 : k = j
  · subst h1
    rw [if_pos rfl, List.mem_filter]
    by_cases h2 : k = i
    · subst h2; rw [if_pos rfl, List.mem_filter]; simp; 
    · rw [if_neg h2]; simp [h2]
  · rw [if_neg h1]
    by_cases h2 : k = i
    · subst h2; rw [if_pos rfl, List.mem_filter]; simp [h1]
    · rw [if_neg h2]; simp [h1, h2]
theorem del2_filt (S : ∀ k, (P k).filter (fun j => decide (j ∈ L k)) = L k) (i j : Nat) : ∀ k, (P k).filter (fun x => decide (x ∈ del2 L i j k)) = del2 L i j k := by
  intro k
  have key : ∀ q : Nat → Bool, ∀ l : List Nat, l = (L k).filter q → (P k).filter (fun x => decide (x ∈ l)) = l := by
    intro q l e
    subst e
    conv => rhs; rw [← S k]
    rw [List.filter_filter]
    congr 1; funext x
    by_cases h1 : x ∈ L k <;> by_cases h2 : q x = true <;> simp [h1, h2, List.mem_filter]
  unfold del2 upd
  by_cases h1 : k = j
  · subst h1
    rw [if_pos rfl]
    by_cases h2 : k = i
    · rw [if_pos h2]; subst h2; exact key _ _ (by rw [List.filter_filter])
    · rw [if_neg h2]; exact key _ _ rfl
  · rw [if_neg h1]
    by_cases h2 : k = i
    · rw [if_pos h2]; subst h2; exact key _ _ rfl
    · rw [if_neg h2]; exact S k
theorem Sub.del2 (S : Sub P L) (i j : Nat) : Sub P (del2 L i j) := by
  refine ⟨del2_filt S.filt i j, fun k x h => ?_⟩
  rw [mem_del2] at h ⊢
  obtain ⟨h1, h2, h3⟩ := h
  exact ⟨S.mutl k x h1, fun h => h3 ⟨h.2, h.1⟩, fun h => h2 ⟨h.2, h.1⟩⟩
theorem Sub.delAll : ∀ (ps : List (Nat × Nat)) {L : Nat → List Nat}, Sub P L → Sub P (delAll L ps)
  | [], _, S => S
  | p :: r, _, S => Sub.delAll r (S.del2 p.1 p.2)
theorem mem_delAll : ∀ (ps : List (Nat × Nat)) {L : Nat → List Nat} {k x : Nat}, x ∈ delAll L ps k ↔ x ∈ L k ∧ (k, x) ∉ ps ∧ (x, k) ∉ ps
  | [], L, k, x => by simp [Mine.delAll]
  | p :: r, L, k, x => by
    have : x ∈ Mine.delAll (Mine.del2 L p.1 p.2) r k ↔ _ := mem_delAll r
    show x ∈ Mine.delAll (Mine.del2 L p.1 p.2) r k ↔ _
    rw [this, mem_del2]
    obtain ⟨a, b⟩ := p
    simp only [List.mem_cons, Prod.mk.injEq, not_or]
    constructor
    · rintro ⟨⟨h1, h2, h3⟩, h4, h5⟩
      exact ⟨h1, ⟨h2, h4⟩, ⟨fun h => h3 ⟨h.2, h.1⟩, h5⟩⟩
    · rintro ⟨h1, ⟨h2, h4⟩, ⟨h3, h5⟩⟩
      exact ⟨⟨h1, h2, fun h => h3 ⟨h.2, h.1⟩⟩, h4, h5⟩
end

/-- a stable pairing, as a function -/
structure Stb (N : Nat) (P : Nat → List Nat) (M : Nat → Nat) : Prop where
  lt : ∀ i, i < N → M i < N
  ne : ∀ i, i < N → M i ≠ i
  inv : ∀ i, i < N → M (M i) = i
  nb : ∀ i j, i < N → j < N → i ≠ j → rk P i j < rk P i (M i) → ¬ rk P j i < rk P j (M j)
noncomputable def Inn (N : Nat) (L : Nat → List Nat) (M : Nat → Nat) : Prop := ∀ i, i < N → M i ∈ L i
/-- an absent pair: one of the two likes all of its list better -/
noncomputable def J5 (N : Nat) (P L : Nat → List Nat) : Prop := ∀ x y, x < N → y < N → x ≠ y → y ∉ L x → (∀ z ∈ L x, rk P x z < rk P x y) ∨ (∀ z ∈ L y, rk P y z < rk P y x)
/-- the first's last -/
noncomputable def J4 (N : Nat) (L : Nat → List Nat) : Prop := ∀ k a r, k < N → L k = a :: r → (L a).getLast? = some k

theorem J5.stb {N : Nat} {P L : Nat → List Nat} (hP : Prefs N P) (S : Sub P L) (h5 : J5 N P L) {M : Nat → Nat} (hin : Inn N L M) {x y : Nat} (hx : x < N) (hy : y < N) (hne : x ≠ y)
    (h1 : rk P x y < rk P x (M x)) (h2 : rk P y x < rk P y (M y)) : y ∈ L x := by
  by_cases h : y ∈ L x
  · exact h
  · rcases h5 x y hx hy hne h with h | h
    · have := h _ (hin x hx); omega
    · have := h _ (hin y hy); omega

end Mine

end
section
namespace Mine

section
variable {N : Nat} {P L : Nat → List Nat}

theorem sumL_succ (N : Nat) (L : Nat → List Nat) : sumL (N + 1) L = sumL N L + (L N).length := by
  unfold sumL; rw [List.range_succ, List.map_append, List.sum_append]; simp
theorem sumL_le {L L' : Nat → List Nat} : ∀ N, (∀ k, k < N → (L' k).length ≤ (L k).length) → sumL N L' ≤ sumL N L
  | 0, _ => Nat.le_refl _
  | N + 1, h => by
    rw [sumL_succ, sumL_succ]
    have := sumL_le N fun k hk => h k (by omega)
    have := h N (by omega)
    omega
theorem sumL_lt {L L' : Nat → List Nat} : ∀ N, (∀ k, k < N → (L' k).length ≤ (L k).length) → (∃ k, k < N ∧ (L' k).length < (L k).length) → sumL N L' < sumL N L
  | 0, _, ⟨k, hk, _⟩ => absurd hk (Nat.not_lt_zero _)
  | N + 1, h, ⟨k, hk, hl⟩ => by
    rw [sumL_succ, sumL_succ]
    have h2 := h N (by omega)
    by_cases e : k = N
    · subst e
      have := sumL_le k fun j hj => h j (by omega)
      omega
    · have := sumL_lt N (fun k hk => h k (by omega)) ⟨k, by omega, hl⟩
      omega
theorem sumL_bound {L : Nat → List Nat} {b : Nat} : ∀ N, (∀ k, k < N → (L k).length ≤ b) → sumL N L ≤ N * b
  | 0, _ => Nat.zero_le _
  | N + 1, h => by
    rw [sumL_succ, Nat.succ_mul]
    have := sumL_bound N fun k hk => h k (by omega)
    have := h N (by omega)
    omega

/-- fewer members, both kept in the orders' order: shorter -/
theorem Sub.le {L' : Nat → List Nat} (S : Sub P L) (S' : Sub P L') (h : ∀ k x, x ∈ L' k → x ∈ L k) (k : Nat) : (L' k).length ≤ (L k).length := by
  have : L' k = (L k).filter fun x => decide (x ∈ L' k) := by
    conv => lhs; rw [← S'.filt k]
    conv => rhs; rw [← S.filt k]
    rw [List.filter_filter]
    congr 1; funext x
    by_cases h1 : x ∈ L' k
    · simp [h1, h k x h1]
    · simp [h1]
  rw [this]
  exact List.length_filter_le ..
theorem Sub.less {L' : Nat → List Nat} (S : Sub P L) (S' : Sub P L') (h : ∀ k x, x ∈ L' k → x ∈ L k) {k x : Nat} (hx : x ∈ L k) (hn : x ∉ L' k) : (L' k).length < (L k).length := by
  have : L' k = (L k).filter fun x => decide (x ∈ L' k) := by
    conv => lhs; rw [← S'.filt k]
    conv => rhs; rw [← S.filt k]
    rw [List.filter_filter]
    congr 1; funext x
    by_cases h1 : x ∈ L' k
    · simp [h1, h k x h1]
    · simp [h1]
  rw [this]
  rw [List.length_filter_lt_length_iff_exists]
  exact ⟨x, hx, by simp [hn]⟩

structure PhA (N : Nat) (P L : Nat → List Nat) (M : Nat → Option Nat) (fr : List Nat) : Prop where
  sub : Sub P L
  inn : ∀ S, Stb N P S → Inn N L S
  j5 : J5 N P L
  held : ∀ f p, M f = some p → (L f).getLast? = some p ∧ ∃ r, L p = f :: r
  nd : fr.Nodup
  free : ∀ q, q ∈ fr ↔ q < N ∧ L q ≠ [] ∧ ∀ f, M f ≠ some q

theorem fpFold {f p : Nat} : ∀ (ss : List Nat) (st : (Nat → List Nat) × List Nat), Sub P st.1 → p ∈ st.1 f → p ≠ f → p ∉ ss → st.2.Nodup → (∀ q, q ∈ st.2 → st.1 q ≠ []) →
    Sub P (ss.foldl (fpDel f) st).1 ∧ (ss.foldl (fpDel f) st).2.Nodup ∧ (∀ k x, x ∈ (ss.foldl (fpDel f) st).1 k ↔ x ∈ st.1 k ∧ ¬ (k = f ∧ x ∈ ss) ∧ ¬ (x = f ∧ k ∈ ss)) ∧
    (∀ q, q ∈ (ss.foldl (fpDel f) st).2 ↔ q ∈ st.2 ∧ (ss.foldl (fpDel f) st).1 q ≠ [])
  | [], st, S, hp, hpf, hps, hnd, hne => ⟨S, hnd, by simp, fun q => ⟨fun h => ⟨h, hne q h⟩, fun h => h.1⟩⟩
  | s :: r, st, S, hp, hpf, hps, hnd, hne => by
    have hps1 : p ≠ s := fun e => hps (by rw [e]; exact List.mem_cons_self ..)
    have hps2 : p ∉ r := fun e => hps (List.mem_cons_of_mem _ e)
    have hS : Sub P (fpDel f st s).1 := S.del2 s f
    have hmem : ∀ k x, x ∈ (fpDel f st s).1 k ↔ x ∈ st.1 k ∧ ¬ (k = s ∧ x = f) ∧ ¬ (k = f ∧ x = s) := fun k x => mem_del2
    have hpm : p ∈ (fpDel f st s).1 f := (hmem f p).mpr ⟨hp, fun h => hpf h.2, fun h => hps1 h.2⟩
    have hnd' : (fpDel f st s).2.Nodup := by
      unfold fpDel; dsimp only
      split
      · exact hnd.erase _
      · exact hnd
    have hfree : ∀ q, q ∈ (fpDel f st s).2 ↔ q ∈ st.2 ∧ (fpDel f st s).1 q ≠ [] := by
      intro q
      have hif : q ∈ (fpDel f st s).2 ↔ q ∈ st.2 ∧ ¬ (q = s ∧ (fpDel f st s).1 s = []) := by
        show q ∈ (if Mine.del2 st.1 s f s = [] ∧ s ∈ st.2 then st.2.erase s else st.2) ↔ q ∈ st.2 ∧ ¬ (q = s ∧ Mine.del2 st.1 s f s = [])
        by_cases hc : Mine.del2 st.1 s f s = [] ∧ s ∈ st.2
        · rw [if_pos hc, hnd.mem_erase_iff]
          constructor
          · rintro ⟨h1, h2⟩; exact ⟨h2, fun h => h1 h.1⟩
          · rintro ⟨h1, h2⟩; exact ⟨fun e => h2 ⟨e, hc.1⟩, h1⟩
        · rw [if_neg hc]
          constructor
          · intro h; exact ⟨h, fun h2 => hc ⟨h2.2, by rw [← h2.1]; exact h⟩⟩
          · exact fun h => h.1
      rw [hif]
      constructor
      · rintro ⟨h1, h2⟩
        refine ⟨h1, fun e => ?_⟩
        by_cases hq : q = s
        · subst hq; exact h2 ⟨rfl, e⟩
        · by_cases hq2 : q = f
          · subst hq2; rw [e] at hpm; cases hpm
          · obtain ⟨x, hx⟩ := List.exists_mem_of_ne_nil _ (hne q h1)
            have : x ∈ (fpDel f st s).1 q := (hmem q x).mpr ⟨hx, fun h => hq h.1, fun h => hq2 h.1⟩
            rw [e] at this; cases this
      · rintro ⟨h1, h2⟩
        exact ⟨h1, fun h => h2 (by rw [h.1]; exact h.2)⟩
    obtain ⟨i1, i2, i3, i4⟩ := fpFold r (fpDel f st s) hS hpm hpf hps2 hnd' fun q hq => ((hfree q).mp hq).2
    rw [List.foldl_cons]
    refine ⟨i1, i2, fun k x => ?_, fun q => ?_⟩
    · rw [i3, hmem]
      simp only [List.mem_cons]
      constructor
      · rintro ⟨⟨h1, h2, h3⟩, h4, h5⟩
        exact ⟨h1, fun h => h.2.elim (fun e => h3 ⟨h.1, e⟩) fun e => h4 ⟨h.1, e⟩, fun h => h.2.elim (fun e => h2 ⟨e, h.1⟩) fun e => h5 ⟨h.1, e⟩⟩
      · rintro ⟨h1, h2, h3⟩
        exact ⟨⟨h1, fun h => h3 ⟨h.2, .inl h.1⟩, fun h => h2 ⟨h.1, .inl h.2⟩⟩, fun h => h2 ⟨h.1, .inr h.2⟩, fun h => h3 ⟨h.1, .inr h.2⟩⟩
    · rw [i4, hfree]
      constructor
      · rintro ⟨⟨h1, h2⟩, h3⟩; exact ⟨h1, h3⟩
      · rintro ⟨h1, h3⟩
        refine ⟨⟨h1, fun e => ?_⟩, h3⟩
        obtain ⟨x, hx⟩ := List.exists_mem_of_ne_nil _ h3
        have := ((i3 q x).mp hx).1
        rw [e] at this; cases this

theorem PhA.step (hP : Prefs N P) {L : Nat → List Nat} {M : Nat → Option Nat} {fr : List Nat} {p : Nat} (A : PhA N P L M (fr ++ [p])) :
    ∃ f, FpOk (PhA N P) (fun L _ fr => sumL N L + fr.length) N L M fr p f := by
  have S := A.sub
  obtain ⟨hpN, hpne, hpfree⟩ := (A.free p).mp (by simp)
  have hnd := A.nd
  rw [List.nodup_append] at hnd
  obtain ⟨hfrnd, _, hfrp⟩ := hnd
  have hpfr : ∀ q, q ∈ fr → q ≠ p := fun q hq => hfrp q hq p (by simp)
  obtain ⟨f, r, hLp⟩ := List.exists_cons_of_ne_nil hpne
  have hfp : f ∈ L p := by rw [hLp]; exact List.mem_cons_self ..
  have hpf : p ∈ L f := S.mutl p f hfp
  obtain ⟨_, hfN, hfnp⟩ := S.lt hP hfp
  have hsucc : ∀ x, x ∈ fpSucc L f p ↔ x ∈ L f ∧ rk P f p < rk P f x := fun x => S.behind hP hpf
  have hpss : p ∉ fpSucc L f p := fun h => by have := ((hsucc p).mp h).2; omega
  have hfss : f ∉ fpSucc L f p := fun h => (S.lt hP ((hsucc f).mp h).1).2.2 rfl
  -- the players with no place, the old holder among them
  have hF : ∀ q, q ∈ fpFree M f fr ↔ q ∈ fr ∨ M f = some q := by
    intro q
    unfold fpFree
    cases hM : M f with
    | none => simp
    | some c =>
      simp only [List.mem_append, List.mem_singleton]
      exact ⟨fun h => h.elim .inl fun h => .inr (by rw [h]), fun h => h.elim .inl fun h => .inr (by injection h with h; exact h.symm)⟩
  have hFnd : (fpFree M f fr).Nodup := by
    unfold fpFree
    cases hM : M f with
    | none => exact hfrnd
    | some c =>
      dsimp only
      rw [List.nodup_append]
      refine ⟨hfrnd, by simp, fun a ha b hb e => ?_⟩
      rw [List.mem_singleton] at hb
      subst e; subst hb
      exact ((A.free a).mp (List.mem_append_left _ ha)).2.2 f hM
  have hFne : ∀ q, q ∈ fpFree M f fr → L q ≠ [] := by
    intro q hq
    rcases (hF q).mp hq with h | h
    · exact ((A.free q).mp (List.mem_append_left _ h)).2.1
    · obtain ⟨_, r', e⟩ := A.held f q h
      rw [e]; simp
  have hFlen : (fpFree M f fr).length ≤ fr.length + 1 ∧ (M f = none → (fpFree M f fr).length = fr.length) := by
    unfold fpFree
    cases hM : M f with
    | none => simp
    | some c => simp
  obtain ⟨S', hnd', hmem, hfree⟩ := fpFold (P := P) (fpSucc L f p) (L, fpFree M f fr) S hpf (Ne.symm hfnp) hpss hFnd hFne
  dsimp only at hmem hfree
  generalize hR : (fpSucc L f p).foldl (fpDel f) (L, fpFree M f fr) = R at S' hnd' hmem hfree
  have hsubm : ∀ k x, x ∈ R.1 k → x ∈ L k := fun k x h => ((hmem k x).mp h).1
  have hM' : ∀ g q, fpMid M f p g = some q ↔ (g = f ∧ q = p) ∨ (g ≠ f ∧ M g = some q) := by
    intro g q
    have hv : fpMid M f p g = if g = f then some p else M g := by
      unfold fpMid upd
      by_cases e : g = f
      · rw [if_pos e, if_pos e]
      · rw [if_neg e, if_neg e]
        cases M f with
        | none => rfl
        | some c => show (if g = f then none else M g) = _; rw [if_neg e]
    rw [hv]
    by_cases e : g = f
    · rw [if_pos e]
      constructor
      · intro h; injection h with h; exact .inl ⟨e, h.symm⟩
      · exact fun h => h.elim (fun h => by rw [h.2]) fun h => absurd e h.1
    · rw [if_neg e]
      constructor
      · intro h; exact .inr ⟨e, h⟩
      · exact fun h => h.elim (fun h => absurd h.1 e) fun h => h.2
  have hpR : p ∈ R.1 f := (hmem f p).mpr ⟨hpf, fun h => hpss h.2, fun h => hfnp h.1.symm⟩
  have hlastf : ∀ x, x ∈ R.1 f → x = p ∨ rk P f x < rk P f p := by
    intro x hx
    obtain ⟨h1, h2, _⟩ := (hmem f x).mp hx
    by_cases e : rk P f p < rk P f x
    · exact absurd ⟨rfl, (hsucc x).mpr ⟨h1, e⟩⟩ h2
    · by_cases e2 : rk P f x = rk P f p
      · exact .inl (rk_inj hP (S.sub h1) e2)
      · right; omega
  refine ⟨f, hpN, ⟨r, hLp⟩, hfN, hpf, ?_, ?_⟩
  · rw [hR]
    refine ⟨S', fun T hT i hi => ?_, ?_, ?_, hnd', fun q => ?_⟩
    · have hin := A.inn T hT
      -- a stable pairing keeps off the deleted pairs
      have key : T f ∈ fpSucc L f p → False := by
        intro h
        obtain ⟨h1, h2⟩ := (hsucc _).mp h
        refine hT.nb f p hfN hpN hfnp h2 ?_
        rcases S.head hP hLp (hin p hpN) with e | e
        · exfalso
          have : T (T p) = p := hT.inv p hpN
          rw [e] at this; rw [this] at h2; omega
        · exact e
      refine (hmem i (T i)).mpr ⟨hin i hi, fun h => key ?_, fun h => key ?_⟩
      · have := h.2; rw [h.1] at this; exact this
      · have e := hT.inv i hi
        rw [h.1] at e; rw [e]; exact h.2
    · intro x y hx hy hxy hn
      by_cases h : y ∈ L x
      · have h3 : (x = f ∧ y ∈ fpSucc L f p) ∨ (y = f ∧ x ∈ fpSucc L f p) := by
          by_cases h1 : x = f ∧ y ∈ fpSucc L f p
          · exact .inl h1
          · by_cases h2 : y = f ∧ x ∈ fpSucc L f p
            · exact .inr h2
            · exact absurd ((hmem x y).mpr ⟨h, h1, h2⟩) hn
        rcases h3 with ⟨rfl, h3⟩ | ⟨rfl, h3⟩
        · left; intro z hz
          have h4 := ((hsucc _).mp h3).2
          rcases hlastf z hz with rfl | h5 <;> omega
        · right; intro z hz
          have h4 := ((hsucc _).mp h3).2
          rcases hlastf z hz with rfl | h5 <;> omega
      · rcases A.j5 x y hx hy hxy h with h | h
        · exact .inl fun z hz => h z (hsubm _ _ hz)
        · exact .inr fun z hz => h z (hsubm _ _ hz)
    · intro g q hg
      rcases (hM' g q).mp hg with ⟨rfl, rfl⟩ | ⟨hgf, hg⟩
      · refine ⟨S'.last_of hP hpR fun j hj => ?_, S'.head_of hP (S'.mutl _ _ hpR) fun j hj => ?_⟩
        · rcases hlastf j hj with rfl | h <;> omega
        · rcases S.head hP hLp (hsubm _ _ hj) with rfl | h <;> omega
      · obtain ⟨h1, r', h2⟩ := A.held g q hg
        have hgq : g ∈ L q := by rw [h2]; exact List.mem_cons_self ..
        have hgqR : g ∈ R.1 q := by
          refine (hmem q g).mpr ⟨hgq, fun h => ?_, fun h => hgf h.1⟩
          obtain ⟨rfl, h3⟩ := h
          have h4 := ((hsucc _).mp h3).2
          rcases S.head hP h2 hpf with e | e
          · subst e; omega
          · omega
        refine ⟨S'.last_of hP (S'.mutl _ _ hgqR) fun j hj => ?_, S'.head_of hP hgqR fun j hj => ?_⟩
        · rcases S.last hP h1 (hsubm _ _ hj) with rfl | h <;> omega
        · rcases S.head hP h2 (hsubm _ _ hj) with rfl | h <;> omega
    · rw [hfree, hF]
      constructor
      · rintro ⟨h | h, hne⟩
        · obtain ⟨h1, h2, h3⟩ := (A.free q).mp (List.mem_append_left _ h)
          refine ⟨h1, hne, fun g hg => ?_⟩
          rcases (hM' g q).mp hg with ⟨_, e⟩ | ⟨_, e⟩
          · exact hpfr q h e
          · exact h3 g e
        · obtain ⟨h1, r', h2⟩ := A.held f q h
          have hq : f ∈ L q := by rw [h2]; exact List.mem_cons_self ..
          refine ⟨(S.lt hP hq).1, hne, fun g hg => ?_⟩
          rcases (hM' g q).mp hg with ⟨_, e⟩ | ⟨hgf, e⟩
          · subst e; exact hpfree f h
          · obtain ⟨_, r'', h4⟩ := A.held g q e
            rw [h2] at h4; injection h4 with h4 _
            exact hgf h4.symm
      · rintro ⟨h1, h2, h3⟩
        refine ⟨?_, h2⟩
        have hqp : q ≠ p := fun e => h3 f ((hM' f q).mpr (.inl ⟨rfl, e⟩))
        by_cases hq : M f = some q
        · exact .inr hq
        · left
          have : q ∈ fr ++ [p] := (A.free q).mpr ⟨h1, fun e => ?_, fun g hg => ?_⟩
          · rcases List.mem_append.mp this with h | h
            · exact h
            · exact absurd (List.mem_singleton.mp h) hqp
          · obtain ⟨x, hx⟩ := List.exists_mem_of_ne_nil _ h2
            have := hsubm _ _ hx
            rw [e] at this; cases this
          · by_cases e : g = f
            · subst e; exact hq hg
            · exact h3 g ((hM' g q).mpr (.inr ⟨e, hg⟩))
  · rw [hR]
    have hle : R.2.length ≤ (fpFree M f fr).length := by
      have := (fpDel_le f (fpSucc L f p) (L, fpFree M f fr)).2
      rw [hR] at this; exact this
    have hs := sumL_le (L := L) (L' := R.1) N fun k hk => S.le S' hsubm k
    show sumL N R.1 + R.2.length < sumL N L + (fr ++ [p]).length
    rw [List.length_append, List.length_singleton]
    cases hM : M f with
    | none => have := hFlen.2 hM; omega
    | some c =>
      obtain ⟨h1, r', h2⟩ := A.held f c hM
      have hcp : p ≠ c := fun e => by subst e; exact hpfree f hM
      have hcf : c ∈ L f := List.mem_of_getLast? h1
      have hcs : c ∈ fpSucc L f p := (hsucc c).mpr ⟨hcf, by
        rcases S.last hP h1 hpf with e | e
        · exact absurd e hcp
        · exact e⟩
      have hlt := sumL_lt (L := L) (L' := R.1) N (fun k hk => S.le S' hsubm k) ⟨f, hfN, S.less S' hsubm hcf fun h => ((hmem f c).mp h).2.1 ⟨rfl, hcs⟩⟩
      have := hFlen.1
      omega

theorem PhA.init (hP : Prefs N P) (hN : 2 ≤ N) : PhA N P P (fun _ => none) (List.range N) := by
  refine ⟨⟨fun k => ?_, fun k j h => ?_⟩, fun T hT i hi => ?_, fun x y hx hy hxy h => ?_, fun f p h => (by cases h), List.nodup_range, fun q => ?_⟩
  · rw [List.filter_eq_self]; intro a ha; simpa using ha
  · obtain ⟨h1, h2, h3⟩ := (hP.mem k j).mp h
    exact (hP.mem j k).mpr ⟨h2, h1, Ne.symm h3⟩
  · exact (hP.mem _ _).mpr ⟨hi, hT.lt i hi, hT.ne i hi⟩
  · exact absurd ((hP.mem x y).mpr ⟨hx, hy, Ne.symm hxy⟩) h
  · rw [List.mem_range]
    refine ⟨fun h => ⟨h, fun e => ?_, fun f hf => by cases hf⟩, fun h => h.1⟩
    have : (if q = 0 then 1 else 0) ∈ P q := (hP.mem _ _).mpr ⟨h, by split <;> omega, by split <;> omega⟩
    rw [e] at this; cases this

/-- the second phase -/
structure PhB (N : Nat) (P L : Nat → List Nat) : Prop where
  sub : Sub P L
  j4 : (∀ i, i < N → L i ≠ []) → J4 N L
  j5 : J5 N P L
  st : (∃ T, Stb N P T) → ∃ T, Stb N P T ∧ Inn N L T

theorem PhA.done (hP : Prefs N P) {M : Nat → Option Nat} (A : PhA N P L M []) : PhB N P L := by
  refine ⟨A.sub, fun hall k a r hk e => ?_, A.j5, fun ⟨T, hT⟩ => ⟨T, hT, A.inn T hT⟩⟩
  by_cases h : ∃ f, M f = some k
  · obtain ⟨f, hf⟩ := h
    obtain ⟨h1, r', h2⟩ := A.held f k hf
    rw [h2] at e; injection e with e _
    subst e; exact h1
  · have := (A.free k).mpr ⟨hk, hall k hk, fun f hf => h ⟨f, hf⟩⟩
    cases this

end
end Mine

end
section
namespace Mine

section
variable {N : Nat} {P L L' : Nat → List Nat} {r : Nat} {p s : Nat → Nat}

/-- the last's first -/
theorem J4.back (hP : Prefs N P) (S : Sub P L) (hall : ∀ i, i < N → L i ≠ []) (h4 : J4 N L) {k a : Nat} (hk : k < N) (h : (L k).getLast? = some a) : ∃ t, L a = k :: t := by
  have hd : ∀ i, i < N → ∃ t, L i = (L i).headD 0 :: t := fun i hi => by
    obtain ⟨a, t, e⟩ := List.exists_cons_of_ne_nil (hall i hi)
    exact ⟨t, by rw [e]; rfl⟩
  have hdm : ∀ i, i < N → (L i).headD 0 ∈ L i := fun i hi => by
    obtain ⟨t, e⟩ := hd i hi
    exact e ▸ List.mem_cons_self ..
  have hl : ∀ i, i < N → (L ((L i).headD 0)).getLast? = some i := fun i hi => by
    obtain ⟨t, e⟩ := hd i hi
    exact h4 i _ t hi e
  have hsur : ∃ q, q < N ∧ (L q).headD 0 = k := by
    refine Classical.byContradiction fun hn => ?_
    have := nodup_le N (k :: (List.range N).map fun i => (L i).headD 0) (by
      rw [List.nodup_cons]
      refine ⟨fun hm => ?_, ?_⟩
      · obtain ⟨q, hq, e⟩ := List.mem_map.mp hm
        exact hn ⟨q, List.mem_range.mp hq, e⟩
      · rw [List.nodup_iff_pairwise_ne, List.pairwise_map]
        refine List.Pairwise.imp_of_mem ?_ (List.nodup_iff_pairwise_ne.mp List.nodup_range)
        intro a b ha hb hab e
        have h1 := hl a (List.mem_range.mp ha)
        have h2 := hl b (List.mem_range.mp hb)
        rw [e, h2] at h1
        injection h1 with h1
        exact hab h1.symm) (fun x hx => by
      rcases List.mem_cons.mp hx with rfl | hx
      · exact hk
      · obtain ⟨q, hq, rfl⟩ := List.mem_map.mp hx
        exact (S.lt hP (hdm q (List.mem_range.mp hq))).2.1)
    simp at this
    omega
  obtain ⟨q, hq, e⟩ := hsur
  have h1 := hl q hq
  rw [e, h] at h1
  injection h1 with h1
  subst h1
  obtain ⟨t, et⟩ := hd a hq
  exact ⟨t, by rw [e] at et; exact et⟩

/-- a rotation: a turns through second, last, second, last -/
structure Rot (N : Nat) (L : Nat → List Nat) (r : Nat) (p s : Nat → Nat) : Prop where
  pos : 0 < r
  two : ∀ k, ∃ f t, L (p k) = f :: s k :: t
  last : ∀ k, (L (s k)).getLast? = some (p (k + 1))
  per : ∀ k, p (k + r) = p k
  lt : ∀ k, p k < N
  sec : ∀ k, s k = sec L (p k)

noncomputable def Gone (P L : Nat → List Nat) (p s : Nat → Nat) (a b : Nat) : Prop := ∃ i, (a = s i ∧ b ∈ L (s i) ∧ rk P (s i) (p i) < rk P (s i) b) ∨ (b = s i ∧ a ∈ L (s i) ∧ rk P (s i) (p i) < rk P (s i) a)
theorem Gone.symm {a b : Nat} (h : Gone P L p s a b) : Gone P L p s b a := by
  obtain ⟨i, h | h⟩ := h
  · exact ⟨i, .inr h⟩
  · exact ⟨i, .inl h⟩

theorem Rot.p_next (R : Rot N L r p s) {j k : Nat} (h : p j = p k) : ∀ t, p (j + t) = p (k + t)
  | 0 => h
  | t + 1 => by
    have e := R.p_next h t
    have h1 := R.last (j + t)
    have h2 := R.last (k + t)
    rw [R.sec, e, ← R.sec, h2] at h1
    injection h1 with h1
    exact h1.symm
theorem Rot.p_prev (R : Rot N L r p s) {j k : Nat} (h : p (j + 1) = p (k + 1)) : p j = p k := by
  have := R.p_next h (r - 1)
  have hp := R.pos
  rw [show j + 1 + (r - 1) = j + r by omega, show k + 1 + (r - 1) = k + r by omega, R.per, R.per] at this
  exact this
theorem Rot.s_inj (R : Rot N L r p s) {j k : Nat} (h : s j = s k) : p j = p k := by
  have h1 := R.last j
  rw [h, R.last k] at h1
  injection h1 with h1
  exact R.p_prev h1.symm
theorem Rot.s_eq (R : Rot N L r p s) {j k : Nat} (h : p j = p k) : s j = s k := by rw [R.sec, R.sec, h]
theorem Rot.prev (R : Rot N L r p s) (k : Nat) : ∃ j, p (j + 1) = p k := ⟨k + r - 1, by have := R.pos; rw [show k + r - 1 + 1 = k + r by omega]; exact R.per k⟩
theorem Rot.mem (R : Rot N L r p s) (k : Nat) : s k ∈ L (p k) := by
  obtain ⟨f, t, e⟩ := R.two k
  rw [e]; simp

section
variable (hP : Prefs N P) (S : Sub P L) (hall : ∀ i, i < N → L i ≠ []) (h4 : J4 N L) (R : Rot N L r p s)
include hP S R

theorem Rot.mem' (k : Nat) : p k ∈ L (s k) := S.mutl _ _ (R.mem k)
theorem Rot.slt (k : Nat) : s k < N := (S.lt hP (R.mem k)).2.1

include hall h4
theorem Rot.first (k : Nat) : ∃ t, L (p (k + 1)) = s k :: s (k + 1) :: t := by
  obtain ⟨f, t, e⟩ := R.two (k + 1)
  obtain ⟨t', e'⟩ := h4.back hP S hall (R.slt hP S k) (R.last k)
  rw [e] at e'
  injection e' with e1 e2
  subst e1
  exact ⟨t, e⟩
theorem Rot.s_ne (k : Nat) : s k ≠ s (k + 1) := by
  obtain ⟨t, e⟩ := R.first hP S hall h4 k
  have := S.nd hP (p (k + 1))
  rw [e, List.nodup_cons] at this
  exact fun h => this.1 (by rw [h]; exact List.mem_cons_self ..)
theorem Rot.p_ne (k : Nat) : p (k + 1) ≠ p k := fun h => R.s_ne hP S hall h4 k (R.s_eq h).symm
theorem Rot.gone (k : Nat) : p (k + 1) ∈ L (s k) ∧ rk P (s k) (p k) < rk P (s k) (p (k + 1)) := by
  have h1 := R.last k
  refine ⟨List.mem_of_getLast? h1, ?_⟩
  rcases S.last hP h1 (R.mem' hP S k) with e | e
  · exact absurd e.symm (R.p_ne hP S hall h4 k)
  · exact e

variable (S' : Sub P L') (hm : ∀ k x, x ∈ L' k ↔ x ∈ L k ∧ ¬ Gone P L p s k x)
include S' hm

theorem Rot.j4 (hall' : ∀ i, i < N → L' i ≠ []) : J4 N L' := by
  intro k a t hk e
  have ha' : a ∈ L' k := by rw [e]; exact List.mem_cons_self ..
  have ha := ((hm k a).mp ha').1
  by_cases hki : ∃ i, p (i + 1) = k
  · obtain ⟨i, rfl⟩ := hki
    obtain ⟨t1, e1⟩ := R.first hP S hall h4 i
    have g1 : s i ∉ L' (p (i + 1)) := fun h => ((hm _ _).mp h).2 ⟨i, .inr ⟨rfl, R.gone hP S hall h4 i⟩⟩
    have g2 : s (i + 1) ∈ L' (p (i + 1)) := by
      refine (hm _ _).mpr ⟨R.mem _, fun ⟨j, h⟩ => ?_⟩
      rcases h with ⟨h1, h2, h3⟩ | ⟨h1, h2, h3⟩
      · -- the list of s j = p (i+1) would get empty
        have hpj : p j ∈ L (p (i + 1)) := by rw [h1]; exact R.mem' hP S j
        have hps : p j = s i := by
          rcases S.second hP e1 hpj with e | e | e
          · exact e
          · rw [← e] at h3; omega
          · rw [h1] at e; omega
        obtain ⟨z, hz⟩ := List.exists_mem_of_ne_nil _ (hall' _ hk)
        obtain ⟨hz1, hz2⟩ := (hm _ _).mp hz
        rcases S.head hP e1 hz1 with e | e
        · subst e; exact g1 hz
        · exact hz2 ⟨j, .inl ⟨h1, by rw [← h1]; exact hz1, by rw [← h1, hps]; exact e⟩⟩
      · have := R.s_inj h1
        rw [this, ← h1] at h3
        omega
    have hae : a = s (i + 1) := by
      rcases S.second hP e1 ha with e2 | e2 | e2
      · subst e2; exact absurd ha' g1
      · exact e2
      · rcases S'.head hP e g2 with e3 | e3
        · exact e3.symm
        · omega
    subst hae
    refine S'.last_of hP (S'.mutl _ _ g2) fun j hj => ?_
    obtain ⟨h1, h2⟩ := (hm _ _).mp hj
    have : ¬ rk P (s (i + 1)) (p (i + 1)) < rk P (s (i + 1)) j := fun h => h2 ⟨i + 1, .inl ⟨rfl, h1, h⟩⟩
    omega
  · have hkp : ∀ i, p i ≠ k := fun i hi => by
      obtain ⟨j, hj⟩ := R.prev i
      exact hki ⟨j, hj.trans hi⟩
    obtain ⟨b, t1, e1⟩ := List.exists_cons_of_ne_nil (hall k hk)
    have hb : b ∈ L k := by rw [e1]; exact List.mem_cons_self ..
    have hlast := h4 k b t1 hk e1
    have g : b ∈ L' k := by
      refine (hm _ _).mpr ⟨hb, fun ⟨j, h⟩ => ?_⟩
      rcases h with ⟨h1, h2, h3⟩ | ⟨h1, h2, h3⟩
      · have hpj : p j ∈ L k := by rw [h1]; exact R.mem' hP S j
        rcases S.head hP e1 hpj with e | e
        · rw [e] at h3; omega
        · rw [h1] at e; omega
      · have := R.last j
        rw [← h1, hlast] at this
        injection this with this
        exact hkp _ this.symm
    have hab : a = b := by
      rcases S'.head hP e g with e2 | e2
      · exact e2.symm
      · rcases S.head hP e1 ha with e3 | e3
        · exact e3
        · omega
    subst hab
    refine S'.last_of hP (S'.mutl _ _ g) fun j hj => ?_
    rcases S.last hP hlast ((hm _ _).mp hj).1 with e2 | e2
    · subst e2; exact Nat.le_refl _
    · omega

theorem Rot.j5 (h5 : J5 N P L) : J5 N P L' := by
  intro x y hx hy hxy hn
  have hsub : ∀ k z, z ∈ L' k → z ∈ L k := fun k z h => ((hm k z).mp h).1
  have tail : ∀ i z, z ∈ L' (s i) → rk P (s i) z ≤ rk P (s i) (p i) := fun i z hz => by
    obtain ⟨h1, h2⟩ := (hm _ _).mp hz
    have : ¬ rk P (s i) (p i) < rk P (s i) z := fun h => h2 ⟨i, .inl ⟨rfl, h1, h⟩⟩
    omega
  by_cases h : y ∈ L x
  · have hg : Gone P L p s x y := Classical.byContradiction fun hg => hn ((hm x y).mpr ⟨h, hg⟩)
    obtain ⟨i, ⟨h1, h2, h3⟩ | ⟨h1, h2, h3⟩⟩ := hg
    · left; intro z hz
      rw [h1] at hz ⊢
      have := tail i z hz
      omega
    · right; intro z hz
      rw [h1] at hz ⊢
      have := tail i z hz
      omega
  · rcases h5 x y hx hy hxy h with h | h
    · exact .inl fun z hz => h z (hsub _ _ hz)
    · exact .inr fun z hz => h z (hsub _ _ hz)

/-- a stable pairing that gives no one of the rotation its first: keeps off what is deleted -/
theorem Rot.none {T : Nat → Nat} (hT : Stb N P T) (hin : Inn N L T) (h : ∀ k, T (p (k + 1)) ≠ s k) : Inn N L' T := by
  have key : ∀ i, T (s i) ∈ L (s i) → rk P (s i) (p i) < rk P (s i) (T (s i)) → False := by
    intro i h1 h2
    have hsN := R.slt hP S i
    have hpN := R.lt i
    refine hT.nb (s i) (p i) hsN hpN (S.lt hP (R.mem i)).2.2 h2 ?_
    obtain ⟨j, hj⟩ := R.prev i
    obtain ⟨t, e⟩ := R.first hP S hall h4 j
    have hsj : s (j + 1) = s i := R.s_eq hj
    rw [hj] at e
    rcases S.second hP e (hin (p i) hpN) with e2 | e2 | e2
    · exact absurd (by rw [hj]; exact e2) (h j)
    · exfalso
      have : T (T (p i)) = p i := hT.inv _ hpN
      rw [e2, hsj] at this
      rw [this] at h2; omega
    · rw [hsj] at e2; exact e2
  intro i hi
  refine (hm _ _).mpr ⟨hin i hi, fun ⟨j, hg⟩ => ?_⟩
  rcases hg with ⟨h1, h2, h3⟩ | ⟨h1, h2, h3⟩
  · rw [h1] at h2 h3; exact key j h2 h3
  · have e := hT.inv i hi
    rw [h1] at e
    rw [← e] at h2 h3
    exact key j h2 h3

theorem Rot.prop {T : Nat → Nat} (hT : Stb N P T) (hin : Inn N L T) {k : Nat} (h : T (p (k + 2)) = s (k + 1)) : T (p (k + 1)) = s k := by
  obtain ⟨t, e⟩ := R.first hP S hall h4 k
  have hpN := R.lt (k + 1)
  have hsN := R.slt hP S (k + 1)
  have e1 : T (s (k + 1)) = p (k + 2) := by rw [← h]; exact hT.inv _ (R.lt _)
  rcases S.second hP e (hin _ hpN) with e2 | e2 | e2
  · exact e2
  · exfalso
    have : T (T (p (k + 1))) = p (k + 1) := hT.inv _ hpN
    rw [e2, e1] at this
    exact R.p_ne hP S hall h4 (k + 1) this
  · exfalso
    refine hT.nb (s (k + 1)) (p (k + 1)) hsN hpN (S.lt hP (R.mem _)).2.2 ?_ e2
    rw [e1]
    exact (R.gone hP S hall h4 (k + 1)).2

theorem Rot.stay {T : Nat → Nat} (hT : Stb N P T) (hin : Inn N L T) (h5 : J5 N P L) : ∃ T', Stb N P T' ∧ Inn N L' T' := by
  by_cases hsome : ∃ k, T (p (k + 1)) = s k
  · -- all of them have their firsts
    have down : ∀ d k, T (p (k + d + 1)) = s (k + d) → T (p (k + 1)) = s k := by
      intro d
      induction d with
      | zero => intro k h; exact h
      | succ d ih => intro k h; exact ih k (R.prop hP S hall h4 S' hm hT hin h)
    have hallT : ∀ k, T (p (k + 1)) = s k := by
      obtain ⟨k0, h0⟩ := hsome
      have per : ∀ c k, p (k + c * r) = p k := by
        intro c
        induction c with
        | zero => intro k; simp
        | succ c ih => intro k; rw [Nat.succ_mul, ← Nat.add_assoc, R.per]; exact ih k
      intro k
      have hr := R.pos
      have hle : k ≤ k0 + k * r := Nat.le_trans (Nat.le_mul_of_pos_right k hr) (Nat.le_add_left ..)
      refine down (k0 + k * r - k) k ?_
      have e : k + (k0 + k * r - k) = k0 + k * r := by omega
      rw [e, show k0 + k * r + 1 = k0 + 1 + k * r by omega, per, h0]
      exact (R.s_eq (per k k0)).symm
    have hTs : ∀ k, T (s k) = p (k + 1) := fun k => by rw [← hallT k]; exact hT.inv _ (R.lt _)
    have disj : ∀ j k, p j ≠ s k := by
      intro j k h
      obtain ⟨i, hi⟩ := R.prev j
      obtain ⟨t, e⟩ := R.first hP S hall h4 i
      have h1 := hallT i
      rw [hi, h, hTs] at h1
      have h2 := R.last k
      rw [← h, ← hi, h1] at h2
      rcases S.last hP h2 (j := s (i + 1)) (by rw [e]; simp) with e2 | e2
      · exact R.s_ne hP S hall h4 i e2.symm
      · have h3 := S.nd hP (p (i + 1))
        rcases S.head hP e (j := s (i + 1)) (by rw [e]; simp) with e3 | e3
        · exact R.s_ne hP S hall h4 i e3.symm
        · omega
    -- the exchange
    classical
    let T' : Nat → Nat := fun x => if h : ∃ k, p k = x then s h.choose else if h : ∃ k, s k = x then p h.choose else T x
    have tp : ∀ k, T' (p k) = s k := by
      intro k
      have h : ∃ i, p i = p k := ⟨k, rfl⟩
      show (if h : ∃ i, p i = p k then s h.choose else _) = _
      rw [dif_pos h]
      exact R.s_eq h.choose_spec
    have ts : ∀ k, T' (s k) = p k := by
      intro k
      have h : ∃ i, s i = s k := ⟨k, rfl⟩
      show (if h : ∃ i, p i = s k then s h.choose else if h : ∃ i, s i = s k then p h.choose else _) = _
      rw [dif_neg (fun ⟨i, hi⟩ => disj i k hi), dif_pos h]
      exact R.s_inj h.choose_spec
    have tt : ∀ x, (∀ k, p k ≠ x) → (∀ k, s k ≠ x) → T' x = T x := by
      intro x h1 h2
      show (if h : ∃ i, p i = x then s h.choose else if h : ∃ i, s i = x then p h.choose else T x) = _
      rw [dif_neg (fun ⟨i, hi⟩ => h1 i hi), dif_neg (fun ⟨i, hi⟩ => h2 i hi)]
    have cases3 : ∀ x, (∃ k, p k = x) ∨ (∃ k, s k = x) ∨ ((∀ k, p k ≠ x) ∧ ∀ k, s k ≠ x) := by
      intro x
      by_cases h1 : ∃ k, p k = x
      · exact .inl h1
      · by_cases h2 : ∃ k, s k = x
        · exact .inr (.inl h2)
        · exact .inr (.inr ⟨fun k h => h1 ⟨k, h⟩, fun k h => h2 ⟨k, h⟩⟩)
    have rest : ∀ x, x < N → (∀ k, p k ≠ x) → (∀ k, s k ≠ x) → (∀ k, p k ≠ T x) ∧ ∀ k, s k ≠ T x := by
      intro x hx h1 h2
      refine ⟨fun k h => ?_, fun k h => ?_⟩
      · obtain ⟨i, hi⟩ := R.prev k
        have := hT.inv x hx
        rw [← h, ← hi, hallT] at this
        exact h2 _ this
      · have := hT.inv x hx
        rw [← h, hTs] at this
        exact h1 _ this
    have hin' : Inn N L T' := by
      intro x hx
      rcases cases3 x with ⟨k, rfl⟩ | ⟨k, rfl⟩ | ⟨h1, h2⟩
      · rw [tp]; exact R.mem k
      · rw [ts]; exact R.mem' hP S k
      · rw [tt x h1 h2]; exact hin x hx
    have stb : Stb N P T' := by
      refine ⟨fun i hi => (S.lt hP (hin' i hi)).2.1, fun i hi => (S.lt hP (hin' i hi)).2.2, fun x hx => ?_, fun x y hx hy hxy h1 h2 => ?_⟩
      · rcases cases3 x with ⟨k, rfl⟩ | ⟨k, rfl⟩ | ⟨h1, h2⟩
        · rw [tp, ts]
        · rw [ts, tp]
        · obtain ⟨h3, h4⟩ := rest x hx h1 h2
          rw [tt x h1 h2, tt _ h3 h4]; exact hT.inv x hx
      · have hyx : y ∈ L x := h5.stb hP S hin' hx hy hxy h1 h2
        -- one who is worse off now is a p, and likes only its first better
        have worse : ∀ x y, x < N → y < N → y ∈ L x → rk P x y < rk P x (T' x) → rk P y x < rk P y (T' y) → rk P x (T' x) ≤ rk P x (T x) := by
          intro x y hx hy hyx h1 h2
          rcases cases3 x with ⟨k, rfl⟩ | ⟨k, rfl⟩ | ⟨g1, g2⟩
          · exfalso
            obtain ⟨i, hi⟩ := R.prev k
            obtain ⟨t, e⟩ := R.first hP S hall h4 i
            rw [tp] at h1
            have hy1 : y = s i := by
              rw [hi] at e
              rcases S.second hP e hyx with e2 | e2 | e2
              · exact e2
              · rw [e2, R.s_eq hi] at h1; omega
              · rw [R.s_eq hi] at e2; omega
            subst hy1
            rw [ts] at h2
            have := (R.gone hP S hall h4 i).2
            rw [hi] at this
            omega
          · rw [ts, hTs]
            exact Nat.le_of_lt (R.gone hP S hall h4 k).2
          · rw [tt x g1 g2]; exact Nat.le_refl _
        have w1 := worse x y hx hy hyx h1 h2
        have w2 := worse y x hy hx (S.mutl _ _ hyx) h2 h1
        exact hT.nb x y hx hy hxy (by omega) (by omega)
    refine ⟨T', stb, R.none hP S hall h4 S' hm stb hin' fun k h => ?_⟩
    rw [tp] at h
    exact R.s_ne hP S hall h4 k h.symm
  · exact ⟨T, hT, R.none hP S hall h4 S' hm hT hin fun k h => hsome ⟨k, h⟩⟩

end
end
end Mine

end
section
namespace Mine

theorem gpStep_mem {t : Nat} {acc : List (Nat × Nat)} {z : Nat} : (∀ q, q ∈ gpStep t acc z → q ∈ acc ∨ q = (t, z)) ∧ (∀ q, q ∈ acc → q ∈ gpStep t acc z) ∧ ((t, z) ∈ gpStep t acc z ∨ (z, t) ∈ gpStep t acc z) := by
  unfold gpStep
  by_cases h : (t, z) ∉ acc ∧ (z, t) ∉ acc
  · rw [if_pos h]
    refine ⟨fun q hq => ?_, fun q hq => List.mem_append_left _ hq, .inl (by simp)⟩
    rcases List.mem_append.mp hq with h | h
    · exact .inl h
    · exact .inr (List.mem_singleton.mp h)
  · rw [if_neg h]
    refine ⟨fun q hq => .inl hq, fun q hq => hq, ?_⟩
    by_cases h1 : (t, z) ∈ acc
    · exact .inl h1
    · by_cases h2 : (z, t) ∈ acc
      · exact .inr h2
      · exact absurd ⟨h1, h2⟩ h
theorem gpFold_mem {t : Nat} : ∀ (ss : List Nat) (acc : List (Nat × Nat)), (∀ q, q ∈ ss.foldl (gpStep t) acc → q ∈ acc ∨ ∃ z ∈ ss, q = (t, z)) ∧ (∀ q, q ∈ acc → q ∈ ss.foldl (gpStep t) acc) ∧
    (∀ z ∈ ss, (t, z) ∈ ss.foldl (gpStep t) acc ∨ (z, t) ∈ ss.foldl (gpStep t) acc)
  | [], acc => ⟨fun q h => .inl h, fun q h => h, fun z h => (by cases h)⟩
  | a :: r, acc => by
    obtain ⟨h1, h2, h3⟩ := gpFold_mem (t := t) r (gpStep t acc a)
    obtain ⟨g1, g2, g3⟩ := gpStep_mem (t := t) (acc := acc) (z := a)
    rw [List.foldl_cons]
    refine ⟨fun q hq => ?_, fun q hq => h2 q (g2 q hq), fun z hz => ?_⟩
    · rcases h1 q hq with h | ⟨z, hz, e⟩
      · rcases g1 q h with h | h
        · exact .inl h
        · exact .inr ⟨a, List.mem_cons_self .., h⟩
      · exact .inr ⟨z, List.mem_cons_of_mem _ hz, e⟩
    · rcases List.mem_cons.mp hz with rfl | hz
      · exact g3.imp (h2 _) (h2 _)
      · exact h3 z hz
theorem gpRows_mem {L : Nat → List Nat} {cyc : List (Nat × Nat)} : ∀ (is : List Nat) (acc : List (Nat × Nat)), (∀ q, q ∈ is.foldl (gpRow L cyc) acc → q ∈ acc ∨ ∃ i ∈ is, ∃ z ∈ gpSuccs L cyc i, q = ((cyc.getD i (0, 0)).2, z)) ∧ (∀ q, q ∈ acc → q ∈ is.foldl (gpRow L cyc) acc) ∧
    (∀ i ∈ is, ∀ z ∈ gpSuccs L cyc i, ((cyc.getD i (0, 0)).2, z) ∈ is.foldl (gpRow L cyc) acc ∨ (z, (cyc.getD i (0, 0)).2) ∈ is.foldl (gpRow L cyc) acc)
  | [], acc => ⟨fun q h => .inl h, fun q h => h, fun z h => (by cases h)⟩
  | a :: r, acc => by
    obtain ⟨h1, h2, h3⟩ := gpRows_mem (L := L) (cyc := cyc) r (gpRow L cyc acc a)
    obtain ⟨g1, g2, g3⟩ := gpFold_mem (t := (cyc.getD a (0, 0)).2) (gpSuccs L cyc a) acc
    rw [List.foldl_cons]
    refine ⟨fun q hq => ?_, fun q hq => h2 q (g2 q hq), fun i hi => ?_⟩
    · rcases h1 q hq with h | ⟨i, hi, z, hz, e⟩
      · rcases g1 q h with h | ⟨z, hz, e⟩
        · exact .inl h
        · exact .inr ⟨a, List.mem_cons_self .., z, hz, e⟩
      · exact .inr ⟨i, List.mem_cons_of_mem _ hi, z, hz, e⟩
    · rcases List.mem_cons.mp hi with rfl | hi
      · intro z hz; exact (g3 z hz).imp (h2 _) (h2 _)
      · exact h3 i hi

section
variable {N : Nat} {P L : Nat → List Nat}

theorem two_of {l : List Nat} (h : 2 ≤ l.length) : ∃ f t, l = f :: l.getD 1 0 :: t := by
  match l, h with
  | a :: b :: t, _ => exact ⟨a, t, rfl⟩

theorem last_of_ne {l : List Nat} (h : l ≠ []) : l.getLast? = some (l.getLastD 0) := by
  rw [List.getLast?_eq_some_getLast h, List.getLastD_eq_getLast?, List.getLast?_eq_some_getLast h]; rfl

theorem PhB.closed (hP : Prefs N P) (B : PhB N P L) (hall : ∀ i, i < N → L i ≠ []) {p : Nat} (hp : p < N) (h2 : 2 ≤ (L p).length) :
    L (sec L p) ≠ [] ∧ nx L p < N ∧ 2 ≤ (L (nx L p)).length := by
  have S := B.sub
  have h4 := B.j4 hall
  obtain ⟨f, t, e⟩ := two_of h2
  change L p = f :: sec L p :: t at e
  have hs : sec L p ∈ L p := by rw [e]; simp
  have hsN := (S.lt hP hs).2.1
  have hne := hall _ hsN
  have hl : (L (sec L p)).getLast? = some (nx L p) := last_of_ne hne
  have hn := List.mem_of_getLast? hl
  have hnN := (S.lt hP hn).2.1
  refine ⟨hne, hnN, ?_⟩
  obtain ⟨t', e'⟩ := h4.back hP S hall hsN hl
  cases t' with
  | cons a b => rw [e']; simp
  | nil =>
    exfalso
    obtain ⟨t2, e2⟩ := h4.back hP S hall hnN (a := sec L p) (by rw [e']; rfl)
    have hps := S.mutl _ _ hs
    have : p = nx L p := by
      rcases S.last hP hl hps with h | h
      · exact h
      · rcases S.head hP e2 hps with h' | h'
        · exact h'
        · omega
    rw [← this, e] at e'
    simp at e'

theorem PhB.iter (hP : Prefs N P) (B : PhB N P L) (hall : ∀ i, i < N → L i ≠ []) {p : Nat} (hp : p < N) (h2 : 2 ≤ (L p).length) : ∀ k, itr L p k < N ∧ 2 ≤ (L (itr L p k)).length
  | 0 => ⟨hp, h2⟩
  | k + 1 => by
    obtain ⟨h3, h4⟩ := B.iter hP hall hp h2 k
    exact (B.closed hP hall h3 h4).2

variable {st idx m : Nat}

theorem itr_per (W : Walk L st idx m) : ∀ k, itr L st (m + k) = itr L st (idx + k)
  | 0 => W.eq
  | k + 1 => by show nx L (itr L st (m + k)) = nx L (itr L st (idx + k)); rw [itr_per W k]

theorem PhB.rot (hP : Prefs N P) (B : PhB N P L) (hall : ∀ i, i < N → L i ≠ []) (hp : st < N) (h2 : 2 ≤ (L st).length) (W : Walk L st idx m) :
    Rot N L (m - idx) (fun k => itr L st (idx + k)) (fun k => sec L (itr L st (idx + k))) := by
  have hlt := W.lt
  refine ⟨by omega, fun k => two_of (B.iter hP hall hp h2 _).2, fun k => ?_, fun k => ?_, fun k => (B.iter hP hall hp h2 _).1, fun k => rfl⟩
  · obtain ⟨h3, h4⟩ := B.iter hP hall hp h2 (idx + k)
    exact last_of_ne (B.closed hP hall h3 h4).1
  · show itr L st (idx + (k + (m - idx))) = _
    rw [show idx + (k + (m - idx)) = m + k by omega]
    exact itr_per W k

theorem cyc_eq (W : Walk L st idx m) : cycOf L st idx m = (List.range (m - idx)).map fun k => (itr L st (idx + k + 1), sec L (itr L st (idx + k))) := by
  have hlt := W.lt
  unfold cycOf lastsOf secsOf
  refine List.ext_getElem (by simp) fun i h1 h2 => ?_
  simp
  rw [show idx + 1 + i = idx + i + 1 by omega]

theorem cyc_len (W : Walk L st idx m) : (cycOf L st idx m).length = m - idx := by rw [cyc_eq W]; simp
theorem cyc_get (W : Walk L st idx m) {i : Nat} (hi : i < m - idx) : (cycOf L st idx m).getD i (0, 0) = (itr L st (idx + i + 1), sec L (itr L st (idx + i))) := by
  rw [List.getD_eq_getElem?_getD, List.getElem?_eq_getElem (by rw [cyc_len W]; exact hi)]
  simp [cyc_eq W]
theorem cyc_prev (W : Walk L st idx m) {i : Nat} (hi : i < m - idx) : cycPrev (cycOf L st idx m) i = itr L st (idx + i) := by
  have hlt := W.lt
  unfold cycPrev
  rw [cyc_len W, cyc_get W (Nat.mod_lt _ (by omega))]
  show itr L st (idx + (i + (m - idx) - 1) % (m - idx) + 1) = _
  cases i with
  | zero =>
    rw [Nat.mod_eq_of_lt (by omega), show idx + (0 + (m - idx) - 1) + 1 = m + 0 by omega]
    exact itr_per W 0
  | succ i =>
    rw [show i + 1 + (m - idx) - 1 = i + (m - idx) by omega, Nat.add_mod_right, Nat.mod_eq_of_lt (by omega)]
    rfl
theorem cyc_succs (hP : Prefs N P) (S : Sub P L) (W : Walk L st idx m) (R : Rot N L (m - idx) (fun k => itr L st (idx + k)) (fun k => sec L (itr L st (idx + k)))) {i : Nat} (hi : i < m - idx) {z : Nat} :
    z ∈ gpSuccs L (cycOf L st idx m) i ↔ z ∈ L (sec L (itr L st (idx + i))) ∧ rk P (sec L (itr L st (idx + i))) (itr L st (idx + i)) < rk P (sec L (itr L st (idx + i))) z := by
  unfold gpSuccs
  rw [cyc_prev W hi, cyc_get W hi]
  exact S.behind hP (R.mem' hP S i)

theorem Rot.mod {r : Nat} {p s : Nat → Nat} (R : Rot N L r p s) (k : Nat) : p k = p (k % r) := by
  have : ∀ c k, p (k + c * r) = p k := by
    intro c
    induction c with
    | zero => intro k; simp
    | succ c ih => intro k; rw [Nat.succ_mul, ← Nat.add_assoc, R.per]; exact ih k
  conv => lhs; rw [← Nat.mod_add_div' k r]
  exact this _ _

theorem gone_iff (hP : Prefs N P) (S : Sub P L) (W : Walk L st idx m) (R : Rot N L (m - idx) (fun k => itr L st (idx + k)) (fun k => sec L (itr L st (idx + k)))) {a b : Nat} :
    Gone P L (fun k => itr L st (idx + k)) (fun k => sec L (itr L st (idx + k))) a b ↔ (a, b) ∈ gpAll L (cycOf L st idx m) ∨ (b, a) ∈ gpAll L (cycOf L st idx m) := by
  obtain ⟨h1, _, h3⟩ := gpRows_mem (L := L) (cyc := cycOf L st idx m) (List.range (cycOf L st idx m).length) []
  have hlt := W.lt
  constructor
  · have dir : ∀ a b, (∃ i, a = sec L (itr L st (idx + i)) ∧ b ∈ L (sec L (itr L st (idx + i))) ∧ rk P (sec L (itr L st (idx + i))) (itr L st (idx + i)) < rk P (sec L (itr L st (idx + i))) b) → (a, b) ∈ gpAll L (cycOf L st idx m) ∨ (b, a) ∈ gpAll L (cycOf L st idx m) := by
      rintro a b ⟨i, h⟩
      have e : itr L st (idx + i) = itr L st (idx + i % (m - idx)) := R.mod i
      have hi : i % (m - idx) < m - idx := Nat.mod_lt _ (by omega)
      rw [e] at h
      have := h3 (i % (m - idx)) (List.mem_range.mpr (by rw [cyc_len W]; exact hi)) b ((cyc_succs hP S W R hi).mpr h.2)
      rw [cyc_get W hi] at this
      rw [h.1]
      exact this
    rintro ⟨i, h | h⟩
    · exact dir a b ⟨i, h⟩
    · exact (dir b a ⟨i, h⟩).symm
  · have dir : ∀ a b, (a, b) ∈ gpAll L (cycOf L st idx m) → Gone P L (fun k => itr L st (idx + k)) (fun k => sec L (itr L st (idx + k))) a b := by
      intro a b h
      rcases h1 _ h with h | ⟨i, hi, z, hz, e⟩
      · cases h
      · have hi : i < m - idx := by have := List.mem_range.mp hi; rw [cyc_len W] at this; exact this
        rw [cyc_get W hi] at e
        injection e with e1 e2
        subst e2
        exact ⟨i, .inl ⟨e1, (cyc_succs hP S W R hi).mp hz⟩⟩
    rintro (h | h)
    · exact dir a b h
    · exact (dir b a h).symm

theorem PhB.cyc (hP : Prefs N P) (hN6 : N ≤ 6) (B : PhB N P L) (hall : ∀ i, i < N → L i ≠ []) (hp : st < N) (h2 : 2 ≤ (L st).length) (W : Walk L st idx m) : CycOk N L (cycOf L st idx m) := by
  have R := B.rot hP hall hp h2 W
  have S := B.sub
  have h4 := B.j4 hall
  have hlt := W.lt
  have hit := B.iter hP hall hp h2
  have hpn : ∀ i j, i < j → j < m - idx → itr L st (idx + i) ≠ itr L st (idx + j) := fun i j h1 h2 => W.ne _ _ (by omega) (by omega)
  refine ⟨?_, fun i hi => ?_, fun i hi => ?_, fun i hi => ?_, fun q hq => ?_, fun hd => ?_⟩
  · rw [cyc_len W]
    have := nodup_le N ((List.range (m - idx)).map fun k => itr L st (idx + k)) (by
      rw [List.nodup_iff_pairwise_ne, List.pairwise_iff_getElem]
      intro i j hi hj hij
      simp at hi hj ⊢
      exact hpn i j hij hj) fun x hx => by
        obtain ⟨k, hk, rfl⟩ := List.mem_map.mp hx
        exact (hit _).1
    simp at this
    omega
  · rw [cyc_len W] at hi
    have hnd : ((cycOf L st idx m).map (·.1)).Nodup := by
      rw [cyc_eq W, List.map_map, List.nodup_iff_pairwise_ne, List.pairwise_iff_getElem]
      intro i j hi hj hij
      simp at hi hj ⊢
      exact fun h => hpn i j hij hj (R.p_prev (j := i) (k := j) h)
    rw [hnd.count, if_pos]
    rw [cyc_get W hi, cyc_eq W]
    simp
    exact ⟨i, hi, rfl⟩
  · rw [cyc_len W] at hi
    rw [cyc_get W hi]
    exact R.last i
  · rw [cyc_len W] at hi
    rw [cyc_get W hi, cyc_prev W hi]
    refine ⟨(hit _).2, ?_, R.mem' hP S i, (hit _).1⟩
    obtain ⟨f, t, e⟩ := R.two i
    dsimp only at e ⊢
    rw [e]; rfl
  · rw [cyc_eq W] at hq
    obtain ⟨k, hk, rfl⟩ := List.mem_map.mp hq
    exact ⟨(hit _).1, R.slt hP S k⟩
  · rw [← gp_due, List.map_eq_nil_iff] at hd
    have := (gone_iff hP S W R (a := sec L (itr L st (idx + 0))) (b := itr L st (idx + (0 + 1)))).mp ⟨0, .inl ⟨rfl, R.gone hP S hall h4 0⟩⟩
    rw [hd] at this
    simp at this

theorem PhB.turn (hP : Prefs N P) (B : PhB N P L) (hall : ∀ i, i < N → L i ≠ []) (hp : st < N) (h2 : 2 ≤ (L st).length) (W : Walk L st idx m) :
    PhB N P (delAll L (gpAll L (cycOf L st idx m))) ∧ sumL N (delAll L (gpAll L (cycOf L st idx m))) < sumL N L ∧ ((∃ T, Stb N P T ∧ Inn N L T) → ∃ T, Stb N P T ∧ Inn N (delAll L (gpAll L (cycOf L st idx m))) T) := by
  have R := B.rot hP hall hp h2 W
  have S := B.sub
  have h4 := B.j4 hall
  have S' : Sub P (delAll L (gpAll L (cycOf L st idx m))) := S.delAll _
  have hm : ∀ k x, x ∈ delAll L (gpAll L (cycOf L st idx m)) k ↔ x ∈ L k ∧ ¬ Gone P L (fun k => itr L st (idx + k)) (fun k => sec L (itr L st (idx + k))) k x := fun k x => by
    rw [mem_delAll, gone_iff hP S W R, not_or]
  generalize delAll L (gpAll L (cycOf L st idx m)) = L' at S' hm
  have hsub : ∀ k x, x ∈ L' k → x ∈ L k := fun k x h => ((hm k x).mp h).1
  have hst : (∃ T, Stb N P T ∧ Inn N L T) → ∃ T, Stb N P T ∧ Inn N L' T := fun ⟨T, hT, hin⟩ => R.stay hP S hall h4 S' hm hT hin B.j5
  refine ⟨⟨S', fun hall' => R.j4 hP S hall h4 S' hm hall', R.j5 hP S hall h4 S' hm B.j5, fun h => hst (B.st h)⟩, ?_, hst⟩
  have hg := R.gone hP S hall h4 0
  exact sumL_lt N (fun k _ => S.le S' hsub k) ⟨_, R.slt hP S 0, S.less S' hsub hg.1 fun h => ((hm _ _).mp h).2 ⟨0, .inl ⟨rfl, hg⟩⟩⟩

end
end Mine

end
section
namespace Mine

noncomputable def flat (row : List (Nat × Nat)) : List Nat := row.flatMap fun q => [q.1, q.2]
theorem flat_cons (q : Nat × Nat) (r : List (Nat × Nat)) : flat (q :: r) = q.1 :: q.2 :: flat r := rfl
theorem mem_flat {row : List (Nat × Nat)} {x : Nat} : x ∈ flat row ↔ ∃ q ∈ row, x = q.1 ∨ x = q.2 := by
  unfold flat; rw [List.mem_flatMap]; simp

theorem set_getD_ne {m : List Nat} {a b x : Nat} (h : x ≠ a) : (m.set a b).getD x 0 = m.getD x 0 := by
  rw [List.getD_eq_getElem?_getD, List.getElem?_set_ne (Ne.symm h), List.getD_eq_getElem?_getD]
theorem set_getD_eq {m : List Nat} {a b : Nat} (h : a < m.length) : (m.set a b).getD a 0 = b := by
  rw [List.getD_eq_getElem?_getD, List.getElem?_set_self h]; rfl

theorem fold_mates : ∀ (row : List (Nat × Nat)) (m : List Nat), (flat row).Nodup → (∀ q ∈ row, q.1 < m.length ∧ q.2 < m.length) →
    (∀ x, x ∉ flat row → (row.foldl matesStep m).getD x 0 = m.getD x 0) ∧ ∀ q ∈ row, (row.foldl matesStep m).getD q.1 0 = q.2 ∧ (row.foldl matesStep m).getD q.2 0 = q.1
  | [], m, _, _ => ⟨fun x _ => rfl, fun q h => (by cases h)⟩
  | q :: r, m, hnd, hlt => by
    rw [flat_cons, List.nodup_cons, List.nodup_cons] at hnd
    obtain ⟨h1, h2, h3⟩ := hnd
    have h12 : q.1 ≠ q.2 := fun e => h1 (by rw [e]; exact List.mem_cons_self ..)
    have hq := hlt q (List.mem_cons_self ..)
    have hl : (matesStep m q).length = m.length := by simp [matesStep]
    obtain ⟨i1, i2⟩ := fold_mates r (matesStep m q) h3 fun p hp => by rw [hl]; exact hlt p (List.mem_cons_of_mem _ hp)
    rw [List.foldl_cons]
    refine ⟨fun x hx => ?_, fun p hp => ?_⟩
    · rw [flat_cons, List.mem_cons, List.mem_cons, not_or, not_or] at hx
      rw [i1 x hx.2.2]
      unfold matesStep
      rw [set_getD_ne hx.2.1, set_getD_ne hx.1]
    · rcases List.mem_cons.mp hp with rfl | hp
      · rw [i1 _ (fun h => h1 (List.mem_cons_of_mem _ h)), i1 _ h2]
        unfold matesStep
        rw [set_getD_ne h12, set_getD_eq hq.1, set_getD_eq (by simpa using hq.2)]
        exact ⟨rfl, rfl⟩
      · exact i2 p hp

theorem flat_ne : ∀ (row : List (Nat × Nat)), (flat row).Nodup → ∀ q ∈ row, q.1 ≠ q.2
  | [], _, q, h => by cases h
  | p :: r, hnd, q, h => by
    rw [flat_cons, List.nodup_cons, List.nodup_cons] at hnd
    rcases List.mem_cons.mp h with rfl | h
    · exact fun e => hnd.1 (by rw [e]; exact List.mem_cons_self ..)
    · exact flat_ne r hnd.2.2 q h

theorem filter_erase {r : List Nat} (h : r.Nodup) (o : Nat) : (r.filter fun x => decide (x ≠ o)) = r.erase o := by
  rw [h.erase_eq_filter]
  congr 1; funext x
  by_cases e : x = o <;> simp [e]

theorem pairings_flat : ∀ (f : Nat) (left : List Nat), left.length ≤ f → left.length % 2 = 0 → left.Nodup → ∀ row ∈ pairingsF f left, (flat row).Perm left
  | 0, left, h, _, _, row, hr => by
    have : left = [] := List.eq_nil_of_length_eq_zero (by omega)
    subst this
    simp [pairingsF] at hr; subst hr; exact .nil
  | f + 1, [], h, _, _, row, hr => by simp [pairingsF] at hr; subst hr; exact .nil
  | f + 1, a :: r, h, he, hnd, row, hr => by
    simp only [pairingsF, List.mem_flatMap, List.mem_map] at hr
    obtain ⟨o, ho, row', hr', rfl⟩ := hr
    have hrn := (List.nodup_cons.mp hnd).2
    rw [filter_erase hrn] at hr'
    have hl := List.length_erase_of_mem ho
    have hpos := List.length_pos_of_mem ho
    simp at h he
    have := pairings_flat f (r.erase o) (by omega) (by omega) (hrn.erase o) row' hr'
    rw [flat_cons]
    exact .cons _ ((this.cons o).trans (List.perm_cons_erase ho).symm)

theorem mates_ok {n : Nat} {row : List (Nat × Nat)} (he : n % 2 = 0) (hr : row ∈ pairingsF n (List.range n)) :
    (∀ q ∈ row, q.1 < n ∧ q.2 < n ∧ q.1 ≠ q.2 ∧ (matesOf n row).getD q.1 0 = q.2 ∧ (matesOf n row).getD q.2 0 = q.1) ∧ ∀ i, i < n → ∃ q ∈ row, i = q.1 ∨ i = q.2 := by
  have hp := pairings_flat n (List.range n) (by simp) (by simpa using he) List.nodup_range row hr
  have hnd : (flat row).Nodup := hp.nodup_iff.mpr List.nodup_range
  have hlt : ∀ q ∈ row, q.1 < n ∧ q.2 < n := fun q hq =>
    ⟨List.mem_range.mp (hp.mem_iff.mp (mem_flat.mpr ⟨q, hq, .inl rfl⟩)), List.mem_range.mp (hp.mem_iff.mp (mem_flat.mpr ⟨q, hq, .inr rfl⟩))⟩
  refine ⟨fun q hq => ?_, fun i hi => mem_flat.mp (hp.mem_iff.mpr (List.mem_range.mpr hi))⟩
  have := (fold_mates row (List.replicate n 0) hnd (by simpa using hlt)).2 q hq
  exact ⟨(hlt q hq).1, (hlt q hq).2, flat_ne row hnd q hq, this⟩

noncomputable def canon (T : Nat → Nat) (left : List Nat) : List (Nat × Nat) := (left.filter fun k => decide (k < T k)).map fun k => (k, T k)

theorem canon_mem {T : Nat → Nat} : ∀ (f : Nat) (left : List Nat), left.length ≤ f → left.Pairwise (· < ·) → (∀ i ∈ left, T i ∈ left ∧ T i ≠ i ∧ T (T i) = i) → canon T left ∈ pairingsF f left ∧ left.length % 2 = 0
  | 0, left, h, _, _ => by
    have : left = [] := List.eq_nil_of_length_eq_zero (by omega)
    subst this
    exact ⟨List.mem_cons_self .., rfl⟩
  | f + 1, [], _, _, _ => ⟨List.mem_cons_self .., rfl⟩
  | f + 1, a :: r, h, hpw, hT => by
    obtain ⟨hlt, hpr⟩ := List.pairwise_cons.mp hpw
    obtain ⟨ha1, ha2, ha3⟩ := hT a (List.mem_cons_self ..)
    have hTr : T a ∈ r := by
      rcases List.mem_cons.mp ha1 with e | e
      · exact absurd e ha2
      · exact e
    have haT := hlt _ hTr
    have hnd : r.Nodup := by
      rw [List.nodup_iff_pairwise_ne]
      exact hpr.imp fun h => Nat.ne_of_lt h
    have hanr : a ∉ r := fun h => Nat.lt_irrefl _ (hlt a h)
    have hl := List.length_erase_of_mem hTr
    have hpos := List.length_pos_of_mem hTr
    simp only [List.length_cons] at h
    obtain ⟨i1, i2⟩ := canon_mem (T := T) f (r.filter fun x => decide (x ≠ T a)) (by rw [filter_erase hnd]; omega) (hpr.sublist List.filter_sublist) fun x hx => by
      rw [List.mem_filter] at hx
      obtain ⟨hxr, hxn⟩ := hx
      have hxn : x ≠ T a := by simpa using hxn
      obtain ⟨h1, h2, h3⟩ := hT x (List.mem_cons_of_mem _ hxr)
      refine ⟨?_, h2, h3⟩
      rw [List.mem_filter]
      refine ⟨?_, ?_⟩
      · rcases List.mem_cons.mp h1 with e | e
        · rw [e] at h3; exact absurd h3.symm hxn
        · exact e
      · simp only [decide_eq_true_eq]
        intro e
        rw [e, ha3] at h3
        subst h3; exact hanr hxr
    rw [filter_erase hnd] at i2
    refine ⟨?_, by simp only [List.length_cons]; omega⟩
    simp only [pairingsF, List.mem_flatMap, List.mem_map]
    refine ⟨T a, hTr, _, i1, ?_⟩
    unfold canon
    rw [List.filter_cons, if_pos (by simpa using haT), List.map_cons, List.filter_filter]
    congr 2
    refine List.filter_congr fun x hx => ?_
    by_cases e : x = T a
    · subst e; rw [ha3]; simp; omega
    · simp [e]

theorem mem_take_idx {l : List Nat} {n j : Nat} : j ∈ l.take n → l.idxOf j < n := by
  intro h
  have h1 := List.idxOf_lt_length_of_mem h
  have h2 : l.idxOf j = (l.take n).idxOf j := by
    conv => lhs; rw [← List.take_append_drop n l]
    rw [List.idxOf_append, if_pos h]
  rw [h2]
  simp at h1
  omega
theorem take_of_idx {l : List Nat} {n j : Nat} (h : l.idxOf j < n) (hn : n ≤ l.length) : j ∈ l.take n := by
  have hl : l.idxOf j < l.length := by omega
  have e : l[l.idxOf j] = j := List.getElem_idxOf hl
  have : (l.take n)[l.idxOf j]'(by simp; omega) = j := by rw [List.getElem_take]; exact e
  exact this ▸ List.getElem_mem _

section
variable {N : Nat} {os : List (List Nat)}

theorem good_stb (hl : os.length = N) (hP : Prefs N fun i => os.getD i []) {ms : List Nat} {T : Nat → Nat} (hms : ∀ i, i < N → ms.getD i 0 = T i) (h1 : ∀ i, i < N → T i < N) (h2 : ∀ i, i < N → T i ≠ i) (h3 : ∀ i, i < N → T (T i) = i) :
    goodM os ms = true ↔ Stb N (fun i => os.getD i []) T := by
  unfold goodM
  rw [hl, List.all_eq_true]
  constructor
  · intro h
    refine ⟨h1, h2, h3, fun i j hi hj hij hlt hc => ?_⟩
    have hg := h i (List.mem_range.mpr hi)
    unfold goodRow at hg
    rw [List.all_eq_true, hms i hi] at hg
    have := hg j (take_of_idx hlt (List.idxOf_le_length ..))
    unfold badAt at this
    rw [hms j hj] at this
    simp at this
    have hc : (os.getD j []).idxOf i < (os.getD j []).idxOf (T j) := hc
    simp only [List.getD_eq_getElem?_getD] at hc
    omega
  · intro h i hi
    have hi := List.mem_range.mp hi
    unfold goodRow
    rw [List.all_eq_true, hms i hi]
    intro j hj
    have hjP := (hP.mem i j).mp (List.mem_of_mem_take hj)
    have hlt := mem_take_idx hj
    unfold badAt
    rw [hms j hjP.2.1]
    have := h.nb i j hi hjP.2.1 (Ne.symm hjP.2.2) hlt
    unfold rk at this
    simp only [Bool.not_eq_true', decide_eq_false_iff_not]
    exact this

theorem row_facts (hl : os.length = N) (hP : Prefs N fun i => os.getD i []) {row : List (Nat × Nat)} (h : row ∈ stableM os) :
    N % 2 = 0 ∧ row ∈ pairingsF N (List.range N) ∧ Stb N (fun i => os.getD i []) fun i => (matesOf N row).getD i 0 := by
  unfold stableM at h
  rw [hl] at h
  split at h
  · cases h
  · rename_i ho
    obtain ⟨h1, h2⟩ := List.mem_filter.mp h
    have he : N % 2 = 0 := by omega
    obtain ⟨m1, m2⟩ := mates_ok he h1
    refine ⟨he, h1, (good_stb hl hP (fun i hi => rfl) (fun i hi => ?_) (fun i hi => ?_) fun i hi => ?_).mp h2⟩
    all_goals
      obtain ⟨q, hq, e⟩ := m2 i hi
      obtain ⟨a1, a2, a3, a4, a5⟩ := m1 q hq
      rcases e with rfl | rfl
    · rw [a4]; exact a2
    · rw [a5]; exact a1
    · rw [a4]; exact Ne.symm a3
    · rw [a5]; exact a3
    · rw [a4, a5]
    · rw [a5, a4]

theorem canon_row (hl : os.length = N) (hP : Prefs N fun i => os.getD i []) {T : Nat → Nat} (hT : Stb N (fun i => os.getD i []) T) : canon T (List.range N) ∈ stableM os := by
  obtain ⟨h1, h2⟩ := canon_mem (T := T) N (List.range N) (by simp) List.pairwise_lt_range fun i hi => by
    have hi := List.mem_range.mp hi
    exact ⟨List.mem_range.mpr (hT.lt i hi), hT.ne i hi, hT.inv i hi⟩
  rw [List.length_range] at h2
  unfold stableM
  rw [hl, if_neg (by omega), List.mem_filter]
  refine ⟨h1, (good_stb hl hP (T := T) (fun i hi => ?_) hT.lt hT.ne hT.inv).mpr hT⟩
  obtain ⟨m1, m2⟩ := mates_ok h2 h1
  obtain ⟨q, hq, e⟩ := m2 i hi
  obtain ⟨a1, a2, a3, a4, a5⟩ := m1 q hq
  unfold canon at hq
  obtain ⟨k, hk, rfl⟩ := List.mem_map.mp hq
  rcases e with rfl | rfl
  · exact a4
  · rw [a5]; exact (hT.inv k a1).symm

theorem within_iff (hl : os.length = N) (hP : Prefs N fun i => os.getD i []) {L : Nat → List Nat} (S : Sub (fun i => os.getD i []) L) :
    withinM (stableM os) (lsOf N L) ≠ [] ↔ ∃ T, Stb N (fun i => os.getD i []) T ∧ Inn N L T := by
  have hmem : ∀ row, row ∈ withinM (stableM os) (lsOf N L) ↔ row ∈ stableM os ∧ ∀ q ∈ row, q.2 ∈ (lsOf N L).getD q.1 [] := by
    intro row
    unfold withinM
    rw [List.mem_filter, decide_eq_true_eq, List.length_filter_eq_length_iff]
    unfold inLists
    simp only [decide_eq_true_eq]
  constructor
  · intro h
    obtain ⟨row, hrow⟩ := List.exists_mem_of_ne_nil _ h
    obtain ⟨h1, h2⟩ := (hmem row).mp hrow
    obtain ⟨he, hp, hT⟩ := row_facts hl hP h1
    refine ⟨_, hT, fun i hi => ?_⟩
    obtain ⟨m1, m2⟩ := mates_ok he hp
    obtain ⟨q, hq, e⟩ := m2 i hi
    obtain ⟨a1, a2, a3, a4, a5⟩ := m1 q hq
    have := h2 q hq
    rw [lsOf_getD a1] at this
    rcases e with rfl | rfl
    · show (matesOf N row).getD q.1 0 ∈ L q.1
      rw [a4]; exact this
    · show (matesOf N row).getD q.2 0 ∈ L q.2
      rw [a5]; exact S.mutl _ _ this
  · rintro ⟨T, hT, hin⟩
    refine List.ne_nil_of_mem ((hmem (canon T (List.range N))).mpr ⟨canon_row hl hP hT, fun q hq => ?_⟩)
    unfold canon at hq
    obtain ⟨k, hk, rfl⟩ := List.mem_map.mp hq
    have hk := List.mem_range.mp (List.mem_filter.mp hk).1
    show T k ∈ (lsOf N L).getD k []
    rw [lsOf_getD hk]
    exact hin k hk

theorem Orders.prefs (O : Orders N os) : Prefs N fun i => os.getD i [] := by
  have hl := O.len
  refine ⟨fun k => ?_, fun k j => ?_⟩
  · show (os.getD k []).Nodup
    rw [List.getD_eq_getElem?_getD]
    cases h : os[k]? with
    | none => simp
    | some o =>
      show o.Nodup
      rw [(O.perm k o h).nodup_iff]
      exact List.nodup_range.sublist List.filter_sublist
  · show j ∈ os.getD k [] ↔ _
    by_cases hk : k < N
    · rw [O.mem hk]
      exact ⟨fun h => ⟨hk, h⟩, fun h => h.2⟩
    · rw [List.getD_eq_getElem?_getD, List.getElem?_eq_none (by omega)]
      simp
      omega

/-- the plain law -/
theorem plain (hN : 2 ≤ N) (hN6 : N ≤ 6) (O : Orders N os) : ∃ Ph1 μ Ph2, Plain os N Ph1 μ Ph2 := by
  have hl := O.len
  have hP := O.prefs
  have hlen : ∀ i, (os.getD i []).length ≤ 6 := O.small hN6
  have hlen' : ∀ k, k < N → (os.getD k []).length ≤ N - 1 := fun k hk => by
    have e : os[k]? = some os[k] := List.getElem?_eq_getElem (by omega)
    rw [List.getD_eq_getElem?_getD, e]
    show os[k].length ≤ _
    have h1 := (O.perm k _ e).length_eq
    rw [othersOf_len N k hk] at h1
    omega
  have hsm : ∀ L, Sub (fun i => os.getD i []) L → ∀ i, (L i).length ≤ 6 := fun L S i => Nat.le_trans (S.len hP i) (hlen i)
  refine ⟨PhA N (fun i => os.getD i []), fun L _ fr => sumL N L + fr.length, PhB N (fun i => os.getD i []), ?_⟩
  refine ⟨fun he row hr => ?_, PhA.init hP hN, fun L M fr p A => ⟨fun i => Nat.le_trans (hsm L A.sub i) (by decide), ?_, A.step hP⟩, fun L M A => A.done hP, fun L B => hsm L B.sub, fun L B k hk => B.sub.filt k,
    fun L B k hk j hj => ⟨(B.sub.lt hP hj).2.1, B.sub.mutl _ _ hj⟩, fun L B => sumL_bound N fun k hk => Nat.le_trans (B.sub.len hP k) (hlen' k hk), fun L B hall p hp h2 => ⟨h2, B.closed hP hall hp h2⟩,
    fun L B hall s hs h2 idx m W _ => B.cyc hP hN6 hall hs h2 W, fun L B hall s hs h2 idx m W => ?_, fun L B hall k hk => ?_, fun L B ⟨i, hi, e⟩ => ?_, fun L B hone => ?_, fun row hr => ?_⟩
  · rw [hl] at he hr ⊢
    obtain ⟨m1, m2⟩ := mates_ok he hr
    refine ⟨fun q hq => ⟨(m1 q hq).1, (m1 q hq).2.1⟩, fun i hi => ?_⟩
    obtain ⟨q, hq, e⟩ := m2 i hi
    obtain ⟨a1, a2, a3, a4, a5⟩ := m1 q hq
    rcases e with rfl | rfl
    · rw [a4]; exact (hP.mem _ _).mpr ⟨a1, a2, Ne.symm a3⟩
    · rw [a5]; exact (hP.mem _ _).mpr ⟨a2, a1, a3⟩
  · have h1 := nodup_le N (fr ++ [p]) A.nd fun x hx => ((A.free x).mp hx).1
    rw [List.length_append] at h1
    omega
  · obtain ⟨B', hs', ht⟩ := B.turn hP hall hs h2 W
    exact ⟨B', hs', fun h => (within_iff hl hP B'.sub).mpr (ht ((within_iff hl hP B.sub).mp h))⟩
  · obtain ⟨a, t, e⟩ := List.exists_cons_of_ne_nil (hall k hk)
    have := B.j4 hall k a t hk e
    rw [e]; exact this
  · refine Classical.byContradiction fun hn => ?_
    obtain ⟨row, hrow⟩ := List.exists_mem_of_ne_nil _ hn
    obtain ⟨T, hT, hin⟩ := B.st ⟨_, (row_facts hl hP hrow).2.2⟩
    have := hin i hi
    rw [e] at this; cases this
  · have h1 : ∀ i, i < N → L i = [(L i).getD 0 0] := fun i hi => by
      match h : L i, hone i hi with
      | [a], _ => rfl
    have hin : Inn N L fun i => (L i).getD 0 0 := fun i hi => by
      show (L i).getD 0 0 ∈ L i
      have := h1 i hi
      generalize (L i).getD 0 0 = a at this
      rw [this]
      exact List.mem_cons_self ..
    have only : ∀ i j, i < N → j ∈ L i → j = (L i).getD 0 0 := fun i j hi hj => by
      rw [h1 i hi] at hj; exact List.mem_singleton.mp hj
    have S := B.sub
    have hT : Stb N (fun i => os.getD i []) fun i => (L i).getD 0 0 := by
      refine ⟨fun i hi => (S.lt hP (hin i hi)).2.1, fun i hi => (S.lt hP (hin i hi)).2.2, fun i hi => ?_, fun i j hi hj hij g1 g2 => ?_⟩
      · exact (only _ i (S.lt hP (hin i hi)).2.1 (S.mutl _ _ (hin i hi))).symm
      · have := B.j5.stb hP S hin hi hj hij g1 g2
        have := only i j hi this
        rw [← this] at g1
        omega
    exact canon_row hl hP hT
  · obtain ⟨he, hp, hT⟩ := row_facts hl hP hr
    have := pairingsF_row N (List.range N) (by simp) row hp
    rw [List.length_range] at this
    exact ⟨by omega, fun q hq => ((mates_ok he hp).1 q hq).1⟩

end
end Mine

end
section
namespace Mine

theorem join {gl : Gl} (X : Fns gl) {fa : Addr} {cdv : Value} {h₁ : Heap} {m : Str → Option Value} {o : Obj} {cv : Option Value} {l : Addr} {vs : List Value} {ns : List Int}
    {g : Array GenState} {d : Drawn} {tk : Nat} {os : OsState} (hl : gl.H.IsList l vs.toArray) (hI : IntsAre vs ns) (hz : ns.length ≤ 1000)
    (F : Fr gl.H gl.H.objs.size h₁ m) (hm : m "script" = some (.ref l)) (Nw : News gl.H gl.H.objs.size h₁ [(gl.H.objs.size + 1, o)]) (hc : o.data = .cell cv)
    {Q : Flow → Shared → Prop} {E : Value → Shared → Prop}
    (k : ∀ f h' tk', retV f = .bool true → (∀ a ob, gl.H.get? a = some ob → h'.get? a = some ob) → Q f ⟨h', g, d, tk', os⟩) :
    wpAny (model gl.prog gl.w) (callerA.deeper (envOfC "law" (scopeOf (stmtAt 23)) gl.H.objs.size fa cdv)) (execs (bodyOf (stmtAt 23)) (envOfC "law" (scopeOf (stmtAt 23)) gl.H.objs.size fa cdv)) Q E ⟨h₁, g, d, tk, os⟩ := by
  have hcs : (envOfC "law" (scopeOf (stmtAt 23)) gl.H.objs.size fa cdv).cells = [(("lists" : Str), gl.H.objs.size + 1)] := rfl
  have hN := Nw _ (List.mem_cons_self ..)
  have S : St gl (fFx (envOfC "law" (scopeOf (stmtAt 23)) gl.H.objs.size fa cdv) (callerA.deeper (envOfC "law" (scopeOf (stmtAt 23)) gl.H.objs.size fa cdv)) (0 + 10) true [] gl.H.get? gl.H) ⟨gl.H.get?, [("script", .ref l)], [], []⟩ h₁ := by
    refine ⟨F.keep, Le.rfl, Room.deeper (A := callerA) (n := 10) ⟨rfl, by decide, by decide⟩ _, fun _ _ _ => rfl, Le.rfl, fun b o e => ⟨o, F.keep _ _ e⟩, fun b o _ e => F.keep _ _ e, rfl, ⟨_, F.ns, fun x v e q => ?_⟩, fun x v e n => ?_, fun _ => ⟨fresh_size _, fresh_size _⟩,
      fun _ => ⟨fun c hc' => ?_, ?_⟩, fun e he => (by cases he), List.nodup_nil, ⟨fun p hp => (by cases hp), List.nodup_nil, List.nodup_nil⟩, fun p hp => (by cases hp), fun p hp => (by cases hp), fun e he => (by cases he)⟩
    · have e : List.lookup x [(("script" : Str), Value.ref l)] = some v := e
      rw [List.lookup_cons] at e
      split at e
      · rename_i hx
        have hx := eq_of_beq hx
        subst hx; injection e with e; subst e
        exact hm
      · cases e
    · have e : List.lookup x [(("script" : Str), Value.ref l)] = some v := e
      rw [List.lookup_cons] at e
      split at e
      · rename_i hx
        have hx := eq_of_beq hx
        subst hx
        exact absurd rfl n
      · cases e
    · have hc' : c ∈ [(("lists" : Str), gl.H.objs.size + 1)] := hc'
      rw [List.mem_singleton] at hc'
      subst hc'
      exact ⟨hN.2.2, hN.2.2, cv, o, hN.1, hc⟩
    · show List.Pairwise _ [(("lists" : Str), gl.H.objs.size + 1)]
      exact List.pairwise_singleton ..
  refine law_body X ⟨l, vs, rfl, hl, hI, hz⟩ (fun N os h2 h6 O => plain h2 h6 O) h₁ g d tk os Q E S fun f σ' h' tk' S' p => ?_
  exact k f h' tk' p fun a ob e => S'.keep a ob (fun ⟨_, q, hq, _⟩ => by cases hq) e

theorem IntsAre_le {ns : List Int} (h : ¬ (63 : Int) < (ns.length : Int)) : ns.length ≤ 1000 := by omega

end Mine

end
section
namespace Mine

structure OkK (K : Frag) (C : Addr) : Prop where
  plain : ∀ x, plainGet K C x = true
  hasDict : hasDictIn K C = true
  ceq : findIn K (.ref C) "__eq__" = some (some (.builtin "object.__eq__"))
  cne : findIn K (.ref C) "__ne__" = some (some (.builtin "object.__ne__"))
  cob : mroIn K C (.type "object") = some true
  cset : findIn K (.ref C) "__setattr__" = some (some (.builtin "object.__setattr__"))
  cover : plainOver K C = true
  nname : findIn K (.ref C) "name" = some none
  nprefs : findIn K (.ref C) "prefs" = some none
  nmatching : findIn K (.ref C) "matching" = some none
  npn : findIn K (.ref C) "_pref_names" = some none
  nop : findIn K (.ref C) "_original_prefs" = some none

section
variable {K : Frag} {C : Addr} {prog p : Program} {w : World} {H : Heap} {mg mb : Str → Option Value} {loose : List Str} {mean : ExcName → Option Value}

theorem OkK.ok (O : OkK K C) (KX : K.In H) (T : Top p loose mean mg mb H) : Gl.Ok ⟨prog, w, K, H, mg, mb, C⟩ :=
  ⟨KX, T.g, T.b, T.builtins, T.nolimit, T.nodigits, O.plain, O.hasDict, O.ceq, O.cne, O.cob, O.cset, O.cover, O.nname, O.nprefs, O.nmatching, O.npn, O.nop⟩

theorem FnK.of {a : Addr} {name qual : Str} {st : Stmt} {oc : Value} {od : Option Addr} {osl : Array (Option Value)} {doc pm cdv ct : Value} (h2 : K.lookup a = some ⟨oc, od, .func (fnOf name qual (paramsOf st) (bodyOf st) (scopeOf st) .none .none doc pm none cdv ct), osl⟩)
    (h3 : codeIn K cdv qual = true) (h4 : keepIn K (.ref a) = true) : FnK ⟨prog, w, K, H, mg, mb, C⟩ a qual st := ⟨⟨_, _, _, _, _, _, _, _, h2, h3⟩, h4⟩
theorem GFn.of {a : Addr} {name nm : Str} {st : Stmt} {oc : Value} {od : Option Addr} {osl : Array (Option Value)} {doc pm cdv ct : Value} (h1 : nsIn K mainGlobals name = some (some (.ref a)))
    (h2 : K.lookup a = some ⟨oc, od, .func (fnOf nm name (paramsOf st) (bodyOf st) (scopeOf st) .none .none doc pm none cdv ct), osl⟩)
    (h3 : codeIn K cdv name = true) (h4 : keepIn K (.ref a) = true) : GFn ⟨prog, w, K, H, mg, mb, C⟩ name st := ⟨_, h1, FnK.of h2 h3 h4⟩
theorem MFn.of {a : Addr} {name qual nm : Str} {st : Stmt} {oc : Value} {od : Option Addr} {osl : Array (Option Value)} {doc pm cdv ct : Value} (h1 : findIn K (.ref C) name = some (some (.ref a))) (h1' : isFn K (.ref a) = true)
    (h2 : K.lookup a = some ⟨oc, od, .func (fnOf nm qual (paramsOf st) (bodyOf st) (scopeOf st) .none .none doc pm none cdv ct), osl⟩)
    (h3 : codeIn K cdv qual = true) (h4 : keepIn K (.ref a) = true) : MFn ⟨prog, w, K, H, mg, mb, C⟩ name qual st := ⟨_, h1, h1', FnK.of h2 h3 h4⟩
theorem MkF.of {fi cc f2 cda B : Addr} {name : Str} {oc : Value} {od : Option Addr} {osl : Array (Option Value)} {doc pm ct : Value} {an : Option Addr} {ccl : Value} {cdd : Option Addr} {vs : Array Value} {ccs : Array (Option Value)} {file : Str} {tf : Tok} {cl : Value} {cld : Option Addr} {csl : Array (Option Value)} {cdD : ClassData}
    {name2 : Str} {oc2 : Value} {od2 : Option Addr} {osl2 : Array (Option Value)} {doc2 pm2 cdv2 ct2 : Value}
    (h1 : makesIn K C = true) (h2 : keepIn K (.ref C) = true) (h3 : nsIn K mainGlobals "super" = some none) (h4 : (prog.main.scope.names.lookup ("super" : Str)).isSome = false) (h5 : nsIn K cStatics "thirdparty.any" = some none) (h6 : mroIn K C (.ref C) = some true)
    (i1 : findIn K (.ref C) "__init__" = some (some (.ref fi))) (i2 : typeIn K (.ref fi) = some (.type "function"))
    (i3 : K.lookup fi = some ⟨oc, od, .func (ksFn name "Player.__init__" (paramsOf (methAt 10 0)) (bodyOf (methAt 10 0)) (scopeOf (methAt 10 0)) .none .none doc pm an (.ref cda) ct cc), osl⟩)
    (i4 : codeIn K (.ref cda) "Player.__init__" = true) (i5 : K.lookup cda = some ⟨ccl, cdd, .fields vs, ccs⟩) (i6 : vs[2]? = some (.str file tf)) (i7 : ((prog.main.file : Str) == file) = true)
    (i8 : K.lookup cc = some ⟨cl, cld, .cell (some (.ref C)), csl⟩) (i9 : clsIn K C = some cdD)
    (b1 : nsIn K mainGlobals "BasePlayer" = some (some (.ref B))) (b2 : findIn K (.ref B) "__init__" = some (some (.ref f2)))
    (i10 : ks_superIn K C C "__init__" = some (some (.ref f2))) (i11 : typeIn K (.ref f2) = some (.type "function")) (i12 : fnIn K f2 = true)
    (j1 : K.lookup f2 = some ⟨oc2, od2, .func (fnOf name2 "BasePlayer.__init__" (paramsOf (methAt 8 0)) (bodyOf (methAt 8 0)) (scopeOf (methAt 8 0)) .none .none doc2 pm2 none cdv2 ct2), osl2⟩)
    (j2 : codeIn K cdv2 "BasePlayer.__init__" = true) (j3 : keepIn K (.ref f2) = true) : MkF ⟨prog, w, K, H, mg, mb, C⟩ :=
  ⟨h1, h2, h3, h4, h5, h6, _, _, _, _, _, _, _, _, _, _, _, _, _, _, _, _, _, _, _, _, _, _, i1, i2, i3, i4, i5, i6, i7, i8, i9, i10, i11, i12, FnK.of j1 j2 j3⟩

theorem joinK (KX : K.In H) (T : Top p loose mean mg mb H) (hC : nsIn K mainGlobals "Player" = some (some (.ref C))) (O : OkK K C) (FX : Gl.Ok ⟨prog, w, K, H, mg, mb, C⟩ → Fns ⟨prog, w, K, H, mg, mb, C⟩)
    {fa : Addr} {cdv : Value} {h₁ : Heap} {m : Str → Option Value} {o : Obj} {cv : Option Value} {l : Addr} {vs : List Value} {ns : List Int}
    {g : Array GenState} {d : Drawn} {tk : Nat} {os : OsState} (hl : H.IsList l vs.toArray) (hI : IntsAre vs ns) (hz : ¬ ((63 : Nat) : Int) < (ns.length : Int))
    (F : Fr H H.objs.size h₁ m) (hm : m "script" = some (.ref l)) (Nw : News H H.objs.size h₁ [(H.objs.size + 1, o)]) (hc : o.data = .cell cv)
    {Q : Flow → Shared → Prop} {E : Value → Shared → Prop}
    (k : ∀ f h' tk', retV f = .bool true → (∀ a ob, H.get? a = some ob → h'.get? a = some ob) → Q f ⟨h', g, d, tk', os⟩) :
    wpAny (model prog w) (callerA.deeper (envOfC "law" (scopeOf (stmtAt 23)) H.objs.size fa cdv)) (execs (bodyOf (stmtAt 23)) (envOfC "law" (scopeOf (stmtAt 23)) H.objs.size fa cdv)) Q E ⟨h₁, g, d, tk, os⟩ :=
  join (gl := ⟨prog, w, K, H, mg, mb, C⟩) (FX (O.ok KX T)) hl hI (by omega) F hm Nw hc k

theorem goodEnd {c : ClaimW} {cl : Str → Option Addr} {mn : ExcName → Option Value} {args : List WData} {s₁ s' : Shared} {v : Value} (hv : v = .bool true) (hk : ∀ a ob, s₁.heap.get? a = some ob → s'.heap.get? a = some ob) (hg : s'.gens = #[])
    (hos : s'.os = s₁.os) (hn : ∀ cls, c.raises args cls = false) (hp : c.post args (.bool true) args = true) : GoodW c cl mn args s₁ (.ok (.ret v)) s' := by
  subst hv
  exact ⟨.inl ⟨_, .bool true, [], rfl, hn, .bool true, hp, fun _ => ⟨List.nodup_nil, fun a h => by cases h⟩⟩, hk, hos, hg⟩
end
end Mine

end
section
namespace Mine

noncomputable abbrev pv : Program := PySem.Challenge.pw_jz0002_01
noncomputable abbrev qv : Program := view PySem.Challenge.pw_jz0002_01 [0, 2, 4, 5, 6, 8, 10, 12, 13, 14, 15, 16, 17, 18, 19, 20, 21, 22, 23]

noncomputable def en (P : Params) (k : Str) (t : Tok) (v : Value) : DictEntry := ⟨PyData.keyHash P k, .str k t, v⟩
noncomputable def fo (name qual : Str) (st : Stmt) (pm cd : Value) : Obj := ⟨.type "function", none, .func (fnOf name qual (paramsOf st) (bodyOf st) (scopeOf st) .none .none .none pm none cd .none), #[]⟩
noncomputable def fc (name qual : Str) (st : Stmt) (pm cd ct : Value) (cc : Addr) : Obj := ⟨.type "function", none, .func (ksFn name qual (paramsOf st) (bodyOf st) (scopeOf st) .none .none .none pm none cd ct cc), #[]⟩
noncomputable def co (name qual : Str) (t : Nat) (l a : Int) (r1 r2 : Addr) (v1 v2 : Value) (r3 : Addr) (t4 : Nat) : Obj :=
  ⟨.type "code", none, .fields #[.str name t, .str qual (t + 1), .str "/claim/cut.py" (t + 2), .int l 0, .int a 0, .int 0 0, .int 0 0, .int 3 0, .ref r1, .bool true, .int 181 0, .ref r2, .none, v1, v2, .ref r3, .int t4 0, .int l 0, .str "/claim/cut.py" (t4 + 1)], #[]⟩
noncomputable def tu (l : List Value) : Obj := ⟨.type "tuple", none, .seq l.toArray 0, #[]⟩
noncomputable def fz : Obj := ⟨.none, none, .fields #[], #[]⟩

/-! the objects behind the top, the heaps at five cuts of its run, and the written part -/
noncomputable def x11 (P : Params) : Obj := tu []
noncomputable def x12 (P : Params) : Obj := fz
noncomputable def x13 (P : Params) : Obj := ⟨(.type "code"), none, .fields #[(.str "<module>" 182), (.str "<module>" 183), (.str "/claim/cut.py" 184), (.int 1 0), (.int 0 0), (.int 0 0), (.int 0 0), (.int 0 0), (.ref 11), (.bool false), (.int 181 0), (.ref 12), .none, .none, .none, .none, (.int 185 0), (.int 1 0), (.str "/claim/cut.py" 186)], #[]⟩
noncomputable def x14 (P : Params) : Obj := ⟨(.type "frame"), none, .plain, #[(some (.ref 13)), (some (.ref 3)), (some (.ref 3)), none, (some (.str "__main__" 164)), none, (some (.ref 0))]⟩
noncomputable def x3b (P : Params) : Obj := ⟨(.type "dict"), none, .dict #[en P "__name__" 165 (.str "matching.base" 246), en P "__doc__" 166 .none, en P "__package__" 167 .none, en P "__loader__" 168 (.builtin "__main__.__loader__#opaque"), en P "__spec__" 169 .none, en P "__annotations__" 170 (.ref 6), en P "__builtins__" 171 (.ref 4), en P "__file__" 173 (.str "/claim/cut.py" 172), en P "__cached__" 174 .none, en P "_wall" 193 (.ref 21), en P "_delete_pair" 203 (.ref 28), en P "first_phase" 217 (.ref 35), en P "locate_all_or_nothing_cycle" 230 (.ref 42), en P "get_pairs_to_delete" 245 (.ref 49)] 14, #[]⟩
noncomputable def x12b (P : Params) : Obj := ⟨.none, none, .fields #[(.int 1 0), (.int 0 0), (.ref 20), (.int 5 0), (.int 0 0), (.ref 27), (.int 9 0), (.int 0 0), (.ref 34), (.int 24 0), (.int 0 0), (.ref 41), (.int 38 0), (.int 0 0), (.ref 48)], #[]⟩
noncomputable def x15 (P : Params) : Obj := tu []
noncomputable def x16 (P : Params) : Obj := fz
noncomputable def x17 (P : Params) : Obj := tu [(.str "k" 190)]
noncomputable def x18 (P : Params) : Obj := tu []
noncomputable def x19 (P : Params) : Obj := ⟨.none, none, .func ⟨"_wall", "_wall", paramsOf (stmtAt 0), .stmts (bodyOf (stmtAt 0)), scopeOf (stmtAt 0), 0, [], .none, .none, .none, .none, none, .none, .none, 0⟩, #[]⟩
noncomputable def x20 (P : Params) : Obj := co "_wall" "_wall" 187 1 1 15 16 (.ref 17) (.ref 18) 19 191
noncomputable def x21 (P : Params) : Obj := fo "_wall" "_wall" (stmtAt 0) (.str "__main__" 164) (.ref 20)
noncomputable def x22 (P : Params) : Obj := tu []
noncomputable def x23 (P : Params) : Obj := fz
noncomputable def x24 (P : Params) : Obj := tu [(.str "player" 199), (.str "other" 200)]
noncomputable def x25 (P : Params) : Obj := tu []
noncomputable def x26 (P : Params) : Obj := ⟨.none, none, .func ⟨"_delete_pair", "_delete_pair", paramsOf (stmtAt 2), .stmts (bodyOf (stmtAt 2)), scopeOf (stmtAt 2), 0, [], .none, .none, .none, .none, none, .none, .none, 0⟩, #[]⟩
noncomputable def x27 (P : Params) : Obj := co "_delete_pair" "_delete_pair" 196 5 2 22 23 (.ref 24) (.ref 25) 26 201
noncomputable def x28 (P : Params) : Obj := fo "_delete_pair" "_delete_pair" (stmtAt 2) (.str "matching.algorithms.util" 194) (.ref 27)
noncomputable def x29 (P : Params) : Obj := tu []
noncomputable def x30 (P : Params) : Obj := fz
noncomputable def x31 (P : Params) : Obj := tu [(.str "players" 209), (.str "free_players" 210), (.str "player" 211), (.str "favourite" 212), (.str "current" 213), (.str "successor" 214)]
noncomputable def x32 (P : Params) : Obj := tu []
noncomputable def x33 (P : Params) : Obj := ⟨.none, none, .func ⟨"first_phase", "first_phase", paramsOf (stmtAt 4), .stmts (bodyOf (stmtAt 4)), scopeOf (stmtAt 4), 0, [], .none, .none, .none, .none, none, .none, .none, 0⟩, #[]⟩
noncomputable def x34 (P : Params) : Obj := co "first_phase" "first_phase" 206 9 1 29 30 (.ref 31) (.ref 32) 33 215
noncomputable def x35 (P : Params) : Obj := fo "first_phase" "first_phase" (stmtAt 4) (.str "matching.algorithms.stable_roommates" 204) (.ref 34)
noncomputable def x36 (P : Params) : Obj := tu []
noncomputable def x37 (P : Params) : Obj := fz
noncomputable def x38 (P : Params) : Obj := tu [(.str "player" 221), (.str "lasts" 222), (.str "seconds" 223), (.str "second_best" 224), (.str "their_worst" 225), (.str "idx" 226), (.str "cycle" 227)]
noncomputable def x39 (P : Params) : Obj := tu []
noncomputable def x40 (P : Params) : Obj := ⟨.none, none, .func ⟨"locate_all_or_nothing_cycle", "locate_all_or_nothing_cycle", paramsOf (stmtAt 5), .stmts (bodyOf (stmtAt 5)), scopeOf (stmtAt 5), 0, [], .none, .none, .none, .none, none, .none, .none, 0⟩, #[]⟩
noncomputable def x41 (P : Params) : Obj := co "locate_all_or_nothing_cycle" "locate_all_or_nothing_cycle" 218 24 1 36 37 (.ref 38) (.ref 39) 40 228
noncomputable def x42 (P : Params) : Obj := fo "locate_all_or_nothing_cycle" "locate_all_or_nothing_cycle" (stmtAt 5) (.str "matching.algorithms.stable_roommates" 204) (.ref 41)
noncomputable def x43 (P : Params) : Obj := tu []
noncomputable def x44 (P : Params) : Obj := fz
noncomputable def x45 (P : Params) : Obj := tu [(.str "cycle" 234), (.str "pairs" 235), (.str "i" 236), (.str "_" 237), (.str "right" 238), (.str "left" 239), (.str "successors" 240), (.str "successor" 241), (.str "pair" 242)]
noncomputable def x46 (P : Params) : Obj := tu []
noncomputable def x47 (P : Params) : Obj := ⟨.none, none, .func ⟨"get_pairs_to_delete", "get_pairs_to_delete", paramsOf (stmtAt 6), .stmts (bodyOf (stmtAt 6)), scopeOf (stmtAt 6), 0, [], .none, .none, .none, .none, none, .none, .none, 0⟩, #[]⟩
noncomputable def x48 (P : Params) : Obj := co "get_pairs_to_delete" "get_pairs_to_delete" 231 38 1 43 44 (.ref 45) (.ref 46) 47 243
noncomputable def x49 (P : Params) : Obj := fo "get_pairs_to_delete" "get_pairs_to_delete" (stmtAt 6) (.str "matching.algorithms.stable_roommates" 204) (.ref 48)
noncomputable def x3c (P : Params) : Obj := ⟨(.type "dict"), none, .dict #[en P "__name__" 165 (.str "matching.base" 246), en P "__doc__" 166 .none, en P "__package__" 167 .none, en P "__loader__" 168 (.builtin "__main__.__loader__#opaque"), en P "__spec__" 169 .none, en P "__annotations__" 170 (.ref 6), en P "__builtins__" 171 (.ref 4), en P "__file__" 173 (.str "/claim/cut.py" 172), en P "__cached__" 174 .none, en P "_wall" 193 (.ref 21), en P "_delete_pair" 203 (.ref 28), en P "first_phase" 217 (.ref 35), en P "locate_all_or_nothing_cycle" 230 (.ref 42), en P "get_pairs_to_delete" 245 (.ref 49), en P "BasePlayer" 361 (.ref 139)] 15, #[]⟩
noncomputable def x12c (P : Params) : Obj := ⟨.none, none, .fields #[(.int 1 0), (.int 0 0), (.ref 20), (.int 5 0), (.int 0 0), (.ref 27), (.int 9 0), (.int 0 0), (.ref 34), (.int 24 0), (.int 0 0), (.ref 41), (.int 38 0), (.int 0 0), (.ref 48), (.int 49 0), (.int 0 0), (.ref 55)], #[]⟩
noncomputable def x50 (P : Params) : Obj := tu []
noncomputable def x51 (P : Params) : Obj := ⟨(.type "builtin_function_or_method"), none, .fields #[(.builtin "type.__prepare__"), (.type "type")], #[]⟩
noncomputable def x52 (P : Params) : Obj := ⟨(.type "dict"), none, .dict #[en P "__module__" 255 (.str "matching.base" 246), en P "__qualname__" 257 (.str "BasePlayer" 256), en P "__firstlineno__" 259 (.int 49 258), en P "__init__" 267 (.ref 63), en P "__repr__" 274 (.ref 70), en P "_forget" 280 (.ref 75), en P "unmatched_message" 287 (.ref 82), en P "not_in_preferences_message" 295 (.ref 89), en P "set_prefs" 301 (.ref 94), en P "prefers" 311 (.ref 101), en P "_match" 319 (.ref 108), en P "_unmatch" 327 (.ref 115), en P "get_favourite" 334 (.ref 122), en P "get_successors" 341 (.ref 129), en P "check_if_match_is_unacceptable" 348 (.ref 136), en P "__static_attributes__" 354 (.ref 137)] 16, #[]⟩
noncomputable def x53 (P : Params) : Obj := tu []
noncomputable def x54 (P : Params) : Obj := ⟨.none, none, .fields #[(.int 51 0), (.int 4 0), (.ref 62), (.int 58 0), (.int 4 0), (.ref 69), (.int 61 0), (.int 4 0), (.ref 74), (.int 64 0), (.int 4 0), (.ref 81), (.int 67 0), (.int 4 0), (.ref 88), (.int 70 0), (.int 4 0), (.ref 93), (.int 76 0), (.int 4 0), (.ref 100), (.int 80 0), (.int 4 0), (.ref 107), (.int 83 0), (.int 4 0), (.ref 114), (.int 86 0), (.int 4 0), (.ref 121), (.int 89 0), (.int 4 0), (.ref 128), (.int 92 0), (.int 4 0), (.ref 135)], #[]⟩
noncomputable def x55 (P : Params) : Obj := ⟨(.type "code"), none, .fields #[(.str "BasePlayer" 250), (.str "BasePlayer" 251), (.str "/claim/cut.py" 252), (.int 49 0), (.int 0 0), (.int 0 0), (.int 0 0), (.int 0 0), (.ref 53), (.bool false), (.int 181 0), (.ref 54), .none, .none, .none, .none, (.int 253 0), (.int 49 0), (.str "/claim/cut.py" 254)], #[]⟩
noncomputable def x56 (P : Params) : Obj := ⟨(.type "frame"), none, .plain, #[(some (.ref 55)), (some (.ref 3)), (some (.ref 52)), none, (some (.str "matching.base" 246)), none, (some (.ref 0))]⟩
noncomputable def x57 (P : Params) : Obj := tu []
noncomputable def x58 (P : Params) : Obj := fz
noncomputable def x59 (P : Params) : Obj := tu [(.str "self" 263), (.str "name" 264)]
noncomputable def x60 (P : Params) : Obj := tu []
noncomputable def x61 (P : Params) : Obj := ⟨.none, none, .func ⟨"__init__", "BasePlayer.__init__", paramsOf (methAt 8 0), .stmts (bodyOf (methAt 8 0)), scopeOf (methAt 8 0), 0, [], .none, .none, .none, .none, none, .none, .none, 0⟩, #[]⟩
noncomputable def x62 (P : Params) : Obj := co "__init__" "BasePlayer.__init__" 260 51 2 57 58 (.ref 59) (.ref 60) 61 265
noncomputable def x63 (P : Params) : Obj := fo "__init__" "BasePlayer.__init__" (methAt 8 0) (.str "matching.base" 246) (.ref 62)
noncomputable def x64 (P : Params) : Obj := tu []
noncomputable def x65 (P : Params) : Obj := fz
noncomputable def x66 (P : Params) : Obj := tu [(.str "self" 271)]
noncomputable def x67 (P : Params) : Obj := tu []
noncomputable def x68 (P : Params) : Obj := ⟨.none, none, .func ⟨"__repr__", "BasePlayer.__repr__", paramsOf (methAt 8 1), .stmts (bodyOf (methAt 8 1)), scopeOf (methAt 8 1), 0, [], .none, .none, .none, .none, none, .none, .none, 0⟩, #[]⟩
noncomputable def x69 (P : Params) : Obj := co "__repr__" "BasePlayer.__repr__" 268 58 1 64 65 (.ref 66) (.ref 67) 68 272
noncomputable def x70 (P : Params) : Obj := fo "__repr__" "BasePlayer.__repr__" (methAt 8 1) (.str "matching.base" 246) (.ref 69)
noncomputable def x71 (P : Params) : Obj := tu []
noncomputable def x72 (P : Params) : Obj := fz
noncomputable def x73 (P : Params) : Obj := ⟨.none, none, .func ⟨"_forget", "BasePlayer._forget", paramsOf (methAt 8 2), .stmts (bodyOf (methAt 8 2)), scopeOf (methAt 8 2), 0, [], .none, .none, .none, .none, none, .none, .none, 0⟩, #[]⟩
noncomputable def x74 (P : Params) : Obj := co "_forget" "BasePlayer._forget" 275 61 2 71 72 .none .none 73 278
noncomputable def x75 (P : Params) : Obj := fo "_forget" "BasePlayer._forget" (methAt 8 2) (.str "matching.base" 246) (.ref 74)
noncomputable def x76 (P : Params) : Obj := tu []
noncomputable def x77 (P : Params) : Obj := fz
noncomputable def x78 (P : Params) : Obj := tu [(.str "self" 284)]
noncomputable def x79 (P : Params) : Obj := tu []
noncomputable def x80 (P : Params) : Obj := ⟨.none, none, .func ⟨"unmatched_message", "BasePlayer.unmatched_message", paramsOf (methAt 8 3), .stmts (bodyOf (methAt 8 3)), scopeOf (methAt 8 3), 0, [], .none, .none, .none, .none, none, .none, .none, 0⟩, #[]⟩
noncomputable def x81 (P : Params) : Obj := co "unmatched_message" "BasePlayer.unmatched_message" 281 64 1 76 77 (.ref 78) (.ref 79) 80 285
noncomputable def x82 (P : Params) : Obj := fo "unmatched_message" "BasePlayer.unmatched_message" (methAt 8 3) (.str "matching.base" 246) (.ref 81)
noncomputable def x83 (P : Params) : Obj := tu []
noncomputable def x84 (P : Params) : Obj := fz
noncomputable def x85 (P : Params) : Obj := tu [(.str "self" 291), (.str "other" 292)]
noncomputable def x86 (P : Params) : Obj := tu []
noncomputable def x87 (P : Params) : Obj := ⟨.none, none, .func ⟨"not_in_preferences_message", "BasePlayer.not_in_preferences_message", paramsOf (methAt 8 4), .stmts (bodyOf (methAt 8 4)), scopeOf (methAt 8 4), 0, [], .none, .none, .none, .none, none, .none, .none, 0⟩, #[]⟩
noncomputable def x88 (P : Params) : Obj := co "not_in_preferences_message" "BasePlayer.not_in_preferences_message" 288 67 2 83 84 (.ref 85) (.ref 86) 87 293
noncomputable def x89 (P : Params) : Obj := fo "not_in_preferences_message" "BasePlayer.not_in_preferences_message" (methAt 8 4) (.str "matching.base" 246) (.ref 88)
noncomputable def x90 (P : Params) : Obj := tu []
noncomputable def x91 (P : Params) : Obj := fz
noncomputable def x92 (P : Params) : Obj := ⟨.none, none, .func ⟨"set_prefs", "BasePlayer.set_prefs", paramsOf (methAt 8 5), .stmts (bodyOf (methAt 8 5)), scopeOf (methAt 8 5), 0, [], .none, .none, .none, .none, none, .none, .none, 0⟩, #[]⟩
noncomputable def x93 (P : Params) : Obj := co "set_prefs" "BasePlayer.set_prefs" 296 70 2 90 91 .none .none 92 299
noncomputable def x94 (P : Params) : Obj := fo "set_prefs" "BasePlayer.set_prefs" (methAt 8 5) (.str "matching.base" 246) (.ref 93)
noncomputable def x95 (P : Params) : Obj := tu []
noncomputable def x96 (P : Params) : Obj := fz
noncomputable def x97 (P : Params) : Obj := tu [(.str "self" 305), (.str "player" 306), (.str "other" 307), (.str "prefs" 308)]
noncomputable def x98 (P : Params) : Obj := tu []
noncomputable def x99 (P : Params) : Obj := ⟨.none, none, .func ⟨"prefers", "BasePlayer.prefers", paramsOf (methAt 8 6), .stmts (bodyOf (methAt 8 6)), scopeOf (methAt 8 6), 0, [], .none, .none, .none, .none, none, .none, .none, 0⟩, #[]⟩
noncomputable def x100 (P : Params) : Obj := co "prefers" "BasePlayer.prefers" 302 76 3 95 96 (.ref 97) (.ref 98) 99 309
noncomputable def x101 (P : Params) : Obj := fo "prefers" "BasePlayer.prefers" (methAt 8 6) (.str "matching.base" 246) (.ref 100)
noncomputable def x102 (P : Params) : Obj := tu []
noncomputable def x103 (P : Params) : Obj := fz
noncomputable def x104 (P : Params) : Obj := tu [(.str "self" 315), (.str "other" 316)]
noncomputable def x105 (P : Params) : Obj := tu []
noncomputable def x106 (P : Params) : Obj := ⟨.none, none, .func ⟨"_match", "BasePlayer._match", paramsOf (methAt 8 7), .stmts (bodyOf (methAt 8 7)), scopeOf (methAt 8 7), 0, [], .none, .none, .none, .none, none, .none, .none, 0⟩, #[]⟩
noncomputable def x107 (P : Params) : Obj := co "_match" "BasePlayer._match" 312 80 2 102 103 (.ref 104) (.ref 105) 106 317
noncomputable def x108 (P : Params) : Obj := fo "_match" "BasePlayer._match" (methAt 8 7) (.str "matching.base" 246) (.ref 107)
noncomputable def x109 (P : Params) : Obj := tu []
noncomputable def x110 (P : Params) : Obj := fz
noncomputable def x111 (P : Params) : Obj := tu [(.str "self" 323), (.str "other" 324)]
noncomputable def x112 (P : Params) : Obj := tu []
noncomputable def x113 (P : Params) : Obj := ⟨.none, none, .func ⟨"_unmatch", "BasePlayer._unmatch", paramsOf (methAt 8 8), .stmts (bodyOf (methAt 8 8)), scopeOf (methAt 8 8), 0, [], .none, .none, .none, .none, none, .none, .none, 0⟩, #[]⟩
noncomputable def x114 (P : Params) : Obj := co "_unmatch" "BasePlayer._unmatch" 320 83 2 109 110 (.ref 111) (.ref 112) 113 325
noncomputable def x115 (P : Params) : Obj := fo "_unmatch" "BasePlayer._unmatch" (methAt 8 8) (.str "matching.base" 246) (.ref 114)
noncomputable def x116 (P : Params) : Obj := tu []
noncomputable def x117 (P : Params) : Obj := fz
noncomputable def x118 (P : Params) : Obj := tu [(.str "self" 331)]
noncomputable def x119 (P : Params) : Obj := tu []
noncomputable def x120 (P : Params) : Obj := ⟨.none, none, .func ⟨"get_favourite", "BasePlayer.get_favourite", paramsOf (methAt 8 9), .stmts (bodyOf (methAt 8 9)), scopeOf (methAt 8 9), 0, [], .none, .none, .none, .none, none, .none, .none, 0⟩, #[]⟩
noncomputable def x121 (P : Params) : Obj := co "get_favourite" "BasePlayer.get_favourite" 328 86 1 116 117 (.ref 118) (.ref 119) 120 332
noncomputable def x122 (P : Params) : Obj := fo "get_favourite" "BasePlayer.get_favourite" (methAt 8 9) (.str "matching.base" 246) (.ref 121)
noncomputable def x123 (P : Params) : Obj := tu []
noncomputable def x124 (P : Params) : Obj := fz
noncomputable def x125 (P : Params) : Obj := tu [(.str "self" 338)]
noncomputable def x126 (P : Params) : Obj := tu []
noncomputable def x127 (P : Params) : Obj := ⟨.none, none, .func ⟨"get_successors", "BasePlayer.get_successors", paramsOf (methAt 8 10), .stmts (bodyOf (methAt 8 10)), scopeOf (methAt 8 10), 0, [], .none, .none, .none, .none, none, .none, .none, 0⟩, #[]⟩
noncomputable def x128 (P : Params) : Obj := co "get_successors" "BasePlayer.get_successors" 335 89 1 123 124 (.ref 125) (.ref 126) 127 339
noncomputable def x129 (P : Params) : Obj := fo "get_successors" "BasePlayer.get_successors" (methAt 8 10) (.str "matching.base" 246) (.ref 128)
noncomputable def x130 (P : Params) : Obj := tu []
noncomputable def x131 (P : Params) : Obj := fz
noncomputable def x132 (P : Params) : Obj := tu [(.str "self" 345)]
noncomputable def x133 (P : Params) : Obj := tu []
noncomputable def x134 (P : Params) : Obj := ⟨.none, none, .func ⟨"check_if_match_is_unacceptable", "BasePlayer.check_if_match_is_unacceptable", paramsOf (methAt 8 11), .stmts (bodyOf (methAt 8 11)), scopeOf (methAt 8 11), 0, [], .none, .none, .none, .none, none, .none, .none, 0⟩, #[]⟩
noncomputable def x135 (P : Params) : Obj := co "check_if_match_is_unacceptable" "BasePlayer.check_if_match_is_unacceptable" 342 92 1 130 131 (.ref 132) (.ref 133) 134 346
noncomputable def x136 (P : Params) : Obj := fo "check_if_match_is_unacceptable" "BasePlayer.check_if_match_is_unacceptable" (methAt 8 11) (.str "matching.base" 246) (.ref 135)
noncomputable def x137 (P : Params) : Obj := tu [(.str "_original_prefs" 349), (.str "_pref_names" 350), (.str "matching" 351), (.str "name" 352), (.str "prefs" 353)]
noncomputable def x138 (P : Params) : Obj := ⟨(.type "dict"), none, .dict #[en P "__module__" 255 (.str "matching.base" 246), en P "__firstlineno__" 259 (.int 49 258), en P "__init__" 267 (.ref 63), en P "__repr__" 274 (.ref 70), en P "_forget" 280 (.ref 75), en P "unmatched_message" 287 (.ref 82), en P "not_in_preferences_message" 295 (.ref 89), en P "set_prefs" 301 (.ref 94), en P "prefers" 311 (.ref 101), en P "_match" 319 (.ref 108), en P "_unmatch" 327 (.ref 115), en P "get_favourite" 334 (.ref 122), en P "get_successors" 341 (.ref 129), en P "check_if_match_is_unacceptable" 348 (.ref 136), en P "__static_attributes__" 354 (.ref 137), en P "__dict__" 356 (.ref 140), en P "__weakref__" 358 (.ref 141), en P "__doc__" 359 .none] 4, #[]⟩
noncomputable def x139 (P : Params) : Obj := ⟨(.type "type"), none, .cls ⟨"BasePlayer", [(.type "object")], [(.ref 139), (.type "object")], 138, "BasePlayer", true, [], [], false, none, false⟩, #[none, none, (some (.str "BasePlayer" 248)), (some (.str "BasePlayer" 256)), (some (.builtin "object.__new__")), (some (.bool true))]⟩
noncomputable def x140 (P : Params) : Obj := ⟨(.type "getset_descriptor"), none, .fields #[(.str "__dict__" 355), (.ref 139), (.builtin "function.__dict__"), (.builtin "function.__dict__#set")], #[]⟩
noncomputable def x141 (P : Params) : Obj := ⟨(.type "getset_descriptor"), none, .fields #[(.str "__weakref__" 357), (.ref 139), (.builtin "ExceptionGroup.__weakref__"), .none], #[]⟩
noncomputable def x142 (P : Params) : Obj := ⟨(.type "super"), none, .fields #[(.ref 139), (.ref 139), (.ref 139)], #[]⟩
noncomputable def x143 (P : Params) : Obj := ⟨(.type "builtin_function_or_method"), none, .fields #[(.builtin "object.__init_subclass__"), (.ref 139)], #[]⟩
noncomputable def x3d (P : Params) : Obj := ⟨(.type "dict"), none, .dict #[en P "__name__" 165 (.str "matching.players.player" 362), en P "__doc__" 166 .none, en P "__package__" 167 .none, en P "__loader__" 168 (.builtin "__main__.__loader__#opaque"), en P "__spec__" 169 .none, en P "__annotations__" 170 (.ref 6), en P "__builtins__" 171 (.ref 4), en P "__file__" 173 (.str "/claim/cut.py" 172), en P "__cached__" 174 .none, en P "_wall" 193 (.ref 21), en P "_delete_pair" 203 (.ref 28), en P "first_phase" 217 (.ref 35), en P "locate_all_or_nothing_cycle" 230 (.ref 42), en P "get_pairs_to_delete" 245 (.ref 49), en P "BasePlayer" 361 (.ref 139), en P "Player" 428 (.ref 198)] 16, #[]⟩
noncomputable def x12d (P : Params) : Obj := ⟨.none, none, .fields #[(.int 1 0), (.int 0 0), (.ref 20), (.int 5 0), (.int 0 0), (.ref 27), (.int 9 0), (.int 0 0), (.ref 34), (.int 24 0), (.int 0 0), (.ref 41), (.int 38 0), (.int 0 0), (.ref 48), (.int 49 0), (.int 0 0), (.ref 55), (.int 95 0), (.int 0 0), (.ref 150)], #[]⟩
noncomputable def x139d (P : Params) : Obj := ⟨(.type "type"), none, .cls ⟨"BasePlayer", [(.type "object")], [(.ref 139), (.type "object")], 138, "BasePlayer", true, [], [(.ref 198)], false, none, false⟩, #[none, none, (some (.str "BasePlayer" 248)), (some (.str "BasePlayer" 256)), (some (.builtin "object.__new__")), (some (.bool true))]⟩
noncomputable def x144 (P : Params) : Obj := tu [(.ref 139)]
noncomputable def x145 (P : Params) : Obj := ⟨(.type "builtin_function_or_method"), none, .fields #[(.builtin "type.__prepare__"), (.type "type")], #[]⟩
noncomputable def x146 (P : Params) : Obj := ⟨(.type "dict"), none, .dict #[en P "__module__" 371 (.str "matching.players.player" 362), en P "__qualname__" 373 (.str "Player" 372), en P "__firstlineno__" 375 (.int 95 374), en P "__init__" 384 (.ref 159), en P "_match" 392 (.ref 166), en P "_unmatch" 399 (.ref 173), en P "get_favourite" 406 (.ref 180), en P "get_successors" 414 (.ref 187), en P "check_if_match_is_unacceptable" 422 (.ref 195), en P "__static_attributes__" 424 (.ref 196), en P "__classcell__" 425 (.ref 147)] 11, #[]⟩
noncomputable def x147 (P : Params) : Obj := ⟨(.type "cell"), none, .cell (some (.ref 198)), #[]⟩
noncomputable def x148 (P : Params) : Obj := tu []
noncomputable def x149 (P : Params) : Obj := ⟨.none, none, .fields #[(.int 97 0), (.int 4 0), (.ref 158), (.int 100 0), (.int 4 0), (.ref 165), (.int 103 0), (.int 4 0), (.ref 172), (.int 106 0), (.int 4 0), (.ref 179), (.int 109 0), (.int 4 0), (.ref 186), (.int 113 0), (.int 4 0), (.ref 194)], #[]⟩
noncomputable def x150 (P : Params) : Obj := ⟨(.type "code"), none, .fields #[(.str "Player" 366), (.str "Player" 367), (.str "/claim/cut.py" 368), (.int 95 0), (.int 0 0), (.int 0 0), (.int 0 0), (.int 0 0), (.ref 148), (.bool false), (.int 181 0), (.ref 149), .none, .none, .none, .none, (.int 369 0), (.int 95 0), (.str "/claim/cut.py" 370)], #[]⟩
noncomputable def x151 (P : Params) : Obj := ⟨(.type "frame"), none, .plain, #[(some (.ref 150)), (some (.ref 3)), (some (.ref 146)), none, (some (.str "matching.players.player" 362)), none, (some (.ref 0))]⟩
noncomputable def x152 (P : Params) : Obj := tu [(.ref 147)]
noncomputable def x153 (P : Params) : Obj := tu [(.str "__class__" 379)]
noncomputable def x154 (P : Params) : Obj := fz
noncomputable def x155 (P : Params) : Obj := tu [(.str "self" 380), (.str "name" 381)]
noncomputable def x156 (P : Params) : Obj := tu []
noncomputable def x157 (P : Params) : Obj := ⟨.none, none, .func ⟨"__init__", "Player.__init__", paramsOf (methAt 10 0), .stmts (bodyOf (methAt 10 0)), scopeOf (methAt 10 0), 0, [], .none, .none, .none, .none, none, .none, .none, 0⟩, #[]⟩
noncomputable def x158 (P : Params) : Obj := co "__init__" "Player.__init__" 376 97 2 153 154 (.ref 155) (.ref 156) 157 382
noncomputable def x159 (P : Params) : Obj := fc "__init__" "Player.__init__" (methAt 10 0) (.str "matching.players.player" 362) (.ref 158) (.ref 152) 147
noncomputable def x160 (P : Params) : Obj := tu []
noncomputable def x161 (P : Params) : Obj := fz
noncomputable def x162 (P : Params) : Obj := tu [(.str "self" 388), (.str "other" 389)]
noncomputable def x163 (P : Params) : Obj := tu []
noncomputable def x164 (P : Params) : Obj := ⟨.none, none, .func ⟨"_match", "Player._match", paramsOf (methAt 10 1), .stmts (bodyOf (methAt 10 1)), scopeOf (methAt 10 1), 0, [], .none, .none, .none, .none, none, .none, .none, 0⟩, #[]⟩
noncomputable def x165 (P : Params) : Obj := co "_match" "Player._match" 385 100 2 160 161 (.ref 162) (.ref 163) 164 390
noncomputable def x166 (P : Params) : Obj := fo "_match" "Player._match" (methAt 10 1) (.str "matching.players.player" 362) (.ref 165)
noncomputable def x167 (P : Params) : Obj := tu []
noncomputable def x168 (P : Params) : Obj := fz
noncomputable def x169 (P : Params) : Obj := tu [(.str "self" 396)]
noncomputable def x170 (P : Params) : Obj := tu []
noncomputable def x171 (P : Params) : Obj := ⟨.none, none, .func ⟨"_unmatch", "Player._unmatch", paramsOf (methAt 10 2), .stmts (bodyOf (methAt 10 2)), scopeOf (methAt 10 2), 0, [], .none, .none, .none, .none, none, .none, .none, 0⟩, #[]⟩
noncomputable def x172 (P : Params) : Obj := co "_unmatch" "Player._unmatch" 393 103 1 167 168 (.ref 169) (.ref 170) 171 397
noncomputable def x173 (P : Params) : Obj := fo "_unmatch" "Player._unmatch" (methAt 10 2) (.str "matching.players.player" 362) (.ref 172)
noncomputable def x174 (P : Params) : Obj := tu []
noncomputable def x175 (P : Params) : Obj := fz
noncomputable def x176 (P : Params) : Obj := tu [(.str "self" 403)]
noncomputable def x177 (P : Params) : Obj := tu []
noncomputable def x178 (P : Params) : Obj := ⟨.none, none, .func ⟨"get_favourite", "Player.get_favourite", paramsOf (methAt 10 3), .stmts (bodyOf (methAt 10 3)), scopeOf (methAt 10 3), 0, [], .none, .none, .none, .none, none, .none, .none, 0⟩, #[]⟩
noncomputable def x179 (P : Params) : Obj := co "get_favourite" "Player.get_favourite" 400 106 1 174 175 (.ref 176) (.ref 177) 178 404
noncomputable def x180 (P : Params) : Obj := fo "get_favourite" "Player.get_favourite" (methAt 10 3) (.str "matching.players.player" 362) (.ref 179)
noncomputable def x181 (P : Params) : Obj := tu []
noncomputable def x182 (P : Params) : Obj := fz
noncomputable def x183 (P : Params) : Obj := tu [(.str "self" 410), (.str "idx" 411)]
noncomputable def x184 (P : Params) : Obj := tu []
noncomputable def x185 (P : Params) : Obj := ⟨.none, none, .func ⟨"get_successors", "Player.get_successors", paramsOf (methAt 10 4), .stmts (bodyOf (methAt 10 4)), scopeOf (methAt 10 4), 0, [], .none, .none, .none, .none, none, .none, .none, 0⟩, #[]⟩
noncomputable def x186 (P : Params) : Obj := co "get_successors" "Player.get_successors" 407 109 1 181 182 (.ref 183) (.ref 184) 185 412
noncomputable def x187 (P : Params) : Obj := fo "get_successors" "Player.get_successors" (methAt 10 4) (.str "matching.players.player" 362) (.ref 186)
noncomputable def x188 (P : Params) : Obj := tu [(.bool false)]
noncomputable def x189 (P : Params) : Obj := tu []
noncomputable def x190 (P : Params) : Obj := fz
noncomputable def x191 (P : Params) : Obj := tu [(.str "self" 418), (.str "unmatched_okay" 419)]
noncomputable def x192 (P : Params) : Obj := tu []
noncomputable def x193 (P : Params) : Obj := ⟨.none, none, .func ⟨"check_if_match_is_unacceptable", "Player.check_if_match_is_unacceptable", paramsOf (methAt 10 5), .stmts (bodyOf (methAt 10 5)), scopeOf (methAt 10 5), 0, [], .none, .none, .none, .none, none, .none, .none, 0⟩, #[]⟩
noncomputable def x194 (P : Params) : Obj := co "check_if_match_is_unacceptable" "Player.check_if_match_is_unacceptable" 415 113 2 189 190 (.ref 191) (.ref 192) 193 420
noncomputable def x195 (P : Params) : Obj := ⟨(.type "function"), none, .func ⟨"check_if_match_is_unacceptable", "Player.check_if_match_is_unacceptable", paramsOf (methAt 10 5), .stmts (bodyOf (methAt 10 5)), scopeOf (methAt 10 5), 3, [], (.ref 188), .none, .none, (.str "matching.players.player" 362), none, (.ref 194), .none, 0⟩, #[]⟩
noncomputable def x196 (P : Params) : Obj := tu [(.str "matching" 423)]
noncomputable def x197 (P : Params) : Obj := ⟨(.type "dict"), none, .dict #[en P "__module__" 371 (.str "matching.players.player" 362), en P "__firstlineno__" 375 (.int 95 374), en P "__init__" 384 (.ref 159), en P "_match" 392 (.ref 166), en P "_unmatch" 399 (.ref 173), en P "get_favourite" 406 (.ref 180), en P "get_successors" 414 (.ref 187), en P "check_if_match_is_unacceptable" 422 (.ref 195), en P "__static_attributes__" 424 (.ref 196), en P "__doc__" 426 .none] 3, #[]⟩
noncomputable def x198 (P : Params) : Obj := ⟨(.type "type"), none, .cls ⟨"Player", [(.ref 139)], [(.ref 198), (.ref 139), (.type "object")], 197, "Player", true, [], [], false, none, false⟩, #[(some (.ref 144)), none, (some (.str "Player" 364)), (some (.str "Player" 372)), (some (.builtin "object.__new__")), (some (.bool true))]⟩
noncomputable def x199 (P : Params) : Obj := ⟨(.type "super"), none, .fields #[(.ref 198), (.ref 198), (.ref 198)], #[]⟩
noncomputable def x200 (P : Params) : Obj := ⟨(.type "builtin_function_or_method"), none, .fields #[(.builtin "object.__init_subclass__"), (.ref 198)], #[]⟩
noncomputable def x3e (P : Params) : Obj := ⟨(.type "dict"), none, .dict #[en P "__name__" 165 (.str "law_jz0002_01" 429), en P "__doc__" 166 .none, en P "__package__" 167 .none, en P "__loader__" 168 (.builtin "__main__.__loader__#opaque"), en P "__spec__" 169 .none, en P "__annotations__" 170 (.ref 6), en P "__builtins__" 171 (.ref 4), en P "__file__" 173 (.str "/claim/cut.py" 172), en P "__cached__" 174 .none, en P "_wall" 193 (.ref 21), en P "_delete_pair" 203 (.ref 28), en P "first_phase" 217 (.ref 35), en P "locate_all_or_nothing_cycle" 230 (.ref 42), en P "get_pairs_to_delete" 245 (.ref 49), en P "BasePlayer" 361 (.ref 139), en P "Player" 428 (.ref 198), en P "_law_cell" 438 (.ref 207), en P "_law_order" 450 (.ref 214), en P "_law_orders" 456 (.ref 219), en P "_law_players" 462 (.ref 224), en P "_law_number" 468 (.ref 229), en P "_law_lists" 474 (.ref 234), en P "_law_pairings" 480 (.ref 239), en P "_law_stable" 496 (.ref 246), en P "_law_within" 502 (.ref 251), en P "_law_mutual" 508 (.ref 256), en P "_law_cycle_right" 514 (.ref 261), en P "law" 520 (.ref 266)] 28, #[]⟩
noncomputable def x12e (P : Params) : Obj := ⟨.none, none, .fields #[(.int 1 0), (.int 0 0), (.ref 20), (.int 5 0), (.int 0 0), (.ref 27), (.int 9 0), (.int 0 0), (.ref 34), (.int 24 0), (.int 0 0), (.ref 41), (.int 38 0), (.int 0 0), (.ref 48), (.int 49 0), (.int 0 0), (.ref 55), (.int 95 0), (.int 0 0), (.ref 150), (.int 116 0), (.int 0 0), (.ref 206), (.int 120 0), (.int 0 0), (.ref 213), (.int 129 0), (.int 0 0), (.ref 218), (.int 135 0), (.int 0 0), (.ref 223), (.int 140 0), (.int 0 0), (.ref 228), (.int 142 0), (.int 0 0), (.ref 233), (.int 144 0), (.int 0 0), (.ref 238), (.int 152 0), (.int 0 0), (.ref 245), (.int 170 0), (.int 0 0), (.ref 250), (.int 172 0), (.int 0 0), (.ref 255), (.int 180 0), (.int 0 0), (.ref 260), (.int 203 0), (.int 0 0), (.ref 265)], #[]⟩
noncomputable def x201 (P : Params) : Obj := tu []
noncomputable def x202 (P : Params) : Obj := fz
noncomputable def x203 (P : Params) : Obj := tu [(.str "script" 434), (.str "k" 435)]
noncomputable def x204 (P : Params) : Obj := tu []
noncomputable def x205 (P : Params) : Obj := ⟨.none, none, .func ⟨"_law_cell", "_law_cell", paramsOf (stmtAt 12), .stmts (bodyOf (stmtAt 12)), scopeOf (stmtAt 12), 0, [], .none, .none, .none, .none, none, .none, .none, 0⟩, #[]⟩
noncomputable def x206 (P : Params) : Obj := co "_law_cell" "_law_cell" 431 116 2 201 202 (.ref 203) (.ref 204) 205 436
noncomputable def x207 (P : Params) : Obj := fo "_law_cell" "_law_cell" (stmtAt 12) (.str "law_jz0002_01" 429) (.ref 206)
noncomputable def x208 (P : Params) : Obj := tu []
noncomputable def x209 (P : Params) : Obj := fz
noncomputable def x210 (P : Params) : Obj := tu [(.str "count" 442), (.str "cell" 443), (.str "left" 444), (.str "order" 445), (.str "k" 446), (.str "at" 447)]
noncomputable def x211 (P : Params) : Obj := tu []
noncomputable def x212 (P : Params) : Obj := ⟨.none, none, .func ⟨"_law_order", "_law_order", paramsOf (stmtAt 13), .stmts (bodyOf (stmtAt 13)), scopeOf (stmtAt 13), 0, [], .none, .none, .none, .none, none, .none, .none, 0⟩, #[]⟩
noncomputable def x213 (P : Params) : Obj := co "_law_order" "_law_order" 439 120 2 208 209 (.ref 210) (.ref 211) 212 448
noncomputable def x214 (P : Params) : Obj := fo "_law_order" "_law_order" (stmtAt 13) (.str "law_jz0002_01" 429) (.ref 213)
noncomputable def x215 (P : Params) : Obj := tu []
noncomputable def x216 (P : Params) : Obj := fz
noncomputable def x217 (P : Params) : Obj := ⟨.none, none, .func ⟨"_law_orders", "_law_orders", paramsOf (stmtAt 14), .stmts (bodyOf (stmtAt 14)), scopeOf (stmtAt 14), 0, [], .none, .none, .none, .none, none, .none, .none, 0⟩, #[]⟩
noncomputable def x218 (P : Params) : Obj := co "_law_orders" "_law_orders" 451 129 2 215 216 .none .none 217 454
noncomputable def x219 (P : Params) : Obj := fo "_law_orders" "_law_orders" (stmtAt 14) (.str "law_jz0002_01" 429) (.ref 218)
noncomputable def x220 (P : Params) : Obj := tu []
noncomputable def x221 (P : Params) : Obj := fz
noncomputable def x222 (P : Params) : Obj := ⟨.none, none, .func ⟨"_law_players", "_law_players", paramsOf (stmtAt 15), .stmts (bodyOf (stmtAt 15)), scopeOf (stmtAt 15), 0, [], .none, .none, .none, .none, none, .none, .none, 0⟩, #[]⟩
noncomputable def x223 (P : Params) : Obj := co "_law_players" "_law_players" 457 135 1 220 221 .none .none 222 460
noncomputable def x224 (P : Params) : Obj := fo "_law_players" "_law_players" (stmtAt 15) (.str "law_jz0002_01" 429) (.ref 223)
noncomputable def x225 (P : Params) : Obj := tu []
noncomputable def x226 (P : Params) : Obj := fz
noncomputable def x227 (P : Params) : Obj := ⟨.none, none, .func ⟨"_law_number", "_law_number", paramsOf (stmtAt 16), .stmts (bodyOf (stmtAt 16)), scopeOf (stmtAt 16), 0, [], .none, .none, .none, .none, none, .none, .none, 0⟩, #[]⟩
noncomputable def x228 (P : Params) : Obj := co "_law_number" "_law_number" 463 140 1 225 226 .none .none 227 466
noncomputable def x229 (P : Params) : Obj := fo "_law_number" "_law_number" (stmtAt 16) (.str "law_jz0002_01" 429) (.ref 228)
noncomputable def x230 (P : Params) : Obj := tu []
noncomputable def x231 (P : Params) : Obj := fz
noncomputable def x232 (P : Params) : Obj := ⟨.none, none, .func ⟨"_law_lists", "_law_lists", paramsOf (stmtAt 17), .stmts (bodyOf (stmtAt 17)), scopeOf (stmtAt 17), 0, [], .none, .none, .none, .none, none, .none, .none, 0⟩, #[]⟩
noncomputable def x233 (P : Params) : Obj := co "_law_lists" "_law_lists" 469 142 1 230 231 .none .none 232 472
noncomputable def x234 (P : Params) : Obj := fo "_law_lists" "_law_lists" (stmtAt 17) (.str "law_jz0002_01" 429) (.ref 233)
noncomputable def x235 (P : Params) : Obj := tu []
noncomputable def x236 (P : Params) : Obj := fz
noncomputable def x237 (P : Params) : Obj := ⟨.none, none, .func ⟨"_law_pairings", "_law_pairings", paramsOf (stmtAt 18), .stmts (bodyOf (stmtAt 18)), scopeOf (stmtAt 18), 0, [], .none, .none, .none, .none, none, .none, .none, 0⟩, #[]⟩
noncomputable def x238 (P : Params) : Obj := co "_law_pairings" "_law_pairings" 475 144 1 235 236 .none .none 237 478
noncomputable def x239 (P : Params) : Obj := fo "_law_pairings" "_law_pairings" (stmtAt 18) (.str "law_jz0002_01" 429) (.ref 238)
noncomputable def x240 (P : Params) : Obj := tu []
noncomputable def x241 (P : Params) : Obj := fz
noncomputable def x242 (P : Params) : Obj := tu [(.str "orders" 484), (.str "found" 485), (.str "count" 486), (.str "pairs" 487), (.str "mates" 488), (.str "one" 489), (.str "two" 490), (.str "good" 491), (.str "i" 492), (.str "j" 493)]
noncomputable def x243 (P : Params) : Obj := tu []
noncomputable def x244 (P : Params) : Obj := ⟨.none, none, .func ⟨"_law_stable", "_law_stable", paramsOf (stmtAt 19), .stmts (bodyOf (stmtAt 19)), scopeOf (stmtAt 19), 0, [], .none, .none, .none, .none, none, .none, .none, 0⟩, #[]⟩
noncomputable def x245 (P : Params) : Obj := co "_law_stable" "_law_stable" 481 152 1 240 241 (.ref 242) (.ref 243) 244 494
noncomputable def x246 (P : Params) : Obj := fo "_law_stable" "_law_stable" (stmtAt 19) (.str "law_jz0002_01" 429) (.ref 245)
noncomputable def x247 (P : Params) : Obj := tu []
noncomputable def x248 (P : Params) : Obj := fz
noncomputable def x249 (P : Params) : Obj := ⟨.none, none, .func ⟨"_law_within", "_law_within", paramsOf (stmtAt 20), .stmts (bodyOf (stmtAt 20)), scopeOf (stmtAt 20), 0, [], .none, .none, .none, .none, none, .none, .none, 0⟩, #[]⟩
noncomputable def x250 (P : Params) : Obj := co "_law_within" "_law_within" 497 170 2 247 248 .none .none 249 500
noncomputable def x251 (P : Params) : Obj := fo "_law_within" "_law_within" (stmtAt 20) (.str "law_jz0002_01" 429) (.ref 250)
noncomputable def x252 (P : Params) : Obj := tu []
noncomputable def x253 (P : Params) : Obj := fz
noncomputable def x254 (P : Params) : Obj := ⟨.none, none, .func ⟨"_law_mutual", "_law_mutual", paramsOf (stmtAt 21), .stmts (bodyOf (stmtAt 21)), scopeOf (stmtAt 21), 0, [], .none, .none, .none, .none, none, .none, .none, 0⟩, #[]⟩
noncomputable def x255 (P : Params) : Obj := co "_law_mutual" "_law_mutual" 503 172 2 252 253 .none .none 254 506
noncomputable def x256 (P : Params) : Obj := fo "_law_mutual" "_law_mutual" (stmtAt 21) (.str "law_jz0002_01" 429) (.ref 255)
noncomputable def x257 (P : Params) : Obj := tu []
noncomputable def x258 (P : Params) : Obj := fz
noncomputable def x259 (P : Params) : Obj := ⟨.none, none, .func ⟨"_law_cycle_right", "_law_cycle_right", paramsOf (stmtAt 22), .stmts (bodyOf (stmtAt 22)), scopeOf (stmtAt 22), 0, [], .none, .none, .none, .none, none, .none, .none, 0⟩, #[]⟩
noncomputable def x260 (P : Params) : Obj := co "_law_cycle_right" "_law_cycle_right" 509 180 2 257 258 .none .none 259 512
noncomputable def x261 (P : Params) : Obj := fo "_law_cycle_right" "_law_cycle_right" (stmtAt 22) (.str "law_jz0002_01" 429) (.ref 260)
noncomputable def x262 (P : Params) : Obj := tu []
noncomputable def x263 (P : Params) : Obj := fz
noncomputable def x264 (P : Params) : Obj := ⟨.none, none, .func ⟨"law", "law", paramsOf (stmtAt 23), .stmts (bodyOf (stmtAt 23)), scopeOf (stmtAt 23), 0, [], .none, .none, .none, .none, none, .none, .none, 0⟩, #[]⟩
noncomputable def x265 (P : Params) : Obj := co "law" "law" 515 203 1 262 263 .none .none 264 518
noncomputable def x266 (P : Params) : Obj := fo "law" "law" (stmtAt 23) (.str "law_jz0002_01" 429) (.ref 265)
noncomputable def ha : Params → Heap := fun P => ⟨⟨boot_o_0 P :: boot_o_1 P :: boot_o_2 P :: boot_o_3 P :: boot_o_4 P :: boot_o_5 P :: boot_o_6 P :: boot_o_7 P :: boot_o_8 P :: boot_o_9 P :: boot_o_10 P :: x11 P :: x12 P :: x13 P :: x14 P :: []⟩, {}⟩
noncomputable def sa (w : World) (os : OsState) : Shared := ⟨ha w.params, ⟨[]⟩, boot_drawn, 187, os⟩
noncomputable def hb : Params → Heap := fun P => ⟨⟨boot_o_0 P :: boot_o_1 P :: boot_o_2 P :: x3b P :: boot_o_4 P :: boot_o_5 P :: boot_o_6 P :: boot_o_7 P :: boot_o_8 P :: boot_o_9 P :: boot_o_10 P :: x11 P :: x12b P :: x13 P :: x14 P :: x15 P :: x16 P :: x17 P :: x18 P :: x19 P :: x20 P :: x21 P :: x22 P :: x23 P :: x24 P :: x25 P :: x26 P :: x27 P :: x28 P :: x29 P :: x30 P :: x31 P :: x32 P :: x33 P :: x34 P :: x35 P :: x36 P :: x37 P :: x38 P :: x39 P :: x40 P :: x41 P :: x42 P :: x43 P :: x44 P :: x45 P :: x46 P :: x47 P :: x48 P :: x49 P :: []⟩, {}⟩
noncomputable def sb (w : World) (os : OsState) : Shared := ⟨hb w.params, ⟨[]⟩, boot_drawn, 248, os⟩
noncomputable def hc : Params → Heap := fun P => ⟨⟨boot_o_0 P :: boot_o_1 P :: boot_o_2 P :: x3c P :: boot_o_4 P :: boot_o_5 P :: boot_o_6 P :: boot_o_7 P :: boot_o_8 P :: boot_o_9 P :: boot_o_10 P :: x11 P :: x12c P :: x13 P :: x14 P :: x15 P :: x16 P :: x17 P :: x18 P :: x19 P :: x20 P :: x21 P :: x22 P :: x23 P :: x24 P :: x25 P :: x26 P :: x27 P :: x28 P :: x29 P :: x30 P :: x31 P :: x32 P :: x33 P :: x34 P :: x35 P :: x36 P :: x37 P :: x38 P :: x39 P :: x40 P :: x41 P :: x42 P :: x43 P :: x44 P :: x45 P :: x46 P :: x47 P :: x48 P :: x49 P :: x50 P :: x51 P :: x52 P :: x53 P :: x54 P :: x55 P :: x56 P :: x57 P :: x58 P :: x59 P :: x60 P :: x61 P :: x62 P :: x63 P :: x64 P :: x65 P :: x66 P :: x67 P :: x68 P :: x69 P :: x70 P :: x71 P :: x72 P :: x73 P :: x74 P :: x75 P :: x76 P :: x77 P :: x78 P :: x79 P :: x80 P :: x81 P :: x82 P :: x83 P :: x84 P :: x85 P :: x86 P :: x87 P :: x88 P :: x89 P :: x90 P :: x91 P :: x92 P :: x93 P :: x94 P :: x95 P :: x96 P :: x97 P :: x98 P :: x99 P :: x100 P :: x101 P :: x102 P :: x103 P :: x104 P :: x105 P :: x106 P :: x107 P :: x108 P :: x109 P :: x110 P :: x111 P :: x112 P :: x113 P :: x114 P :: x115 P :: x116 P :: x117 P :: x118 P :: x119 P :: x120 P :: x121 P :: x122 P :: x123 P :: x124 P :: x125 P :: x126 P :: x127 P :: x128 P :: x129 P :: x130 P :: x131 P :: x132 P :: x133 P :: x134 P :: x135 P :: x136 P :: x137 P :: x138 P :: x139 P :: x140 P :: x141 P :: x142 P :: x143 P :: []⟩, {}⟩
noncomputable def sc (w : World) (os : OsState) : Shared := ⟨hc w.params, ⟨[]⟩, boot_drawn, 362, os⟩
noncomputable def hd : Params → Heap := fun P => ⟨⟨boot_o_0 P :: boot_o_1 P :: boot_o_2 P :: x3d P :: boot_o_4 P :: boot_o_5 P :: boot_o_6 P :: boot_o_7 P :: boot_o_8 P :: boot_o_9 P :: boot_o_10 P :: x11 P :: x12d P :: x13 P :: x14 P :: x15 P :: x16 P :: x17 P :: x18 P :: x19 P :: x20 P :: x21 P :: x22 P :: x23 P :: x24 P :: x25 P :: x26 P :: x27 P :: x28 P :: x29 P :: x30 P :: x31 P :: x32 P :: x33 P :: x34 P :: x35 P :: x36 P :: x37 P :: x38 P :: x39 P :: x40 P :: x41 P :: x42 P :: x43 P :: x44 P :: x45 P :: x46 P :: x47 P :: x48 P :: x49 P :: x50 P :: x51 P :: x52 P :: x53 P :: x54 P :: x55 P :: x56 P :: x57 P :: x58 P :: x59 P :: x60 P :: x61 P :: x62 P :: x63 P :: x64 P :: x65 P :: x66 P :: x67 P :: x68 P :: x69 P :: x70 P :: x71 P :: x72 P :: x73 P :: x74 P :: x75 P :: x76 P :: x77 P :: x78 P :: x79 P :: x80 P :: x81 P :: x82 P :: x83 P :: x84 P :: x85 P :: x86 P :: x87 P :: x88 P :: x89 P :: x90 P :: x91 P :: x92 P :: x93 P :: x94 P :: x95 P :: x96 P :: x97 P :: x98 P :: x99 P :: x100 P :: x101 P :: x102 P :: x103 P :: x104 P :: x105 P :: x106 P :: x107 P :: x108 P :: x109 P :: x110 P :: x111 P :: x112 P :: x113 P :: x114 P :: x115 P :: x116 P :: x117 P :: x118 P :: x119 P :: x120 P :: x121 P :: x122 P :: x123 P :: x124 P :: x125 P :: x126 P :: x127 P :: x128 P :: x129 P :: x130 P :: x131 P :: x132 P :: x133 P :: x134 P :: x135 P :: x136 P :: x137 P :: x138 P :: x139d P :: x140 P :: x141 P :: x142 P :: x143 P :: x144 P :: x145 P :: x146 P :: x147 P :: x148 P :: x149 P :: x150 P :: x151 P :: x152 P :: x153 P :: x154 P :: x155 P :: x156 P :: x157 P :: x158 P :: x159 P :: x160 P :: x161 P :: x162 P :: x163 P :: x164 P :: x165 P :: x166 P :: x167 P :: x168 P :: x169 P :: x170 P :: x171 P :: x172 P :: x173 P :: x174 P :: x175 P :: x176 P :: x177 P :: x178 P :: x179 P :: x180 P :: x181 P :: x182 P :: x183 P :: x184 P :: x185 P :: x186 P :: x187 P :: x188 P :: x189 P :: x190 P :: x191 P :: x192 P :: x193 P :: x194 P :: x195 P :: x196 P :: x197 P :: x198 P :: x199 P :: x200 P :: []⟩, {}⟩
noncomputable def sd (w : World) (os : OsState) : Shared := ⟨hd w.params, ⟨[]⟩, boot_drawn, 429, os⟩
noncomputable def he : Params → Heap := fun P => ⟨⟨boot_o_0 P :: boot_o_1 P :: boot_o_2 P :: x3e P :: boot_o_4 P :: boot_o_5 P :: boot_o_6 P :: boot_o_7 P :: boot_o_8 P :: boot_o_9 P :: boot_o_10 P :: x11 P :: x12e P :: x13 P :: x14 P :: x15 P :: x16 P :: x17 P :: x18 P :: x19 P :: x20 P :: x21 P :: x22 P :: x23 P :: x24 P :: x25 P :: x26 P :: x27 P :: x28 P :: x29 P :: x30 P :: x31 P :: x32 P :: x33 P :: x34 P :: x35 P :: x36 P :: x37 P :: x38 P :: x39 P :: x40 P :: x41 P :: x42 P :: x43 P :: x44 P :: x45 P :: x46 P :: x47 P :: x48 P :: x49 P :: x50 P :: x51 P :: x52 P :: x53 P :: x54 P :: x55 P :: x56 P :: x57 P :: x58 P :: x59 P :: x60 P :: x61 P :: x62 P :: x63 P :: x64 P :: x65 P :: x66 P :: x67 P :: x68 P :: x69 P :: x70 P :: x71 P :: x72 P :: x73 P :: x74 P :: x75 P :: x76 P :: x77 P :: x78 P :: x79 P :: x80 P :: x81 P :: x82 P :: x83 P :: x84 P :: x85 P :: x86 P :: x87 P :: x88 P :: x89 P :: x90 P :: x91 P :: x92 P :: x93 P :: x94 P :: x95 P :: x96 P :: x97 P :: x98 P :: x99 P :: x100 P :: x101 P :: x102 P :: x103 P :: x104 P :: x105 P :: x106 P :: x107 P :: x108 P :: x109 P :: x110 P :: x111 P :: x112 P :: x113 P :: x114 P :: x115 P :: x116 P :: x117 P :: x118 P :: x119 P :: x120 P :: x121 P :: x122 P :: x123 P :: x124 P :: x125 P :: x126 P :: x127 P :: x128 P :: x129 P :: x130 P :: x131 P :: x132 P :: x133 P :: x134 P :: x135 P :: x136 P :: x137 P :: x138 P :: x139d P :: x140 P :: x141 P :: x142 P :: x143 P :: x144 P :: x145 P :: x146 P :: x147 P :: x148 P :: x149 P :: x150 P :: x151 P :: x152 P :: x153 P :: x154 P :: x155 P :: x156 P :: x157 P :: x158 P :: x159 P :: x160 P :: x161 P :: x162 P :: x163 P :: x164 P :: x165 P :: x166 P :: x167 P :: x168 P :: x169 P :: x170 P :: x171 P :: x172 P :: x173 P :: x174 P :: x175 P :: x176 P :: x177 P :: x178 P :: x179 P :: x180 P :: x181 P :: x182 P :: x183 P :: x184 P :: x185 P :: x186 P :: x187 P :: x188 P :: x189 P :: x190 P :: x191 P :: x192 P :: x193 P :: x194 P :: x195 P :: x196 P :: x197 P :: x198 P :: x199 P :: x200 P :: x201 P :: x202 P :: x203 P :: x204 P :: x205 P :: x206 P :: x207 P :: x208 P :: x209 P :: x210 P :: x211 P :: x212 P :: x213 P :: x214 P :: x215 P :: x216 P :: x217 P :: x218 P :: x219 P :: x220 P :: x221 P :: x222 P :: x223 P :: x224 P :: x225 P :: x226 P :: x227 P :: x228 P :: x229 P :: x230 P :: x231 P :: x232 P :: x233 P :: x234 P :: x235 P :: x236 P :: x237 P :: x238 P :: x239 P :: x240 P :: x241 P :: x242 P :: x243 P :: x244 P :: x245 P :: x246 P :: x247 P :: x248 P :: x249 P :: x250 P :: x251 P :: x252 P :: x253 P :: x254 P :: x255 P :: x256 P :: x257 P :: x258 P :: x259 P :: x260 P :: x261 P :: x262 P :: x263 P :: x264 P :: x265 P :: x266 P :: []⟩, {}⟩
noncomputable def se (w : World) (os : OsState) : Shared := ⟨he w.params, ⟨[]⟩, boot_drawn, 521, os⟩
noncomputable def K : Params → Frag := fun P => (nat_lit 2, boot_o_2 P) :: (nat_lit 3, x3e P) :: (nat_lit 27, x27 P) :: (nat_lit 28, x28 P) :: (nat_lit 34, x34 P) :: (nat_lit 35, x35 P) :: (nat_lit 41, x41 P) :: (nat_lit 42, x42 P) :: (nat_lit 48, x48 P) :: (nat_lit 49, x49 P) :: (nat_lit 62, x62 P) :: (nat_lit 63, x63 P) :: (nat_lit 74, x74 P) :: (nat_lit 75, x75 P) :: (nat_lit 93, x93 P) :: (nat_lit 94, x94 P) :: (nat_lit 138, x138 P) :: (nat_lit 139, x139d P) :: (nat_lit 147, x147 P) :: (nat_lit 158, x158 P) :: (nat_lit 159, x159 P) :: (nat_lit 165, x165 P) :: (nat_lit 166, x166 P) :: (nat_lit 172, x172 P) :: (nat_lit 173, x173 P) :: (nat_lit 179, x179 P) :: (nat_lit 180, x180 P) :: (nat_lit 186, x186 P) :: (nat_lit 187, x187 P) :: (nat_lit 197, x197 P) :: (nat_lit 198, x198 P) :: (nat_lit 206, x206 P) :: (nat_lit 207, x207 P) :: (nat_lit 213, x213 P) :: (nat_lit 214, x214 P) :: (nat_lit 218, x218 P) :: (nat_lit 219, x219 P) :: (nat_lit 223, x223 P) :: (nat_lit 224, x224 P) :: (nat_lit 228, x228 P) :: (nat_lit 229, x229 P) :: (nat_lit 233, x233 P) :: (nat_lit 234, x234 P) :: (nat_lit 238, x238 P) :: (nat_lit 239, x239 P) :: (nat_lit 245, x245 P) :: (nat_lit 246, x246 P) :: (nat_lit 250, x250 P) :: (nat_lit 251, x251 P) :: (nat_lit 255, x255 P) :: (nat_lit 256, x256 P) :: (nat_lit 260, x260 P) :: (nat_lit 261, x261 P) :: []
noncomputable def Kas : List Addr := 2 :: 3 :: 27 :: 28 :: 34 :: 35 :: 41 :: 42 :: 48 :: 49 :: 62 :: 63 :: 74 :: 75 :: 93 :: 94 :: 138 :: 139 :: 147 :: 158 :: 159 :: 165 :: 166 :: 172 :: 173 :: 179 :: 180 :: 186 :: 187 :: 197 :: 198 :: 206 :: 207 :: 213 :: 214 :: 218 :: 219 :: 223 :: 224 :: 228 :: 229 :: 233 :: 234 :: 238 :: 239 :: 245 :: 246 :: 250 :: 251 :: 255 :: 256 :: 260 :: 261 :: []
theorem Kas_ok : ∀ P, Kas = (K P).map (·.1) := fun _ => by kernel_rfl

noncomputable abbrev Xt : Shared → Bool := fun s => xlAt qv [] s && recOk PySem.Challenge.rw_jz0002_01.row.toRowW.records s
noncomputable def s0 (w : World) (os : OsState) : Shared := ⟨boot_heap w.params, ⟨[]⟩, boot_drawn, boot_toks, os⟩
noncomputable def bE : List Stmt := behindTheImports pv
noncomputable def eE : Env := { scope := pv.main.scope, locals := mainNs, globals := mainNs, cells := [], code := .ref 13, frame := some 14 }
noncomputable abbrev cE : Code := .body bE eE
noncomputable abbrev fE : List Frame := [topFrame default]

theorem segT : @PySem.W.Fast.tw14374325043358763698 PySem.W.Fast.tw14364793385576792824 = @segRun treeTable := by rw [PySem.W.Fast.te14374325043358763698, PySem.W.Fast.te14364793385576792824]
theorem topT : @PySem.W.Fast.tw14082659384304107361 PySem.W.Fast.tw14364793385576792824 = @topRun treeTable := by rw [PySem.W.Fast.te14082659384304107361, PySem.W.Fast.te14364793385576792824]

theorem r0 : ∀ (w : World) (os : OsState), topGo treeTable pv w 11 (some (.ref 6)) 12 (s0 w os) (topStub pv) = some (sa w os, ⟨denote treeTable cE, cE, default, fE⟩) := fun w os => by kernel_rfl
theorem r1 : ∀ (w : World) (os : OsState), PySem.W.Fast.tw14374325043358763698 PySem.W.Fast.tw14364793385576792824 pv w 11 (some (.ref 6)) 1 10 (sa w os) (blockOf bE eE cE default fE) = some (.next, sa w os, cE, default) := fun w os => by kernel_rfl
theorem r2 : ∀ (w : World) (os : OsState), PySem.W.Fast.tw14374325043358763698 PySem.W.Fast.tw14364793385576792824 pv w 11 (some (.ref 6)) 1 600 (sa w os) (piecesOf (bE.take 8) eE cE default fE) = some (.next, sb w os, cE, ⟨48, 0, 48, 8⟩) := fun w os => by kernel_rfl
theorem r3 : ∀ (w : World) (os : OsState), PySem.W.Fast.tw14374325043358763698 PySem.W.Fast.tw14364793385576792824 pv w 11 (some (.ref 6)) 1 600 (sb w os) (piecesOf ((bE.drop 8).take 1) eE cE ⟨48, 0, 48, 8⟩ fE) = some (.next, sc w os, cE, ⟨49, 0, 93, 16⟩) := fun w os => by kernel_rfl
theorem r4 : ∀ (w : World) (os : OsState), PySem.W.Fast.tw14374325043358763698 PySem.W.Fast.tw14364793385576792824 pv w 11 (some (.ref 6)) 1 600 (sc w os) (piecesOf (((bE.drop 8).drop 1).take 2) eE cE ⟨49, 0, 93, 16⟩ fE) = some (.next, sd w os, cE, ⟨95, 0, 114, 16⟩) := fun w os => by kernel_rfl
theorem r5 : ∀ (w : World) (os : OsState), PySem.W.Fast.tw14374325043358763698 PySem.W.Fast.tw14364793385576792824 pv w 11 (some (.ref 6)) 1 600 (sd w os) (piecesOf (((bE.drop 8).drop 1).drop 2) eE cE ⟨95, 0, 114, 16⟩ fE) = some (.next, se w os, cE, ⟨203, 0, 229, 26⟩) := fun w os => by kernel_rfl
theorem r6 : ∀ (w : World) (os : OsState), PySem.W.Fast.tw14082659384304107361 PySem.W.Fast.tw14364793385576792824 pv w 11 (some (.ref 6)) 5 (se w os) ⟨doneF .next, cE, ⟨203, 0, 229, 26⟩, fE⟩ = some (se w os) := fun w os => by kernel_rfl

theorem pcs {p : Program} {w : World} {m : Nat} {ann : Option Value} {env : Env} {q : Pos} {n N k : Nat} {s s' r : Shared} {l : List Stmt} {c : Code} {pos p' : Pos} (h : segRun treeTable p w m ann 1 n s (piecesOf (l.take k) env c pos [topFrame q]) = some (.next, s', c, p'))
    (x : topRun treeTable p w m ann N s' (restOf (l.drop k) env c p' [topFrame q]) = some r) : topRun treeTable p w m ann (n + N) s (restOf l env c pos [topFrame q]) = some r := by
  have := piece_app h x
  rwa [List.take_append_drop] at this

theorem run (w : World) (os : OsState) : topRun treeTable pv w 11 (some (.ref 6)) (12 + (10 + (600 + (600 + (600 + (600 + 5)))))) (s0 w os) (topStub pv) = some (se w os) := by
  have a1 := r1 w os; have a2 := r2 w os; have a3 := r3 w os; have a4 := r4 w os; have a5 := r5 w os; have a6 := r6 w os
  rw [segT] at a1 a2 a3 a4 a5
  rw [topT] at a6
  refine go_top (r0 w os) (piece_block a1 (pcs a2 (pcs a3 (pcs a4 ?_))))
  have := piece_app (rest := []) a5 (piece_nil a6)
  rwa [List.append_nil] at this

theorem size : ∀ w : World, ((boot_heap w.params).isNs mainGlobals && (⟨[]⟩ : Array GenState).size == 0, (boot_heap w.params).objs.size, (boot_heap w.params).nsMap mainGlobals "__annotations__") = (true, 11, some (.ref 6)) := fun w => by kernel_rfl
theorem lk1 : ∀ (w : World) (os : OsState), (staticsOk (importedModules pv.main.body) (boot_heap w.params) (se w os).heap && namesBound pv (se w os).heap && gensDone (se w os) && laidKept (boot_heap w.params) (se w os).heap) = true := fun w os => by kernel_rfl
theorem lk2 : ∀ (w : World) (os : OsState), Kas.map (se w os).heap.get? = (K w.params).map fun p => some p.2 := fun w os => by kernel_rfl
theorem lk3 : ∀ (w : World) (os : OsState), PySem.W.Fast.tw4187177175401517315 qv ["Player"] (importedModules pv.main.body) Xt true (se w os) = openGood qv ["Player"] := fun w os => by kernel_rfl

theorem left : LeftO pv qv ["Player"] Xt (Hook.obs (kHook K Kas Kas_ok)) (Hook.val (kHook K Kas Kas_ok)) 3192 :=
  LeftO.of_pieces (boot_open (by kernel_rfl) (by decide) (fun _ => by kernel_rfl)) size run (by decide)
    (fun w => funext fun os => Prod.ext (lk1 w os) (Prod.ext (by have := lk3 w os; rw [← PySem.W.Fast.te4187177175401517315] at this; exact this) (lk2 w os)))
end Mine

end
namespace Mine
noncomputable abbrev lw := PySem.Challenge.rw_jz0002_01
/-! the looks at the text, each apart -/
section
theorem l1 : sreFenced pv.main = true := by kernel_rfl
theorem l2 : ((moduleNames pv.main.body).isEmpty || lookedIntoSs (moduleNames pv.main.body) pv.main.body) = true := by kernel_rfl
theorem l3 : namesResolve pv = true := by kernel_rfl
theorem l4 : pv.boundNames.all (fun n => !worldNames.contains n) = true := by kernel_rfl
theorem l5 : noRoadLSs { strict := !(importedModules pv.main.body).all cThrough.contains, foot := none, bare := (["vars", "dir", "locals"] : List Str).filter (readsOut pv pv.main.body) } pv.main.body = true := by
  rw [PySem.W.Fast.te8326940854005059898]; kernel_rfl
theorem l6 : (namesMeet pv pv.main.body fun _ n => attrL n) = true := by kernel_rfl
theorem lkO : looksOpen pv = true := look_both (look_both (look_both (look_both (look_both l1 l2) l3) l4) l5) l6
theorem saidP : OpenRow.partSaid lw.row = true := by
  unfold OpenRow.partSaid
  repeat' with_reducible refine look_both ?_ ?_
  · exact lkO
  all_goals kernel_rfl
theorem saidR : OpenRow.wellSaid lw.row = true := by
  unfold OpenRow.wellSaid
  repeat' with_reducible refine look_both ?_ ?_
  · exact saidP
  all_goals kernel_rfl
theorem m1 : lw.footing.all footLine = true := by kernel_rfl
theorem m2 : noClassBlock lw.prog lw.footing = true := by kernel_rfl
theorem m3 : noRoadLSs { strict := true, foot := some lw.bound', writes := lw.writes, may := lw.may } lw.footing = true := by rw [PySem.W.Fast.te8326940854005059898]; kernel_rfl
theorem m4 : defStands lw.about lw.above = true := by kernel_rfl
theorem m5 : lw.namesIt = true := by kernel_rfl
theorem m6 : (lw.bound'.all fun n => !builtinNamed n || lw.about == [n] || !lw.reads n) = true := by kernel_rfl
theorem m7 : (namesMeet lw.prog lw.footing fun sc n => (!(["type", "isinstance", "issubclass", "getattr", "hasattr"] : List Str).contains n || sc.names.lookup n == some .globalImplicit) && (lw.may != some n || sc.kind == .module || sc.names.lookup n == some .globalImplicit)) = true := by kernel_rfl
theorem m8 : (namesMeet lw.prog lw.above fun _ n => !lw.own.contains n) = true := by kernel_rfl
theorem m9 : (namesMeet lw.prog lw.footing fun sc n => sc.kind == .module || sc.names.lookup n != some .globalExplicit) = true := by kernel_rfl
theorem said : OpenLaw.wellSaid lw = true := by
  unfold OpenLaw.wellSaid
  repeat' with_reducible refine look_both ?_ ?_
  · exact saidR
  all_goals with_reducible first | exact m1 | exact m2 | exact m3 | exact m4 | exact m5 | exact m6 | exact m7 | exact m8 | exact m9 | kernel_rfl
theorem opn : (chainsOk qv && opensWell lw.row.toRowW.prog && (frees lw.row.toRowW && lw.row.toRowW.within.isEmpty)) = true := by kernel_rfl
end
end Mine
set_option maxRecDepth 100000 in
set_option maxHeartbeats 8000000 in
theorem PySem.Challenge.cw_jz0002_01_holds : PySem.Challenge.rw_jz0002_01.Holds := by
  (w_on; refine holds_law Mine.said fun said => ?_; refine holds_open (q := Mine.qv) (loose := ["Player"]) (Xt := Mine.Xt) (XP := XL Mine.qv []) (Yf := Hook.obs (kHook Mine.K Mine.Kas Mine.Kas_ok)) (Ya := Hook.val (kHook Mine.K Mine.Kas Mine.Kas_ok)) (YP := Hook.says (kHook Mine.K Mine.Kas Mine.Kas_ok)) (N := 3192) Mine.left (Hook.of _) (Hook.keeps _) (fun s e => xl_of s (Bool.and_eq_true_iff.mp e).1) XL.keeps (by rfl) (by rfl) (by rfl) (fun s e => recFacts_of (Bool.and_eq_true_iff.mp e).2) (by rfl) (by first | assumption | decide +kernel) Mine.opn ⟨rfl, rfl, rfl, rfl, rfl, by decide +kernel⟩ ?hw ?hc)
  (case hw => w_witness2)
  (w_strict ((k_fill; intro w s₀ s₁ mg mb Gr Y fa o pm cd doc dV kV ho hd hcd hD hmg hg args vals as hpre hlay hrd hwl hlo; have KX := kIn_of Y; have Xa := (Ground.X Gr).1; have Va := (Ground.X Gr).2; refine Ground.open Gr ?_; intro T B D TE TW; (try (refine guard_noD D (by decide +kernel) ?_; clear D)); obtain ⟨_, _, Mb⟩ := bmod_of_top T; have TA := at_of_top T; (try (obtain ⟨_, _, he, B0⟩ := based_of_top T rfl hmg ho hd; have he' : cd = _ := he; subst he'; clear he)); clear hmg; (wrow_args hpre hlay hrd hwl hlo)); (first | refine enter_call ?_ | w_how); (w_top on); (try refine codeAny_mono ?_ (fun _ _ g => GoodW.toG g)); (have K0 := below_caller (Top.heap T)); (w_call any ho hd hcd hD T F); (clear hd TA); k_drop; (refine' Mine.joinK ‹Frag.In _ _› ‹Top _ _ _ _ _ _› ?hC ?hO ?hF ‹Heap.IsList _ _ _› ‹IntsAre _ _› ‹_› ‹Fr _ _ _ _› ?hm ‹News _ _ _ _› (by assumption) ?hk); (case hC => k_is); (case hO => refine' ⟨fun x => (show plainGet _ _ ("name" : Str) = true by k_is), ?_, ?_, ?_, ?_, ?_, ?_, ?_, ?_, ?_, ?_, ?_⟩ <;> k_is); (case hm => rfl); (case hk => (intro f h' tk' hf hk; (refine Mine.goodEnd (by cases f <;> exact hf) hk (by assumption) rfl (raisesW_false ?_) ?_); (· wrow_none_raised); (· first | wrow_post | kc_post))); (case hF => (intro ok; refine ⟨ok, ⟨?_, ?_, ?_, ?_, ?_, ?_, ?_, ?_, ?_, ?_, ?_, ?_⟩, ?mk, ⟨?_, ?_, ?_, ?_, ?_⟩, ?_, ?_, ?_, ?_, ?_, ?_, ?_, ?_, ?_, ?_, ?_, ?_, ?_, ?_, ?_, ?_, ?_⟩; (case mk => exact Mine.MkF.of (by k_is) (by k_is) (by k_is) (by rfl) (by k_is) (by k_is) (by k_is) (by k_is) (by k_is) (by k_is) (by k_is) (by rfl) (by kernel_rfl) (by k_is) (by k_is) (by k_is) (by k_is) (by kernel_rfl) (by k_is) (by k_is) (by k_is) (by k_is) (by k_is)); (all_goals first | (dsimp only; k_is) | exact Mine.GFn.of (by k_is) (by k_is) (by k_is) (by k_is) | exact Mine.MFn.of (by k_is) (by k_is) (by k_is) (by k_is) (by k_is) | skip)))))
