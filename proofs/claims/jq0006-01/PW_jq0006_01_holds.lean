import PyProof.Rows.All
import Wide.All
import OpenK.AllK
import Wide.FinOn
import Lean
import PySem.Challenge.RW_jq0006_01
open PySem PySem.W PyProof.Rows
set_option Elab.async false
set_option maxRecDepth 100000
set_option linter.unusedVariables false
namespace Mine
set_option compiler.extract_closed false
set_option genInjectivity false
set_option genSizeOf false
section
set_option maxHeartbeats 8000000
open_top hd for PySem.Challenge.rw_jq0006_01
end
section
/-! sums of inequalities, reckoned -/
noncomputable abbrev LX := Nat.Internal.Linear.Expr
noncomputable def qr : Nat → List Nat → Lean.RArray Nat
  | _, [] => .leaf 0
  | i, x :: r => .branch (i + 1) (.leaf x) (qr (i + 1) r)
noncomputable def qd (c : List Nat) (e : LX) : Nat := e.denote (qr 0 c)
noncomputable def qimp (c : List Nat) (G : Prop) : List LX → Prop
  | x :: y :: r => qd c x ≤ qd c y → qimp c G r
  | _ => G
noncomputable def qgoal (c : List Nat) : List LX → Prop
  | x :: y :: r => qimp c (qd c x ≤ qd c y) r
  | _ => True
noncomputable def qs : List LX → LX × LX
  | x :: y :: r => (.add x (qs r).1, .add y (qs r).2)
  | _ => (.num 0, .num 0)
noncomputable def qchk (m : Nat) : List LX → Bool
  | x :: y :: r => Nat.Internal.Linear.PolyCnstr.isUnsat (Nat.Internal.Linear.ExprCnstr.toNormPoly ⟨false, .add (.mulL m (.add y (.num 1))) (qs r).1, .add (.mulL m x) (qs r).2⟩)
  | _ => true
theorem qsum (c : List Nat) {G : Prop} : ∀ s : List LX, (qd c (qs s).1 ≤ qd c (qs s).2 → G) → qimp c G s
  | [], h => h (Nat.le_refl _)
  | [_], h => h (Nat.le_refl _)
  | _ :: _ :: r, h => fun hx => qsum c r fun hs => h (Nat.add_le_add hx hs)
theorem far (m : Nat) (c : List Nat) : ∀ s : List LX, qchk m s = true → qgoal c s
  | [], _ => trivial
  | [_], _ => trivial
  | _ :: _ :: r, h => qsum c r fun hs => Nat.le_of_not_lt fun hn => (Nat.Internal.Linear.ExprCnstr.eq_false_of_isUnsat (qr 0 c) _ h).mp (Nat.add_le_add (Nat.mul_le_mul_left m hn) hs)
theorem sbA (p q : Nat) : p ≤ p - q + q := Nat.sub_le_iff_le_add.mp (Nat.le_refl _)
theorem sbC {p q : Nat} (h : q ≤ p) : p - q + q ≤ p := Nat.le_of_eq (Nat.sub_add_cancel h)
theorem sbZ {p q : Nat} (h : p ≤ q) : p - q ≤ 0 := Nat.le_of_eq (Nat.sub_eq_zero_of_le h)
theorem dvA (p : Nat) : p / 2 * 2 ≤ p := Nat.div_mul_le_self p 2
theorem dvB (p : Nat) : p + 1 ≤ (p / 2 + 1) * 2 := (Nat.div_lt_iff_lt_mul (by decide)).mp (Nat.lt_succ_self _)

noncomputable abbrev PMap := Addr → Option Obj
noncomputable def PLe (F G : PMap) : Prop := ∀ a o, F a = some o → G a = some o
theorem PLe.rfl {F : PMap} : PLe F F := fun _ _ e => e
theorem PLe.trans {F G H : PMap} (x : PLe F G) (y : PLe G H) : PLe F H := fun a o e => y a o (x a o e)

noncomputable def upd (m : Str → Option Value) (x : Str) (v : Value) : Str → Option Value := fun y => if y = x then some v else m y

/-- what is owned at an address -/
inductive Res where
  | ns (m : Str → Option Value)
  | ob (o : Obj)
  | li (vs : List Value)
  | ce (v : Option Value)
  | di (kvs : List (List UInt8 × Value))
  | it (l : Addr) (i : Nat)

structure Glo where
  prog : Program
  w : World
  base : Heap
  os : OsState
  tabs : List (Addr × Addr)
  qa : Addr → Nat → Nat → Str

noncomputable def isLi (vs : List Value) (o : Obj) : Prop := o.cls = .type "list" ∧ o.dict = none ∧ o.slots = #[] ∧ ∃ n, o.data = .seq vs.toArray n

noncomputable def Res.Holds (g : Glo) (h : Heap) (a : Addr) : Res → Prop
  | .ns m => h.Ns a m
  | .ob o => h.get? a = some o
  | .li vs => ∃ o, h.get? a = some o ∧ isLi vs o
  | .ce v => h.IsCell a v
  | .di kvs => h.DictOf (bytesKind g.prog g.w) a kvs
  | .it l i => h.IsListIter a l i

theorem Res.Holds.at {g : Glo} {h h' : Heap} {a : Addr} {r : Res} (x : r.Holds g h a) (e : h'.get? a = h.get? a) : r.Holds g h' a := by
  cases r with
  | ns m => obtain ⟨o, es, ep, ho, rr⟩ := x; exact ⟨o, es, ep, e.trans ho, rr⟩
  | ob o => exact e.trans x
  | li vs => obtain ⟨o, ho, rr⟩ := x; exact ⟨o, e.trans ho, rr⟩
  | ce v => obtain ⟨o, ho, rr⟩ := x; exact ⟨o, e.trans ho, rr⟩
  | di kvs => obtain ⟨o, es, ep, ho, rr⟩ := x; exact ⟨o, es, ep, e.trans ho, rr⟩
  | it l i => obtain ⟨o, ho, rr⟩ := x; exact ⟨o, e.trans ho, rr⟩

theorem Res.Holds.there {g : Glo} {h : Heap} {a : Addr} {r : Res} (x : r.Holds g h a) : ∃ o, h.get? a = some o := by
  cases r with
  | ns m => obtain ⟨o, es, ep, ho, rr⟩ := x; exact ⟨o, ho⟩
  | ob o => exact ⟨o, x⟩
  | li vs => obtain ⟨o, ho, rr⟩ := x; exact ⟨o, ho⟩
  | ce v => obtain ⟨o, ho, rr⟩ := x; exact ⟨o, ho⟩
  | di kvs => obtain ⟨o, es, ep, ho, rr⟩ := x; exact ⟨o, ho⟩
  | it l i => obtain ⟨o, ho, rr⟩ := x; exact ⟨o, ho⟩

theorem Res.Holds.keep {g : Glo} {h h' : Heap} {a : Addr} {r : Res} (x : r.Holds g h a) (hk : ∀ o, h.get? a = some o → h'.get? a = some o) : r.Holds g h' a := by
  obtain ⟨o, ho⟩ := x.there
  exact x.at ((hk o ho).trans ho.symm)

noncomputable abbrev XS := List (Addr × Res)
noncomputable abbrev GS := Array GenState

noncomputable def CodeAtF (F : PMap) (v : Value) (q : Str) : Prop := ∃ c o vs t, v = .ref c ∧ F c = some o ∧ o.data = .fields vs ∧ vs[1]? = some (.str q t)
theorem CodeAtF.mono {F F' : PMap} {v : Value} {q : Str} (x : CodeAtF F v q) (h : PLe F F') : CodeAtF F' v q :=
  let ⟨c, o, vs, t, a, b, r⟩ := x; ⟨c, o, vs, t, a, h _ _ b, r⟩
theorem CodeAtF.rec {F : PMap} {h : Heap} {v : Value} {q : Str} (x : CodeAtF F v q) (k : PLe F h.get?) : h.CodeRec v q :=
  let ⟨c, o, vs, t, a, b, r⟩ := x; ⟨c, o, vs, t, a, k _ _ b, r⟩

noncomputable def TabAt (g : Glo) (F : PMap) (h : Heap) (P : Addr) : Prop :=
  ∃ ps, h.get? P = some (tabObj ps) ∧ TriplesOk ps.toList ∧ ∀ pos v, codeAmong pos ps.toList = some v → CodeAtF F v (g.qa P pos.line pos.col)

/-- the part of the state that does not hang on the function at hand -/
structure Ok (g : Glo) (F : PMap) (s : Shared) : Prop where
  base : PLe g.base.get? F
  fro : PLe F s.heap.get?
  tab : ∀ q ∈ g.tabs, TabAt g F s.heap q.2
  tabF : ∀ q ∈ g.tabs, F q.2 = none
  os : s.os = g.os
  bare : AllBare s.gens

/-- the function's own constants: what it must keep (exactly, but frames up to their slots), and what may be frozen in it from ahead -/
structure Fun where
  C : PMap
  F0 : PMap
  fr : List Addr

noncomputable def KeptAt (fr : List Addr) (h : Heap) (a : Addr) (o : Obj) : Prop := (a ∉ fr → h.get? a = some o) ∧ ∃ sl, h.get? a = some { o with slots := sl }

structure St (g : Glo) (k : Fun) (F : PMap) (X : XS) (G : GS) (s : Shared) : Prop extends Ok g F s where
  res : ∀ p ∈ X, p.2.Holds g s.heap p.1
  nod : (X.map (·.1)).Nodup
  apart : ∀ p ∈ X, F p.1 = none ∧ k.C p.1 = none ∧ ∀ q ∈ g.tabs, p.1 ≠ q.2
  kept : ∀ a o, k.C a = some o → KeptAt k.fr s.heap a o
  tabC : ∀ q ∈ g.tabs, k.C q.2 = none
  fresh : ∀ a o, F a = some o → (∃ o, k.F0 a = some o) ∨ k.C a = none
  gens : s.gens = G

structure W (g : Glo) (k : Fun) (A : Around) {α : Type} (t : Sem α) (Φ : α → PMap → XS → GS → Prop) (E : Value → Shared → Prop) (F : PMap) (X : XS) (G : GS) : Prop where
  run : ∀ s, St g k F X G s → wpAny (model g.prog g.w) A t (fun a s' => ∃ F' X' G', St g k F' X' G' s' ∧ Φ a F' X' G') E s

section
variable {g : Glo} {k : Fun} {A : Around} {α β : Type} {E : Value → Shared → Prop} {F : PMap} {X : XS} {G : GS}

theorem W.mono {t : Sem α} {Φ Ψ : α → PMap → XS → GS → Prop} (h : W g k A t Φ E F X G) (hm : ∀ a F X G, Φ a F X G → Ψ a F X G) : W g k A t Ψ E F X G := ⟨fun s hs => wpAny_mono (h.run s hs) (fun _ _ ⟨F', X', G', a, b⟩ => ⟨F', X', G', a, hm _ _ _ _ b⟩) fun _ _ x => x⟩
theorem W.then {t : Sem α} {Φ : α → PMap → XS → GS → Prop} (h : W g k A t Φ E F X G) {s : Shared} (hs : St g k F X G s) {Q : α → Shared → Prop}
    (hq : ∀ a F' X' G' s', St g k F' X' G' s' → Φ a F' X' G' → Q a s') : wpAny (model g.prog g.w) A t Q E s :=
  wpAny_mono (h.run s hs) (fun _ _ ⟨F', X', G', a, b⟩ => hq _ _ _ _ _ a b) fun _ _ x => x


theorem St.done {s : Shared} {Φ : α → PMap → XS → GS → Prop} {a : α} (hs : St g k F X G s) (h : Φ a F X G) : ∃ F' X' G', St g k F' X' G' s ∧ Φ a F' X' G' := ⟨F, X, G, hs, h⟩

theorem St.tok {s : Shared} (hs : St g k F X G s) (t : Nat) : St g k F X G { s with toks := t } :=
  ⟨⟨hs.base, hs.fro, hs.tab, hs.tabF, hs.os, hs.bare⟩, hs.res, hs.nod, hs.apart, hs.kept, hs.tabC, hs.fresh, hs.gens⟩

/-- the heap grows, everything there is kept -/
theorem St.grow {s : Shared} (hs : St g k F X G s) {h' : Heap} (hk : ∀ b o, s.heap.get? b = some o → h'.get? b = some o) (t : Nat) : St g k F X G { s with heap := h', toks := t } where
  base := hs.base
  fro := fun a o e => hk _ _ (hs.fro a o e)
  tab := fun q hq => let ⟨ps, e, r⟩ := hs.tab q hq; ⟨ps, hk _ _ e, r⟩
  tabF := hs.tabF
  os := hs.os
  bare := hs.bare
  res := fun p hp => (hs.res p hp).keep fun o e => hk _ _ e
  nod := hs.nod
  apart := hs.apart
  kept := fun a o e => let ⟨h1, sl, h2⟩ := hs.kept a o e; ⟨fun hf => hk _ _ (h1 hf), sl, hk _ _ h2⟩
  tabC := hs.tabC
  fresh := hs.fresh
  gens := hs.gens

theorem St.cNone {s : Shared} (hs : St g k F X G s) {a : Addr} (ha : s.heap.get? a = none) : k.C a = none := by
  cases e : k.C a with
  | none => rfl
  | some o => obtain ⟨_, sl, h2⟩ := hs.kept a o e; rw [ha] at h2; cases h2
theorem St.fNone {s : Shared} (hs : St g k F X G s) {a : Addr} (ha : s.heap.get? a = none) : F a = none := by
  cases e : F a with
  | none => rfl
  | some o => have := hs.fro a o e; rw [ha] at this; cases this
theorem St.xNot {s : Shared} (hs : St g k F X G s) {a : Addr} (ha : s.heap.get? a = none) : a ∉ X.map (·.1) := fun hm => by
  obtain ⟨p, hp, rfl⟩ := List.mem_map.mp hm
  obtain ⟨o, ho⟩ := (hs.res p hp).there
  rw [ha] at ho; cases ho
theorem St.tNot {s : Shared} (hs : St g k F X G s) {a : Addr} (ha : s.heap.get? a = none) : ∀ q ∈ g.tabs, a ≠ q.2 := fun q hq e => by
  obtain ⟨ps, hp, _⟩ := hs.tab q hq
  rw [← e, ha] at hp; cases hp

/-- a new address is owned -/
theorem St.own {s : Shared} (hs : St g k F X G s) {h' : Heap} (hk : ∀ b o, s.heap.get? b = some o → h'.get? b = some o) (t : Nat) {a : Addr} {r : Res}
    (ha : s.heap.get? a = none) (hr : r.Holds g h' a) : St g k F ((a, r) :: X) G { s with heap := h', toks := t } :=
  have h0 := hs.grow hk t
  { toOk := h0.toOk
    res := fun p hp => by
      rcases List.mem_cons.mp hp with rfl | hp
      · exact hr
      · exact h0.res p hp
    nod := List.nodup_cons.mpr ⟨hs.xNot ha, hs.nod⟩
    apart := fun p hp => by
      rcases List.mem_cons.mp hp with rfl | hp
      · exact ⟨hs.fNone ha, hs.cNone ha, hs.tNot ha⟩
      · exact hs.apart p hp
    kept := h0.kept, tabC := h0.tabC, fresh := h0.fresh, gens := h0.gens }

noncomputable def fset (F : PMap) (a : Addr) (o : Obj) : PMap := fun b => if b = a then some o else F b
theorem fset_self {F : PMap} {a : Addr} {o : Obj} : fset F a o a = some o := by simp [fset]
theorem fset_le {F : PMap} {a : Addr} {o : Obj} (h : F a = none) : PLe F (fset F a o) := fun b o' e => by
  unfold fset
  split
  · rename_i hb; subst hb; rw [h] at e; cases e
  · exact e
theorem fset_none {F : PMap} {a b : Addr} {o : Obj} (h : b ≠ a) (hb : F b = none) : fset F a o b = none := by simp [fset, h, hb]

theorem TabAt.mono {F F' : PMap} {h : Heap} {P : Addr} (x : TabAt g F h P) (hl : PLe F F') : TabAt g F' h P :=
  let ⟨ps, a, b, c⟩ := x; ⟨ps, a, b, fun pos v e => (c pos v e).mono hl⟩

/-- what is owned at the list's place i -/
theorem St.at {s : Shared} (hs : St g k F X G s) {i : Nat} {a : Addr} {r : Res} (h : X[i]? = some (a, r)) : r.Holds g s.heap a := hs.res _ (List.mem_of_getElem? h)

theorem nodup_ne {X : XS} (hn : (X.map (·.1)).Nodup) {i j : Nat} {p q : Addr × Res} (hi : X[i]? = some p) (hj : X[j]? = some q) (h : p.1 = q.1) : i = j := by
  have hi' : (X.map (·.1))[i]? = some p.1 := by rw [List.getElem?_map, hi]; rfl
  have hj' : (X.map (·.1))[j]? = some p.1 := by rw [List.getElem?_map, hj, h]; rfl
  have li : i < (X.map (·.1)).length := (List.getElem?_eq_some_iff.mp hi').1
  exact (List.getElem?_inj li hn).mp (hi'.trans hj'.symm)

/-- an owned thing is frozen: it leaves the owned ones -/
theorem St.freeze {s : Shared} (hs : St g k F X G s) {i : Nat} {a : Addr} {r : Res} {o : Obj} (h : X[i]? = some (a, r)) (ho : s.heap.get? a = some o) : St g k (fset F a o) (X.eraseIdx i) G s :=
  have hm := List.mem_of_getElem? h
  have hap := hs.apart _ hm
  have hsub : ∀ p ∈ X.eraseIdx i, p ∈ X := fun p hp => List.mem_of_mem_eraseIdx hp
  have hne : ∀ p ∈ X.eraseIdx i, p.1 ≠ a := fun p hp e => by
    obtain ⟨j, hj, hji, ht⟩ := List.mem_eraseIdx_iff_getElem?.mp hp |> fun ⟨j, hji, hj⟩ => (⟨j, hj, hji, trivial⟩ : ∃ j, X[j]? = some p ∧ j ≠ i ∧ True)
    exact hji (nodup_ne hs.nod hj h e)
  { base := hs.base.trans (fset_le hap.1)
    fro := fun b o' e => by
      unfold fset at e
      split at e
      · rename_i hb; subst hb; cases e; exact ho
      · exact hs.fro b o' e
    tab := fun q hq => (hs.tab q hq).mono (fset_le hap.1)
    tabF := fun q hq => fset_none (Ne.symm (hap.2.2 q hq)) (hs.tabF q hq)
    os := hs.os, bare := hs.bare
    res := fun p hp => hs.res p (hsub p hp)
    nod := hs.nod.sublist ((List.eraseIdx_sublist X i).map _)
    apart := fun p hp => have := hs.apart p (hsub p hp); ⟨fset_none (hne p hp) this.1, this.2⟩
    kept := hs.kept, tabC := hs.tabC
    fresh := fun b o' e => by
      unfold fset at e
      split at e
      · rename_i hb; subst hb; exact .inr hap.2.1
      · exact hs.fresh b o' e
    gens := hs.gens }

/-- an owned thing is changed -/
theorem St.set {s : Shared} (hs : St g k F X G s) {i : Nat} {a : Addr} {r r' : Res} (h : X[i]? = some (a, r)) {h' : Heap} (t : Nat)
    (hk : ∀ b o, b ≠ a → s.heap.get? b = some o → h'.get? b = some o) (hr : r'.Holds g h' a) : St g k F (X.set i (a, r')) G { s with heap := h', toks := t } :=
  have hm := List.mem_of_getElem? h
  have hap := hs.apart _ hm
  have il : i < X.length := (List.getElem?_eq_some_iff.mp h).1
  have hcase : ∀ p ∈ X.set i (a, r'), p = (a, r') ∨ (p ∈ X ∧ p.1 ≠ a) := fun p hp => by
    obtain ⟨j, hj⟩ := List.getElem?_of_mem hp
    rw [List.getElem?_set] at hj
    split at hj
    · left; (try split at hj) <;> cases hj <;> rfl
    · rename_i hij
      exact .inr ⟨List.mem_of_getElem? hj, fun e => hij (nodup_ne hs.nod h hj e.symm)⟩
  { base := hs.base
    fro := fun b o e => hk b o (fun q => by subst q; rw [hap.1] at e; cases e) (hs.fro b o e)
    tab := fun q hq => let ⟨ps, e, rr⟩ := hs.tab q hq; ⟨ps, hk _ _ (Ne.symm (hap.2.2 q hq)) e, rr⟩
    tabF := hs.tabF, os := hs.os, bare := hs.bare
    res := fun p hp => by
      rcases hcase p hp with rfl | ⟨hp, hne⟩
      · exact hr
      · exact (hs.res p hp).keep fun o e => hk _ _ hne e
    nod := by
      have : (X.set i (a, r')).map (·.1) = X.map (·.1) := by
        rw [List.map_set]
        show (X.map (·.1)).set i a = _
        have e : (X.map (·.1))[i]? = some a := by rw [List.getElem?_map, h]; rfl
        obtain ⟨l1, e1⟩ := List.getElem?_eq_some_iff.mp e
        exact e1 ▸ List.set_getElem_self l1
      rw [this]; exact hs.nod
    apart := fun p hp => by
      rcases hcase p hp with rfl | ⟨hp, _⟩
      · exact hap
      · exact hs.apart p hp
    kept := fun b o e => let ⟨h1, sl, h2⟩ := hs.kept b o e
      have hne : b ≠ a := fun q => by subst q; rw [hap.2.1] at e; cases e
      ⟨fun hf => hk _ _ hne (h1 hf), sl, hk _ _ hne h2⟩
    tabC := hs.tabC, fresh := hs.fresh, gens := hs.gens }

/-- owned things may be dropped -/
theorem St.drop {s : Shared} (hs : St g k F X G s) {Y : XS} (h : Y.Sublist X) : St g k F Y G s :=
  { hs with
    res := fun p hp => hs.res p (h.subset hp)
    nod := hs.nod.sublist (h.map _)
    apart := fun p hp => hs.apart p (h.subset hp) }
theorem W.drop {t : Sem α} {Φ : α → PMap → XS → GS → Prop} {Y : XS} (hY : Y.Sublist X) (h : W g k A t Φ E F Y G) : W g k A t Φ E F X G := ⟨fun s hs => h.run s (hs.drop hY)⟩
end
end
section

noncomputable abbrev Cont (α : Type) := α → PMap → XS → GS → Prop

@[reducible] noncomputable def seqK (n : PMap → XS → GS → Prop) (Φ : Cont Flow) : Cont Flow := fun f => match f with
  | .next => n
  | f => Φ f
@[reducible] noncomputable def exprK (Φ : Cont Flow) : Cont Value := fun v F X G => (∀ a, v ≠ .ref a) ∧ Φ .next F X G
section
variable {g : Glo} {k : Fun} {A : Around} {E : Value → Shared → Prop} {F : PMap} {X : XS} {G : GS} {env : Env}

/-! statements -/
theorem W_execs_nil {Φ : Cont Flow} (h : Φ .next F X G) : W g k A (execs [] env) Φ E F X G := ⟨fun _ hs => wpAny_execs_nil (hs.done h)⟩
theorem W_execs_cons {st : Stmt} {rest : List Stmt} {Φ : Cont Flow}
    (h : W g k A (exec st env) (seqK (W g k A (execs rest env) Φ E) Φ) E F X G) : W g k A (execs (st :: rest) env) Φ E F X G := ⟨fun _ hs => wpAny_execs_cons (h.then hs fun f _ _ _ _ st hw => by cases f <;> first | exact hw.run _ st | exact st.done hw)⟩
theorem W_If {test : Expr} {body orelse : List Stmt} {pos : Pos} {Φ : Cont Flow}
    (h : W g k A (isTrue test env (eval test env)) (fun b => if b = true then W g k A (execs body env) Φ E else W g k A (execs orelse env) Φ E) E F X G) :
    W g k A (exec (.If test body orelse pos) env) Φ E F X G := ⟨fun _ hs => wpAny_If (h.then hs fun b _ _ _ _ st hw => by cases b <;> exact hw.run _ st)⟩
theorem W_Return {e : Expr} {pos : Pos} {Φ : Cont Flow} (h : W g k A (eval e env) (fun v => Φ (.ret v)) E F X G) : W g k A (exec (.Return (some e) pos) env) Φ E F X G := ⟨fun _ hs => wpAny_Return_some (h.then hs fun _ _ _ _ _ st hw => st.done hw)⟩
theorem W_Expr {e : Expr} {pos : Pos} {Φ : Cont Flow} (h : W g k A (eval e env) (exprK Φ) E F X G)
    (hi : interactive env = false := by kernel_rfl) (hs : swapsWith e none pos.line env = pure false := by kernel_rfl) : W g k A (exec (.Expr e pos) env) Φ E F X G := ⟨fun _ st => wpAny_Expr (h.then st fun v _ _ _ _ st hw => by cases v <;> first | exact st.done hw.2 | exact absurd rfl (hw.1 _)) hi hs⟩
theorem W_Continue {pos : Pos} {Φ : Cont Flow} (h : Φ .cont F X G) : W g k A (exec (.Continue pos) env) Φ E F X G := ⟨fun _ hs => wpAny_Continue (hs.done h)⟩
theorem W_Pass {pos : Pos} {Φ : Cont Flow} (h : Φ .next F X G) : W g k A (exec (.Pass pos) env) Φ E F X G := ⟨fun _ hs => wpAny_Pass (hs.done h)⟩
theorem W_AssignName {x : Str} {pos' pos : Pos} {value : Expr} {Φ : Cont Flow}
    (h : W g k A (eval value env) (fun v => W g k A (storeName env x v) (fun _ => Φ .next) E) E F X G)
    (hs : swapsWith value (some (.Name x pos')) pos.line env = pure false := by kernel_rfl) : W g k A (exec (.Assign [.Name x pos'] value pos) env) Φ E F X G := ⟨fun _ st => wpAny_Assign_Name (h.then st fun v _ _ _ _ st hw => hw.then st fun _ _ _ _ _ st hw => st.done hw) hs⟩
theorem W_AssignSub {o i : Expr} {pos' pos : Pos} {value : Expr} {Φ : Cont Flow}
    (h : W g k A (eval value env) (fun v => W g k A (eval o env) (fun ov => W g k A (eval i env) (fun iv => W g k A (setItem ov iv v) (fun _ => Φ .next) E) E) E) E F X G)
    (hs : swapsWith value (some (.Subscript o i pos')) pos.line env = pure false := by kernel_rfl) : W g k A (exec (.Assign [.Subscript o i pos'] value pos) env) Φ E F X G := ⟨fun _ st => wpAny_Assign_Subscript (h.then st fun v _ _ _ _ st hw => hw.then st fun _ _ _ _ _ st hw => hw.then st fun _ _ _ _ _ st hw => hw.then st fun _ _ _ _ _ st hw => st.done hw) hs⟩
theorem W_AssignAttr {o : Expr} {attr : Str} {pos' pos : Pos} {value : Expr} {Φ : Cont Flow}
    (h : W g k A (eval value env) (fun v => W g k A (eval o env) (fun ov => W g k A (setAttr ov attr v) (fun _ => Φ .next) E) E) E F X G)
    (hs : swapsWith value (some (.Attribute o attr pos')) pos.line env = pure false := by kernel_rfl) : W g k A (exec (.Assign [.Attribute o attr pos'] value pos) env) Φ E F X G := ⟨fun _ st => plainObj_wpAny_Assign_Attribute (h.then st fun v _ _ _ _ st hw => hw.then st fun _ _ _ _ _ st hw => hw.then st fun _ _ _ _ _ st hw => st.done hw) hs⟩
theorem W_AssignTup {elts : List Expr} {n : Nat} {tpos pos : Pos} {value : Expr} {Φ : Cont Flow}
    (h : W g k A (eval value env) (fun v => W g k A (assign (.Tuple elts n tpos) env v) (fun _ => Φ .next) E) E F X G)
    (hs : swapsWithSole [.Tuple elts n tpos] value pos.line env = pure false := by kernel_rfl) (hw : swappedStores [.Tuple elts n tpos] value env = pure none := by kernel_rfl) :
    W g k A (exec (.Assign [.Tuple elts n tpos] value pos) env) Φ E F X G := ⟨fun _ st => Assign_Tuple (h.then st fun v _ _ _ _ st hw => hw.then st fun _ _ _ _ _ st hw => st.done hw) hs hw⟩
theorem W_assignName {x : Str} {pos : Pos} {v : Value} {Φ : Cont Unit} (h : W g k A (storeName env x v) Φ E F X G) : W g k A (assign (.Name x pos) env v) Φ E F X G := ⟨fun _ st => wpAny_assign_Name (h.then st fun _ _ _ _ _ st hw => st.done hw)⟩
/-! expressions -/
theorem W_Int {i : Int} {n : Nat} {pos : Pos} {Φ : Cont Value} (h : ∀ t, Φ (.int i t) F X G) : W g k A (eval (.Constant (.int i) n pos) env) Φ E F X G := ⟨fun s hs => wpAny_Constant_int ((hs.tok _).done (h _))⟩
theorem W_None {n : Nat} {pos : Pos} {Φ : Cont Value} (h : Φ .none F X G) : W g k A (eval (.Constant .none n pos) env) Φ E F X G := ⟨fun s hs => wpAny_Constant_none (hs.done h)⟩
theorem W_Bool {b : Bool} {n : Nat} {pos : Pos} {Φ : Cont Value} (h : Φ (.bool b) F X G) : W g k A (eval (.Constant (.bool b) n pos) env) Φ E F X G := ⟨fun s hs => wpAny_Constant_bool (hs.done h)⟩
theorem W_Bytes {b : List UInt8} {n : Nat} {pos : Pos} {Φ : Cont Value} (h : ∀ t, Φ (.bytes b.toArray t) F X G) : W g k A (eval (.Constant (.bytes b) n pos) env) Φ E F X G := ⟨fun s hs Γ p _ => (hs.tok _).done (h _)⟩
theorem W_Name {x : Str} {pos : Pos} {Φ : Cont Value} (h : W g k A (loadName env x) Φ E F X G) (hd : (x == ("__debug__" : Str)) = false := by kernel_rfl) : W g k A (eval (.Name x pos) env) Φ E F X G := ⟨fun s hs => wpAny_Name (h.run s hs) hd⟩
theorem W_BinOp {l r : Expr} {op : Operator} {pos : Pos} {Φ : Cont Value}
    (h : W g k A (eval l env) (fun a => W g k A (eval r env) (fun b => W g k A (binaryOp op a b) Φ E) E) E F X G) : W g k A (eval (.BinOp l op r pos) env) Φ E F X G := ⟨fun s hs => wpAny_BinOp (h.then hs fun _ _ _ _ _ st hw => hw.then st fun _ _ _ _ _ st hw => hw.run _ st)⟩
theorem W_UnaryOp {x : Expr} {op : UnaryOp} {pos : Pos} {Φ : Cont Value} (h : W g k A (eval x env) (fun v => W g k A (unaryOp op v) Φ E) E F X G) : W g k A (eval (.UnaryOp op x pos) env) Φ E F X G := ⟨fun s hs => wpAny_UnaryOp (h.then hs fun _ _ _ _ _ st hw => hw.run _ st)⟩
theorem W_IfExp {test body orelse : Expr} {pos : Pos} {Φ : Cont Value}
    (h : W g k A (isTrue test env (eval test env)) (fun b => if b = true then W g k A (eval body env) Φ E else W g k A (eval orelse env) Φ E) E F X G) : W g k A (eval (.IfExp test body orelse pos) env) Φ E F X G := ⟨fun s hs => wpAny_IfExp (h.then hs fun b _ _ _ _ st hw => by cases b <;> exact hw.run _ st)⟩
theorem W_Compare {l r : Expr} {op : CmpOp} {pos : Pos} {Φ : Cont Value}
    (h : W g k A (eval l env) (fun a => W g k A (eval r env) (fun b => W g k A (compareOp op a b) Φ E) E) E F X G)
    (hm : behindInMarks op r = false := by kernel_rfl) : W g k A (eval (.Compare l [op] [r] pos) env) Φ E F X G := ⟨fun s hs => wpAny_Compare1 (h.then hs fun _ _ _ _ _ st hw => hw.then st fun _ _ _ _ _ st hw => hw.run _ st) hm⟩
theorem W_isCompare {l r : Expr} {op : CmpOp} {pos : Pos} {whole : Sem Value} {Φ : Cont Bool}
    (h : W g k A (eval l env) (fun a => W g k A (eval r env) (fun b => W g k A (compareOp op a b) (fun c => W g k A (truthy c) Φ E) E) E) E F X G)
    (hm : behindInMarks op r = false := by kernel_rfl) : W g k A (isTrue (.Compare l [op] [r] pos) env whole) Φ E F X G := ⟨fun s hs => wpAny_isTrue_Compare1 (h.then hs fun _ _ _ _ _ st hw => hw.then st fun _ _ _ _ _ st hw => hw.then st fun _ _ _ _ _ st hw => hw.run _ st) hm⟩
theorem W_isNot {x : Expr} {pos : Pos} {whole : Sem Value} {Φ : Cont Bool} (h : W g k A (isTrue x env (eval x env)) (fun b => Φ (!b)) E F X G) : W g k A (isTrue (.UnaryOp .Not x pos) env whole) Φ E F X G := ⟨fun s hs => wpAny_isTrue_Not (h.then hs fun _ _ _ _ _ st hw => st.done hw)⟩
theorem W_isBoolOp {op : BoolOp} {values : List Expr} {pos : Pos} {whole : Sem Value} {Φ : Cont Bool} (h : W g k A (allTrue op values env) Φ E F X G) : W g k A (isTrue (.BoolOp op values pos) env whole) Φ E F X G := ⟨fun s hs => wpAny_isTrue_BoolOp (h.run s hs)⟩
theorem W_And_nil {Φ : Cont Bool} (h : Φ true F X G) : W g k A (allTrue .And [] env) Φ E F X G := ⟨fun s hs => wpAny_allTrue_And_nil (hs.done h)⟩
theorem W_Or_nil {Φ : Cont Bool} (h : Φ false F X G) : W g k A (allTrue .Or [] env) Φ E F X G := ⟨fun s hs => wpAny_allTrue_Or_nil (hs.done h)⟩
theorem W_And_cons {x : Expr} {rest : List Expr} {Φ : Cont Bool}
    (h : W g k A (isTrue x env (eval x env)) (fun b F X G => if b = true then W g k A (allTrue .And rest env) Φ E F X G else Φ false F X G) E F X G) : W g k A (allTrue .And (x :: rest) env) Φ E F X G := ⟨fun s hs => wpAny_allTrue_And_cons (h.then hs fun b _ _ _ _ st hw => by cases b <;> first | exact st.done hw | exact hw.run _ st)⟩
theorem W_Or_cons {x : Expr} {rest : List Expr} {Φ : Cont Bool}
    (h : W g k A (isTrue x env (eval x env)) (fun b F X G => if b = true then Φ true F X G else W g k A (allTrue .Or rest env) Φ E F X G) E F X G) : W g k A (allTrue .Or (x :: rest) env) Φ E F X G := ⟨fun s hs => wpAny_allTrue_Or_cons (h.then hs fun b _ _ _ _ st hw => by cases b <;> first | exact hw.run _ st | exact st.done hw)⟩
theorem W_isValue {e : Expr} {whole : Sem Value} {Φ : Cont Bool} (h : W g k A whole (fun v => W g k A (truthy v) Φ E) E F X G)
    (he : isTrue e env whole = (do let v ← whole; standAt e.pos; holding [v] (truthy v)) := by kernel_rfl) : W g k A (isTrue e env whole) Φ E F X G := ⟨fun s hs => wpAny_isTrue_value (h.then hs fun _ _ _ _ _ st hw => hw.run _ st) he⟩
/-! names -/
theorem W_local {x : Str} {v : Value} {m : Str → Option Value} {i : Nat} {Φ : Cont Value} (hx : X[i]? = some (env.locals, .ns m)) (hl : env.kindOf x = some .local) (hv : m x = some v) (h : Φ v F X G)
    (hk : env.scope.kind = .function := by kernel_rfl) : W g k A (loadName env x) Φ E F X G := ⟨fun s hs => wpAny_loadName_local hk hl (hs.at hx) hv (hs.done h)⟩
theorem W_store {x : Str} {v : Value} {m : Str → Option Value} {i : Nat} {Φ : Cont Unit} (hx : X[i]? = some (env.locals, .ns m)) (hl : env.kindOf x = some .local) (h : Φ () F (X.set i (env.locals, .ns (upd m x v))) G)
    (hk : env.scope.kind = .function := by kernel_rfl) : W g k A (storeName env x v) Φ E F X G := ⟨fun s hs => wpAny_storeName_local hl (hs.at hx) (fun h' hn hsb => (hs.set (r' := .ns (upd m x v)) hx _ (fun b o hb e => (hsb.2 b hb).trans e) hn).done h) (by rw [hk]; rfl)⟩
theorem W_cell {x : Str} {v : Value} {c : Addr} {i : Nat} {Φ : Cont Value} (hl : env.kindOf x = some .cell ∨ env.kindOf x = some .free) (hc : env.cells.lookup x = some c) (hx : X[i]? = some (c, .ce (some v))) (h : Φ v F X G)
    (hk : env.scope.kind = .function := by kernel_rfl) (hd : (x == ("__classdict__" : Str)) = false := by kernel_rfl) : W g k A (loadName env x) Φ E F X G := ⟨fun s hs => by
    rcases hl with hl | hl
    · exact wpAny_loadName_cell hk hl hc (hs.at hx) (hs.done h)
    · exact wpAny_loadName_free hk hl hc (hs.at hx) (hs.done h) hd⟩
theorem W_cellF {x : Str} {v : Value} {c : Addr} {o : Obj} {Φ : Cont Value} (hl : env.kindOf x = some .cell ∨ env.kindOf x = some .free) (hc : env.cells.lookup x = some c) (hx : F c = some o) (ho : o.data = .cell (some v)) (h : Φ v F X G)
    (hk : env.scope.kind = .function := by kernel_rfl) (hd : (x == ("__classdict__" : Str)) = false := by kernel_rfl) : W g k A (loadName env x) Φ E F X G := ⟨fun s hs => by
    have hcell : s.heap.IsCell c (some v) := ⟨o, hs.fro _ _ hx, ho⟩
    rcases hl with hl | hl
    · exact wpAny_loadName_cell hk hl hc hcell (hs.done h)
    · exact wpAny_loadName_free hk hl hc hcell (hs.done h) hd⟩
theorem W_storeCell {x : Str} {v : Value} {c : Addr} {v₀ : Option Value} {i : Nat} {Φ : Cont Unit} (hl : env.kindOf x = some .cell) (hc : env.cells.lookup x = some c) (hx : X[i]? = some (c, .ce v₀)) (h : Φ () F (X.set i (c, .ce (some v))) G)
    (hk : env.scope.kind = .function := by kernel_rfl) : W g k A (storeName env x v) Φ E F X G := ⟨fun s hs => wpAny_storeName_cell hk hl hc (hs.at hx) fun h' hc' hsb => (hs.set (r' := .ce (some v)) hx s.toks (fun b o hb e => (hsb.2 b hb).trans e) hc').done h⟩
end

/-- what the proofs use of the top, for ever -/
structure Top0 (g : Glo) (K : Frag) (mg mb : Str → Option Value) : Prop where
  K : K.In g.base
  gns : g.base.Ns mainGlobals mg
  bns : g.base.Ns builtinsNs mb
  nolimit : g.base.NoLimit
  builtins : ∀ x : Str, x ≠ "__name__" → mb x = bootBuiltins x
  bmain : ∃ bm ob, mg "__builtins__" = some (.ref bm) ∧ bm ≠ builtinsNs ∧ g.base.get? bm = some ob ∧ ob.cls = .type "module" ∧ ob.dict = some builtinsNs ∧ ob.data = .plain
  heads : ∀ q ∈ g.tabs, CodeHd g.base q.1 q.2

section
variable {g : Glo} {K : Frag} {mg mb : Str → Option Value} {k : Fun} {A : Around} {E : Value → Shared → Prop} {F : PMap} {X : XS} {G : GS} {env : Env} {s : Shared}
theorem Ok.stays (hs : Ok g F s) : ∀ b o, g.base.get? b = some o → s.heap.get? b = some o := fun b o e => hs.fro _ _ (hs.base _ _ e)

theorem W_global {x : Str} {v : Value} {Φ : Cont Value} (T : Top0 g K mg mb) (hx : env.kindOf x = some .globalImplicit) (e : nsIn K mainGlobals x = some (some v)) (h : Φ v F X G)
    (hg : env.globals = mainGlobals := by kernel_rfl) (hk : env.scope.kind = .function := by kernel_rfl) : W g k A (loadName env x) Φ E F X G := ⟨fun s hs => by
  unfold loadName
  simp only [Env.blockKind, hk, hx, ScopeKind.isAnnotationScope, Bool.false_and, Bool.false_eq_true, if_false]
  exact Calls.loadGlobal_global (by rw [hg]; exact T.gns.keeps hs.stays) (mg_of T.K T.gns e) (hs.done h)⟩
theorem W_builtin {x : Str} {v : Value} {Φ : Cont Value} (T : Top0 g K mg mb) (hx : env.kindOf x = some .globalImplicit) (e : nsIn K mainGlobals x = some none) (hv : bootBuiltins x = some v) (h : Φ v F X G)
    (hn : x ≠ "__name__" := by decide +kernel) (hg : env.globals = mainGlobals := by kernel_rfl) (hb : env.builtins = builtinsNs := by kernel_rfl) (hk : env.scope.kind = .function := by kernel_rfl) : W g k A (loadName env x) Φ E F X G := ⟨fun s hs => by
  unfold loadName
  simp only [Env.blockKind, hk, hx, ScopeKind.isAnnotationScope, Bool.false_and, Bool.false_eq_true, if_false]
  exact Calls.loadGlobal_builtin (by rw [hg]; exact T.gns.keeps hs.stays) (mg_none_of T.K T.gns e) (by rw [hb]; exact T.bns.keeps hs.stays) ((T.builtins x hn).trans hv) (hs.done h)⟩
end

/-! values -/
noncomputable def isInt (v : Value) (i : Int) : Prop := ∃ t, v = .int i t
noncomputable def isBy (v : Value) (b : List UInt8) : Prop := ∃ t, v = .bytes b.toArray t
noncomputable def FList (F : PMap) (v : Value) (vs : List Value) : Prop := ∃ a o, v = .ref a ∧ F a = some o ∧ isLi vs o
noncomputable def FTup (F : PMap) (v : Value) (vs : List Value) : Prop := ∃ a n, v = .ref a ∧ F a = some { cls := .type "tuple", data := .seq vs.toArray n }
theorem FList.mono {F F' : PMap} {v : Value} {vs : List Value} (x : FList F v vs) (h : PLe F F') : FList F' v vs := let ⟨a, o, e, f, r⟩ := x; ⟨a, o, e, h _ _ f, r⟩

/-- a list that may be read: a frozen one, or an owned one -/
noncomputable def LView (F : PMap) (X : XS) (v : Value) (vs : List Value) : Prop := FList F v vs ∨ ∃ (a : Addr) (i : Nat), v = .ref a ∧ X[i]? = some (a, .li vs)
theorem LView.own {F : PMap} {X : XS} {a : Addr} {vs : List Value} {i : Nat} (x : X[i]? = some (a, .li vs)) : LView F X (.ref a) vs := .inr ⟨a, i, rfl, x⟩

section
variable {g : Glo} {k : Fun} {A : Around} {E : Value → Shared → Prop} {F : PMap} {X : XS} {G : GS} {env : Env} {s : Shared}
theorem St.list {v : Value} {vs : List Value} (hs : St g k F X G s) (x : LView F X v vs) : ∃ a o, v = .ref a ∧ s.heap.get? a = some o ∧ isLi vs o := by
  rcases x with ⟨a, o, e, f, r⟩ | ⟨a, i, e, hx⟩
  · exact ⟨a, o, e, hs.fro _ _ f, r⟩
  · obtain ⟨o, ho, r⟩ := hs.at hx
    exact ⟨a, o, e, ho, r⟩
theorem isLi.isList {h : Heap} {a : Addr} {o : Obj} {vs : List Value} (r : isLi vs o) (ho : h.get? a = some o) : h.IsList a vs.toArray := ⟨o, ho, r.1, r.2.2.2⟩
theorem isLi.IsL {h : Heap} {a : Addr} {o : Obj} {vs : List Value} (r : isLi vs o) (ho : h.get? a = some o) : ∃ n, IsL h a vs.toArray n := by
  obtain ⟨c, d, dt, sl⟩ := o
  obtain ⟨h1, h2, h3, n, h4⟩ := r
  cases h1; cases h2; cases h3; cases h4
  exact ⟨n, ho⟩
theorem isLi.new {vs : List Value} : isLi vs { cls := .type "list", data := .seq vs.toArray } := ⟨rfl, rfl, rfl, 0, rfl⟩

/-- a new object at a new address is frozen at once -/
theorem St.newF (hs : St g k F X G s) {h' : Heap} (hk : ∀ b o, s.heap.get? b = some o → h'.get? b = some o) (t : Nat) {a : Addr} {o : Obj} (ha : s.heap.get? a = none) (ho : h'.get? a = some o) :
    PLe F (fset F a o) ∧ St g k (fset F a o) X G { s with heap := h', toks := t } := by
  have h1 := hs.own hk t (r := .ob o) ha ho
  exact ⟨fset_le (hs.fNone ha), h1.freeze (i := 0) rfl ho⟩
theorem size_none (h : Heap) : h.get? h.objs.size = none := Heap.get?_none_of_le (Nat.le_refl _)

/-! displays -/
theorem W_items_nil {pos : Pos} {Φ : Cont (List Value)} (h : Φ [] F X G) : W g k A (spliced (backTo pos (starEach [] env))) Φ E F X G := ⟨fun s hs => wpAny_items_nil (hs.done h)⟩
theorem W_items_cons {pos : Pos} {e : Expr} {rest : List Expr} {Φ : Cont (List Value)}
    (h : W g k A (eval e env) (fun v => W g k A (spliced (backTo pos (starEach rest env))) (fun vs => Φ (v :: vs)) E) E F X G)
    (he : starEach (e :: rest) env = (false, eval e env) :: starEach rest env := by kernel_rfl) : W g k A (spliced (backTo pos (starEach (e :: rest) env))) Φ E F X G := ⟨fun s hs => wpAny_items_cons (h.then hs fun _ _ _ _ _ st hw => hw.then st fun _ _ _ _ _ st hw => st.done hw) he⟩
theorem W_Tuple {elts : List Expr} {n : Nat} {pos : Pos} {Φ : Cont Value}
    (h : W g k A (spliced (backTo pos (starEach elts env))) (fun vs F X G => vs.length ≤ sizeLine ∧ ∀ F' v, PLe F F' → FTup F' v vs → Φ v F' X G) E F X G) : W g k A (eval (.Tuple elts n pos) env) Φ E F X G := ⟨fun s hs => wpAny_Tuple (h.then hs fun vs F X G s st hw => ⟨hw.1, by
    obtain ⟨l, st'⟩ := st.newF (fun b o e => Heap.get?_push_of_some { cls := .type "tuple", data := .seq vs.toArray } e) s.toks (size_none _) (Heap.get?_push_size _ rfl)
    exact st'.done (hw.2 _ _ l ⟨_, 0, rfl, fset_self⟩)⟩)⟩
/-- a list display that is frozen at once -/
theorem W_ListF {elts : List Expr} {pos : Pos} {Φ : Cont Value}
    (h : W g k A (spliced (backTo pos (starEach elts env))) (fun vs F X G => vs.length ≤ sizeLine ∧ ∀ F' v, PLe F F' → FList F' v vs → Φ v F' X G) E F X G) : W g k A (eval (.List elts pos) env) Φ E F X G := ⟨fun s hs => wpAny_List (h.then hs fun vs F X G s st hw => ⟨hw.1, by
    obtain ⟨l, st'⟩ := st.newF (fun b o e => Heap.get?_push_of_some { cls := .type "list", data := .seq vs.toArray } e) s.toks (size_none _) (Heap.get?_push_size _ rfl)
    exact st'.done (hw.2 _ _ l ⟨_, _, rfl, fset_self, isLi.new⟩)⟩)⟩
/-- owned things may change their order -/
theorem St.perm {Y : XS} (hs : St g k F X G s) (h : X.Perm Y) : St g k F Y G s :=
  { hs with
    res := fun p hp => hs.res p (h.mem_iff.mpr hp)
    nod := (h.map _).nodup_iff.mp hs.nod
    apart := fun p hp => hs.apart p (h.mem_iff.mpr hp) }
theorem St.ownL (hs : St g k F X G s) {h' : Heap} (hk : ∀ b o, s.heap.get? b = some o → h'.get? b = some o) (t : Nat) {a : Addr} {r : Res}
    (ha : s.heap.get? a = none) (hr : r.Holds g h' a) : St g k F (X ++ [(a, r)]) G { s with heap := h', toks := t } :=
  (hs.own hk t ha hr).perm (List.perm_append_comm (l₁ := [(a, r)]))
/-- a list display that is owned -/
theorem W_ListO {elts : List Expr} {pos : Pos} {Φ : Cont Value}
    (h : W g k A (spliced (backTo pos (starEach elts env))) (fun vs F X G => vs.length ≤ sizeLine ∧ ∀ a, Φ (.ref a) F (X ++ [(a, .li vs)]) G) E F X G) : W g k A (eval (.List elts pos) env) Φ E F X G := ⟨fun s hs => wpAny_List (h.then hs fun vs F X G s st hw => ⟨hw.1,
    (st.ownL (r := .li vs) (fun b o e => Heap.get?_push_of_some { cls := .type "list", data := .seq vs.toArray } e) s.toks (size_none _) ⟨_, Heap.get?_push_size _ rfl, isLi.new⟩).done (hw.2 _)⟩)⟩
/-- an owned list is frozen -/
theorem W_freezeLi {α : Type} {t : Sem α} {Φ : Cont α} {i : Nat} {a : Addr} {vs : List Value} (hx : X[i]? = some (a, .li vs)) (h : ∀ F', PLe F F' → FList F' (.ref a) vs → W g k A t Φ E F' (X.eraseIdx i) G) : W g k A t Φ E F X G := ⟨fun s hs => by
    obtain ⟨o, ho, r⟩ := hs.at hx
    have hap := hs.apart _ (List.mem_of_getElem? hx)
    exact (h _ (fset_le hap.1) ⟨a, o, rfl, fset_self, r⟩).run _ (hs.freeze hx ho)⟩
end
end
section

noncomputable def Room (A : Around) (n : Nat) : Prop := A.depth + n ≤ 900 ∧ A.units + 10 * n ≤ 9000
theorem Room.deeper {A : Around} {n : Nat} {env : Env} (h : Room A (n + 1)) : Room (A.deeper env) n := ⟨by show A.depth + 1 + n ≤ 900; have := h.1; exact far 1 [_, _] [.add (.add (.var 0) (.num 1)) (.var 1), .num 900, .add (.var 0) (.add (.var 1) (.num 1)), .num 900] rfl this, by show A.units + 3 + 10 * n ≤ 9000; have := h.2; exact far 1 [_, _] [.add (.add (.var 0) (.num 3)) (.mulL 10 (.var 1)), .num 9000, .add (.var 0) (.mulL 10 (.add (.var 1) (.num 1))), .num 9000] rfl this⟩
theorem Room.in1 {A : Around} {n : Nat} (h : Room A (n + 1)) : Room A.in1 n := ⟨by show A.depth + n ≤ 900; have := h.1; exact far 1 [_, _] [.add (.var 0) (.var 1), .num 900, .add (.var 0) (.add (.var 1) (.num 1)), .num 900] rfl this, by show A.units + 1 + 10 * n ≤ 9000; have := h.2; exact far 1 [_, _] [.add (.add (.var 0) (.num 1)) (.mulL 10 (.var 1)), .num 9000, .add (.var 0) (.mulL 10 (.add (.var 1) (.num 1))), .num 9000] rfl this⟩
theorem Room.lt {A : Around} {n : Nat} (h : Room A n) : A.depth < recursionLimit := by have := h.1; show A.depth < 1000; exact far 1 [_, _] [.add (.var 0) (.num 1), .num 1000, .add (.var 0) (.var 1), .num 900] rfl this
theorem Room.u {A : Around} {n : Nat} (h : Room A n) : A.units < cLine := by have := h.2; show A.units < 9900; exact far 1 [_, _] [.add (.var 0) (.num 1), .num 9900, .add (.var 0) (.mulL 10 (.var 1)), .num 9000] rfl this
theorem Room.le {A : Around} {m n : Nat} (h : Room A n) (hm : m ≤ n) : Room A m := ⟨by have := h.1; exact far 1 [_, _, _] [.add (.var 0) (.var 1), .num 900, .var 1, .var 2, .add (.var 0) (.var 2), .num 900] rfl hm this, by have := h.2; exact far 1 [_, _, _] [.add (.var 0) (.mulL 10 (.var 1)), .num 9000, .var 1, .var 2, .var 1, .var 2, .var 1, .var 2, .var 1, .var 2, .var 1, .var 2, .var 1, .var 2, .var 1, .var 2, .var 1, .var 2, .var 1, .var 2, .var 1, .var 2, .add (.var 0) (.mulL 10 (.var 2)), .num 9000] rfl hm hm hm hm hm hm hm hm hm hm this⟩

/-- the frames below a call -/
structure Stack (A : Around) (l : List Env) (F : PMap) (h : Heap) : Prop where
  frames : A.frames = some l
  each : ∀ env ∈ l, env.scope.kind = .function ∧ ∃ L o es ep, env.frame = some L ∧ h.get? L = some o ∧ o.data = .dict es ep ∧ F L = none

noncomputable abbrev frsOf (l : List Env) : List Addr := l.filterMap (·.frame)

/-- what a call does, met from any state: the result, what is frozen after it; all else is kept -/
noncomputable def Back (g : Glo) (F : PMap) (fr : List Addr) (s : Shared) (P : Value → PMap → Prop) (r : Result) (s' : Shared) : Prop :=
  ∃ v F', r = .ok (.ret v) ∧ Ok g F' s' ∧ PLe F F' ∧ (∀ a o, F' a = some o → (∃ o, F a = some o) ∨ s.heap.get? a = none) ∧
    (∀ a o, s.heap.get? a = some o → (∀ q ∈ g.tabs, a ≠ q.2) → KeptAt fr s'.heap a o) ∧ P v F'

noncomputable def Calls (g : Glo) (A : Around) (c : Code) (F : PMap) (P : Value → PMap → Prop) : Prop :=
  ∀ l s, Ok g F s → Stack A l F s.heap → codeAny (model g.prog g.w) A c (Back g F (frsOf l) s P) s

/-- the function at hand: its stack, its own frame at L0 -/
structure Here (k : Fun) (l : List Env) (A : Around) (L0 : Addr) : Prop where
  frames : A.frames = some l
  fr : k.fr = frsOf l
  own : ∃ e rest, l = e :: rest ∧ e.scope.kind = .function ∧ e.frame = some L0 ∧
    ∀ env ∈ rest, env.scope.kind = .function ∧ ∃ L o es ep, env.frame = some L ∧ k.C L = some o ∧ o.data = .dict es ep ∧ k.F0 L = none

section
variable {g : Glo} {k : Fun} {l : List Env} {A : Around} {E : Value → Shared → Prop} {F : PMap} {X : XS} {G : GS} {env : Env} {s : Shared} {L0 : Addr}

theorem St.stack (hs : St g k F X G s) (H : Here k l A L0) {m : Str → Option Value} {i : Nat} (hx : X[i]? = some (L0, .ns m)) : Stack A l F s.heap := by
  refine ⟨H.frames, fun env he => ?_⟩
  obtain ⟨e, rest, rfl, hk, hf, hr⟩ := H.own
  rcases List.mem_cons.mp he with rfl | he
  · obtain ⟨o, es, ep, ho, hd, _⟩ := hs.at hx
    exact ⟨hk, L0, o, es, ep, hf, ho, hd, (hs.apart _ (List.mem_of_getElem? hx)).1⟩
  · obtain ⟨hk, L, o, es, ep, h1, h2, h3, h4⟩ := hr env he
    obtain ⟨_, sl, h5⟩ := hs.kept L o h2
    refine ⟨hk, L, _, es, ep, h1, h5, h3, ?_⟩
    cases q : F L with
    | none => rfl
    | some o' =>
      rcases hs.fresh L o' q with ⟨o2, h6⟩ | h6
      · rw [h4] at h6; cases h6
      · rw [h2] at h6; cases h6

theorem ns_slots {h h' : Heap} {a : Addr} {m : Str → Option Value} (hn : h.Ns a m) (hk : ∀ o, h.get? a = some o → ∃ sl, h'.get? a = some { o with slots := sl }) : h'.Ns a m := by
  obtain ⟨o, es, ep, ho, hd, r⟩ := hn
  obtain ⟨sl, h2⟩ := hk o ho
  exact ⟨_, es, ep, h2, hd, r⟩

/-- back from a call, in the caller's state -/
theorem St.back (hs : St g k F X G s) (H : Here k l A L0) {m : Str → Option Value} {i : Nat} (hx : X[i]? = some (L0, .ns m)) {P : Value → PMap → Prop} {r : Result} {s' : Shared}
    (hb : Back g F (frsOf l) s P r s') : ∃ v F', r = .ok (.ret v) ∧ PLe F F' ∧ P v F' ∧ St g k F' X s'.gens s' := by
  obtain ⟨v, F', rfl, ok, le, fresh, kept, hP⟩ := hb
  refine ⟨v, F', rfl, le, hP, ?_⟩
  have hfX : ∀ p ∈ X, F' p.1 = none := fun p hp => by
    cases q : F' p.1 with
    | none => rfl
    | some o =>
      rcases fresh _ _ q with ⟨o2, h6⟩ | h6
      · rw [(hs.apart p hp).1] at h6; cases h6
      · obtain ⟨o3, h7⟩ := (hs.res p hp).there
        rw [h6] at h7; cases h7
  have frC : ∀ a, a ∈ frsOf l → a = L0 ∨ ∃ o, k.C a = some o := fun a ha => by
    obtain ⟨e, rest, rfl, hk, hf, hr⟩ := H.own
    obtain ⟨env, he, hfe⟩ := List.mem_filterMap.mp ha
    rcases List.mem_cons.mp he with rfl | he
    · rw [hf] at hfe; cases hfe; exact .inl rfl
    · obtain ⟨hk, L, o, es, ep, h1, h2, _⟩ := hr env he
      rw [h1] at hfe; cases hfe; exact .inr ⟨o, h2⟩
  exact
  { toOk := ok
    res := fun p hp => by
      have ht := (hs.apart p hp).2.2
      by_cases hL : p.1 = L0
      · obtain ⟨a, r⟩ := p
        simp only at hL; subst hL
        obtain ⟨j, hj⟩ := List.getElem?_of_mem hp
        have := nodup_ne hs.nod hj hx rfl
        subst this
        rw [hj] at hx; cases hx
        exact ns_slots (hs.res _ hp) fun o ho => (kept _ o ho ht).2
      · refine (hs.res p hp).keep fun o ho => (kept _ o ho ht).1 fun hf => ?_
        rcases frC _ hf with h1 | ⟨o2, h1⟩
        · exact hL h1
        · rw [(hs.apart p hp).2.1] at h1; cases h1
    nod := hs.nod
    apart := fun p hp => ⟨hfX p hp, (hs.apart p hp).2⟩
    kept := fun a o e => by
      have ht : ∀ q ∈ g.tabs, a ≠ q.2 := fun q hq e2 => by rw [e2, hs.tabC q hq] at e; cases e
      obtain ⟨h1, sl, h2⟩ := hs.kept a o e
      refine ⟨fun hf => (kept a o (h1 hf) ht).1 (by rw [← H.fr]; exact hf), ?_⟩
      obtain ⟨_, sl2, h3⟩ := kept a _ h2 ht
      exact ⟨sl2, h3⟩
    tabC := hs.tabC
    fresh := fun a o e => by
      rcases fresh a o e with ⟨o2, h6⟩ | h6
      · exact hs.fresh a o2 h6
      · exact .inr (hs.cNone h6)
    gens := rfl }

theorem W_calls {f : Value} {pos : List Value} {kw : List (Str × Value)} {P : Value → PMap → Prop} {Φ : Cont Value} {m : Str → Option Value} {i : Nat} (H : Here k l A L0) (hx : X[i]? = some (L0, .ns m))
    (hc : Calls g A (.call f ⟨pos, kw⟩) F P) (h : ∀ v F' G', PLe F F' → P v F' → Φ v F' X G') : W g k A (call f pos kw) Φ E F X G := ⟨fun s hs =>
  wpAny_call (codeAny_mono (hc _ s hs.toOk (hs.stack H hx)) fun r s' hb => by
    obtain ⟨v, F', rfl, le, hP, st⟩ := hs.back H hx hb
    exact st.done (h v F' _ le hP))⟩
end

/-! entering a function -/

noncomputable def tabFree (g : Glo) (h : Heap) : PMap := fun a => if (g.tabs.map (·.2)).contains a then none else h.get? a
theorem tabFree_some {g : Glo} {h : Heap} {a : Addr} {o : Obj} (e : tabFree g h a = some o) : h.get? a = some o ∧ ∀ q ∈ g.tabs, a ≠ q.2 := by
  unfold tabFree at e
  split at e
  · cases e
  · rename_i hc
    exact ⟨e, fun q hq e2 => hc (by rw [List.contains_iff_mem]; exact e2 ▸ List.mem_map_of_mem hq)⟩
theorem tabFree_of {g : Glo} {h : Heap} {a : Addr} {o : Obj} (e : h.get? a = some o) (ht : ∀ q ∈ g.tabs, a ≠ q.2) : tabFree g h a = some o := by
  unfold tabFree
  rw [if_neg]
  · exact e
  · rw [List.contains_iff_mem]
    intro hm
    obtain ⟨q, hq, e2⟩ := List.mem_map.mp hm
    exact ht q hq e2.symm
theorem tabFree_none {g : Glo} {h : Heap} {a : Addr} (e : h.get? a = none) : tabFree g h a = none := by
  unfold tabFree; split <;> first | rfl | exact e
theorem tabFree_tab {g : Glo} {h : Heap} {q : Addr × Addr} (hq : q ∈ g.tabs) : tabFree g h q.2 = none := by
  unfold tabFree
  rw [if_pos]
  rw [List.contains_iff_mem]; exact List.mem_map_of_mem hq

section
variable {g : Glo} {A : Around} {F : PMap} {l : List Env} {s : Shared}

/-- the state in which a function's body starts -/
theorem St.enter (hs : Ok g F s) {h' : Heap} (tk : Nat) (X : XS) (fr : List Addr) (hk : ∀ b o, s.heap.get? b = some o → h'.get? b = some o)
    (hr : ∀ p ∈ X, p.2.Holds g h' p.1) (hn : (X.map (·.1)).Nodup) (hx : ∀ p ∈ X, s.heap.get? p.1 = none) :
    St g ⟨tabFree g s.heap, F, fr⟩ F X s.gens { s with heap := h', toks := tk } where
  base := hs.base
  fro := fun a o e => hk _ _ (hs.fro a o e)
  tab := fun q hq => let ⟨ps, e, r⟩ := hs.tab q hq; ⟨ps, hk _ _ e, r⟩
  tabF := hs.tabF
  os := hs.os
  bare := hs.bare
  res := hr
  nod := hn
  apart := fun p hp => by
    refine ⟨?_, tabFree_none (hx p hp), fun q hq e => ?_⟩
    · cases e : F p.1 with
      | none => rfl
      | some o => have := hs.fro _ _ e; rw [hx p hp] at this; cases this
    · obtain ⟨ps, hp', _⟩ := hs.tab q hq
      rw [← e, hx p hp] at hp'; cases hp'
  kept := fun a o e => let e' := (tabFree_some e).1; ⟨fun _ => hk _ _ e', o.slots, hk _ _ e'⟩
  tabC := fun q hq => tabFree_tab hq
  fresh := fun a o e => .inl ⟨o, e⟩
  gens := rfl

theorem Here.enter (hS : Stack A l F s.heap) (hs : Ok g F s) {env : Env} {L : Addr} (hk : env.scope.kind = .function) (hf : env.frame = some L) :
    Here ⟨tabFree g s.heap, F, frsOf (env :: l)⟩ (env :: l) (A.deeper env) L := by
  refine ⟨Around.frames_deeper hS.frames, rfl, env, l, rfl, hk, hf, fun e he => ?_⟩
  obtain ⟨h1, L', o, es, ep, h2, h3, h4, h5⟩ := hS.each e he
  refine ⟨h1, L', o, es, ep, h2, tabFree_of h3 fun q hq e2 => ?_, h4, h5⟩
  obtain ⟨ps, hp', _⟩ := hs.tab q hq
  rw [← e2, h3] at hp'
  cases hp'
  cases h4

/-- the end of a body gives the call's end -/
theorem St.leave {F' : PMap} {X : XS} {G : GS} {s' : Shared} {P : Value → PMap → Prop} {v : Value} (hs : Ok g F s) {env : Env} {L : Addr} (hf : env.frame = some L) (hL : s.heap.get? L = none)
    (st : St g ⟨tabFree g s.heap, F, frsOf (env :: l)⟩ F' X G s') (le : PLe F F') (hP : P v F') : Back g F (frsOf l) s P (.ok (.ret v)) s' := by
  refine ⟨v, F', rfl, st.toOk, le, fun a o e => ?_, fun a o e ht => ?_, hP⟩
  · rcases st.fresh a o e with h1 | h1
    · exact .inl h1
    · right
      cases q : s.heap.get? a with
      | none => rfl
      | some o2 =>
        have : ∀ q ∈ g.tabs, a ≠ q.2 := fun q hq e2 => by rw [e2, st.tabF q hq] at e; cases e
        have h3 : tabFree g s.heap a = some o2 := tabFree_of q this
        exact absurd (h3.symm.trans h1) (by simp)
  · obtain ⟨h1, h2⟩ := st.kept a o (tabFree_of e ht)
    refine ⟨fun hf' => h1 fun hm => ?_, h2⟩
    obtain ⟨e', he', hfe⟩ := List.mem_filterMap.mp hm
    rcases List.mem_cons.mp he' with rfl | he'
    · rw [hf] at hfe; cases hfe; rw [hL] at e; cases e
    · exact hf' (List.mem_filterMap.mpr ⟨e', he', hfe⟩)

/-- the body of a function that raises nothing -/
noncomputable abbrev Body (g : Glo) (A : Around) (l : List Env) (F : PMap) (env : Env) (L : Addr) (X : XS) (body : List Stmt) (P : Value → PMap → Prop) : Prop :=
  ∀ k G, Here k (env :: l) (A.deeper env) L →
    W g k (A.deeper env) (execs body env) (fun f F' X' G' => PLe F F' ∧ P (match f with | .ret v => v | _ => .none) F') (fun _ _ => False) F X G

theorem calls_plain {K : Frag} {mg mb : Str → Option Value} (T : Top0 g K mg mb) {a : Addr} {args : Args} {o : Obj} {fd : FuncData} {body : List Stmt} {binds : List (Str × Value)} {P : Value → PMap → Prop} {n : Nat} (hroom : Room A n)
    (ho : F a = some o) (hdata : o.data = .func fd) (hcd : CodeAtF F fd.code fd.qualname) (hbody : fd.body = .stmts body) (hbind : ∀ s, Ok g F s → BindsTo s fd args binds)
    (hloc : ∀ x ∈ binds, fd.scope.names.lookup x.1 = some .local) (hcell : ∀ x ∈ fd.scope.names, x.2 ≠ .cell)
    (h : ∀ L l, Body g A l F (newEnv fd.scope L fd.globals fd.closure (fd.qualname ++ ".<locals>.") (some a) fd.code none fd.builtins) L [(L, .ns fun x => binds.reverse.lookup x)] body P)
    (hco : fd.scope.isCoroutine = false) (hgen : fd.scope.isGenerator = false) (hk : fd.scope.kind = .function) : Calls g A (.call (.ref a) args) F P := fun l s hs hS => by
  refine codeAny_call_function hroom.lt (hs.fro _ _ ho) hdata hco hgen hbody (hcd.rec hs.fro) (hbind s hs _ _ _ _ ?_)
  refine wpAny_newFunctionEnv hcell hloc (fun h₁ hns hsb => ⟨(T.nolimit.keeps hs.stays).fresh _ hsb, codeAny_func ?_⟩) hk
  have hk1 : ∀ b o, s.heap.get? b = some o → h₁.get? b = some o := fun b o e => hsb.extBut b o (Nat.ne_of_lt (Heap.lt_size e)) (Heap.get?_push_of_some _ e)
  have st := St.enter hs (h' := h₁) (s.toks + binds.length) [(s.heap.objs.size, .ns fun x => binds.reverse.lookup x)] (frsOf (newEnv fd.scope s.heap.objs.size fd.globals fd.closure (fd.qualname ++ ".<locals>.") (some a) fd.code none fd.builtins :: l)) hk1
    (fun p hp => by rw [List.mem_singleton.mp hp]; exact hns) (by simp) fun p hp => by rw [List.mem_singleton.mp hp]; exact size_none _
  have hH := Here.enter hS hs (env := newEnv fd.scope s.heap.objs.size fd.globals fd.closure (fd.qualname ++ ".<locals>.") (some a) fd.code none fd.builtins) (L := s.heap.objs.size) hk rfl
  exact wpAny_mono ((h s.heap.objs.size l _ s.gens hH).run _ st) (fun f s' ⟨F', X', G', st', hP⟩ => St.leave hs rfl (size_none _) st' hP.1 hP.2) fun _ _ x => x.elim
end
end
section
section
variable {g : Glo} {k : Fun} {A : Around} {E : Value → Shared → Prop} {F : PMap} {X : XS} {G : GS} {env : Env} {s : Shared} {a b : Int} {t u : Tok}

theorem W_addI {Φ : Cont Value} (h : ∀ t, Φ (.int (a + b) t) F X G) : W g k A (binaryOp .Add (.int a t) (.int b u)) Φ E F X G := ⟨fun s hs => PyProof.Rows.add_int ((hs.tok _).done (h _))⟩
theorem W_subI {Φ : Cont Value} (h : ∀ t, Φ (.int (a - b) t) F X G) : W g k A (binaryOp .Sub (.int a t) (.int b u)) Φ E F X G := ⟨fun s hs => PyProof.Rows.sub_int' ((hs.tok _).done (h _))⟩
theorem W_mulI {Φ : Cont Value} (hm : IntMulOk a b) (h : ∀ t, Φ (.int (a * b) t) F X G) : W g k A (binaryOp .Mult (.int a t) (.int b u)) Φ E F X G := ⟨fun s hs => P.mul_int ((hs.tok _).done (h _)) hm⟩
theorem W_fdivI {Φ : Cont Value} (hb : b ≠ 0) (hs' : b.natAbs < 1073741824) (h : ∀ t, Φ (.int (a.fdiv b) t) F X G) : W g k A (binaryOp .FloorDiv (.int a t) (.int b u)) Φ E F X G := ⟨fun s hs => floordiv_int hb ((hs.tok _).done (h _)) (.inl (PyProof.noPylong_small hs'))⟩
theorem W_modI {Φ : Cont Value} (hb : b ≠ 0) (h : ∀ t, Φ (.int (a.fmod b) t) F X G) : W g k A (binaryOp .Mod (.int a t) (.int b u)) Φ E F X G := ⟨fun s hs => mod_int' hb ((hs.tok _).done (h _))⟩
theorem W_powI {Φ : Cont Value} (hn : 0 ≤ b) (hn2 : b ≤ 1000000) (ha : a.natAbs < 2 ^ 64) (h : ∀ t, Φ (.int (a ^ b.toNat) t) F X G) : W g k A (binaryOp .Pow (.int a t) (.int b u)) Φ E F X G := ⟨fun s hs => pow_int_small hn hn2 ha ((hs.tok _).done (h _))⟩
theorem W_orI {Φ : Cont Value} (h : ∀ t, Φ (.int (Builtin.bitOr a b) t) F X G) : W g k A (binaryOp .BitOr (.int a t) (.int b u)) Φ E F X G := ⟨fun s hs => or_int ((hs.tok _).done (h _))⟩
theorem W_andI {Φ : Cont Value} (h : ∀ t, Φ (.int (Builtin.bitAnd a b) t) F X G) : W g k A (binaryOp .BitAnd (.int a t) (.int b u)) Φ E F X G := ⟨fun s hs => and_int ((hs.tok _).done (h _))⟩
theorem W_negI {Φ : Cont Value} (h : ∀ t, Φ (.int (-a) t) F X G) : W g k A (unaryOp .USub (.int a t)) Φ E F X G := ⟨fun s hs => P.neg_int ((hs.tok _).done (h _))⟩
theorem W_ltI {Φ : Cont Value} (h : Φ (.bool (decide (a < b))) F X G) : W g k A (compareOp .Lt (.int a t) (.int b u)) Φ E F X G := ⟨fun s hs => P.lt_int (hs.done h)⟩
theorem W_gtI {Φ : Cont Value} (h : Φ (.bool (decide (a > b))) F X G) : W g k A (compareOp .Gt (.int a t) (.int b u)) Φ E F X G := ⟨fun s hs => P.gt_int (hs.done h)⟩
theorem W_eqI {Φ : Cont Value} (h : Φ (.bool (a == b)) F X G) : W g k A (compareOp .Eq (.int a t) (.int b u)) Φ E F X G := ⟨fun s hs => P.eq_int (hs.done h)⟩
theorem W_neI {Φ : Cont Value} (h : Φ (.bool (a != b)) F X G) : W g k A (compareOp .NotEq (.int a t) (.int b u)) Φ E F X G := ⟨fun s hs => P.ne_int (hs.done h)⟩
theorem W_tB {b : Bool} {Φ : Cont Bool} (h : Φ b F X G) : W g k A (truthy (.bool b)) Φ E F X G := ⟨fun s hs => wpAny_truthy_bool (hs.done h)⟩
theorem W_tNone {Φ : Cont Bool} (h : Φ false F X G) : W g k A (truthy .none) Φ E F X G := ⟨fun s hs Γ p _ => hs.done h⟩
theorem W_is {v : Value} {Φ : Cont Value} (h : Φ (.bool (v == .none)) F X G) : W g k A (compareOp .Is v .none) Φ E F X G := ⟨fun s hs => is_none (hs.done h)⟩
theorem W_isnt {v : Value} {Φ : Cont Value} (h : Φ (.bool (!(v == .none))) F X G) : W g k A (compareOp .IsNot v .none) Φ E F X G := ⟨fun s hs => isNot_none (hs.done h)⟩
/-! lists -/
theorem W_tL {v : Value} {vs : List Value} {Φ : Cont Bool} (hl : LView F X v vs) (hz : vs.length ≤ sizeLine) (h : Φ (!vs.isEmpty) F X G) : W g k A (truthy v) Φ E F X G := ⟨fun s hs => by
  obtain ⟨a, o, rfl, ho, r⟩ := hs.list hl
  refine wpAny_truthy_list (r.isList ho) (by have : sizeLine = 16777216 := rfl; simp; exact Int.ofNat_lt.mpr (show vs.length < 9223372036854775808 from far 1 [_, _] [.add (.var 0) (.num 1), .num 9223372036854775808, .var 0, .var 1, .var 1, .num 16777216] rfl hz (Nat.le_of_eq this))) ((hs.tok _).done ?_)
  have : vs.toArray.isEmpty = vs.isEmpty := by cases vs <;> rfl
  rw [this]; exact h⟩
theorem W_len {v : Value} {vs : List Value} {Φ : Cont Value} (hl : LView F X v vs) (hz : vs.length ≤ sizeLine) (h : ∀ t, Φ (.int vs.length t) F X G) : W g k A (call (.builtin "len") [v]) Φ E F X G := ⟨fun s hs => by
  obtain ⟨a, o, rfl, ho, r⟩ := hs.list hl
  refine Calls.call_len_list (r.isList ho) (by have : sizeLine = 16777216 := rfl; simp; exact Int.ofNat_lt.mpr (show vs.length < 9223372036854775808 from far 1 [_, _] [.add (.var 0) (.num 1), .num 9223372036854775808, .var 0, .var 1, .var 1, .num 16777216] rfl hz (Nat.le_of_eq this))) ((hs.tok _).done ?_)
  have := h (s.toks + 1)
  simpa using this⟩
theorem W_Sub {value slice : Expr} {pos : Pos} {Φ : Cont Value}
    (h : W g k A (eval value env) (fun o => W g k A (eval slice env) (fun i => W g k A (subscriptTail value slice o i) Φ E) E) E F X G) : W g k A (eval (.Subscript value slice pos) env) Φ E F X G := ⟨fun s hs => Subscript_ (h.then hs fun _ _ _ _ _ st hw => hw.then st fun _ _ _ _ _ st hw => hw.run _ st)⟩
theorem W_item {value slice : Expr} {v x : Value} {vs : List Value} {i : Int} {Φ : Cont Value} (hl : LView F X v vs) (h0 : 0 ≤ i) (h1 : i < 2 ^ 63) (hx : vs[i.toNat]? = some x) (h : Φ x F X G)
    (hs : ∀ a, subscripted slice false (.ref a) (.int i t) = operate [.ref a, .int i t] (getItem (.ref a) (.int i t)) := by intro _; kernel_rfl) : W g k A (subscriptTail value slice v (.int i t)) Φ E F X G := ⟨fun s st => by
  obtain ⟨a, o, rfl, ho, r⟩ := st.list hl
  have hL := r.isList ho
  exact tail_any hL.typeIs slot_list_getitem.lookup (wpAny_getItem_list hL h0 h1 (by simpa using hx) (st.done h)) (hs a)⟩
theorem W_addL {v w : Value} {vs ws : List Value} {Φ : Cont Value} (hl : LView F X v vs) (hr : LView F X w ws) (hz : vs.length + ws.length ≤ sizeLine) (h : ∀ F' x, PLe F F' → FList F' x (vs ++ ws) → Φ x F' X G) :
    W g k A (binaryOp .Add v w) Φ E F X G := ⟨fun s hs => by
  obtain ⟨a, o, rfl, ho, r⟩ := hs.list hl
  obtain ⟨b, o2, rfl, ho2, r2⟩ := hs.list hr
  obtain ⟨n, hn⟩ := r.IsL ho
  obtain ⟨n2, hn2⟩ := r2.IsL ho2
  refine P.add_list hn hn2 ?_ (by simpa using hz)
  have e : vs.toArray ++ ws.toArray = (vs ++ ws).toArray := by simp
  rw [e]
  obtain ⟨l, st'⟩ := hs.newF (fun b o e => Heap.get?_push_of_some { cls := .type "list", data := .seq (vs ++ ws).toArray } e) s.toks (size_none _) (Heap.get?_push_size _ rfl)
  exact st'.done (h _ _ l ⟨_, _, rfl, fset_self, isLi.new⟩)⟩
/-- x in a list, where each comparison with an item is known -/
theorem W_inL {v x : Value} {vs : List Value} {Φ : Cont Value} (e : Value → Bool) (he : ∀ y ∈ vs, MeetsSeq.EqGives y x (e y)) (hl : LView F X v vs) (h : Φ (.bool (vs.any e)) F X G) : W g k A (compareOp .In x v) Φ E F X G := ⟨fun s hs => by
  obtain ⟨a, o, rfl, ho, r⟩ := hs.list hl
  exact SeqInW.in_listW e (fun y hy => he y (by simpa using hy)) (r.isList ho) (hs.done (by simpa using h))⟩
theorem W_notInL {v x : Value} {vs : List Value} {Φ : Cont Value} (e : Value → Bool) (he : ∀ y ∈ vs, MeetsSeq.EqGives y x (e y)) (hl : LView F X v vs) (h : Φ (.bool (!vs.any e)) F X G) : W g k A (compareOp .NotIn x v) Φ E F X G := ⟨fun s hs => by
  obtain ⟨a, o, rfl, ho, r⟩ := hs.list hl
  exact SeqInW.notIn_listW e (fun y hy => he y (by simpa using hy)) (r.isList ho) (hs.done (by simpa using h))⟩
/-! calls of built-ins -/
theorem W_CallName {x : Str} {p pos : Pos} {args : List Expr} {Φ : Cont Value}
    (h : W g k A (eval (.Name x p) env) (fun f => W g k A (callWith pos f [] (backTo pos (starEach args env)) []) Φ E) E F X G) : W g k A (eval (.Call (.Name x p) args [] pos) env) Φ E F X G := ⟨fun s hs => wpAny_Call_Name_kw (keywords := []) (h.then hs fun _ _ _ _ _ st hw => hw.run _ st)⟩
/-- a callee that is kept by nobody in the way -/
noncomputable def Keeps (g : Glo) (f : Value) (F : PMap) : Prop := ∀ (h : Heap), PLe F h.get? → ∃ k, (k = Keeper.frame ∨ k = Keeper.machine ∨ k = Keeper.boundFrame) ∧ Looks (model g.prog g.w) h (keeperOf f) k
theorem Keeps.builtin {id : String} : Keeps g (.builtin id) F := fun h _ => ⟨.machine, .inr (.inl rfl), .now⟩
theorem Keeps.type {n : String} : Keeps g (.type n) F := fun h _ => ⟨.machine, .inr (.inl rfl), .now⟩
theorem Keeps.func {a : Addr} {o : Obj} {fd : FuncData} (e : F a = some o) (hd : o.data = .func fd) : Keeps g (.ref a) F := fun h k =>
  ⟨.frame, .inl rfl, (Looks.ld (part := none) (k _ _ e)).andThen (by rw [hd]; exact .now)⟩
@[reducible] noncomputable def callK (g : Glo) (k : Fun) (A : Around) (f : Value) (first : List Value) (Φ : Cont Value) (E : Value → Shared → Prop) : Cont (List Value) := fun vs F X G => Keeps g f F ∧ W g k A (call f (first ++ vs)) Φ E F X G
theorem W_callW {f : Value} {pos : Pos} {e : Expr} {rest : List Expr} {first : List Value} {Φ : Cont Value} (hplain : (backTo pos (starEach (e :: rest) env)).any (·.1) = false := by kernel_rfl)
    (h : W g k A (spliced (backTo pos (starEach (e :: rest) env))) (callK g k A f first Φ E) E F X G)
    (he : starEach (e :: rest) env = (false, eval e env) :: starEach rest env := by kernel_rfl) : W g k A (callWith pos f first (backTo pos (starEach (e :: rest) env)) []) Φ E F X G := ⟨fun s hs => by
  refine callWith_of (P := fun h => ∃ k, (k = Keeper.frame ∨ k = Keeper.machine ∨ k = Keeper.boundFrame) ∧ Looks (model g.prog g.w) h (keeperOf f) k) (by rw [hplain]; rfl) (fun _ x => x) ?_
  rw [he]
  refine Calls.evalArgs_plain ?_
  have := h.then hs (Q := fun vs s₁ => (∃ k, (k = Keeper.frame ∨ k = Keeper.machine ∨ k = Keeper.boundFrame) ∧ Looks (model g.prog g.w) s₁.heap (keeperOf f) k) ∧ wpAny (model g.prog g.w) A (call f (first ++ vs)) (fun a s' => ∃ F' X' G', St g k F' X' G' s' ∧ Φ a F' X' G') E s₁)
    fun vs F' X' G' s' st hw => ⟨hw.1 _ st.fro, hw.2.run _ st⟩
  rw [he] at this
  exact this⟩
theorem W_callW0 {f : Value} {pos : Pos} {first : List Value} {Φ : Cont Value} (hk : Keeps g f F) (h : W g k A (call f (first ++ [])) Φ E F X G) : W g k A (callWith pos f first (backTo pos (starEach [] env)) []) Φ E F X G := ⟨fun s hs =>
  callWith_of (P := fun h => ∃ k, (k = Keeper.frame ∨ k = Keeper.machine ∨ k = Keeper.boundFrame) ∧ Looks (model g.prog g.w) h (keeperOf f) k) rfl (fun _ x => x) (evalArgs_nil3 ⟨hk _ hs.fro, h.run s hs⟩)⟩
theorem W_abs {Φ : Cont Value} (h : ∀ t, Φ (.int (if a < 0 then -a else a) t) F X G) : W g k A (call (.builtin "abs") [.int a t]) Φ E F X G := ⟨fun s hs =>
  call_abs_int fun u tk => (hs.tok _).done (h _)⟩
theorem W_min {Φ : Cont Value} (hh : A.handled = none) (h : ∀ t, Φ (.int (if b < a then b else a) t) F X G) : W g k A (call (.builtin "min") [.int a t, .int b u]) Φ E F X G := ⟨fun s hs =>
  min_two_ints hh fun h' tk hk => (hs.grow hk _).done (by
    by_cases hc : b < a
    · rw [if_pos hc]; have := h u; rwa [if_pos hc] at this
    · rw [if_neg hc]; have := h t; rwa [if_neg hc] at this)⟩
end

/-! bytes -/
section
variable {g : Glo} {k : Fun} {A : Around} {E : Value → Shared → Prop} {F : PMap} {X : XS} {G : GS} {env : Env} {s : Shared} {t u : Tok} {b c : List UInt8}
theorem W_addBy {Φ : Cont Value} (hz : b.length + c.length ≤ 16777216) (h : ∀ t, Φ (.bytes (b ++ c).toArray t) F X G) : W g k A (binaryOp .Add (.bytes b.toArray t) (.bytes c.toArray u)) Φ E F X G := ⟨fun s hs =>
  bytes_add_K (by simpa using hz) rfl fun t' k => (hs.tok _).done (h _)⟩
theorem W_bytes {v : Value} {vs : List Value} {ns : List Int} {Φ : Cont Value} (hh : A.handled = none) (hl : LView F X v vs) (hi : IntsAre vs ns) (hr : ∀ n ∈ ns, 0 ≤ n ∧ n < 256) (hz : vs.length ≤ sizeLine)
    (h : ∀ t, Φ (.bytes (ns.map fun n => n.toNat.toUInt8).toArray t) F X G) : W g k A (call (.type "bytes") [v]) Φ E F X G := ⟨fun s hs => by
  obtain ⟨a, o, rfl, ho, r⟩ := hs.list hl
  exact call_bytes_ints (r.isList ho) hi hr hz hh fun h' t k hk => (hs.grow hk _).done (h _)⟩
end
/-! names of the top, for the walk -/
structure isG (x : Str) (v : Value) : Prop
theorem isG0 : isG (Str.ofString "WorkList") (.ref 80) := {}
theorem isG1 : isG (Str.ofString "_find_lcas") (.ref 90) := {}
theorem isG2 : isG (Str.ofString "find_merge_base") (.ref 97) := {}
theorem isG3 : isG (Str.ofString "can_fast_forward") (.ref 104) := {}
theorem isG4 : isG (Str.ofString "_law_graph") (.ref 109) := {}
theorem isG5 : isG (Str.ofString "_law_forebears") (.ref 114) := {}
theorem isG6 : isG (Str.ofString "_law_name") (.ref 121) := {}
theorem isG7 : isG (Str.ofString "heappop") (.builtin "_heapq.heappop") := {}
theorem isG8 : isG (Str.ofString "heappush") (.builtin "_heapq.heappush") := {}
theorem noRefNone : ∀ a : Addr, Value.none ≠ Value.ref a := nofun
theorem W_globalT {g : Glo} {k : Fun} {A : Around} {E : Value → Shared → Prop} {F : PMap} {X : XS} {G : GS} {env : Env} {K : Frag} {mg mb : Str → Option Value} {x : Str} {v : Value} {Φ : Cont Value} (hn : isG x v) (T : Top0 g K mg mb) (hx : env.kindOf x = some .globalImplicit) (e : nsIn K mainGlobals x = some (some v)) (h : Φ v F X G)
    (hg : env.globals = mainGlobals := by kernel_rfl) (hk : env.scope.kind = .function := by kernel_rfl) : W g k A (loadName env x) Φ E F X G := W_global T hx e h hg hk
end
section
noncomputable abbrev KK (w : World) : Frag := hd.heap_39 w.params
noncomputable def objAt (w : World) (a : Addr) : Obj := ((KK w).lookup a).getD default
noncomputable def fdAt (w : World) (a : Addr) : FuncData := match (KK w).lookup a with
  | some ⟨_, _, .func fd, _⟩ => fd
  | _ => default
noncomputable def bodyAt (w : World) (a : Addr) : List Stmt := match (fdAt w a).body with
  | .stmts b => b
  | _ => []
noncomputable def eAt (w : World) (a L : Addr) : Env := newEnv (fdAt w a).scope L (fdAt w a).globals (fdAt w a).closure ((fdAt w a).qualname ++ ".<locals>.") (some a) (fdAt w a).code none (fdAt w a).builtins
noncomputable def BindsAre (m : Str → Option Value) : List (Str × Value) → Prop
  | [] => True
  | x :: r => m x.1 = some x.2 ∧ BindsAre m r
noncomputable def goodBinds (names : List (Str × NameKind)) (binds : List (Str × Value)) : Bool :=
  binds.all (fun x => decide (names.lookup x.1 = some .local)) && decide ((binds.map (·.1)).Nodup) && names.all fun x => decide (x.2 ≠ .cell)
theorem lookup_nodup : ∀ {l : List (Str × Value)}, (l.map (·.1)).Nodup → ∀ p ∈ l, l.lookup p.1 = some p.2
  | x :: r, hn, p, hp => by
    obtain ⟨h1, h2⟩ := List.nodup_cons.mp hn
    rcases List.mem_cons.mp hp with rfl | hp
    · rw [List.lookup_cons]; simp
    · have : p.1 ≠ x.1 := fun e => h1 (by show x.1 ∈ _; rw [← e]; exact List.mem_map_of_mem (f := (·.1)) hp)
      rw [List.lookup_cons]
      simp only [show (p.1 == x.1) = false from beq_eq_false_iff_ne.mpr this]
      exact lookup_nodup h2 p hp
theorem bindsAre_of : ∀ {l : List (Str × Value)} {m : Str → Option Value}, (∀ p ∈ l, m p.1 = some p.2) → BindsAre m l
  | [], _, _ => trivial
  | x :: r, m, h => ⟨h x (.head _), bindsAre_of fun p hp => h p (.tail _ hp)⟩
theorem bindsAre_rev {l : List (Str × Value)} (hn : (l.map (·.1)).Nodup) : BindsAre (fun x => l.reverse.lookup x) l :=
  bindsAre_of fun p hp => lookup_nodup (l := l.reverse) (by rw [List.map_reverse]; exact (List.reverse_perm _).nodup_iff.mpr hn) p (List.mem_reverse.mpr hp)
theorem upd_self {m : Str → Option Value} {x : Str} {v : Value} : upd m x v x = some v := by simp [upd]
theorem upd_ne {m : Str → Option Value} {x y : Str} {v w : Value} (h : m y = some w) (hne : (y == x) = false) : upd m x v y = some w := by
  unfold upd; rw [if_neg (by simpa using hne)]; exact h
section
variable {g : Glo} {mg mb : Str → Option Value} {F : PMap}
theorem Top0.get {K : Frag} (T : Top0 g K mg mb) (hF : PLe g.base.get? F) {a : Addr} {o : Obj} (e : K.lookup a = some o) : F a = some o := hF _ _ (T.K _ _ e)
theorem Top0.code {K : Frag} (T : Top0 g K mg mb) (hF : PLe g.base.get? F) {v : Value} {q : Str} (e : codeIn K v q = true) : CodeAtF F v q := by
  obtain ⟨c, o, vs, t, rfl, h1, h2, h3⟩ := codeRec_of T.K e
  exact ⟨c, o, vs, t, rfl, hF _ _ h1, h2, h3⟩
/-- a function of the top -/
theorem calls_top (T : Top0 g (KK g.w) mg mb) (hF : PLe g.base.get? F) {A : Around} {a : Addr} {args : Args} (binds : List (Str × Value)) {P : Value → PMap → Prop} {n : Nat} (hroom : Room A n)
    (ho : (KK g.w).lookup a = some (objAt g.w a)) (hdata : (objAt g.w a).data = .func (fdAt g.w a)) (hcd : codeIn (KK g.w) (fdAt g.w a).code (fdAt g.w a).qualname = true) (hbody : (fdAt g.w a).body = .stmts (bodyAt g.w a))
    (hbind : bindArgs (fdAt g.w a) args = pure binds) (hgood : goodBinds (fdAt g.w a).scope.names binds = true)
    (hco : (fdAt g.w a).scope.isCoroutine = false) (hgen : (fdAt g.w a).scope.isGenerator = false) (hk : (fdAt g.w a).scope.kind = .function)
    (h : ∀ L l m, BindsAre m binds → Body g A l F (eAt g.w a L) L [(L, .ns m)] (bodyAt g.w a) P) : Calls g A (.call (.ref a) args) F P := by
  simp only [goodBinds, Bool.and_eq_true, List.all_eq_true, decide_eq_true_eq] at hgood
  exact calls_plain T hroom (T.get hF ho) hdata (T.code hF hcd) hbody (fun s _ => BindsTo.of_eq hbind) hgood.1.1 hgood.2 (fun L l => h L l _ (bindsAre_rev hgood.1.2)) hco hgen hk

end
end
section
/-! freezing, views -/
noncomputable def FHolds (g : Glo) (F : PMap) (a : Addr) (r : Res) : Prop := ∀ h : Heap, PLe F h.get? → r.Holds g h a
theorem FHolds.mono {g : Glo} {F F' : PMap} {a : Addr} {r : Res} (x : FHolds g F a r) (h : PLe F F') : FHolds g F' a r := fun hp k => x hp (h.trans k)
section
variable {g : Glo} {k : Fun} {A : Around} {α : Type} {E : Value → Shared → Prop} {F : PMap} {X : XS} {G : GS} {env : Env} {s : Shared}
theorem W_freeze {t : Sem α} {Φ : Cont α} (i : Nat) {a : Addr} {r : Res} (hx : X[i]? = some (a, r)) (h : ∀ F', PLe F F' → FHolds g F' a r → W g k A t Φ E F' (X.eraseIdx i) G) : W g k A t Φ E F X G := ⟨fun s hs => by
  have hr := hs.at hx
  obtain ⟨o, ho⟩ := hr.there
  have hap := hs.apart _ (List.mem_of_getElem? hx)
  exact (h _ (fset_le hap.1) (fun hp kk => hr.at ((kk a o fset_self).trans ho.symm))).run _ (hs.freeze hx ho)⟩

/-- an owned thing is let go; its place may hold anything then -/
theorem St.lose (hs : St g k F X G s) {i : Nat} {a : Addr} {r : Res} (h : X[i]? = some (a, r)) {h' : Heap} (t : Nat)
    (hk : ∀ b o, b ≠ a → s.heap.get? b = some o → h'.get? b = some o) : St g k F (X.eraseIdx i) G { s with heap := h', toks := t } :=
  have hm := List.mem_of_getElem? h
  have hap := hs.apart _ hm
  have hsub : ∀ p ∈ X.eraseIdx i, p ∈ X := fun p hp => List.mem_of_mem_eraseIdx hp
  have hne : ∀ p ∈ X.eraseIdx i, p.1 ≠ a := fun p hp e => by
    obtain ⟨j, hji, hj⟩ := List.mem_eraseIdx_iff_getElem?.mp hp
    exact hji (nodup_ne hs.nod hj h e)
  { base := hs.base
    fro := fun b o e => hk b o (fun q => by subst q; rw [hap.1] at e; cases e) (hs.fro b o e)
    tab := fun q hq => let ⟨ps, e, rr⟩ := hs.tab q hq; ⟨ps, hk _ _ (Ne.symm (hap.2.2 q hq)) e, rr⟩
    tabF := hs.tabF, os := hs.os, bare := hs.bare
    res := fun p hp => (hs.res p (hsub p hp)).keep fun o e => hk _ _ (hne p hp) e
    nod := hs.nod.sublist ((List.eraseIdx_sublist X i).map _)
    apart := fun p hp => hs.apart p (hsub p hp)
    kept := fun b o e => let ⟨h1, sl, h2⟩ := hs.kept b o e
      have hne : b ≠ a := fun q => by subst q; rw [hap.2.1] at e; cases e
      ⟨fun hf => hk _ _ hne (h1 hf), sl, hk _ _ hne h2⟩
    tabC := hs.tabC, fresh := hs.fresh, gens := hs.gens }
theorem last_get {Y : XS} {p : Addr × Res} : (Y ++ [p])[Y.length]? = some p := by simp
theorem last_erase {Y : XS} {p : Addr × Res} : (Y ++ [p]).eraseIdx Y.length = Y := by simp [List.eraseIdx_append_of_length_le]
theorem last_set {Y : XS} {p q : Addr × Res} : (Y ++ [p]).set Y.length q = Y ++ [q] := by simp
end

/-- an iterator at I over n values -/
structure Iter (g : Glo) (A : Around) (F₀ : PMap) (I : Addr) (r : Nat → Res) (n : Nat) (V : Nat → Value → Prop) : Prop where
  item : ∀ {k : Fun} {F : PMap} {X : XS} {G : GS} {E : Value → Shared → Prop} {Φ : Cont (Option Value)} (i : Nat), i < n → PLe F₀ F →
    (∀ x, V i x → Φ (some x) F (X ++ [(I, r (i + 1))]) G) → W g k A (pyNext (.ref I)) Φ E F (X ++ [(I, r i)]) G
  fin : ∀ {k : Fun} {F : PMap} {X : XS} {G : GS} {E : Value → Shared → Prop} {Φ : Cont (Option Value)}, PLe F₀ F → Φ none F X G → W g k A (pyNext (.ref I)) Φ E F (X ++ [(I, r n)]) G
  tup : ∀ {k : Fun} {F : PMap} {X : XS} {G : GS} {E : Value → Shared → Prop} {Φ : Cont Unit} {t : Expr} {x : Value} (i : Nat), Φ () F (X ++ [(I, r i)]) G → W g k A (letOwnedTupleGo t (.ref I) x) Φ E F (X ++ [(I, r i)]) G
  self : ∀ {k : Fun} {F : PMap} {X : XS} {G : GS} {E : Value → Shared → Prop} {Φ : Cont Value} (i : Nat), Φ (.ref I) F (X ++ [(I, r i)]) G → W g k A (pyIter (.ref I)) Φ E F (X ++ [(I, r i)]) G

section
variable {g : Glo} {k : Fun} {A : Around} {E : Value → Shared → Prop} {F : PMap} {X : XS} {G : GS} {env : Env} {s : Shared}
theorem letGo_none {M : Model} {t : Expr} {I : Addr} {x : Value} {Q : Unit → Shared → Prop} {o : Obj} {n : String} {vs : Array Value} (ho : s.heap.get? I = some o) (hc : o.cls = .type n) (hd : o.data = .fields vs)
    (hn : (["enumerate", "zip", "dict_itemiterator", "dict_reverseitemiterator", "odict_iterator", "itertools.zip_longest", "itertools.pairwise"].contains n) = false) (h : Q () s) : wpAny M A (letOwnedTupleGo t (.ref I) x) Q E s := by
  unfold letOwnedTupleGo
  split
  all_goals first | exact wpAny_pure h | skip
  all_goals
    split
    · rename_i hh
      cases hh
      refine wpAny_bind (wpAny_load ho ?_)
      rw [hc, hd]
      dsimp only
      rw [hn, Bool.false_and]
      exact wpAny_pure h
    · exact wpAny_pure h
/-- iterating over a frozen list -/
theorem W_iterL {v : Value} {vs : List Value} {Φ : Cont Value} (hh : A.handled = none) (hl : FList F v vs)
    (h : ∀ I r, Iter g A F I r vs.length (fun i x => vs[i]? = some x) → Φ (.ref I) F (X ++ [(I, r 0)]) G) : W g k A (pyIter v) Φ E F X G := ⟨fun s hs => by
  obtain ⟨l, o, rfl, f, r⟩ := hl
  have hL : ∀ h : Heap, PLe F h.get? → h.IsList l vs.toArray := fun h kk => r.isList (kk _ _ f)
  refine wpAny_pyIter_list (hL _ hs.fro) ?_
  have st := hs.ownL (r := .it l 0) (fun b o e => Heap.get?_push_of_some { cls := .type "list_iterator", data := .fields #[.ref l, .int 0 0] } e) s.toks (size_none _) ⟨_, Heap.get?_push_size _ rfl, rfl, rfl⟩
  refine st.done (h _ (fun i => .it l i) ⟨fun {k F' X G E Φ} i hi le hq => ⟨fun s hs => ?_⟩, fun {k F' X G E Φ} le hq => ⟨fun s hs => ?_⟩, fun {k F' X G E Φ t x} i hq => ⟨fun s hs => ?_⟩, fun {k F' X G E Φ} i hq => ⟨fun s hs => ?_⟩⟩)
  · refine wpAny_pyNext_list_item (x := vs[i]) (hs.at last_get) (hL _ (le.trans hs.fro)) (by simp [hi]) fun h' h1 h2 => ?_
    have := hs.set (r' := .it l (i + 1)) last_get s.toks (fun b o hb e => (h2.2 b hb).trans e) h1
    rw [last_set] at this
    exact this.done (hq _ (by simp))
  · refine wpAny_pyNext_list_end hh (hs.at last_get) (hL _ (le.trans hs.fro)) (by simp) fun h' h1 => ?_
    have := hs.lose last_get s.toks h1
    rw [last_erase] at this
    exact this.done hq
  · obtain ⟨o, ho, hc, hd⟩ := hs.at last_get
    exact letGo_none ho hc hd (by decide) (hs.done hq)
  · exact wpAny_pyIter_listiter (hs.at last_get) (hs.done hq)⟩
/-- iterating over range(n) -/
theorem W_range {n : Int} {t : Tok} {Φ : Cont Value} (hn : n < 1000000) (hn0 : -1000000 < n) (hh : A.handled = none)
    (h : ∀ v X', (∀ {E : Value → Shared → Prop} {F : PMap} {Ψ : Cont Value}, (∀ I r, Iter g A F I r n.toNat (fun i x => isInt x i) → Ψ (.ref I) F (X ++ [(I, r 0)]) G) → W g k A (pyIter v) Ψ E F (X ++ X') G) → Φ v F (X ++ X') G) :
    W g k A (call (.type "range") [.int n t]) Φ E F X G := ⟨fun s hs => by
  refine call_range_1 ?_
  have st := hs.ownL (r := .ob { cls := .type "range", data := .fields #[.int 0 s.toks, .int n t, .int 1 (s.toks + 1)] }) (fun b o e => Heap.get?_push_of_some { cls := .type "range", data := .fields #[.int 0 s.toks, .int n t, .int 1 (s.toks + 1)] } e) (s.toks + 1 + 1) (size_none _) (Heap.get?_push_size _ rfl)
  generalize s.toks = tk at st
  refine st.done (h _ _ fun {E F Ψ} hq => ⟨fun s hs => ?_⟩)
  have hR : IsRange s.heap _ 0 n 1 tk t (tk + 1) := hs.at last_get
  refine wpAny_pyIter_range hR (small_one (by decide) (by decide) (by omega) (by omega)) ?_
  have hsz : Builtin.Range.rangeSize 0 n 1 = n.toNat := by rw [rangeSize_one]; split <;> omega
  rw [hsz]
  have st0 := hs.drop (Y := X) (List.sublist_append_left _ _)
  have st := st0.ownL (r := .ob { cls := .type "range_iterator", data := .fields #[rawInt 0, rawInt n.toNat, rawInt 1] }) (fun b o e => Heap.get?_push_of_some { cls := .type "range_iterator", data := .fields #[rawInt 0, rawInt n.toNat, rawInt 1] } e) s.toks (size_none _) (Heap.get?_push_size _ rfl)
  refine st.done (hq _ (fun i => .ob { cls := .type "range_iterator", data := .fields #[rawInt i, rawInt ((n.toNat : Int) - i), rawInt 1] }) ⟨fun {k F' X G E Φ} i hi le hq => ⟨fun s hs => ?_⟩, fun {k F' X G E Φ} le hq => ⟨fun s hs => ?_⟩, fun {k F' X G E Φ t x} i hq => ⟨fun s hs => ?_⟩, fun {k F' X G E Φ} i hq => ⟨fun s hs => ?_⟩⟩)
  · refine wpAny_pyNext_range_item (x := i) (left := (n.toNat : Int) - i) (step := 1) (hs.at last_get) (by omega) fun h' h1 h2 => ?_
    have := hs.set (r' := .ob { cls := .type "range_iterator", data := .fields #[rawInt ((i : Int) + 1), rawInt ((n.toNat : Int) - i - 1), rawInt 1] }) last_get (s.toks + 1) (fun b o hb e => (h2.2 b hb).trans e) h1
    rw [last_set] at this
    refine this.done ?_
    have := hq (.int i s.toks) ⟨_, rfl⟩
    rw [show ((i + 1 : Nat) : Int) = (i : Int) + 1 from by exact rfl, show (n.toNat : Int) - ((i : Int) + 1) = (n.toNat : Int) - i - 1 from by omega] at this
    exact this
  · refine wpAny_pyNext_range_end (x := n.toNat) (left := (n.toNat : Int) - n.toNat) (step := 1) hh (hs.at last_get) (by omega) fun h' h1 => ?_
    have := hs.lose last_get s.toks h1
    rw [last_erase] at this
    exact this.done hq
  · exact letGo_none (hs.at last_get) rfl rfl (by decide) (hs.done hq)
  · exact wpAny_pyIter_rangeiter (hs.at last_get) (hs.done hq)⟩

/-! for -/
/-- what a turn of a loop must leave -/
@[reducible] noncomputable def forK (F : PMap) (p : Addr × Res) (Jn : PMap → XS → GS → Prop) (Φ : Cont Flow) : Cont Flow := fun f F₂ X G => PLe F F₂ ∧ match f with
  | .next | .cont => ∃ Z, (Z ++ [p]).Sublist X ∧ Jn F₂ Z G
  | .brk => ∃ Z, Z.Sublist X ∧ Φ .next F₂ Z G
  | .ret v => ∃ Z, Z.Sublist X ∧ Φ (.ret v) F₂ Z G
@[reducible] noncomputable def iterK (g : Glo) (k : Fun) (A : Around) (env : Env) (target : Expr) (body : List Stmt) (Φ : Cont Flow) : Cont Value := fun it F X G => ∃ (I : Addr) (r : Nat → Res) (n : Nat) (V : Nat → Value → Prop) (Y : XS) (J : Nat → PMap → XS → GS → Prop), it = .ref I ∧ X = Y ++ [(I, r 0)] ∧ Iter g A F I r n V ∧ J 0 F Y G ∧
      (∀ i x F' Y' G' E', i < n → V i x → PLe F F' → J i F' Y' G' → W g k A (assign target env x) (fun _ => W g k A (execs body env) (forK F (I, r (i + 1)) (J (i + 1)) Φ) E') E' F' (Y' ++ [(I, r (i + 1))]) G') ∧
      (∀ F' Y' G', PLe F F' → J n F' Y' G' → Φ .next F' Y' G')
theorem W_For {target iter : Expr} {body : List Stmt} {pos : Pos} {Φ : Cont Flow}
    (h : W g k A (eval iter env) (fun x => W g k A (pyIter x) (iterK g k A env target body Φ) E) E F X G)
    (hs : ∀ x, foldedSetIterable iter env x = pure x := by intro _; kernel_rfl) : W g k A (exec (.For target iter body [] pos) env) Φ E F X G := ⟨fun s st => by
  refine wpAny_For (h.then st fun x F X G s st h => h.then st fun it F X G s st h => ?_) hs
  obtain ⟨I, r, n, V, Y, J, rfl, rfl, hI, h0, turn, fin⟩ := h
  refine codeAny_forLoop_any (fun m s => ∃ i F' Y' G', m = n - i ∧ i ≤ n ∧ St g k F' (Y' ++ [(I, r i)]) G' s ∧ PLe F F' ∧ J i F' Y' G') ?_ n ⟨0, F, Y, G, rfl, Nat.zero_le _, st, .rfl, h0⟩
  rintro m s ⟨i, F', Y', G', rfl, hi, st, le, hJ⟩
  by_cases hlt : i < n
  · refine (hI.item (Φ := fun o F₁ X₁ G₁ => ∃ x, o = some x ∧ V i x ∧ F₁ = F' ∧ X₁ = Y' ++ [(I, r (i + 1))] ∧ G₁ = G') i hlt le fun x hx => ⟨x, rfl, hx, rfl, rfl, rfl⟩).then st fun o F₁ X₁ G₁ s st1 hx => ?_
    obtain ⟨x, rfl, hx, rfl, rfl, rfl⟩ := hx
    dsimp only
    refine (hI.tup (Φ := fun _ F₂ X₁ G₂ => F₂ = F₁ ∧ X₁ = Y' ++ [(I, r (i + 1))] ∧ G₂ = G₁) (i + 1) ⟨rfl, rfl, rfl⟩).then st1 fun _ F₂ X₂ G₂ s st2 hx' => ?_
    obtain ⟨rfl, rfl, rfl⟩ := hx'
    refine (turn i x _ _ _ _ hlt hx le hJ).then st2 fun _ F₂ X₂ G₂ s st hb => hb.then st fun f F₃ X₃ G₃ s st hf => ?_
    obtain ⟨le3, hf⟩ := hf
    cases f with
    | next => obtain ⟨Z, hZ, hJ⟩ := hf; exact ⟨n - (i + 1), by exact far 1 [_, _, _, _] [.add (.var 0) (.num 1), .var 1, .add (.var 0) (.add (.var 2) (.num 1)), .var 3, .var 3, .add (.var 1) (.var 2)] rfl (sbC hlt) (sbA _ _), i + 1, _, _, _, rfl, hlt, st.drop hZ, le3, hJ⟩
    | cont => obtain ⟨Z, hZ, hJ⟩ := hf; exact ⟨n - (i + 1), by exact far 1 [_, _, _, _] [.add (.var 0) (.num 1), .var 1, .add (.var 0) (.add (.var 2) (.num 1)), .var 3, .var 3, .add (.var 1) (.var 2)] rfl (sbC hlt) (sbA _ _), i + 1, _, _, _, rfl, hlt, st.drop hZ, le3, hJ⟩
    | brk => obtain ⟨Z, hZ, hJ⟩ := hf; exact (st.drop hZ).done hJ
    | ret v => obtain ⟨Z, hZ, hJ⟩ := hf; exact (st.drop hZ).done hJ
  · obtain rfl : i = n := Nat.le_antisymm hi (Nat.not_lt.mp hlt)
    refine (hI.fin (Φ := fun o F₁ X₁ G₁ => o = none ∧ F₁ = F' ∧ X₁ = Y' ∧ G₁ = G') le ⟨rfl, rfl, rfl, rfl⟩).then st fun o F₁ X₁ G₁ s st1 hx => ?_
    obtain ⟨rfl, rfl, rfl, rfl⟩ := hx
    exact wpAny_execs_nil (st1.done (fin _ _ _ le hJ))⟩
end
end
section
/-! the scope of a comprehension -/

theorem newEnv_comp {M : Model} {A : Around} {E : Value → Shared → Prop} {s : Shared} {scope : Scope} {globals : Addr} {cl : List (Str × Addr)} {qual : Str} {env : Env} {b : Addr} {Q : Env → Shared → Prop}
    (h : Q (newEnv scope s.heap.objs.size globals (cellsFrom (s.heap.objs.size + 1) scope.names cl) qual none .none (some env) b) { s with heap := pushCells (s.heap.push { cls := .type "dict", data := .dict #[] }) scope.names }) :
    wpAny M A (newFunctionEnv scope globals cl [] qual none .none (some env) b) Q E s := by
  simp only [newFunctionEnv, Option.isSome_some, if_true]
  refine wpAny_bind (wpAny_alloc ?_)
  refine wpAny_bind (wpAny_layCells _ (fun name kind cells => by cases hkc : kind == NameKind.cell <;> simp [hkc]) _ _ _ _ ?_)
  rw [show ({ s with heap := s.heap.push { cls := .type "dict", data := .dict #[] } } : Shared).heap.objs.size = s.heap.objs.size + 1 from Heap.size_push ..]
  exact wpAny_bind (wpAny_pure (wpAny_pure h))

/-- what a comprehension's own cell is: none, or one -/
noncomputable def ceRes (own : Option Str) (C : Addr) (v : Option Value) : XS := match own with
  | none => []
  | some _ => [(C + 1, .ce v)]
noncomputable def ownCells (own : Option Str) (C : Addr) : List (Str × Addr) := match own with
  | none => []
  | some n => [(n, C + 1)]
noncomputable def ownNames (own : Option Str) : List (Str × NameKind) := match own with
  | none => []
  | some n => [(n, .cell)]
theorem cells_filter : ∀ (names : List (Str × NameKind)) (n : Nat) (cl : List (Str × Addr)) (h : Heap), cellsFrom n names cl = cellsFrom n (names.filter fun x => x.2 == .cell) cl ∧ pushCells h names = pushCells h (names.filter fun x => x.2 == .cell)
  | [], _, _, _ => ⟨rfl, rfl⟩
  | (x, k) :: r, n, cl, h => by
    by_cases e : (k == NameKind.cell) = true
    · rw [List.filter_cons_of_pos (by exact e)]
      unfold cellsFrom pushCells
      rw [if_pos e, if_pos e, if_pos e, if_pos e]
      exact ⟨(cells_filter r _ _ h).1, (cells_filter r n cl _).2⟩
    · rw [List.filter_cons_of_neg (by exact e)]
      conv => lhs; lhs; unfold cellsFrom
      conv => rhs; lhs; unfold pushCells
      rw [if_neg e, if_neg e]
      exact cells_filter r _ _ _
noncomputable def ownPush (own : Option Str) (h : Heap) : Heap := match own with
  | none => h
  | some _ => h.push { cls := .type "cell", data := .cell none }
theorem cells_own {names : List (Str × NameKind)} {own : Option Str} (e : (names.filter fun x => x.2 == .cell) = ownNames own) (C : Addr) (cl : List (Str × Addr)) (h : Heap) :
    cellsFrom (C + 1) names cl = ownCells own C ++ cl ∧ pushCells h names = ownPush own h := by
  obtain ⟨h1, h2⟩ := cells_filter names (C + 1) cl h
  rw [h1, h2, e]
  cases own <;> exact ⟨rfl, rfl⟩

section
variable {g : Glo} {k : Fun} {A : Around} {E : Value → Shared → Prop} {F : PMap} {X : XS} {G : GS} {env : Env} {s : Shared}

/-- tests, one after another -/
noncomputable def testsGo (ifs : List Expr) (env : Env) : Sem Bool := forIn ifs true fun c r => if r = true then do let ok ← isTrue c env (eval c env); pure (ForInStep.yield ok) else pure (ForInStep.yield r)
theorem W_tests0 {Φ : Cont Bool} (h : Φ true F X G) : W g k A (testsGo [] env) Φ E F X G := ⟨fun s hs => wpAny_tests_nil (hs.done h)⟩
theorem W_tests1 {c : Expr} {Φ : Cont Bool} (h : W g k A (isTrue c env (eval c env)) Φ E F X G) : W g k A (testsGo [c] env) Φ E F X G := ⟨fun s hs => wpAny_tests_one (h.run s hs)⟩

theorem W_append {l : Addr} {vs : List Value} {x : Value} {i : Nat} {Φ : Cont Value} (hx : X[i]? = some (l, .li vs)) (hz : vs.length ≤ sizeLine) (h : Φ .none F (X.set i (l, .li (vs ++ [x]))) G) : W g k A (call (.builtin "list.append") [.ref l, x]) Φ E F X G := ⟨fun s hs => by
  obtain ⟨o, ho, r⟩ := hs.at hx
  obtain ⟨n, hpl⟩ := r.IsL ho
  refine wpAny_list_append_plain ⟨n, hpl⟩ (fun h' hp hs' => ?_) (by simpa using hz)
  obtain ⟨n2, hn2⟩ := hp
  exact (hs.set (r' := .li (vs ++ [x])) hx s.toks (fun b o hb e => (hs'.2 b hb).trans e) ⟨_, hn2, rfl, rfl, rfl, n2, by simp⟩).done h⟩

theorem codeAny_compLoop_all {elt target iter : Expr} {ifs : List Expr} {scope : Scope} {pos : Pos} {it acc : Value} {env : Env} {R : Result → Shared → Prop} {prog : Program} {w : World} (I : Nat → Shared → Prop)
    (turn : ∀ n s, I n s → wpAny (model prog w) A (pyNext it) (fun r s₁ => match r with
      | none => R (.ok .next) s₁
      | some v => wpAny (model prog w) A (letOwnedTupleGo target it v) (fun _ s₁' => wpAny (model prog w) A (assign target env v) (fun _ s₂ =>
          wpAny (model prog w) A (testsGo ifs env) (fun ok s₃ =>
            if ok = true then wpAny (model prog w) A (eval elt env) (fun x s₄ =>
              wpAny (model prog w) A (call (.builtin "list.append") [acc, x]) (fun _ s₅ => ∃ m, m < n ∧ I m s₅) (notedBy (model prog w) A env fun e s' => R (.error e) s') s₄) (notedBy (model prog w) A env fun e s' => R (.error e) s') s₃
            else ∃ m, m < n ∧ I m s₃) (notedBy (model prog w) A env fun e s' => R (.error e) s') s₂) (notedBy (model prog w) A env fun e s' => R (.error e) s') s₁') (notedBy (model prog w) A env fun e s' => R (.error e) s') s₁) (notedBy (model prog w) A env fun e s' => R (.error e) s') s)
    (n : Nat) {s : Shared} (h : I n s) :
    codeAny (model prog w) A (.compLoop (.ListComp elt [⟨target, iter, ifs, 0⟩] scope pos) 0 it acc env) R s := by
  refine codeAny_loop rfl I (fun n s hI => ?_) n h
  show wpAny _ _ ((compTurn (.ListComp elt [⟨target, iter, ifs, 0⟩] scope pos) 0 it acc env).onRaise (fun x => do noteFrame x env; theTreesLotGoes x)) _ _ s
  refine wpAny_noted ?_
  rw [compTurn_list]
  refine wpAny_bind (wpAny_standAt (wpAny_bind (wpAny_mono (turn n s hI) (fun r s₁ h₁ => ?_) fun _ _ h' => h')))
  cases r with
  | none => exact wpAny_pure h₁
  | some v =>
    refine wpAny_bind (wpAny_mono h₁ (fun _ s₁ h₁ => ?_) fun _ _ h' => h')
    refine wpAny_bind (wpAny_mono h₁ (fun _ s₂ h₂ => wpAny_bind (wpAny_mono h₂ (fun ok s₃ h₃ => ?_) fun _ _ h' => h')) fun _ _ h' => h')
    cases ok with
    | false => exact wpAny_pure ⟨rfl, h₃⟩
    | true =>
      exact wpAny_bind (wpAny_bind (wpAny_mono h₃ (fun x s₄ h₄ => wpAny_bind (wpAny_mono h₄ (fun _ s₅ h₅ => wpAny_pure (wpAny_pure ⟨rfl, h₅⟩)) fun _ _ h' => h')) fun _ _ h' => h'))

/-- the comprehension's environment -/
noncomputable abbrev cEnv (scope : Scope) (own : Option Str) (cl : List (Str × Addr)) (C : Addr) (env : Env) : Env := compEnvC scope (ownCells own C ++ cl) C env

/-- a turn of a comprehension's loop, and its start -/
structure CompTurn (g : Glo) (k : Fun) (A : Around) (env : Env) (elt target : Expr) (ifs : List Expr) (scope : Scope) (own : Option Str) (cl : List (Str × Addr)) (F : PMap) (Y : XS) (I : Addr) (r : Nat → Res) (n : Nat) (V : Nat → Value → Prop)
    (J : Nat → List Value → PMap → Prop) : Prop where
  start : J 0 [] F
  turn : ∀ (i : Nat) (x : Value) (ys : List Value) (F' : PMap) (G' : GS) (m : Str → Option Value) (cv : Option Value) (C D : Addr) (E' : Value → Shared → Prop), i < n → V i x → PLe F F' → J i ys F' → ys.length ≤ i →
    W g k A (assign target (cEnv scope own cl C env) x) (fun _ => W g k A (testsGo ifs (cEnv scope own cl C env)) (fun ok F₂ X G =>
      if ok = true then W g k A (eval elt (cEnv scope own cl C env)) (fun y F₃ X G => (∃ m cv, ((C, .ns m) :: (D, .li ys) :: (ceRes own C cv ++ (Y ++ [(I, r (i + 1))]))).Sublist X) ∧ PLe F F₃ ∧ J (i + 1) (ys ++ [y]) F₃) E' F₂ X G
      else (∃ m cv, ((C, .ns m) :: (D, .li ys) :: (ceRes own C cv ++ (Y ++ [(I, r (i + 1))]))).Sublist X) ∧ PLe F F₂ ∧ J (i + 1) ys F₂) E') E' F' ((C, .ns m) :: (D, .li ys) :: (ceRes own C cv ++ (Y ++ [(I, r (i + 1))]))) G'

theorem comp_assoc {C D : Addr × Res} {c Y : XS} {z : Addr × Res} : C :: D :: (c ++ (Y ++ [z])) = (C :: D :: (c ++ Y)) ++ [z] := by simp

theorem comp_loop {elt target iter : Expr} {ifs : List Expr} {scope : Scope} {pos : Pos} {own : Option Str} {cl : List (Str × Addr)} {I : Addr} {r : Nat → Res} {n : Nat} {V : Nat → Value → Prop} {J : Nat → List Value → PMap → Prop} {Y : XS}
    {RR : Value → Addr → Result → Shared → Prop} (hs : St g k F (Y ++ [(I, r 0)]) G s) (hn : n ≤ sizeLine) (hI : Iter g A F I r n V) (T : CompTurn g k A env elt target ifs scope own cl F Y I r n V J)
    (hown : (scope.names.filter fun x => x.2 == .cell) = ownNames own)
    (hR : ∀ C D m cv ys F' G' s', PLe F F' → J n ys F' → ys.length ≤ n → St g k F' ((C, .ns m) :: (D, .li ys) :: (ceRes own C cv ++ Y)) G' s' → RR (.ref D) C (.ok .next) s') :
    wpAny (model g.prog g.w) A (newList []) (fun acc s₃ => wpAny (model g.prog g.w) A (newFunctionEnv scope env.globals cl [] env.qual none .none (some env)) (fun cenv s₄ =>
      codeAny (model g.prog g.w) A (.compStart (.ListComp elt [⟨target, iter, ifs, 0⟩] scope pos) 0 (.ref I) acc { cenv with scope := relabel scope env }) (RR acc cenv.locals) s₄) E s₃) E s := by
  refine wpAny_newObj_type ?_
  have st := hs.own (r := .li []) (fun b o e => Heap.get?_push_of_some { cls := .type "list", data := .seq ([] : List Value).toArray } e) s.toks (size_none _) ⟨_, Heap.get?_push_size _ rfl, isLi.new⟩
  generalize hD : s.heap.objs.size = D at st
  generalize hs1 : ({ s with heap := s.heap.push { cls := .type "list", data := .seq ([] : List Value).toArray }, toks := s.toks } : Shared) = s1 at st
  show wpAny _ A (newFunctionEnv scope env.globals cl [] env.qual none .none (some env)) _ E s1
  refine newEnv_comp ?_
  obtain ⟨e1, e2⟩ := cells_own hown s1.heap.objs.size cl (s1.heap.push { cls := .type "dict", data := .dict #[] })
  rw [e1, e2]
  have st := st.own (r := .ns fun _ => none) (fun b o e => Heap.get?_push_of_some { cls := .type "dict", data := .dict #[] } e) s1.toks (size_none _) (Heap.Ns.new _ _)
  have st : ∃ cv : Option Value, St g k F ((s1.heap.objs.size, .ns fun _ => none) :: (D, .li []) :: (ceRes own s1.heap.objs.size cv ++ (Y ++ [(I, r 0)]))) G
      { s1 with heap := ownPush own (s1.heap.push { cls := .type "dict", data := .dict #[] }) } := by
    cases own with
    | none => exact ⟨none, st⟩
    | some nm =>
      have st := st.own (r := .ce none) (fun b o e => Heap.get?_push_of_some { cls := .type "cell", data := .cell none } e) s1.toks (size_none _) ⟨_, Heap.get?_push_size _ rfl, rfl⟩
      refine ⟨none, st.perm ?_⟩
      show List.Perm ((_, _) :: (_, _) :: (_, _) :: _) _
      rw [Heap.size_push]
      exact ((List.Perm.swap _ _ _).trans (List.Perm.cons _ (List.Perm.swap _ _ _)))
  obtain ⟨cv, st⟩ := st
  generalize (⟨_, _, _, _, _⟩ : Shared) = s2 at st ⊢
  generalize s1.heap.objs.size = C at st ⊢
  show codeAny _ A (.compStart (.ListComp elt [⟨target, iter, ifs, 0⟩] scope pos) 0 (.ref I) (.ref D) (cEnv scope own cl C env)) (RR (.ref D) C) s2
  have loop : ∀ s2, St g k F ((C, .ns fun _ => none) :: (D, .li []) :: (ceRes own C cv ++ (Y ++ [(I, r 0)]))) G s2 → codeAny (model g.prog g.w) A (.compLoop (.ListComp elt [⟨target, iter, ifs, 0⟩] scope pos) 0 (.ref I) (.ref D) (cEnv scope own cl C env)) (RR (.ref D) C) s2 := fun s2 st => by
    refine codeAny_compLoop_all (fun q s => ∃ i m cv ys F' G', q = n - i ∧ i ≤ n ∧ ys.length ≤ i ∧ St g k F' ((C, .ns m) :: (D, .li ys) :: (ceRes own C cv ++ (Y ++ [(I, r i)]))) G' s ∧ PLe F F' ∧ J i ys F') ?_ n
      ⟨0, _, cv, [], F, G, rfl, Nat.zero_le _, Nat.le_refl _, st, .rfl, T.start⟩
    rintro q s ⟨i, m, cv, ys, F', G', rfl, hi, hy, st, le, hJ⟩
    rw [comp_assoc] at st
    by_cases hlt : i < n
    · refine (hI.item (Φ := fun o F₁ X₁ G₁ => ∃ x, o = some x ∧ V i x ∧ F₁ = F' ∧ X₁ = ((C, .ns m) :: (D, .li ys) :: (ceRes own C cv ++ Y)) ++ [(I, r (i + 1))] ∧ G₁ = G') i hlt le fun x hx => ⟨x, rfl, hx, rfl, rfl, rfl⟩).then st fun o F₁ X₁ G₁ s st1 hx => ?_
      obtain ⟨x, rfl, hx, rfl, rfl, rfl⟩ := hx
      dsimp only
      refine (hI.tup (Φ := fun _ F₂ X₁ G₂ => F₂ = F₁ ∧ X₁ = ((C, .ns m) :: (D, .li ys) :: (ceRes own C cv ++ Y)) ++ [(I, r (i + 1))] ∧ G₂ = G₁) (i + 1) ⟨rfl, rfl, rfl⟩).then st1 fun _ F₂ X₂ G₂ s st2 hx' => ?_
      obtain ⟨rfl, rfl, rfl⟩ := hx'
      rw [← comp_assoc] at st2
      refine (T.turn i x ys _ _ m cv C D _ hlt hx le hJ hy).then st2 fun _ F₂ X₂ G₂ s st hb => hb.then st fun ok F₃ X₃ G₃ s st hf => ?_
      cases ok with
      | true =>
        rw [if_pos rfl] at hf ⊢
        refine hf.then st fun y F₄ X₄ G₄ s st hf => ?_
        obtain ⟨⟨m, cv, hsub⟩, le4, hJ⟩ := hf
        have st := st.drop hsub
        have hz : ys.length ≤ sizeLine := by exact far 1 [_, _, _, _] [.var 0, .var 1, .var 2, .var 1, .var 3, .var 2, .var 0, .var 3] rfl hn hi hy
        refine (W_append (i := 1) (Φ := fun _ F₅ X₅ G₅ => F₅ = F₄ ∧ X₅ = (C, .ns m) :: (D, .li (ys ++ [y])) :: (ceRes own C cv ++ (Y ++ [(I, r (i + 1))])) ∧ G₅ = G₄) rfl hz ⟨rfl, rfl, rfl⟩).then st fun _ F₅ X₅ G₅ s st5 hx => ?_
        obtain ⟨rfl, rfl, rfl⟩ := hx
        exact ⟨n - (i + 1), by exact far 1 [_, _, _, _] [.add (.var 0) (.num 1), .var 1, .add (.var 0) (.add (.var 2) (.num 1)), .var 3, .var 3, .add (.var 1) (.var 2)] rfl (sbC hlt) (sbA _ _), i + 1, _, _, _, _, _, rfl, hlt, by simp; exact hy, st5, le4, hJ⟩
      | false =>
        rw [if_neg Bool.false_ne_true] at hf ⊢
        obtain ⟨⟨m, cv, hsub⟩, le4, hJ⟩ := hf
        exact ⟨n - (i + 1), by exact far 1 [_, _, _, _] [.add (.var 0) (.num 1), .var 1, .add (.var 0) (.add (.var 2) (.num 1)), .var 3, .var 3, .add (.var 1) (.var 2)] rfl (sbC hlt) (sbA _ _), i + 1, _, _, _, _, _, rfl, hlt, by exact far 1 [_, _] [.var 0, .add (.var 1) (.num 1), .var 0, .var 1] rfl hy, st.drop hsub, le4, hJ⟩
    · obtain rfl : i = n := Nat.le_antisymm hi (Nat.not_lt.mp hlt)
      refine (hI.fin (Φ := fun o F₁ X₁ G₁ => o = none ∧ F₁ = F' ∧ X₁ = ((C, .ns m) :: (D, .li ys) :: (ceRes own C cv ++ Y)) ∧ G₁ = G') le ⟨rfl, rfl, rfl, rfl⟩).then st fun o F₁ X₁ G₁ s st1 hx => ?_
      obtain ⟨rfl, rfl, rfl, rfl⟩ := hx
      exact hR _ _ _ _ _ _ _ _ le hJ hy st1
  refine codeAny_compStart_list (loop _ st) ?_
  have st' := st
  rw [comp_assoc] at st'
  refine (hI.self (Φ := fun v F₁ X₁ G₁ => v = .ref I ∧ F₁ = F ∧ X₁ = ((C, .ns fun _ => none) :: (D, .li []) :: (ceRes own C cv ++ Y)) ++ [(I, r 0)] ∧ G₁ = G) 0 ⟨rfl, rfl, rfl, rfl⟩).then st' fun v F₁ X₁ G₁ s st1 hx => ?_
  obtain ⟨rfl, rfl, rfl, rfl⟩ := hx
  rw [← comp_assoc] at st1
  exact loop _ st1

@[reducible] noncomputable def compK (g : Glo) (k : Fun) (A : Around) (env : Env) (elt target : Expr) (ifs : List Expr) (scope : Scope) (own : Option Str) (cl : List (Str × Addr)) (Φ : Cont Value) : Cont Value := fun it F X G => ∃ (I : Addr) (r : Nat → Res) (n : Nat) (V : Nat → Value → Prop) (Y : XS) (J : Nat → List Value → PMap → Prop), it = .ref I ∧ X = Y ++ [(I, r 0)] ∧ n ≤ sizeLine ∧ Iter g A F I r n V ∧
      CompTurn g k A env elt target ifs scope own cl F Y I r n V J ∧ ∀ ys F₀ F' G' v, PLe F F₀ → J n ys F₀ → PLe F₀ F' → ys.length ≤ n → FList F' v ys → Φ v F' Y G'
@[reducible] noncomputable def compAK (g : Glo) (k : Fun) (A : Around) (env : Env) (x : Str) (i : Nat) (elt target : Expr) (ifs : List Expr) (scope : Scope) (own : Option Str) (cl : List (Str × Addr)) (Φ : Cont Flow) : Cont Value := fun it F X G => ∃ (I : Addr) (r : Nat → Res) (n : Nat) (V : Nat → Value → Prop) (Y : XS) (J : Nat → List Value → PMap → Prop) (mL : Str → Option Value), it = .ref I ∧ X = Y ++ [(I, r 0)] ∧ n ≤ sizeLine ∧ Iter g A F I r n V ∧
      CompTurn g k A env elt target ifs scope own cl F Y I r n V J ∧ Y[i]? = some (env.locals, .ns mL) ∧ ∀ ys F₀ F' G' v, PLe F F₀ → J n ys F₀ → PLe F₀ F' → ys.length ≤ n → FList F' v ys → Φ .next F' (Y.set i (env.locals, .ns (upd mL x v))) G'
theorem W_ListComp {elt target iter : Expr} {ifs : List Expr} {scope : Scope} {pos : Pos} {Φ : Cont Value} (own : Option Str) (cl : List (Str × Addr))
    (h : W g k A (eval iter env) (fun x => W g k A (pyIter x) (compK g k A env elt target ifs scope own cl Φ) E) E F X G)
    (hclos : closureFor scope env = pure cl := by kernel_rfl) (hown : (scope.names.filter fun x => x.2 == .cell) = ownNames own := by kernel_rfl) (hkind : scope.kind = .function := by kernel_rfl)
    (hnames : (scope.names.all fun x => x.2 != .local || (scope.names.lookup x.1 == some .local)) = true := by kernel_rfl) (hs : ∀ x, foldedSetIterable iter env x = pure x := by intro _; kernel_rfl) :
    W g k A (eval (.ListComp elt [⟨target, iter, ifs, 0⟩] scope pos) env) Φ E F X G := ⟨fun s st => by
  rw [eval_ListComp]
  have hnames' : ∀ x ∈ scope.names, x.2 = .local → scope.names.lookup x.1 = some .local := fun x hx hl => by
    have := List.all_eq_true.mp hnames x hx
    rw [hl] at this
    simpa using this
  refine wpAny_comprehension_free (use := none) rfl hs hclos hkind hnames' (h.then st fun x F X G s st h => h.then st fun it F X G s st h => ?_)
  obtain ⟨I, r, n, V, Y, J, rfl, rfl, hn, hI, T, fin⟩ := h
  refine comp_loop (RR := fun acc C => compPost (model g.prog g.w) A E none _ acc C) st hn hI T hown fun C D m cv ys F' G' s' le hJ hy st => ?_
  refine ⟨m, st.at (i := 0) rfl, fun h' hsb => ?_⟩
  have st := st.lose (i := 0) rfl s'.toks fun b o hb e => (hsb.2 b hb).trans e
  obtain ⟨o, ho, r⟩ := st.at (i := 0) rfl
  have st2 := st.freeze (i := 0) rfl ho
  exact (st2.drop (List.sublist_append_right _ _)).done (fin ys F' _ _ _ le hJ (fset_le (st.apart _ (.head _)).1) hy ⟨_, _, rfl, fset_self, r⟩)⟩

/-- a comprehension that is stored on its own line -/
theorem W_AssignComp {x : Str} {i : Nat} {pos' spos : Pos} {elt target iter : Expr} {ifs : List Expr} {scope : Scope} {pos : Pos} {Φ : Cont Flow} (own : Option Str) (cl : List (Str × Addr))
    (h : W g k A (eval iter env) (fun x' => W g k A (pyIter x') (compAK g k A env x i elt target ifs scope own cl Φ) E) E F X G)
    (hsw : swapsWith (.ListComp elt [⟨target, iter, ifs, 0⟩] scope pos) (some (.Name x pos')) spos.line env = pure true := by kernel_rfl) (hl : env.kindOf x = some .local := by kernel_rfl) (hke : env.scope.kind = .function := by kernel_rfl)
    (hclos : closureFor scope env = pure cl := by kernel_rfl) (hown : (scope.names.filter fun x => x.2 == .cell) = ownNames own := by kernel_rfl) (hkind : scope.kind = .function := by kernel_rfl)
    (hnames : (scope.names.all fun x => x.2 != .local || (scope.names.lookup x.1 == some .local)) = true := by kernel_rfl) (hs : ∀ x, foldedSetIterable iter env x = pure x := by intro _; kernel_rfl) :
    W g k A (exec (.Assign [.Name x pos'] (.ListComp elt [⟨target, iter, ifs, 0⟩] scope pos) spos) env) Φ E F X G := ⟨fun s st => by
  rw [exec_Assign_Name_used _ _ _ _ hsw]
  have hnames' : ∀ x ∈ scope.names, x.2 = .local → scope.names.lookup x.1 = some .local := fun x hx hl => by
    have := List.all_eq_true.mp hnames x hx
    rw [hl] at this
    simpa using this
  refine wpAny_bind (wpAny_standAt (wpAny_bind ?_))
  show wpAny _ A (do let _ ← comprehension (.ListComp elt [⟨target, iter, ifs, 0⟩] scope pos) scope env _ (newList []) false (eval iter env) (some (assign (.Name x pos') env))) _ _ s
  refine wpAny_bind (wpAny_mono (wpAny_comprehension_free (use := some (assign (.Name x pos') env)) (Q := fun _ s' => ∃ F' X' G', St g k F' X' G' s' ∧ Φ .next F' X' G') rfl hs hclos hkind hnames'
    (h.then st fun x' F X G s st h => h.then st fun it F X G s st h => ?_)) (fun _ s' hq => wpAny_pure (wpAny_pure hq)) fun _ _ e => e)
  obtain ⟨I, r, n, V, Y, J, mL, rfl, rfl, hn, hI, T, hx, fin⟩ := h
  refine comp_loop (RR := fun acc C => compPost (model g.prog g.w) A E (some (assign (.Name x pos') env)) _ acc C) st hn hI T hown fun C D m cv ys F' G' s' le hJ hy st => ?_
  have hx' : ((C, .ns m) :: (D, .li ys) :: (ceRes own C cv ++ Y))[2 + ((ceRes own C cv).length + i)]? = some (env.locals, Res.ns mL) := by
    rw [show 2 + ((ceRes own C cv).length + i) = ((ceRes own C cv).length + i) + 1 + 1 from by exact Nat.le_antisymm (far 1 [_, _] [.add (.num 2) (.add (.var 0) (.var 1)), .add (.add (.add (.var 0) (.var 1)) (.num 1)) (.num 1)] rfl) (far 1 [_, _] [.add (.add (.add (.var 0) (.var 1)) (.num 1)) (.num 1), .add (.num 2) (.add (.var 0) (.var 1))] rfl), List.getElem?_cons_succ, List.getElem?_cons_succ, List.getElem?_append_right (by exact far 1 [_, _] [.var 0, .add (.var 0) (.var 1)] rfl), Nat.add_sub_cancel_left]
    exact hx
  have hset : ∀ q, ((C, Res.ns m) :: (D, .li ys) :: (ceRes own C cv ++ Y)).set (2 + ((ceRes own C cv).length + i)) q = (C, .ns m) :: (D, .li ys) :: (ceRes own C cv ++ Y.set i q) := fun q => by
    rw [show 2 + ((ceRes own C cv).length + i) = ((ceRes own C cv).length + i) + 1 + 1 from by exact Nat.le_antisymm (far 1 [_, _] [.add (.num 2) (.add (.var 0) (.var 1)), .add (.add (.add (.var 0) (.var 1)) (.num 1)) (.num 1)] rfl) (far 1 [_, _] [.add (.add (.add (.var 0) (.var 1)) (.num 1)) (.num 1), .add (.num 2) (.add (.var 0) (.var 1))] rfl), List.set_cons_succ, List.set_cons_succ, List.set_append_right _ _ (by exact far 1 [_, _] [.var 0, .add (.var 0) (.var 1)] rfl), Nat.add_sub_cancel_left]
  refine (W_assignName (W_store (v := .ref D) hx' hl (Φ := fun _ F₁ X₁ G₁ => F₁ = F' ∧ X₁ = (C, .ns m) :: (D, .li ys) :: (ceRes own C cv ++ Y.set i (env.locals, .ns (upd mL x (.ref D)))) ∧ G₁ = G') ⟨rfl, hset _, rfl⟩ hke)).then st fun _ F₁ X₁ G₁ s st1 hq => ?_
  obtain ⟨rfl, rfl, rfl⟩ := hq
  refine ⟨m, st1.at (i := 0) rfl, fun h' hsb => ?_⟩
  have st := st1.lose (i := 0) rfl s.toks fun b o hb e => (hsb.2 b hb).trans e
  obtain ⟨o, ho, r⟩ := st.at (i := 0) rfl
  have st2 := st.freeze (i := 0) rfl ho
  exact (st2.drop (List.sublist_append_right _ _)).done (fin ys F₁ _ _ _ le hJ (fset_le (st.apart _ (.head _)).1) hy ⟨_, _, rfl, fset_self, r⟩)⟩
end
end
section
/-! functions with cells of their own -/
noncomputable def eAtC (w : World) (a L : Addr) : Env := callEnvC (fdAt w a) L a
noncomputable def kindIn (names : List (Str × NameKind)) (x : Str) : Option NameKind := names.lookup x
noncomputable def cellsX (names : List (Str × NameKind)) (binds : List (Str × Value)) (L : Addr) : XS :=
  (cellsFrom (L + 1) names []).map fun x => (x.2, .ce (bindC (kindIn names) binds (fun _ => none) x.1))
noncomputable def localBinds (names : List (Str × NameKind)) (binds : List (Str × Value)) : List (Str × Value) := binds.filter fun x => decide (names.lookup x.1 = some .local)
noncomputable def goodBindsC (names : List (Str × NameKind)) (binds : List (Str × Value)) : Bool :=
  binds.all (fun x => decide (names.lookup x.1 = some .local) || (decide (names.lookup x.1 = some .cell) && ((cellsFrom 0 names []).lookup x.1).isSome)) && decide ((binds.map (·.1)).Nodup) && decide (((cellsFrom 0 names []).map (·.1)).Nodup)

theorem bindL_ne {kindOf : Str → Option NameKind} : ∀ {l : List (Str × Value)} {m : Str → Option Value} {x : Str}, x ∉ l.map (·.1) → bindL kindOf l m x = m x
  | [], _, _, _ => rfl
  | (n, v) :: r, m, x, h => by
    simp only [List.map_cons, List.mem_cons, not_or] at h
    unfold bindL
    rw [bindL_ne h.2]
    split
    · simp [h.1]
    · rfl
theorem bindsAre_L {names : List (Str × NameKind)} : ∀ {l : List (Str × Value)} {m : Str → Option Value}, (l.map (·.1)).Nodup → BindsAre (bindL (kindIn names) l m) (localBinds names l)
  | [], _, _ => trivial
  | (n, v) :: r, m, hn => by
    obtain ⟨h1, h2⟩ := List.nodup_cons.mp hn
    unfold bindL localBinds
    by_cases hk : names.lookup n = some .local
    · rw [List.filter_cons_of_pos (by simpa using hk), if_pos (show kindIn names n = _ from hk)]
      exact ⟨by rw [bindL_ne h1]; simp, bindsAre_L h2⟩
    · rw [List.filter_cons_of_neg (by simpa using hk), if_neg (show ¬ kindIn names n = _ from hk)]
      exact bindsAre_L h2
theorem cellsFrom_names : ∀ (names : List (Str × NameKind)) (n m : Nat) (a b : List (Str × Addr)), a.map (·.1) = b.map (·.1) → (cellsFrom n names a).map (·.1) = (cellsFrom m names b).map (·.1)
  | [], _, _, _, _, h => h
  | (x, k) :: r, n, m, a, b, h => by
    unfold cellsFrom
    split
    · exact cellsFrom_names r _ _ _ _ (by simp [h])
    · exact cellsFrom_names r _ _ _ _ h
theorem lookup_isSome {α : Type} : ∀ {l : List (Str × α)} {x : Str}, (l.lookup x).isSome = (l.map (·.1)).contains x
  | [], _ => rfl
  | (n, v) :: r, x => by
    rw [List.lookup_cons]
    simp only [List.map_cons, List.contains_cons]
    cases h : x == n <;> simp [lookup_isSome (l := r)]

section
variable {g : Glo} {A : Around} {F : PMap} {l : List Env} {s : Shared}
theorem calls_cells {K : Frag} {mg mb : Str → Option Value} (T : Top0 g K mg mb) {a : Addr} {args : Args} {o : Obj} {fd : FuncData} {body : List Stmt} {binds : List (Str × Value)} {P : Value → PMap → Prop} {n : Nat} (hroom : Room A n)
    (ho : F a = some o) (hdata : o.data = .func fd) (hcd : CodeAtF F fd.code fd.qualname) (hbody : fd.body = .stmts body) (hclo : fd.closure = []) (hbind : ∀ s, Ok g F s → BindsTo s fd args binds)
    (hgood : goodBindsC fd.scope.names binds = true)
    (h : ∀ L l m, BindsAre m (localBinds fd.scope.names binds) → Body g A l F (callEnvC fd L a) L ((L, .ns m) :: cellsX fd.scope.names binds L) body P)
    (hco : fd.scope.isCoroutine = false) (hgen : fd.scope.isGenerator = false) (hk : fd.scope.kind = .function) : Calls g A (.call (.ref a) args) F P := fun l s hs hS => by
  simp only [goodBindsC, Bool.and_eq_true, List.all_eq_true, decide_eq_true_eq, Bool.or_eq_true] at hgood
  obtain ⟨⟨hg1, hg2⟩, hg3⟩ := hgood
  have hnm : ∀ n, (cellsFrom n fd.scope.names []).map (·.1) = (cellsFrom 0 fd.scope.names []).map (·.1) := fun n => cellsFrom_names _ _ _ _ _ rfl
  refine codeAny_call_function hroom.lt (hs.fro _ _ ho) hdata hco hgen hbody (hcd.rec hs.fro) (hbind s hs _ _ _ _ ?_)
  rw [hclo]
  refine wpAny_newFunctionEnv_cells hk (fun x hx => ?_) fun env he s' x => ?_
  · rcases hg1 x hx with h1 | ⟨h1, h2⟩
    · exact .inl h1
    · refine .inr ⟨h1, ?_⟩
      rw [lookup_isSome] at h2 ⊢
      rwa [hnm]
  subst he
  have hkeep := x.toInCall.keep
  refine ⟨(T.nolimit.keeps hs.stays).keeps hkeep, codeAny_func ?_⟩
  obtain ⟨h', tk, rfl, _⟩ := x.done
  have hL : (s.heap.objs.size, Res.ns (bindL (kindIn fd.scope.names) binds fun _ => none)).2.Holds g h' s.heap.objs.size := x.toInCall.ns
  have hlt : ∀ p ∈ cellsX fd.scope.names binds s.heap.objs.size, s.heap.objs.size < p.1 := fun p hp => by
    obtain ⟨q, hq, rfl⟩ := List.mem_map.mp hp
    exact x.above q.1 q.2 hq
  have st := St.enter hs (h' := h') tk ((s.heap.objs.size, .ns (bindL (kindIn fd.scope.names) binds fun _ => none)) :: cellsX fd.scope.names binds s.heap.objs.size) (frsOf (callEnvC fd s.heap.objs.size a :: l)) hkeep
    (fun p hp => by
      rcases List.mem_cons.mp hp with rfl | hp
      · exact hL
      · obtain ⟨q, hq, rfl⟩ := List.mem_map.mp hp
        refine x.cell q.1 q.2 ?_
        have hnd : ((cellsFrom (s.heap.objs.size + 1) fd.scope.names []).map (·.1)).Nodup := by rw [hnm]; exact hg3
        have : ∀ {l : List (Str × Addr)}, (l.map (·.1)).Nodup → q ∈ l → l.lookup q.1 = some q.2 := by
          intro l
          induction l with
          | nil => intro _ h; cases h
          | cons y r ih =>
            intro hn hm
            obtain ⟨h1, h2⟩ := List.nodup_cons.mp hn
            rcases List.mem_cons.mp hm with rfl | hm
            · rw [List.lookup_cons]; simp
            · have : q.1 ≠ y.1 := fun e => h1 (by show y.1 ∈ _; rw [← e]; exact List.mem_map_of_mem (f := (·.1)) hm)
              rw [List.lookup_cons]
              simp only [show (q.1 == y.1) = false from beq_eq_false_iff_ne.mpr this]
              exact ih h2 hm
        exact this hnd hq)
    (by
      rw [List.map_cons]
      refine List.nodup_cons.mpr ⟨fun hm => ?_, ?_⟩
      · obtain ⟨p, hp, e⟩ := List.mem_map.mp hm
        have := hlt p hp
        rw [e] at this
        exact Nat.lt_irrefl _ this
      · show (List.map _ (List.map _ _)).Nodup
        rw [List.map_map]
        exact List.pairwise_map.mpr x.apart)
    (fun p hp => by
      rcases List.mem_cons.mp hp with rfl | hp
      · exact size_none _
      · exact Heap.get?_none_of_le (Nat.le_of_lt (hlt p hp)))
  have hH := Here.enter hS hs (env := callEnvC fd s.heap.objs.size a) (L := s.heap.objs.size) hk rfl
  exact wpAny_mono ((h s.heap.objs.size l _ (bindsAre_L hg2) _ s.gens hH).run _ st) (fun f s' ⟨F', X', G', st', hP⟩ => St.leave hs rfl (size_none _) st' hP.1 hP.2) fun _ _ x => x.elim

theorem calls_topC {mg mb : Str → Option Value} (T : Top0 g (KK g.w) mg mb) (hF : PLe g.base.get? F) {A : Around} {a : Addr} {args : Args} (binds : List (Str × Value)) {P : Value → PMap → Prop} {n : Nat} (hroom : Room A n)
    (ho : (KK g.w).lookup a = some (objAt g.w a)) (hdata : (objAt g.w a).data = .func (fdAt g.w a)) (hcd : codeIn (KK g.w) (fdAt g.w a).code (fdAt g.w a).qualname = true) (hbody : (fdAt g.w a).body = .stmts (bodyAt g.w a)) (hclo : (fdAt g.w a).closure = [])
    (hbind : ∀ s, Ok g F s → BindsTo s (fdAt g.w a) args binds) (hgood : goodBindsC (fdAt g.w a).scope.names binds = true) {XC : Addr → XS} {lb : List (Str × Value)} (hX : ∀ L, cellsX (fdAt g.w a).scope.names binds L = XC L) (hlb : localBinds (fdAt g.w a).scope.names binds = lb)
    (hco : (fdAt g.w a).scope.isCoroutine = false) (hgen : (fdAt g.w a).scope.isGenerator = false) (hk : (fdAt g.w a).scope.kind = .function)
    (h : ∀ L l m, BindsAre m lb → Body g A l F (eAtC g.w a L) L ((L, .ns m) :: XC L) (bodyAt g.w a) P) : Calls g A (.call (.ref a) args) F P :=
  calls_cells T hroom (T.get hF ho) hdata (T.code hF hcd) hbody hclo hbind hgood (fun L l m hm => by rw [hX]; exact h L l m (hlb ▸ hm)) hco hgen hk
theorem calls_topC' {mg mb : Str → Option Value} (T : Top0 g (KK g.w) mg mb) (hF : PLe g.base.get? F) {A : Around} {a : Addr} {args : Args} (binds : List (Str × Value)) {P : Value → PMap → Prop} {n : Nat} (hroom : Room A n)
    (ho : (KK g.w).lookup a = some (objAt g.w a)) (hdata : (objAt g.w a).data = .func (fdAt g.w a)) (hcd : codeIn (KK g.w) (fdAt g.w a).code (fdAt g.w a).qualname = true) (hbody : (fdAt g.w a).body = .stmts (bodyAt g.w a)) (hclo : (fdAt g.w a).closure = [])
    (hbind : bindArgs (fdAt g.w a) args = pure binds) (hgood : goodBindsC (fdAt g.w a).scope.names binds = true) {XC : Addr → XS} {lb : List (Str × Value)} (hX : ∀ L, cellsX (fdAt g.w a).scope.names binds L = XC L) (hlb : localBinds (fdAt g.w a).scope.names binds = lb)
    (hco : (fdAt g.w a).scope.isCoroutine = false) (hgen : (fdAt g.w a).scope.isGenerator = false) (hk : (fdAt g.w a).scope.kind = .function)
    (h : ∀ L l m, BindsAre m lb → Body g A l F (eAtC g.w a L) L ((L, .ns m) :: XC L) (bodyAt g.w a) P) : Calls g A (.call (.ref a) args) F P :=
  calls_topC T hF binds hroom ho hdata hcd hbody hclo (fun s _ => BindsTo.of_eq hbind) hgood hX hlb hco hgen hk h
end
end
section
/-! what a value reads -/
noncomputable def isNat (v : Value) (n : Nat) : Prop := isInt v n
structure EqBy {α : Type} [DecidableEq α] (P : Value → α → Prop) : Prop where
  eq : ∀ y x a b, P y a → P x b → MeetsSeq.EqGives y x (decide (a = b))
  fn : ∀ y a b, P y a → P y b → a = b
theorem eqBy_int : EqBy isInt := ⟨fun y x a b ⟨t, ha⟩ ⟨u, hb⟩ => by
  subst ha; subst hb
  rw [show decide (a = b) = (a == b) from by by_cases h : a = b <;> simp [h]]
  exact MeetsSeq.EqGives.int a b t u, fun y a b ⟨t, ha⟩ ⟨u, hb⟩ => by rw [ha] at hb; injection hb⟩
theorem eqBy_nat : EqBy isNat := ⟨fun y x a b ha hb => by
  have := eqBy_int.eq y x a b ha hb
  rwa [show decide ((a : Int) = b) = decide (a = b) from by simp [Int.ofNat_inj]] at this, fun y a b ha hb => Int.ofNat_inj.mp (eqBy_int.fn y a b ha hb)⟩
theorem eqBy_by : EqBy isBy := ⟨fun y x a b ⟨t, ha⟩ ⟨u, hb⟩ => by
  subst ha; subst hb
  exact fun prog w A E s Q h => eqBool_bytes (by simpa using h), fun y a b ⟨t, ha⟩ ⟨u, hb⟩ => by rw [ha] at hb; injection hb with h1 h2; simpa using h1⟩
theorem paired_mono {α β : Type} {P Q : α → β → Prop} {l₁ : List α} {l₂ : List β} (h : PySem.Paired P l₁ l₂) (hm : ∀ a b, P a b → Q a b) : PySem.Paired Q l₁ l₂ := by
  induction h with
  | nil => exact .nil
  | cons h _ ih => exact .cons (hm _ _ h) ih
theorem paired_get {α β : Type} {P : α → β → Prop} : ∀ {l₁ : List α} {l₂ : List β}, Paired P l₁ l₂ → ∀ {i : Nat} {b : β}, l₂[i]? = some b → ∃ a, l₁[i]? = some a ∧ P a b
  | _, _, .nil, _, _, h => by simp at h
  | _, _, .cons h t, 0, _, e => by cases e; exact ⟨_, rfl, h⟩
  | _, _, .cons h t, i + 1, _, e => paired_get t e
theorem paired_get' {α β : Type} {P : α → β → Prop} : ∀ {l₁ : List α} {l₂ : List β}, Paired P l₁ l₂ → ∀ {i : Nat} {a : α}, l₁[i]? = some a → ∃ b, l₂[i]? = some b ∧ P a b
  | _, _, .nil, _, _, h => by simp at h
  | _, _, .cons h t, 0, _, e => by cases e; exact ⟨_, rfl, h⟩
  | _, _, .cons h t, i + 1, _, e => paired_get' t e
theorem paired_nil {α β : Type} {P : α → β → Prop} {l : List β} (h : Paired P [] l) : l = [] := by cases h; rfl

noncomputable def LOf (P : Value → α → Prop) (F : PMap) (v : Value) (xs : List α) : Prop := ∃ vs, FList F v vs ∧ Paired P vs xs
theorem LOf.mono {P : Value → α → Prop} {F F' : PMap} {v : Value} {xs : List α} (x : LOf P F v xs) (h : PLe F F') : LOf P F' v xs := let ⟨vs, a, b⟩ := x; ⟨vs, a.mono h, b⟩
noncomputable abbrev NL := LOf isNat
noncomputable abbrev BL := LOf isBy
noncomputable def NLL (F : PMap) (v : Value) (rows : List (List Nat)) : Prop := ∃ vs, FList F v vs ∧ Paired (NL F) vs rows
theorem NLL.mono {F F' : PMap} {v : Value} {xs : List (List Nat)} (x : NLL F v xs) (h : PLe F F') : NLL F' v xs := let ⟨vs, a, b⟩ := x; ⟨vs, a.mono h, paired_mono b fun _ _ r => r.mono h⟩

section
variable {g : Glo} {k : Fun} {A : Around} {E : Value → Shared → Prop} {F : PMap} {X : XS} {G : GS} {env : Env} {s : Shared}
theorem all_eq {α : Type} [DecidableEq α] {xs ys : List α} (h : xs.length = ys.length) : ((List.range xs.length).all fun i => decide (xs[i]? = ys[i]?)) = decide (xs = ys) := by
  rw [Bool.eq_iff_iff]
  simp only [List.all_eq_true, List.mem_range, decide_eq_true_eq]
  refine ⟨fun hh => List.ext_getElem? fun i => ?_, fun e i _ => by rw [e]⟩
  by_cases hi : i < xs.length
  · exact hh i hi
  · rw [List.getElem?_eq_none (by exact Nat.le_of_not_lt hi), List.getElem?_eq_none (by exact Nat.le_trans (Nat.le_of_eq h.symm) (Nat.le_of_not_lt hi))]
theorem pair_at {α : Type} {P : Value → α → Prop} {vs : List Value} {xs : List α} (p : Paired P vs xs) {j : Nat} (h : j < vs.toArray.size) : ∃ x, xs[j]? = some x ∧ P vs.toArray[j] x := by
  have : vs[j]? = some vs.toArray[j] := by simp at h ⊢
  exact paired_get' p this
theorem W_eqL {α : Type} [DecidableEq α] {P : Value → α → Prop} (hP : EqBy P) {a b : Value} {vs ws : List Value} {xs ys : List α} {Φ : Cont Value} (ha : LView F X a vs) (hb : LView F X b ws) (pa : Paired P vs xs) (pb : Paired P ws ys) (hu : A.units < cLine)
    (h : Φ (.bool (decide (xs = ys))) F X G) : W g k A (compareOp .Eq a b) Φ E F X G := ⟨fun s hs => by
  obtain ⟨a, o, rfl, ho, r⟩ := hs.list ha
  obtain ⟨b, o2, rfl, ho2, r2⟩ := hs.list hb
  by_cases hsz : xs.length = ys.length
  · refine SeqAt.eq_listAt (e := fun i => decide (xs[i]? = ys[i]?)) (r.isList ho) (r2.isList ho2) (by simp; rw [pa.length, pb.length, hsz]) hu (fun j h1 h2 => ?_) (hs.done ?_)
    · obtain ⟨x, hx, px⟩ := pair_at pa h1
      obtain ⟨y, hy, py⟩ := pair_at pb h2
      rw [hx, hy]
      have := hP.eq _ _ _ _ px py
      rw [show decide (some x = some y) = decide (x = y) from by simp]
      exact this.at _ _
    · rw [show vs.toArray.size = xs.length from by simp [pa.length], all_eq hsz]; exact h
  · refine SeqAt.eq_list_lengthsAt (r.isList ho) (r2.isList ho2) (by simp; rw [pa.length, pb.length]; exact hsz) hu (hs.done ?_)
    rw [show decide (xs = ys) = false from decide_eq_false fun e => hsz (by rw [e])] at h
    exact h⟩
theorem W_neL {α : Type} [DecidableEq α] {P : Value → α → Prop} (hP : EqBy P) {a b : Value} {vs ws : List Value} {xs ys : List α} {Φ : Cont Value} (ha : LView F X a vs) (hb : LView F X b ws) (pa : Paired P vs xs) (pb : Paired P ws ys) (hu : A.units < cLine)
    (h : Φ (.bool (!decide (xs = ys))) F X G) : W g k A (compareOp .NotEq a b) Φ E F X G := ⟨fun s hs => by
  obtain ⟨a, o, rfl, ho, r⟩ := hs.list ha
  obtain ⟨b, o2, rfl, ho2, r2⟩ := hs.list hb
  by_cases hsz : xs.length = ys.length
  · refine SeqAt.RcNeAt.lists (e := fun i => decide (xs[i]? = ys[i]?)) (r.isList ho) (r2.isList ho2) (by simp; rw [pa.length, pb.length, hsz]) hu (fun j h1 h2 => ?_) g.prog g.w E _ (hs.done ?_)
    · obtain ⟨x, hx, px⟩ := pair_at pa h1
      obtain ⟨y, hy, py⟩ := pair_at pb h2
      rw [hx, hy]
      have := hP.eq _ _ _ _ px py
      rw [show decide (some x = some y) = decide (x = y) from by simp]
      exact this.at _ _
    · rw [show vs.toArray.size = xs.length from by simp [pa.length], all_eq hsz]; exact h
  · refine SeqAt.RcNeAt.lists_lengths (r.isList ho) (r2.isList ho2) (by simp; rw [pa.length, pb.length]; exact hsz) hu g.prog g.w E _ (hs.done ?_)
    rw [show decide (xs = ys) = false from decide_eq_false fun e => hsz (by rw [e])] at h
    exact h⟩
/-- in, where items and the thing asked for read alike -/
theorem in_arr {α : Type} [DecidableEq α] {P : Value → α → Prop} (hP : EqBy P) {x : Value} {a : α} (hx : P x a) {vs : List Value} {xs : List α} (p : Paired P vs xs) : ∃ e : Value → Bool, (∀ y ∈ vs, MeetsSeq.EqGives y x (e y)) ∧ vs.any e = decide (a ∈ xs) := by
  classical
  refine ⟨fun y => decide (∃ b, P y b ∧ b = a), fun y hy => ?_, ?_⟩
  · obtain ⟨i, hi⟩ := List.getElem?_of_mem hy
    obtain ⟨b, hb, pb⟩ := paired_get' p hi
    have h1 := hP.eq _ _ _ _ pb hx
    show MeetsSeq.EqGives y x (decide (∃ b, P y b ∧ b = a))
    rwa [show decide (∃ b, P y b ∧ b = a) = decide (b = a) from by
      rw [decide_eq_decide]
      exact ⟨fun ⟨c, pc, e⟩ => (hP.fn _ _ _ pb pc).trans e, fun e => ⟨b, pb, e⟩⟩]
  · rw [Bool.eq_iff_iff]
    simp only [List.any_eq_true, decide_eq_true_eq]
    constructor
    · rintro ⟨y, hy, b, pb, rfl⟩
      obtain ⟨i, hi⟩ := List.getElem?_of_mem hy
      obtain ⟨c, hc, pc⟩ := paired_get' p hi
      rw [hP.fn _ _ _ pb pc]
      exact List.mem_of_getElem? hc
    · intro hm
      obtain ⟨i, hi⟩ := List.getElem?_of_mem hm
      obtain ⟨y, hy, py⟩ := paired_get p hi
      exact ⟨y, List.mem_of_getElem? hy, a, py, rfl⟩
theorem W_in {α : Type} [DecidableEq α] {P : Value → α → Prop} (hP : EqBy P) {x v : Value} {a : α} {vs : List Value} {xs : List α} {Φ : Cont Value} (hx : P x a) (hv : LView F X v vs) (p : Paired P vs xs) (h : Φ (.bool (decide (a ∈ xs))) F X G) :
    W g k A (compareOp .In x v) Φ E F X G := by
  obtain ⟨e, h1, h2⟩ := in_arr hP hx p
  exact W_inL e h1 hv (by rw [h2]; exact h)
theorem W_notIn {α : Type} [DecidableEq α] {P : Value → α → Prop} (hP : EqBy P) {x v : Value} {a : α} {vs : List Value} {xs : List α} {Φ : Cont Value} (hx : P x a) (hv : LView F X v vs) (p : Paired P vs xs) (h : Φ (.bool (!decide (a ∈ xs))) F X G) :
    W g k A (compareOp .NotIn x v) Φ E F X G := by
  obtain ⟨e, h1, h2⟩ := in_arr hP hx p
  exact W_notInL e h1 hv (by rw [h2]; exact h)

/-! closures of comprehensions -/
noncomputable def closList (scope : Scope) (env : Env) : List (Str × Addr) := scope.names.foldl (fun cs x => if x.2 == .free then (x.1, (env.cells.lookup x.1).getD 0) :: cs else cs) []
theorem closureFor_list {scope : Scope} {env : Env} (h : (scope.names.all fun x => x.2 != .free || (env.cells.lookup x.1).isSome) = true) : closureFor scope env = pure (closList scope env) := by
  unfold closureFor closList
  dsimp only
  generalize ([] : List (Str × Addr)) = acc
  revert h
  generalize scope.names = names
  induction names generalizing acc with
  | nil => intro _; rfl
  | cons x r ih =>
    intro h
    obtain ⟨n, kd⟩ := x
    simp only [List.all_cons, Bool.and_eq_true, Bool.or_eq_true, bne_iff_ne, ne_eq] at h
    rw [List.forIn_cons, List.foldl_cons]
    by_cases hk : kd = .free
    · subst hk
      rcases h.1 with h1 | h1
      · exact absurd rfl h1
      · obtain ⟨c, hc⟩ := Option.isSome_iff_exists.mp h1
        have ih := ih ((n, c) :: acc) h.2
        simp only [beq_self_eq_true, if_true, cellOf, hc, Option.getD_some] at ih ⊢
        exact ih
    · have hb : (kd == NameKind.free) = false := by simpa using hk
      have ih := ih acc h.2
      simp only [hb, Bool.false_eq_true, if_false] at ih ⊢
      exact ih
theorem W_norm {α : Type} {t : Sem α} {Φ : Cont α} {Y : XS} (e : X = Y) (h : W g k A t Φ E F Y G) : W g k A t Φ E F X G := e ▸ h
end
end
local macro_rules | `(tactic| walk_at "ck") => `(tactic| first | exact .inl (by as_aux_lemma => kernel_rfl) | exact .inr (by as_aux_lemma => kernel_rfl))
local macro_rules | `(tactic| walk_at "ple") => `(tactic| first | exact PLe.rfl | assumption | (refine PLe.trans ?_ (by assumption); walk_at "ple"))
local macro_rules | `(tactic| walk_at "at") => do
  let t ← (List.range 18).foldrM (fun i (t : Lean.TSyntax `tactic) => `(tactic| first | exact (rfl : (_ : XS)[$(Lean.quote i)]? = _) | $t:tactic)) (← `(tactic| fail))
  return t
local macro_rules | `(tactic| walk_at "lv") => `(tactic| first | exact .inl (by assumption) | exact LView.own (by walk_at "at") | exact .inl (FList.mono (by assumption) (by walk_at "ple")))
local macro_rules | `(tactic| walk_at "w append") => `(tactic| refine W_append (by walk_at "at") (by walk_at "small") ?_)
local macro_rules | `(tactic| walk_at "small") => `(tactic| first | assumption | decide | omega | (simp; done) | (simp; omega) | (show _ ≤ 16777216; omega) | (show _ ≤ 16777216; simp; omega))
local macro_rules | `(tactic| walk_at "x") => `(tactic| (refine W_norm (by dsimp only [ceRes, List.set_cons_zero, List.set_cons_succ, List.cons_append, List.nil_append, List.eraseIdx_cons_zero, List.eraseIdx_cons_succ]; try exact rfl) ?_))
local macro_rules | `(tactic| walk_at "sub") => `(tactic| first | exact ⟨_, none, List.Sublist.refl _⟩ | exact ⟨_, _, List.Sublist.refl _⟩ | exact ⟨_, none, List.sublist_append_left _ _⟩ | exact ⟨_, _, List.sublist_append_left _ _⟩)
local macro_rules | `(tactic| walk_at "mul") => `(tactic| first | assumption | mul_fits)
local macro_rules | `(tactic| walk_at "nm") => `(tactic| first | assumption | exact upd_self | exact upd_ne (by walk_at "nm") (by kernel_rfl))
local macro_rules | `(tactic| walk_at "boot") => do
  let t ← [`abs, `len, `min, `max, `range, `list, `bytes, `sorted, `set, `KeyError].foldrM (fun n (t : Lean.TSyntax `tactic) => `(tactic| first | with_reducible exact $(Lean.mkIdent (`PyProof.Rows.Boot ++ n)) | $t:tactic)) (← `(tactic| fail))
  return t
local macro_rules | `(tactic| walk_at "gl") => `(tactic| with_reducible first | exact isG0 | exact isG1 | exact isG2 | exact isG3 | exact isG4 | exact isG5 | exact isG6 | exact isG7 | exact isG8)
local macro_rules | `(tactic| walk_at "w load") => do
  let a ← `(by as_aux_lemma => kernel_rfl)
  let b ← `(by kernel_rfl)
  let t ← (List.range 13).foldrM (fun i (t : Lean.TSyntax `tactic) => `(tactic| first | refine W_cell (i := $(Lean.quote (i+1))) (by walk_at "ck") $a rfl ?_ | $t:tactic)) (← `(tactic| fail))
  let t ← (List.range 3).foldrM (fun i (t : Lean.TSyntax `tactic) => `(tactic| first | refine W_local (i := $(Lean.quote i)) rfl $a (by walk_at "nm") ?_ $b | $t:tactic)) t
  `(tactic| first
  | refine W_builtin (by assumption) $b $b (by walk_at "boot") ?_
  | refine W_globalT (by walk_at "gl") (by assumption) $b $b ?_
  | $t:tactic)
local macro_rules | `(tactic| walk_at "w store") => do
  let a ← `(by as_aux_lemma => kernel_rfl)
  let t ← (List.range 13).foldrM (fun i (t : Lean.TSyntax `tactic) => `(tactic| first | refine W_storeCell (i := $(Lean.quote (i+1))) $a $a rfl ?_ | $t:tactic)) (← `(tactic| fail))
  let t ← (List.range 2).foldrM (fun i (t : Lean.TSyntax `tactic) => `(tactic| first | refine W_store (i := $(Lean.quote i)) rfl $a ?_ (by kernel_rfl) | $t:tactic)) t
  return t
local macro_rules | `(tactic| walk_at "w call") => `(tactic| first
  | ((with_reducible show W _ _ _ (call (.builtin "len") _) _ _ _ _ _); refine W_len (by walk_at "lv") (by walk_at "small") ?_; intro _)
  | ((with_reducible show W _ _ _ (call (.builtin "abs") _) _ _ _ _ _); refine W_abs ?_; intro _)
  | ((with_reducible show W _ _ _ (call (.builtin "list.append") _) _ _ _ _ _); walk_at "w append"))
local macro_rules | `(tactic| walk_at "w hard") => do
  let s ← `(tactic| (· walk_at "small"))
  `(tactic| first
  | ((with_reducible refine W_mulI ?_ ?_); (· walk_at "mul"); intro _)
  | ((with_reducible refine W_modI ?_ ?_); $s; intro _)
  | ((with_reducible refine W_fdivI ?_ ?_ ?_); $s; $s; intro _)
  | ((with_reducible refine W_powI ?_ ?_ ?_ ?_); $s; $s; $s; intro _)
  | ((with_reducible refine W_addBy ?_ ?_); $s; intro _)
  | (with_reducible first | refine W_callW (by kernel_rfl) ?_ | exact Keeps.builtin | exact Keeps.type | refine And.intro Keeps.builtin ?_ | refine And.intro Keeps.type ?_ | refine And.intro noRefNone ?_)
  | walk_at "w call")
local macro_rules | `(tactic| walk_at "w") => do
  let t ← [`W_Int, `W_Bytes, `W_addI, `W_subI, `W_orI, `W_andI, `W_negI].foldrM (fun n (t : Lean.TSyntax `tactic) => `(tactic| first | (with_reducible refine $(Lean.mkIdent n) ?_; intro _) | $t:tactic)) (← `(tactic| walk_at "w hard"))
  let t ← [`W_AssignName, `W_If, `W_Return, `W_Expr, `W_AssignSub, `W_AssignTup, `W_AssignAttr, `W_Continue, `W_Pass, `W_Name, `W_None, `W_Bool, `W_BinOp, `W_UnaryOp, `W_CallName, `W_Sub, `W_Compare, `W_Tuple, `W_IfExp, `W_isCompare, `W_isNot, `W_isBoolOp, `W_isValue, `W_And_nil, `W_Or_nil, `W_And_cons, `W_Or_cons, `W_items_nil, `W_items_cons, `W_assignName, `W_ltI, `W_gtI, `W_eqI, `W_neI, `W_is, `W_isnt, `W_tB, `W_tNone].foldrM (fun n (t : Lean.TSyntax `tactic) => `(tactic| first | with_reducible refine $(Lean.mkIdent n) ?_ | $t:tactic)) t
  `(tactic| first
  | ((with_reducible show W _ _ _ (execs _ _) _ _ _ _ _); first | refine W_execs_cons ?_ | refine W_execs_nil ?_)
  | ((with_reducible show W _ _ _ (loadName _ _) _ _ _ _ _); walk_at "w load")
  | ((with_reducible show W _ _ _ (storeName _ _ _) _ _ _ _ _); walk_at "w store")
  | $t:tactic)
local macro_rules | `(tactic| walk_at "ws") => `(tactic| repeat walk_at "w")

section
variable {g : Glo} {mg mb : Str → Option Value} {F : PMap}
def lawName (i : Nat) : List UInt8 := [99, (97 + 7 * i % 11).toUInt8]
theorem mul7 {b : Int} : IntMulOk 7 b := IntMulOk.of_left (by decide)
theorem intsAre_one {v : Value} {n : Int} (h : isInt v n) : IntsAre [v] [n] := by
  obtain ⟨t, rfl⟩ := h
  exact IntsAre.cons _ _ .nil
theorem calls_law_name (T : Top0 g (KK g.w) mg mb) (hF : PLe g.base.get? F) {A : Around} {n : Nat} (hr : Room A (n + 1)) (hh : A.handled = none) {v : Value} {i : Nat} (hv : isInt v i) (hi : i < 100) :
    Calls g A (.call (.ref 121) ⟨[v], []⟩) F (fun r _ => isBy r (lawName i)) := by
  obtain ⟨t, rfl⟩ := hv
  refine calls_top T hF [(Str.ofString "k", .int i t)] hr (by kernel_rfl) (by kernel_rfl) (by kernel_rfl) (by kernel_rfl) (by kernel_rfl) (by kernel_rfl) (by kernel_rfl) (by kernel_rfl) (by kernel_rfl) (fun L l m hm k G H => ?_)
  simp only [BindsAre] at hm
  obtain ⟨hk, -⟩ := hm
  have hmul := mul7 (b := (i : Int))
  iterate 6 walk_at "w"
  refine W_builtin T (by kernel_rfl) (by kernel_rfl) PyProof.Rows.Boot.bytes ?_
  walk_at "w"
  walk_at "w"
  refine W_ListF ?_
  iterate 13 walk_at "w"
  refine ⟨(by show 1 ≤ 16777216; exact far 1 [] [.num 1, .num 16777216] rfl), fun F1 v1 le1 hv1 => ?_⟩
  walk_at "w"
  refine ⟨Keeps.type, ?_⟩
  refine W_bytes (ns := [97 + (7 * (i : Int)).fmod 11]) hh (by walk_at "lv") (intsAre_one ⟨_, rfl⟩) (fun n hn => ?_) (by show 1 ≤ 16777216; exact far 1 [] [.num 1, .num 16777216] rfl) fun t2 => ?_
  · rw [List.mem_singleton] at hn; subst hn
    have := Int.fmod_nonneg (a := 7 * (i : Int)) (b := 11) (by exact Int.natCast_nonneg _) (by exact Int.natCast_nonneg _)
    have := Int.fmod_lt_of_pos (7 * (i : Int)) (b := 11) (by exact Int.ofNat_lt.mpr (show 0 < 11 from far 1 [] [.add (.num 0) (.num 1), .num 11] rfl))
    omega
  · walk_at "w"
    refine ⟨by walk_at "ple", ?_⟩
    have : (97 + (7 * (i : Int)).fmod 11).toNat = 97 + 7 * i % 11 := by
      rw [Int.fmod_eq_emod_of_nonneg _ (by exact Int.natCast_nonneg _)]; exact rfl
    simp only [List.map_cons, List.map_nil, this]
    exact ⟨_, rfl⟩
end
section
section
variable {g : Glo} {k : Fun} {A : Around} {E : Value → Shared → Prop} {F : PMap} {X : XS} {G : GS} {env : Env} {s : Shared}
theorem W_CallMeth {o : Expr} {name : Str} {apos pos : Pos} {args : List Expr} {T id : String} {Φ : Cont Value} (pa : PlainAttrs T) (slot : Slot T name id) (hty : typeOf (.builtin id) = pure (.type "method_descriptor"))
    (h : W g k A (eval o env) (fun ov F X G => (∀ s, St g k F X G s → s.TypeIs ov T ∧ (∀ a, ov = .ref a → ∃ ob, s.heap.get? a = some ob ∧ ob.dict = none)) ∧
      W g k A (callWith pos (.builtin id) [ov] (backTo pos (starEach args env)) []) Φ E F X G) E F X G)
    (hbase : attributeBase o name env (eval o env) = eval o env := by kernel_rfl)
    (hfew : ((backTo pos (starEach args env)).all (fun x => !x.1) && (backToKw pos (keywordEach [] env)).all (fun x => x.1.isSome)
      && decide (args.length + ([] : List Keyword).length + (if ([] : List Keyword).isEmpty then 0 else 1) < 30)) = true := by kernel_rfl)
    (hline : (apos.endLine == pos.line) = true := by kernel_rfl) :
    W g k A (eval (.Call (.Attribute o name apos) args [] pos) env) Φ E F X G := ⟨fun s hs =>
  wpAny_Call_method hbase hfew hline pa slot hty (h.then hs fun ov F X G s st hw => ⟨(hw.1 s st).1, (hw.1 s st).2, hw.2.run _ st⟩)⟩
theorem LView.typ {v : Value} {vs : List Value} (x : LView F X v vs) : ∀ s, St g k F X G s → s.TypeIs v "list" ∧ (∀ a, v = .ref a → ∃ ob, s.heap.get? a = some ob ∧ ob.dict = none) := fun s st => by
  obtain ⟨a, o, rfl, ho, r⟩ := st.list x
  exact ⟨⟨o, ho, r.1⟩, fun b e => by cases e; exact ⟨o, ho, r.2.1⟩⟩
theorem W_CallAppend {o : Expr} {apos pos : Pos} {args : List Expr} {Φ : Cont Value}
    (h : W g k A (eval o env) (fun ov F X G => (∃ vs, LView F X ov vs) ∧ W g k A (callWith pos (.builtin "list.append") [ov] (backTo pos (starEach args env)) []) Φ E F X G) E F X G)
    (hbase : attributeBase o (Str.ofString "append") env (eval o env) = eval o env := by kernel_rfl)
    (hfew : ((backTo pos (starEach args env)).all (fun x => !x.1) && (backToKw pos (keywordEach [] env)).all (fun x => x.1.isSome)
      && decide (args.length + ([] : List Keyword).length + (if ([] : List Keyword).isEmpty then 0 else 1) < 30)) = true := by kernel_rfl)
    (hline : (apos.endLine == pos.line) = true := by kernel_rfl) :
    W g k A (eval (.Call (.Attribute o (Str.ofString "append") apos) args [] pos) env) Φ E F X G :=
  W_CallMeth PySem.F.plainAttrs_list PySem.F.slot_list_append PySem.F.type_list_append (h.mono fun ov F X G ⟨⟨vs, hv⟩, hw⟩ => ⟨hv.typ, hw⟩) hbase hfew hline
end

/-! _law_forebears -/
noncomputable def fbRow (P found : List (List Nat)) (k : Nat) : List Nat :=
  (List.range (k + 1)).filter fun j => decide (j = k) || !decide (((P.getD k []).filter fun p => decide (j ∈ found.getD p [])) = [])
noncomputable def fbN (P : List (List Nat)) : Nat → List (List Nat)
  | 0 => []
  | i + 1 => fbN P i ++ [fbRow P (fbN P i) i]
theorem fbN_len (P : List (List Nat)) : ∀ i, (fbN P i).length = i
  | 0 => rfl
  | i + 1 => by simp [fbN, fbN_len P i]

theorem paired_range {ys : List Value} {p : Nat → Bool} {y : Value} {i : Nat} (h : Paired isNat ys ((List.range i).filter p)) (hy : isNat y i) (hp : p i = true) : Paired isNat (ys ++ [y]) ((List.range (i + 1)).filter p) := by
  rw [List.range_succ, List.filter_append]
  simp only [List.filter_cons, hp, if_true, List.filter_nil]
  exact h.snoc hy
theorem filter_range_no {p : Nat → Bool} {i : Nat} (hp : p i = false) : (List.range (i + 1)).filter p = (List.range i).filter p := by
  rw [List.range_succ, List.filter_append]
  simp [List.filter_cons, hp]
section
variable {g : Glo} {mg mb : Str → Option Value} {F : PMap}
set_option maxHeartbeats 4000000
theorem calls_fb (T : Top0 g (KK g.w) mg mb) (hF : PLe g.base.get? F) {A : Around} {n : Nat} (hr : Room A (n + 2)) (hh : A.handled = none) {pv : Value} {P : List (List Nat)} (hv : NLL F pv P) (hlen : P.length < 1000) (hP : ∀ (k : Nat) (row : List Nat), P[k]? = some row → row.length ≤ 1000 ∧ ∀ p ∈ row, p < k) :
    Calls g A (.call (.ref 114) ⟨[pv], []⟩) F (fun r F' => NLL F' r (fbN P P.length)) := by
  refine calls_topC' T hF [(Str.ofString "parents", pv)] hr (by kernel_rfl) (by kernel_rfl) (by kernel_rfl) (by kernel_rfl) (by kernel_rfl) (by kernel_rfl) (by kernel_rfl) (XC := fun L => [(L + 3, .ce none), (L + 2, .ce none), (L + 1, .ce (some pv))]) (lb := []) (fun L => by kernel_rfl) (by kernel_rfl) (by kernel_rfl) (by kernel_rfl) (by kernel_rfl) (fun L l m hm k G H => ?_)
  clear hm
  obtain ⟨vs, hfl, hpr⟩ := hv
  have hl := hpr.length
  have hz : vs.length ≤ sizeLine := by show _ ≤ 16777216; exact far 1 [_, _] [.var 0, .num 16777216, .add (.var 1) (.num 1), .num 1000, .var 0, .var 1] rfl hlen (Nat.le_of_eq hl)
  walk_at "w"
  walk_at "w"
  refine W_ListO ?_
  walk_at "w"
  refine ⟨by show 0 ≤ 16777216; exact Nat.zero_le _, fun fa => ?_⟩
  walk_at "w"
  walk_at "x"
  walk_at "w"
  refine W_For ?_
  walk_at "ws"
  refine W_range ?_ ?_ hh fun v X' hit => hit fun I r hI => ?_
  · exact Int.ofNat_lt.mpr (show vs.length < 1000000 from far 1 [_, _] [.add (.var 0) (.num 1), .num 1000000, .add (.var 1) (.num 1), .num 1000, .var 0, .var 1] rfl hlen (Nat.le_of_eq hl))
  · exact Int.lt_of_lt_of_le (by decide : (-1000000 : Int) < 0) (show (0 : Int) ≤ ((vs.length : Nat) : Int) from Int.natCast_nonneg _)
  refine ⟨I, r, _, _, _, fun i F' Y' G' => ∃ m ck fs, Y' = [(L, .ns m), (L + 3, .ce ck), (L + 2, .ce (some (.ref fa))), (L + 1, .ce (some pv)), (fa, .li fs)] ∧ Paired (NL F') fs (fbN P i), rfl, rfl, hI, ⟨_, _, _, rfl, .nil⟩, ?_, ?_⟩
  · rintro i x F' Y' G' E' hi ⟨t, rfl⟩ le ⟨m, ck, fs, rfl, hfs⟩
    have hi : i < vs.length := by simpa using hi
    walk_at "w"
    walk_at "w"
    walk_at "x"
    walk_at "w"
    obtain ⟨row, hrow⟩ : ∃ row, P[i]? = some row := ⟨P[i]'(by exact Nat.le_trans hi (Nat.le_of_eq hl)), by simp⟩
    obtain ⟨rv, hrv, rvs, hrl, hrp⟩ := paired_get hpr hrow
    obtain ⟨hrow1, hrow2⟩ := hP _ _ hrow
    refine W_AssignComp (i := 0) (some (Str.ofString "j")) _ ?_ (hclos := closureFor_list (by kernel_rfl))
    walk_at "ws"
    refine W_range ?_ ?_ hh fun v X' hit => hit fun I2 r2 hI2 => ?_
    · exact Int.ofNat_lt.mpr (show i + 1 < 1000000 from far 1 [_, _, _] [.add (.add (.var 0) (.num 1)) (.num 1), .num 1000000, .add (.var 1) (.num 1), .num 1000, .var 2, .var 1, .add (.var 0) (.num 1), .var 2] rfl hlen (Nat.le_of_eq hl) (by assumption))
    · exact Int.lt_of_lt_of_le (by decide : (-1000000 : Int) < 0) (show (0 : Int) ≤ ((i + 1 : Nat) : Int) from Int.natCast_nonneg _)
    refine ⟨I2, r2, _, _, _, fun j ys F' => Paired isNat ys ((List.range j).filter fun j => decide (j = i) || !decide ((row.filter fun p => decide (j ∈ (fbN P i).getD p [])) = [])), _, rfl, rfl, ?_, hI2, ⟨.nil, ?_⟩, rfl, ?_⟩
    · show _ ≤ 16777216; exact far 1 [_, _, _] [.add (.var 0) (.num 1), .num 16777216, .add (.var 1) (.num 1), .num 1000, .var 2, .var 1, .add (.var 0) (.num 1), .var 2] rfl hlen (Nat.le_of_eq hl) (by assumption)
    · rintro j x ys F2 G2 m2 cv C D E2 hj ⟨tj, rfl⟩ le2 hJ hy
      have hj : j < i + 1 := by exact hj
      walk_at "w"
      walk_at "w"
      walk_at "x"
      refine W_tests1 ?_
      walk_at "ws"
      split
      · rename_i hji
        rw [if_pos rfl]
        walk_at "ws"
        refine ⟨by walk_at "sub", le2, paired_range hJ ⟨_, rfl⟩ ?_⟩
        have : j = i := by simp at hji; omega
        simp [this]
      · rename_i hji
        have hji : j ≠ i := by simp at hji; omega
        walk_at "ws"
        refine W_ListComp none _ ?_ (hclos := closureFor_list (by kernel_rfl))
        walk_at "ws"
        refine W_item (.inl (hfl.mono (by walk_at "ple"))) (by exact Int.natCast_nonneg _) (by exact Int.ofNat_lt.mpr (show i < 9223372036854775808 from far 1 [_, _, _] [.add (.var 0) (.num 1), .num 9223372036854775808, .add (.var 1) (.num 1), .num 1000, .var 2, .var 1, .add (.var 0) (.num 1), .var 2] rfl hlen (Nat.le_of_eq hl) (by assumption))) hrv ?_
        refine W_iterL hh (hrl.mono (by walk_at "ple")) fun I3 r3 hI3 => ?_
        have hrz := hrp.length
        refine ⟨I3, r3, _, _, _, fun q zs F' => Paired isNat zs ((row.take q).filter fun p => decide (j ∈ (fbN P i).getD p [])), rfl, rfl, (by show _ ≤ 16777216; exact far 1 [_, _] [.var 0, .num 16777216, .var 1, .num 1000, .var 0, .var 1] rfl hrow1 (Nat.le_of_eq hrz)), hI3, ⟨.nil, ?_⟩, ?_⟩
        · rintro q x zs F3 G3 m3 cv3 C3 D3 E3 hq hx le3 hJ3 hz3
          obtain ⟨p, hp, tp, rfl⟩ := paired_get' hrp hx
          have hpi := hrow2 p (List.mem_of_getElem? hp)
          walk_at "w"
          walk_at "w"
          walk_at "x"
          refine W_tests1 ?_
          walk_at "ws"
          have hlen2 := fbN_len P i
          obtain ⟨fr, hfr⟩ : ∃ fr, (fbN P i)[p]? = some fr := ⟨(fbN P i)[p]'(by exact Nat.le_trans hpi (Nat.le_of_eq hlen2.symm)), by simp⟩
          obtain ⟨fv, hfv, fvs, hfvl, hfvp⟩ := paired_get hfs hfr
          refine W_item (vs := fs) (by walk_at "lv") (by exact Int.natCast_nonneg _) (by exact Int.ofNat_lt.mpr (show p < 9223372036854775808 from far 1 [_, _, _, _] [.add (.var 0) (.num 1), .num 9223372036854775808, .add (.var 1) (.num 1), .num 1000, .var 2, .var 1, .add (.var 3) (.num 1), .var 2, .add (.var 0) (.num 1), .var 3] rfl hlen (Nat.le_of_eq hl) (by assumption) hpi)) hfv ?_
          refine W_in eqBy_nat ⟨tj, rfl⟩ (.inl (hfvl.mono (by walk_at "ple"))) hfvp ?_
          walk_at "ws"
          have hget : (fbN P i).getD p [] = fr := by simp [List.getD, hfr]
          have htake := take_succ_filter (fun p => decide (j ∈ (fbN P i).getD p [])) row q p hp
          simp only [hget] at htake
          split
          · rename_i hin
            walk_at "ws"
            refine ⟨by walk_at "sub", by walk_at "ple", ?_⟩
            rw [htake, if_pos (by simpa using hin)]
            exact hJ3.snoc ⟨_, rfl⟩
          · rename_i hin
            refine ⟨by walk_at "sub", by walk_at "ple", ?_⟩
            rw [htake, if_neg (by simpa using hin), List.append_nil]
            exact hJ3
        · rintro zs F3 F4 G4 zv le3 hz3 le4 hzl hzv
          rw [List.take_of_length_le (by exact Nat.le_of_eq hrz.symm)] at hz3
          refine W_ListF ?_
          walk_at "ws"
          refine ⟨by show 0 ≤ 16777216; exact Nat.zero_le _, fun F5 v5 le5 hv5 => ?_⟩
          refine W_neL eqBy_nat (.inl (hzv.mono (by walk_at "ple"))) (.inl hv5) hz3 .nil (hr.deeper (env := eAtC g.w 114 L)).u ?_
          walk_at "ws"
          split
          · rename_i hne
            rw [if_pos rfl]
            walk_at "ws"
            refine ⟨by walk_at "sub", by walk_at "ple", paired_range hJ ⟨_, rfl⟩ ?_⟩
            simpa using Or.inr hne
          · rename_i hne
            walk_at "w"
            rw [if_neg Bool.false_ne_true]
            refine ⟨by walk_at "sub", by walk_at "ple", ?_⟩
            rw [filter_range_no]
            · exact hJ
            · simp [hji]
              simpa using hne
    · rintro ys F1 F2 G2 rv2 le1 hys le2 _ hrv2
      walk_at "x"
      walk_at "w"
      walk_at "w"
      refine W_CallAppend ?_
      walk_at "w"
      walk_at "w"
      refine ⟨⟨fs, by walk_at "lv"⟩, ?_⟩
      have hfz := hfs.length
      rw [fbN_len] at hfz
      walk_at "ws"
      refine ⟨by walk_at "ple", _, List.Sublist.refl _, _, _, _, rfl, ?_⟩
      refine (paired_mono hfs fun _ _ r => r.mono (by walk_at "ple")).snoc ⟨_, hrv2, ?_⟩
      have hg : P.getD i [] = row := by simp [List.getD, hrow]
      unfold fbRow
      rw [hg]
      exact hys
  · rintro F' Y' G' le ⟨m, ck, fs, rfl, hfs⟩
    show W _ _ _ _ _ _ _ _ _
    refine W_freezeLi (i := 4) rfl fun F2 le2 h2 => ?_
    walk_at "ws"
    refine ⟨by walk_at "ple", fs, h2, ?_⟩
    have : (↑vs.length : Int).toNat = P.length := by exact Nat.le_antisymm ((Nat.le_of_eq hl)) ((Nat.le_of_eq hl.symm))
    rw [this] at hfs
    exact paired_mono hfs fun _ _ r => r.mono le2
end
end
section
/-! bytes and pairs, compared -/
theorem slot_bytes_lt : Slot "bytes" (cmpInfo .Lt).2.1 "bytes.__lt__" :=
  .of (owner := "bytes") (n := "__lt__") (by rw [typeLookup_type, builtinLookup_eq_fast]; kernel_rfl) (by decide +kernel) (by decide +kernel) (by decide +kernel)
    (by first | exact .inl (by decide +kernel) | exact .inr (by decide +kernel)) (by rw [isSubtype_type]; kernel_rfl)
theorem entry_bytes_lt : entryFor table "bytes.__lt__" = some Builtin.«bytes.__lt__» := entryFor_of_tree (by kernel_rfl)
theorem args_bytes_lt (a b : Value) : argsOk "bytes.__lt__" ⟨[a, b], []⟩ := by unfold argsOk; kernel_rfl
noncomputable def bytesLt (a b : List UInt8) : Bool := Builtin.Bytes.order a b == .lt
theorem gives_bytes_lt (b c : Array UInt8) (t u : Tok) : Gives (Builtin.«bytes.__lt__» ⟨[.bytes b t, .bytes c u], []⟩) (.val (.bool (bytesLt b.toList c.toList))) := by
  refine .of_wp fun M A E s Q hq => ?_
  show wpAny M A (isInstance (.bytes c u) (.type "bytes") >>= fun r => _) _ E s
  refine wpAny_bind (wpAny_isInstance (typeIs_bytes s c u) F.sub_bytes_bytes ?_)
  exact wpAny_pure ⟨_, rfl, hq⟩
theorem lt_bytes {prog : Program} {w : World} {A : Around} {E : Value → Shared → Prop} {s : Shared} {b c : Array UInt8} {t u : Tok} {Q : Value → Shared → Prop} (h : Q (.bool (bytesLt b.toList c.toList)) s) :
    wpAny (model prog w) A (richCompare .Lt (.bytes b t) (.bytes c u)) Q E s :=
  richCompare_gives (op := .Lt) (T := "bytes") rfl rfl slot_bytes_lt entry_bytes_lt (args_bytes_lt _ _) (gives_bytes_lt b c t u) (fun e => nomatch e) h

noncomputable abbrev Item := Int × List UInt8
noncomputable def itemLt (a b : Item) : Bool := if a.1 = b.1 then bytesLt a.2 b.2 else decide (a.1 < b.1)
noncomputable def tupObj (vs : List Value) (n : Nat) : Obj := { cls := .type "tuple", data := .seq vs.toArray n }
theorem lt_int {prog : Program} {w : World} {A : Around} {E : Value → Shared → Prop} {s : Shared} {a b : Int} {t u : Tok} {Q : Value → Shared → Prop} (h : Q (.bool (decide (a < b))) s) :
    wpAny (model prog w) A (richCompare .Lt (.int a t) (.int b u)) Q E s := P.lt_int h

theorem tuple_lt2 (l b : Addr) (x y : Item) (t t' u u' : Tok) (n n2 : Nat) :
    Meets (Builtin.«tuple.__lt__» ⟨[.ref l, .ref b], []⟩)
      (fun A R s => s.heap.get? l = some (tupObj [.int x.1 t, .bytes x.2.toArray t'] n) ∧ s.heap.get? b = some (tupObj [.int y.1 u, .bytes y.2.toArray u'] n2) ∧
        R (.ok (.ret (.bool (itemLt x y)))) s) :=
  .of_wp fun prog w A R s h => by
    obtain ⟨hp, g, d, tk, os⟩ := s; obtain ⟨hl, hb, h⟩ := h
    unfold tupObj at hl hb
    have f2 := AutoSeq1.sub_tuple_tuple
    wp_walk using wpAny_loadPart' hl, wpAny_loadPart' hb, wpAny_forIn_list _ (fun rest b s' => b.1 = none ∧ s' = ⟨hp, g, d, tk, os⟩ ∧
      (rest = [(.int x.1 t, .int y.1 u), (.bytes x.2.toArray t', .bytes y.2.toArray u')] ∨ (rest = [(.bytes x.2.toArray t', .bytes y.2.toArray u')] ∧ x.1 = y.1) ∨ (rest = [] ∧ x = y))) _
    case turn =>
      rintro ⟨p, q⟩ rest b s' ⟨hb', rfl, hc⟩
      rcases hc with hc | ⟨hc, hx⟩ | ⟨hc, _⟩
      · injection hc with h1 h2
        injection h1 with h1 h3
        subst h1 h3 h2
        refine wpAny_bind (wpAny_eqBool_int ?_)
        by_cases hxy : x.1 = y.1
        · rw [show (x.1 == y.1) = true from by simpa using hxy]
          exact wpAny_pure ⟨rfl, rfl, .inr (.inl ⟨rfl, hxy⟩)⟩
        · rw [show (x.1 == y.1) = false from by simpa using hxy]
          have hR : itemLt x y = decide (x.1 < y.1) := by unfold itemLt; rw [if_neg hxy]
          rw [hR] at h
          show wpAny _ _ (rule _ >>= fun _ => richCompare .Lt (.int x.1 t) (.int y.1 u) >>= fun _ => _) _ _ _
          refine wpAny_bind (wpAny_rule (wpAny_bind (lt_int ?_)))
          exact wpAny_pure (wpAny_pure ⟨_, rfl, h⟩)
      · injection hc with h1 h2
        injection h1 with h1 h3
        subst h1 h3 h2
        refine wpAny_bind (eqBool_bytes ?_)
        have hR : itemLt x y = bytesLt x.2 y.2 := by unfold itemLt; rw [if_pos hx]
        rw [hR] at h
        by_cases hxy : x.2 = y.2
        · rw [show decide (x.2.toArray.toList = y.2.toArray.toList) = true from by simpa using hxy]
          exact wpAny_pure ⟨rfl, rfl, .inr (.inr ⟨rfl, Prod.ext hx hxy⟩)⟩
        · rw [show decide (x.2.toArray.toList = y.2.toArray.toList) = false from by simpa using hxy]
          show wpAny _ _ (rule _ >>= fun _ => richCompare .Lt (.bytes x.2.toArray t') (.bytes y.2.toArray u') >>= fun _ => _) _ _ _
          refine wpAny_bind (wpAny_rule (wpAny_bind (lt_bytes ?_)))
          exact wpAny_pure (wpAny_pure ⟨_, rfl, h⟩)
      · cases hc
    case fin =>
      rintro ⟨b1, b2⟩ s' ⟨hb', rfl, hc⟩
      simp only at hb'
      subst hb'
      rcases hc with hc | ⟨hc, _⟩ | ⟨_, hxy⟩
      · cases hc
      · cases hc
      · have hR : itemLt x y = false := by
          subst hxy
          unfold itemLt bytesLt
          rw [if_pos rfl]
          generalize x.2 = l
          induction l with
          | nil => rfl
          | cons a r ih => simp only [Builtin.Bytes.order, UInt8.lt_irrefl, if_false]; exact ih
        rw [hR] at h
        wp_walk
        exact ⟨_, rfl, h⟩
    case h => exact ⟨rfl, rfl, .inl rfl⟩
end
section
/-! heapq -/
noncomputable def isPair (F : PMap) (v : Value) (x : Item) : Prop := ∃ a n t u, v = .ref a ∧ F a = some (tupObj [.int x.1 t, .bytes x.2.toArray u] n)
theorem isPair.mono {F F' : PMap} {v : Value} {x : Item} (h : isPair F v x) (le : PLe F F') : isPair F' v x := let ⟨a, n, t, u, e, f⟩ := h; ⟨a, n, t, u, e, le _ _ f⟩

noncomputable def upL {α : Type} (lt : α → α → Bool) : Nat → Nat → List α → List α
  | 0, _, l => l
  | n + 1, pos, l => if 0 < pos then (match l[pos]?, l[(pos - 1) / 2]? with
    | some x, some p => if lt x p then upL lt n ((pos - 1) / 2) ((l.set ((pos - 1) / 2) x).set pos p) else l
    | _, _ => l) else l
noncomputable def childL {α : Type} (lt : α → α → Bool) (pos : Nat) (l : List α) : Nat := match l[2 * pos + 1]?, l[2 * pos + 1 + 1]? with
  | some a, some b => if lt a b then 2 * pos + 1 else 2 * pos + 1 + 1
  | _, _ => 2 * pos + 1
noncomputable def downL {α : Type} (lt : α → α → Bool) : Nat → Nat → List α → List α
  | 0, _, l => l
  | n + 1, pos, l => if pos < l.length / 2 then (match l[childL lt pos l]?, l[pos]? with
    | some c, some p => downL lt n (childL lt pos l) ((l.set (childL lt pos l) p).set pos c)
    | _, _ => l) else upL lt (pos + 1) pos l

noncomputable def siftArgs (a : Addr) (down : Bool) (pos : Nat) (result : Value) : Args := ⟨[.ref a, .bool false, .bool down, rawInt pos, rawInt 0, result, rawInt (-1)], []⟩
noncomputable def lstObj (vs : List Value) (n : Nat) : Obj := { cls := .type "list", data := .seq vs.toArray n }
section
variable {prog : Program} {w : World} {A : Around} {E : Value → Shared → Prop} {s : Shared} {a : Addr} {vs : List Value} {n : Nat} {result : Value} {Q : Fin → Shared → Prop}
theorem sift_up_wp (pos : Nat) (hz : vs.length ≤ sizeLine) (ho : s.heap.get? a = some (lstObj vs n))
    (h0 : ¬ pos > 0 → Q (.done (.ret result)) s)
    (h : pos > 0 → ∃ x p, vs[pos]? = some x ∧ vs[(pos - 1) / 2]? = some p ∧ wpAny (model prog w) A (richCompare .Lt x p) (fun v s' => ∃ b, v = .bool b ∧ s'.heap.get? a = some (lstObj vs n) ∧
      (if b = true then Q (.again (.builtin "_heapq.heapify.sift" (siftArgs a false ((pos - 1) / 2) result))) { s' with heap := s'.heap.update a (Obj.mapSeq fun xs => (xs.setIfInBounds ((pos - 1) / 2) x).setIfInBounds pos p) } else Q (.done (.ret result)) s')) E s) :
    wpAny (model prog w) A (Builtin.«_heapq.heapify.sift» (siftArgs a false pos result)) Q E s := by
  unfold lstObj at ho
  unfold siftArgs Builtin.«_heapq.heapify.sift»
  wp_walk using wpAny_loadPart' ho
  have hz : vs.length ≤ 16777216 := hz
  have hA : ∀ {i : Nat} {v : Value}, vs.toArray[i]? = some v → (match vs.toArray[i]? with | some v => pure v | none => unsupported "internal:_heapq.index" : Sem Value) = pure v := fun e => by rw [e]
  refine wpAny_ite_split (fun hp => ?_) (fun hp => ?_)
  · have hp : pos > 0 := by simpa using hp
    obtain ⟨x, p, hx, hpp, h⟩ := h hp
    have hx' : vs.toArray[pos]? = some x := by simpa using hx
    have hp' : vs.toArray[(pos - 1) / 2]? = some p := by simpa using hpp
    refine wpAny_bind (wpAny_of_eq (a := x) (hA hx') ?_)
    refine wpAny_bind (wpAny_of_eq (a := p) (hA hp') ?_)
    rw [if_neg Bool.false_ne_true]
    refine wpAny_bind ?_
    show wpAny _ _ (holding [x, p] (richCompare .Lt x p >>= fun v => truthOfDropped v) >>= fun less => _) _ _ _
    refine wpAny_bind (wpAny_holding (wpAny_bind (wpAny_mono h (fun v s' hv => ?_) fun _ _ e => e)))
    obtain ⟨b, rfl, ho', hq⟩ := hv
    refine wpAny_truthy_bool ?_
    unfold lstObj at ho'
    wp_walk using wpAny_loadPart' ho'
    cases b with
    | false => exact wpAny_pure (by simpa using hq)
    | true =>
      rw [if_pos rfl] at hq ⊢
      refine wpAny_bind ?_
      wp_walk using wpAny_loadPart' ho'
      refine wpAny_of_eq (a := p) (hA hp') ?_
      refine wpAny_bind (wpAny_of_eq (a := x) (hA hx') ?_)
      refine wpAny_updateSeq ho' rfl ?_ (by show vs.toArray.size ≤ 16777216; simpa using hz) (by show _ ≤ 16777216 + 1; simp; exact far 1 [_] [.var 0, .num 16777217, .var 0, .num 16777216] rfl hz)
      wp_walk
      exact hq
  · exact wpAny_pure (h0 (by simpa using hp))
theorem sift_down_wp (pos : Nat) (hz : vs.length ≤ sizeLine) (ho : s.heap.get? a = some (lstObj vs n)) (After : Nat → Shared → Prop)
    (hAfter : ∀ child s', s'.heap.get? a = some (lstObj vs n) → After child s' → ∃ c p, vs[child]? = some c ∧ vs[pos]? = some p ∧
      Q (.again (.builtin "_heapq.heapify.sift" (siftArgs a true child result))) { s' with heap := s'.heap.update a (Obj.mapSeq fun xs => (xs.setIfInBounds child p).setIfInBounds pos c) })
    (h0 : ¬ pos < vs.length / 2 → Q (.again (.builtin "_heapq.heapify.sift" (siftArgs a false pos result))) s)
    (h1 : pos < vs.length / 2 → ¬ 2 * pos + 1 + 1 < vs.length → After (2 * pos + 1) s)
    (h2 : pos < vs.length / 2 → 2 * pos + 1 + 1 < vs.length → ∃ l r, vs[2 * pos + 1]? = some l ∧ vs[2 * pos + 1 + 1]? = some r ∧
      wpAny (model prog w) A (richCompare .Lt l r) (fun v s' => ∃ b, v = .bool b ∧ s'.heap.get? a = some (lstObj vs n) ∧ After (if b = true then 2 * pos + 1 else 2 * pos + 1 + 1) s') E s) :
    wpAny (model prog w) A (Builtin.«_heapq.heapify.sift» (siftArgs a true pos result)) Q E s := by
  have ho0 := ho
  unfold lstObj at ho
  unfold siftArgs Builtin.«_heapq.heapify.sift»
  wp_walk using wpAny_loadPart' ho
  have hz : vs.length ≤ 16777216 := hz
  have hA : ∀ {i : Nat} {v : Value}, vs.toArray[i]? = some v → (match vs.toArray[i]? with | some v => pure v | none => unsupported "internal:_heapq.index" : Sem Value) = pure v := fun e => by rw [e]
  refine wpAny_ite_split (fun hp => ?_) (fun hp => ?_)
  · have hp : pos < vs.length / 2 := by simpa using hp
    have z := h1 hp
    have h2 := h2 hp
    have done : ∀ child s', s'.heap.get? a = some (lstObj vs n) → After child s' → ∃ c p, vs.toArray[child]? = some c ∧ vs.toArray[pos]? = some p ∧
      Q (.again (.builtin "_heapq.heapify.sift" (siftArgs a true child result))) { s' with heap := s'.heap.update a (Obj.mapSeq fun xs => (xs.setIfInBounds child p).setIfInBounds pos c) } := fun child s' e1 e2 => by
      obtain ⟨c, p, h1, h2, h3⟩ := hAfter child s' e1 e2
      exact ⟨c, p, by simpa using h1, by simpa using h2, h3⟩
    refine wpAny_ite_split (fun hl => ?_) (fun hl => ?_)
    · have hl : 2 * pos + 1 + 1 < vs.length := by simpa using hl
      obtain ⟨x, p, hx, hpp, h⟩ := h2 hl
      have hx' : vs.toArray[2 * pos + 1]? = some x := by simpa using hx
      have hp' : vs.toArray[2 * pos + 1 + 1]? = some p := by simpa using hpp
      refine wpAny_bind (wpAny_of_eq (a := x) (hA hx') ?_)
      refine wpAny_bind (wpAny_of_eq (a := p) (hA hp') ?_)
      rw [if_neg Bool.false_ne_true]
      refine wpAny_bind ?_
      show wpAny _ _ (holding [x, p] (richCompare .Lt x p >>= fun v => truthOfDropped v) >>= fun less => _) _ _ _
      refine wpAny_bind (wpAny_holding (wpAny_bind (wpAny_mono h (fun v s' hv => ?_) fun _ _ e => e)))
      obtain ⟨b, rfl, ho', hq⟩ := hv
      refine wpAny_truthy_bool ?_
      obtain ⟨c, p, hc, hp, hq⟩ := done _ _ ho' hq
      unfold lstObj at ho'
      wp_walk using wpAny_loadPart' ho'
      cases b with
      | true =>
        rw [if_pos rfl] at hc hq
        rw [if_neg (by simp)]
        refine wpAny_bind ?_
        wp_walk using wpAny_loadPart' ho'
        refine wpAny_of_eq (a := c) (hA hc) ?_
        refine wpAny_bind (wpAny_of_eq (a := p) (hA hp) ?_)
        refine wpAny_updateSeq ho' rfl ?_ (by show vs.toArray.size ≤ 16777216; simpa using hz) (by show _ ≤ 16777216 + 1; simp; exact far 1 [_] [.var 0, .num 16777217, .var 0, .num 16777216] rfl hz)
        wp_walk
        exact hq
      | false =>
        rw [if_neg Bool.false_ne_true] at hc hq
        rw [if_pos (show (!false) = true from rfl)]
        refine wpAny_bind ?_
        wp_walk using wpAny_loadPart' ho'
        refine wpAny_of_eq (a := c) (hA hc) ?_
        refine wpAny_bind (wpAny_of_eq (a := p) (hA hp) ?_)
        refine wpAny_updateSeq ho' rfl ?_ (by show vs.toArray.size ≤ 16777216; simpa using hz) (by show _ ≤ 16777216 + 1; simp; exact far 1 [_] [.var 0, .num 16777217, .var 0, .num 16777216] rfl hz)
        wp_walk
        exact hq
    · obtain ⟨c, p, hc, hp, hq⟩ := done _ _ ho0 (z (by simpa using hl))
      refine wpAny_bind ?_
      wp_walk using wpAny_loadPart' ho
      refine wpAny_of_eq (a := c) (hA hc) ?_
      refine wpAny_bind (wpAny_of_eq (a := p) (hA hp) ?_)
      refine wpAny_updateSeq ho rfl ?_ (by show vs.toArray.size ≤ 16777216; simpa using hz) (by show _ ≤ 16777216 + 1; simp; exact far 1 [_] [.var 0, .num 16777217, .var 0, .num 16777216] rfl hz)
      wp_walk
      exact hq
  · wp_walk
    exact h0 (by simpa using hp)

theorem push_wp {x : Value} (hz : vs.length ≤ 1000000) (ho : s.heap.get? a = some (lstObj vs n))
    (h : Q (.again (.builtin "_heapq.heapify.sift" (siftArgs a false vs.length .none))) { s with heap := s.heap.update a (Obj.mapSeq (·.push x)) }) :
    wpAny (model prog w) A (Builtin.«_heapq.heappush» ⟨[.ref a, x], []⟩) Q E s := by
  have ho0 := ho
  unfold lstObj at ho
  unfold Builtin.«_heapq.heappush»
  have f3 := AutoSeq1.sub_list_list
  refine wpAny_bind (m := _) ?_
  wp_walk using wpAny_loadPart' ho
  rw [show (Obj.mapSeq (fun x_1 => x_1.push x) (lstObj vs n)).data.pastItsLine = none from pastItsLine_seq (by show _ ≤ 16777216 + 1; simp; exact far 1 [_] [.var 0, .num 16777216, .var 0, .num 1000000] rfl hz)]
  refine wpAny_pure ?_
  have hu : (s.heap.update a (Obj.mapSeq (·.push x))).get? a = some { cls := .type "list", data := .seq (vs.toArray.push x) (n + 1) } := by
    rw [Heap.get?_update_self _ ho rfl]
    simp [Obj.mapSeq]
  wp_walk using wpAny_loadPart' hu
  simp only [Array.size_push, Nat.add_sub_cancel]
  wp_walk
  rw [List.size_toArray]
  exact h
theorem pop_wp (hz : vs.length ≤ 1000000) (ho : s.heap.get? a = some (lstObj vs n)) (last : Value) (rest : List Value) (hv : vs = rest ++ [last])
    (h0 : rest = [] → Q (.done (.ret last)) { s with heap := s.heap.update a (Obj.mapSeq (·.pop)) })
    (h1 : ∀ first r, rest = first :: r → Q (.again (.builtin "_heapq.heapify.sift" (siftArgs a true 0 first))) { s with heap := (s.heap.update a (Obj.mapSeq (·.pop))).update a (Obj.mapSeq (·.setIfInBounds 0 last)) }) :
    wpAny (model prog w) A (Builtin.«_heapq.heappop» ⟨[.ref a], []⟩) Q E s := by
  unfold lstObj at ho
  unfold Builtin.«_heapq.heappop»
  have f3 := AutoSeq1.sub_list_list
  wp_walk using wpAny_loadPart' ho
  rw [show vs.toArray.back? = some last from by rw [hv]; simp]
  refine wpAny_bind (wpAny_updateSeq ho rfl ?_ (by show vs.toArray.size ≤ 16777216; simp; exact far 1 [_] [.var 0, .num 16777216, .var 0, .num 1000000] rfl hz) (by show _ ≤ 16777216 + 1; simp; exact far 1 [_] [.var 0, .num 16777218, .var 0, .num 1000000] rfl hz))
  refine wpAny_ite_split (fun hl => ?_) (fun hl => ?_)
  · refine wpAny_pure (h0 ?_)
    have : vs.length = 1 := by simpa using hl
    rw [hv] at this
    simpa using this
  · have hu : (s.heap.update a (Obj.mapSeq (·.pop))).get? a = some { cls := .type "list", data := .seq (vs.toArray.pop) (n + 1) } := by
      have hpos : ¬ (vs.length - 1 = vs.length) := by rw [hv]; simp
      rw [Heap.get?_update_self _ ho rfl]
      simp [Obj.mapSeq, hpos]
    cases hr : rest with
    | nil => exact absurd (by rw [hv, hr]; rfl) hl
    | cons first r =>
      have h1 := h1 first r hr
      refine wpAny_bind (wpAny_of_eq (a := first) (show (match vs.toArray[0]? with | some v => pure v | none => unsupported "internal:_heapq.index" : Sem Value) = pure first from by rw [hv, hr]; rfl) ?_)
      refine wpAny_bind (wpAny_updateSeq hu rfl ?_ (by show vs.toArray.pop.size ≤ 16777216; simp; exact far 1 [_] [.var 0, .num 16777217, .var 0, .num 1000000] rfl hz) (by show _ ≤ 16777216 + 1; simp; exact far 1 [_] [.var 0, .num 16777218, .var 0, .num 1000000] rfl hz))
      wp_walk
      exact h1
end

noncomputable abbrev PQ := List (Value × Item)
noncomputable abbrev pqLt (a b : Value × Item) : Bool := itemLt a.2 b.2
noncomputable abbrev pqVals (ps : PQ) : List Value := ps.map (·.1)
noncomputable def PairsOk (F : PMap) (ps : PQ) : Prop := ∀ p ∈ ps, isPair F p.1 p.2
theorem PairsOk.mono {F F' : PMap} {ps : PQ} (h : PairsOk F ps) (le : PLe F F') : PairsOk F' ps := fun p hp => (h p hp).mono le
theorem entry_sift : entryFor table "_heapq.heapify.sift" = some Builtin.«_heapq.heapify.sift» := entryFor_of_tree (by kernel_rfl)
theorem entry_push : entryFor table "_heapq.heappush" = some Builtin.«_heapq.heappush» := entryFor_of_tree (by kernel_rfl)
theorem entry_pop : entryFor table "_heapq.heappop" = some Builtin.«_heapq.heappop» := entryFor_of_tree (by kernel_rfl)
theorem plain_sift : plainId "_heapq.heapify.sift" = true := by decide +kernel
theorem plain_push : plainId "_heapq.heappush" = true := by decide +kernel
theorem plain_pop : plainId "_heapq.heappop" = true := by decide +kernel
theorem kind_push : builtinKind "_heapq.heappush" = none := by decide +kernel
theorem kind_pop : builtinKind "_heapq.heappop" = none := by decide +kernel
theorem args_push (a b : Value) : argsOk "_heapq.heappush" ⟨[a, b], []⟩ := by unfold argsOk; kernel_rfl
theorem args_pop (a : Value) : argsOk "_heapq.heappop" ⟨[a], []⟩ := by unfold argsOk; kernel_rfl

section
variable {g : Glo} {k : Fun} {A : Around} {E : Value → Shared → Prop} {F : PMap} {X : XS} {G : GS} {s : Shared}
theorem ltPair {v u : Value} {x y : Item} {Q : Value → Shared → Prop} (hx : isPair F v x) (hy : isPair F u y) (hs : PLe F s.heap.get?) (hu : A.units < cLine) (h : Q (.bool (itemLt x y)) s) : wpAny (model g.prog g.w) A (richCompare .Lt v u) Q E s := by
  obtain ⟨a, n, t, t', rfl, fa⟩ := hx
  obtain ⟨b, m, u, u', rfl, fb⟩ := hy
  exact richCompare_meets_room (op := .Lt) ⟨_, hs _ _ fa, rfl⟩ ⟨_, hs _ _ fb, rfl⟩ PySem.F.slot_tuple_lt PySem.F.entry_tuple_lt (PySem.F.args_tuple_lt_2 _ _) (tuple_lt2 a b x y t t' u u' n m)
    ⟨hs _ _ fa, hs _ _ fb, show Value.bool (itemLt x y) ≠ Value.notImplemented ∧ Q (.bool (itemLt x y)) s from ⟨(fun e => nomatch e), h⟩⟩ hu
theorem isLi.lst {vs : List Value} {o : Obj} (r : isLi vs o) : ∃ n, o = lstObj vs n := by
  obtain ⟨c, d, dt, sl⟩ := o
  obtain ⟨h1, h2, h3, n, h4⟩ := r
  cases h1; cases h2; cases h3; cases h4
  exact ⟨n, rfl⟩
theorem upd_li {h : Heap} {a : Addr} {vs ws : List Value} {n : Nat} {f : Array Value → Array Value} (ho : h.get? a = some (lstObj vs n)) (hf : f vs.toArray = ws.toArray) : (Res.li ws).Holds g (h.update a (Obj.mapSeq f)) a := by
  refine ⟨_, Heap.get?_update_self _ ho rfl, ?_⟩
  refine ⟨rfl, rfl, rfl, if ((f vs.toArray).size == vs.toArray.size) = true then n else n + 1, ?_⟩
  show Data.seq (f vs.toArray) _ = _
  rw [hf]


theorem sift_up_code (hu : A.units + 1 < cLine) {q : Addr} {i : Nat} {result : Value} : ∀ (n pos : Nat) (ps : PQ) (s : Shared), pos < n → pos < ps.length → ps.length ≤ 1000000 → PairsOk F ps → X[i]? = some (q, .li (pqVals ps)) → St g k F X G s →
    ∀ (R : Result → Shared → Prop), (∀ s', St g k F (X.set i (q, .li (pqVals (upL pqLt n pos ps)))) G s' → R (.ok (.ret result)) s') → codeAny (model g.prog g.w) A (.builtin "_heapq.heapify.sift" (siftArgs q false pos result)) R s := by
  intro n
  induction n generalizing X with
  | zero => intro pos ps s h; omega
  | succ n ih =>
    intro pos ps s hn hp hz hok hx hs R hR
    obtain ⟨o, ho, r⟩ := hs.at hx
    obtain ⟨m, rfl⟩ := r.lst
    have hset : X.set i (q, .li (pqVals ps)) = X := by
      obtain ⟨h1, h2⟩ := List.getElem?_eq_some_iff.mp hx
      rw [← h2]; exact List.set_getElem_self h1
    refine codeAny_builtin entry_sift ?_
    rw [Around.under_plainId plain_sift _]
    refine sift_up_wp pos (by show _ ≤ 16777216; simp; exact far 1 [_] [.var 0, .num 16777216, .var 0, .num 1000000] rfl hz) ho (fun h0 => ?_) (fun h0 => ?_)
    · refine hR s ?_
      unfold upL
      rw [if_neg (by exact Nat.not_lt.mpr ((Nat.le_of_not_lt h0))), hset]
      exact hs
    · have hpp : (pos - 1) / 2 < ps.length := by exact far 2 [_, _, _, _] [.add (.var 0) (.num 1), .var 1, .add (.var 2) (.num 1), .var 1, .add (.var 2) (.num 1), .var 1, .mulR (.var 0) 2, .var 3, .var 3, .var 2] rfl hp hp (dvA _) (Nat.sub_le _ _)
      refine ⟨ps[pos].1, ps[(pos - 1) / 2].1, by simp [hp], by simp [hpp], ?_⟩
      refine ltPair (hok _ (List.getElem_mem hp)) (hok _ (List.getElem_mem hpp)) hs.fro hu ⟨_, rfl, ho, ?_⟩
      have hup : upL pqLt (n + 1) pos ps = if pqLt ps[pos] ps[(pos - 1) / 2] = true then upL pqLt n ((pos - 1) / 2) ((ps.set ((pos - 1) / 2) ps[pos]).set pos ps[(pos - 1) / 2]) else ps := by
        conv => lhs; unfold upL
        rw [if_pos h0, List.getElem?_eq_getElem hp, List.getElem?_eq_getElem hpp]
      rw [hup] at hR
      by_cases hlt : itemLt ps[pos].2 ps[(pos - 1) / 2].2 = true
      · rw [if_pos hlt]
        rw [if_pos hlt] at hR
        refine ⟨plainId_quiet plain_sift _, ?_⟩
        have st := hs.set (r' := .li (pqVals ((ps.set ((pos - 1) / 2) ps[pos]).set pos ps[(pos - 1) / 2]))) hx s.toks (h' := s.heap.update q (Obj.mapSeq fun xs => (xs.setIfInBounds ((pos - 1) / 2) ps[pos].1).setIfInBounds pos ps[(pos - 1) / 2].1))
          (fun b o hb e => ((Heap.SameBut.update ..).2 b hb).trans e) (upd_li ho (by simp [pqVals, List.map_set]))
        have hil : i < X.length := (List.getElem?_eq_some_iff.mp hx).1
        refine ih ((pos - 1) / 2) ((ps.set ((pos - 1) / 2) ps[pos]).set pos ps[(pos - 1) / 2]) _ (by exact far 2 [_, _, _, _] [.add (.var 0) (.num 1), .var 1, .add (.var 2) (.num 1), .add (.var 1) (.num 1), .add (.var 2) (.num 1), .add (.var 1) (.num 1), .mulR (.var 0) 2, .var 3, .add (.var 3) (.num 1), .var 2, .add (.var 3) (.num 1), .var 2] rfl hn hn (dvA _) (sbC (Nat.zero_lt_of_lt h0)) (sbC (Nat.zero_lt_of_lt h0))) (by simp; exact hpp) (by simpa using hz) (fun p hp' => ?_) (by simp [hil]) st R ?_
        · rcases List.mem_or_eq_of_mem_set hp' with h1 | rfl
          · rcases List.mem_or_eq_of_mem_set h1 with h1 | rfl
            · exact hok _ h1
            · exact hok _ (List.getElem_mem hp)
          · exact hok _ (List.getElem_mem hpp)
        · intro s' st'
          rw [List.set_set] at st'
          exact hR s' st'
      · rw [if_neg hlt]
        rw [if_neg hlt, hset] at hR
        exact hR s hs

theorem childL_lt {α : Type} {lt : α → α → Bool} {pos : Nat} {l : List α} (h : pos < l.length / 2) : childL lt pos l < l.length := by
  unfold childL
  split
  · rename_i h1 h2
    have := (List.getElem?_eq_some_iff.mp h2).1
    split <;> omega
  · exact far 1 [_, _, _] [.add (.add (.mulL 2 (.var 0)) (.num 1)) (.num 1), .var 1, .add (.var 0) (.num 1), .var 2, .add (.var 0) (.num 1), .var 2, .mulR (.var 2) 2, .var 1] rfl h h (dvA _)
theorem childL_gt {α : Type} {lt : α → α → Bool} {pos : Nat} {l : List α} : pos < childL lt pos l := by
  unfold childL
  split
  · split <;> omega
  · exact far 1 [_] [.add (.var 0) (.num 1), .add (.mulL 2 (.var 0)) (.num 1)] rfl

theorem sift_down_code (hu : A.units + 1 < cLine) {q : Addr} {i : Nat} {result : Value} : ∀ (n pos : Nat) (ps : PQ) (s : Shared), ps.length ≤ n + pos → pos < ps.length → ps.length ≤ 1000000 → PairsOk F ps → X[i]? = some (q, .li (pqVals ps)) → St g k F X G s →
    ∀ (R : Result → Shared → Prop), (∀ s', St g k F (X.set i (q, .li (pqVals (downL pqLt n pos ps)))) G s' → R (.ok (.ret result)) s') → codeAny (model g.prog g.w) A (.builtin "_heapq.heapify.sift" (siftArgs q true pos result)) R s := by
  intro n
  induction n generalizing X with
  | zero => intro pos ps s h; omega
  | succ n ih =>
    intro pos ps s hn hp hz hok hx hs R hR
    obtain ⟨o, ho, r⟩ := hs.at hx
    obtain ⟨m, rfl⟩ := r.lst
    have hil : i < X.length := (List.getElem?_eq_some_iff.mp hx).1
    refine codeAny_builtin entry_sift ?_
    rw [Around.under_plainId plain_sift _]
    have hl : (pqVals ps).length = ps.length := by simp
    have hdn : downL pqLt (n + 1) pos ps = if pos < ps.length / 2 then downL pqLt n (childL pqLt pos ps) ((ps.set (childL pqLt pos ps) ps[pos]).set pos (ps.getD (childL pqLt pos ps) ps[pos])) else upL pqLt (pos + 1) pos ps := by
      conv => lhs; unfold downL
      split
      · rename_i h0
        have hc := childL_lt (lt := pqLt) h0
        rw [List.getElem?_eq_getElem hc, List.getElem?_eq_getElem hp]
        simp [List.getD, hc]
      · rfl
    rw [hdn] at hR
    refine sift_down_wp pos (by show _ ≤ 16777216; simp; exact far 1 [_] [.var 0, .num 16777216, .var 0, .num 1000000] rfl hz) ho (fun child s' => s' = s ∧ child = childL pqLt pos ps ∧ pos < ps.length / 2) (fun child s' _ hA => ?_) (fun h0 => ?_) (fun h0 h1 => ?_) (fun h0 h1 => ?_)
    · obtain ⟨rfl, rfl, h0⟩ := hA
      have hc := childL_lt (lt := pqLt) h0
      have hg := childL_gt (lt := pqLt) (pos := pos) (l := ps)
      rw [if_pos h0] at hR
      refine ⟨ps[childL pqLt pos ps].1, ps[pos].1, by simp [hc], by simp [hp], plainId_quiet plain_sift _, ?_⟩
      have st := hs.set (r' := .li (pqVals ((ps.set (childL pqLt pos ps) ps[pos]).set pos ps[childL pqLt pos ps]))) hx s'.toks (h' := s'.heap.update q (Obj.mapSeq fun xs => (xs.setIfInBounds (childL pqLt pos ps) ps[pos].1).setIfInBounds pos ps[childL pqLt pos ps].1))
          (fun b o hb e => ((Heap.SameBut.update ..).2 b hb).trans e) (upd_li ho (by simp [pqVals, List.map_set]))
      refine ih (childL pqLt pos ps) ((ps.set (childL pqLt pos ps) ps[pos]).set pos ps[childL pqLt pos ps]) _ (by simp; exact far 1 [_, _, _, _] [.var 0, .add (.var 1) (.var 2), .var 0, .add (.add (.var 1) (.num 1)) (.var 3), .add (.var 3) (.num 1), .var 2] rfl hn hg) (by simpa using hc) (by simpa using hz) (fun p hp' => ?_) (by simp [hil]) st R ?_
      · rcases List.mem_or_eq_of_mem_set hp' with h1 | rfl
        · rcases List.mem_or_eq_of_mem_set h1 with h1 | rfl
          · exact hok _ h1
          · exact hok _ (List.getElem_mem hp)
        · exact hok _ (List.getElem_mem hc)
      · intro s' st'
        rw [List.set_set] at st'
        refine hR s' ?_
        rw [show ps.getD (childL pqLt pos ps) ps[pos] = ps[childL pqLt pos ps] from by simp [List.getD, hc]]
        exact st'
    · rw [hl] at h0
      rw [if_neg h0] at hR
      exact ⟨plainId_quiet plain_sift _, sift_up_code hu (pos + 1) pos ps s (Nat.lt_succ_self _) hp hz hok hx hs R hR⟩
    · rw [hl] at h0 h1
      refine ⟨rfl, ?_, h0⟩
      unfold childL
      rw [List.getElem?_eq_none (by exact Nat.le_of_not_lt h1 : ps.length ≤ 2 * pos + 1 + 1)]
      split
      · rename_i h; cases h
      · rfl
    · rw [hl] at h0 h1
      have h2 : 2 * pos + 1 < ps.length := by exact Nat.le_of_lt h1
      refine ⟨ps[2 * pos + 1].1, ps[2 * pos + 1 + 1].1, by simp [h2], by simp [h1], ?_⟩
      refine ltPair (hok _ (List.getElem_mem h2)) (hok _ (List.getElem_mem h1)) hs.fro hu ⟨_, rfl, ho, rfl, ?_, h0⟩
      unfold childL
      rw [List.getElem?_eq_getElem h2, List.getElem?_eq_getElem h1]

noncomputable def pushL (ps : PQ) (p : Value × Item) : PQ := upL pqLt (ps.length + 1) ps.length (ps ++ [p])
theorem W_heappush {q : Addr} {i : Nat} {ps : PQ} {v : Value} {x : Item} {Φ : Cont Value} (hu : A.units + 2 < cLine) (hx : X[i]? = some (q, .li (pqVals ps))) (hz : ps.length ≤ 100000) (hok : PairsOk F ps) (hv : isPair F v x)
    (h : Φ .none F (X.set i (q, .li (pqVals (pushL ps (v, x))))) G) : W g k A (call (.builtin "_heapq.heappush") [.ref q, v]) Φ E F X G := ⟨fun s hs => by
  obtain ⟨o, ho, r⟩ := hs.at hx
  obtain ⟨m, rfl⟩ := r.lst
  have hil : i < X.length := (List.getElem?_eq_some_iff.mp hx).1
  refine wpAny_call (codeAny_call_builtin plain_push entry_push ?_)
  have key : wpAny (model g.prog g.w) A.in1 (Builtin.«_heapq.heappush» ⟨[.ref q, v], []⟩) (fun fin s' => match fin with
      | .done f => (match (Except.ok f : Result) with | .ok (.ret v) => ∃ F' X' G', St g k F' X' G' s' ∧ Φ v F' X' G' | .ok _ => False | .error e => E e s')
      | .again c' => c'.quiet = true ∧ codeAny (model g.prog g.w) A c' (fun r s' => match r with | .ok (.ret v) => ∃ F' X' G', St g k F' X' G' s' ∧ Φ v F' X' G' | .ok _ => False | .error e => E e s') s') (fun e s' => E e s') s := by
    refine push_wp (by simp; exact far 1 [_] [.var 0, .num 1000000, .var 0, .num 100000] rfl hz) ho ⟨plainId_quiet plain_sift _, ?_⟩
    have st := hs.set (r' := .li (pqVals (ps ++ [(v, x)]))) hx s.toks (h' := s.heap.update q (Obj.mapSeq (·.push v)))
        (fun b o hb e => ((Heap.SameBut.update ..).2 b hb).trans e) (upd_li ho (by simp [pqVals]))
    have hl : (pqVals ps).length = ps.length := by simp
    rw [hl]
    refine sift_up_code (i := i) (by exact far 1 [_, _] [.add (.add (.var 0) (.num 1)) (.num 1), .var 1, .add (.add (.var 0) (.num 2)) (.num 1), .var 1] rfl hu) (ps.length + 1) ps.length (ps ++ [(v, x)]) _ (Nat.lt_succ_self _) (by simp) (by simp; exact far 1 [_] [.var 0, .num 999999, .var 0, .num 100000] rfl hz) (fun p hp => ?_) (by simp [hil]) st _ (fun s' st' => ?_)
    · rcases List.mem_append.mp hp with h1 | h1
      · exact hok _ h1
      · rw [List.mem_singleton.mp h1]; exact hv
    · rw [List.set_set] at st'
      exact st'.done h
  simp only [checkBuiltinCall, kind_push]
  cases hsig : Manifest.signature? "_heapq.heappush" with
  | none => exact wpAny_pure key
  | some sig =>
    have ha := args_push (.ref q) v
    simp only [argsOk, hsig] at ha
    have ha' : Bind.checkArgs "_heapq.heappush" sig ⟨[.ref q, v], []⟩ = pure () := ha
    simp only [ha']
    exact wpAny_pure key⟩

noncomputable def popL (ps : PQ) : PQ := match ps.getLast? with
  | none => []
  | some last => match ps.dropLast with
    | [] => []
    | _ :: r => downL pqLt (r.length + 1) 0 (last :: r)
theorem W_heappop {q : Addr} {i : Nat} {ps : PQ} {first : Value × Item} {r₀ : PQ} {Φ : Cont Value} (hu : A.units + 2 < cLine) (hx : X[i]? = some (q, .li (pqVals ps))) (hz : ps.length ≤ 100000) (hok : PairsOk F ps) (hne : ps = first :: r₀)
    (h : Φ first.1 F (X.set i (q, .li (pqVals (popL ps)))) G) : W g k A (call (.builtin "_heapq.heappop") [.ref q]) Φ E F X G := ⟨fun s hs => by
  obtain ⟨o, ho, r⟩ := hs.at hx
  obtain ⟨m, rfl⟩ := r.lst
  have hil : i < X.length := (List.getElem?_eq_some_iff.mp hx).1
  refine wpAny_call (codeAny_call_builtin plain_pop entry_pop ?_)
  have hnil : ps ≠ [] := by rw [hne]; simp
  have hsplit : ps = ps.dropLast ++ [ps.getLast hnil] := (List.dropLast_concat_getLast hnil).symm
  have hsplit' : pqVals ps = pqVals ps.dropLast ++ [(ps.getLast hnil).1] := by
    have := congrArg pqVals hsplit
    simpa [pqVals] using this
  have key : wpAny (model g.prog g.w) A.in1 (Builtin.«_heapq.heappop» ⟨[.ref q], []⟩) (fun fin s' => match fin with
      | .done f => (match (Except.ok f : Result) with | .ok (.ret v) => ∃ F' X' G', St g k F' X' G' s' ∧ Φ v F' X' G' | .ok _ => False | .error e => E e s')
      | .again c' => c'.quiet = true ∧ codeAny (model g.prog g.w) A c' (fun r s' => match r with | .ok (.ret v) => ∃ F' X' G', St g k F' X' G' s' ∧ Φ v F' X' G' | .ok _ => False | .error e => E e s') s') (fun e s' => E e s') s := by
    refine pop_wp (by simp; exact far 1 [_] [.var 0, .num 1000000, .var 0, .num 100000] rfl hz) ho (ps.getLast hnil).1 (pqVals ps.dropLast) hsplit' (fun h0 => ?_) (fun f1 r1 h1 => ?_)
    · have hd : ps.dropLast = [] := List.map_eq_nil_iff.mp h0
      have st := hs.set (r' := .li []) hx s.toks (h' := s.heap.update q (Obj.mapSeq (·.pop)))
        (fun b o hb e => ((Heap.SameBut.update ..).2 b hb).trans e) (upd_li ho (by rw [hsplit', hd]; simp [pqVals]))
      have e1 : popL ps = [] := by
        unfold popL
        rw [List.getLast?_eq_some_getLast hnil, hd]
      rw [e1] at h
      have e2 : ps.getLast hnil = first := by
        have h1 := hsplit
        rw [hd, List.nil_append] at h1
        have h2 : ps.getLast hnil ∈ ps := List.getLast_mem hnil
        have h3 : first ∈ ps := by rw [hne]; simp
        rw [h1] at h3
        exact (List.mem_singleton.mp h3).symm
      rw [e2]
      exact st.done h
    · cases hd : ps.dropLast with
      | nil => rw [hd] at h1; cases h1
      | cons f2 r2 =>
        rw [hd] at h1
        have h1 := List.cons.inj h1
        obtain ⟨h1, h2⟩ := h1
        subst h1 h2
        have e1 : popL ps = downL pqLt (r2.length + 1) 0 (ps.getLast hnil :: r2) := by
          unfold popL
          rw [List.getLast?_eq_some_getLast hnil, hd]
        have e2 : f2 = first := by
          have h3 : ps = f2 :: (r2 ++ [ps.getLast hnil]) := by
            have h4 := hsplit
            rw [hd] at h4
            exact h4
          have h5 : ps.head? = some f2 := by rw [h3]; rfl
          rw [hne] at h5
          exact (Option.some.inj h5).symm
        subst e2
        rw [e1] at h
        refine ⟨plainId_quiet plain_sift _, ?_⟩
        have hl : ps.length = r2.length + 2 := by have := congrArg List.length hsplit; rw [hd] at this; simpa using this
        have st := hs.set (r' := .li (pqVals (f2 :: r2))) hx s.toks (h' := s.heap.update q (Obj.mapSeq (·.pop)))
          (fun b o hb e => ((Heap.SameBut.update ..).2 b hb).trans e) (upd_li ho (by rw [hsplit', hd]; show Array.pop _ = _; rw [← List.push_toArray, Array.pop_push]))
        have hx2 : (X.set i (q, Res.li (pqVals (f2 :: r2))))[i]? = some (q, .li (pqVals (f2 :: r2))) := by simp [hil]
        obtain ⟨o2, ho2, r2'⟩ := st.at hx2
        obtain ⟨m2, rfl⟩ := r2'.lst
        have st2 := st.set (i := i) (r' := .li (pqVals (ps.getLast hnil :: r2))) hx2 s.toks (h' := (s.heap.update q (Obj.mapSeq (·.pop))).update q (Obj.mapSeq (·.setIfInBounds 0 (ps.getLast hnil).1)))
          (fun b o hb e => ((Heap.SameBut.update ..).2 b hb).trans e) (upd_li ho2 (by simp [pqVals]))
        rw [List.set_set] at st2
        refine sift_down_code (i := i) (by exact far 1 [_, _] [.add (.add (.var 0) (.num 1)) (.num 1), .var 1, .add (.add (.var 0) (.num 2)) (.num 1), .var 1] rfl hu) (r2.length + 1) 0 (ps.getLast hnil :: r2) _ (by simp) (by simp) (by simp; exact far 1 [_, _] [.var 0, .num 999999, .var 1, .num 100000, .add (.var 0) (.num 2), .var 1] rfl hz (Nat.le_of_eq hl.symm)) (fun p hp => ?_) (by simp [hil]) st2 _ (fun s' st' => ?_)
        · rcases List.mem_cons.mp hp with rfl | h1
          · exact hok _ (List.getLast_mem hnil)
          · exact hok _ (List.dropLast_subset _ (by rw [hd]; exact .tail _ h1))
        · rw [List.set_set] at st'
          exact st'.done h
  simp only [checkBuiltinCall, kind_pop]
  cases hsig : Manifest.signature? "_heapq.heappop" with
  | none => exact wpAny_pure key
  | some sig =>
    have ha := args_pop (.ref q)
    simp only [argsOk, hsig] at ha
    have ha' : Bind.checkArgs "_heapq.heappop" sig ⟨[.ref q], []⟩ = pure () := ha
    simp only [ha']
    exact wpAny_pure key⟩
end
end
section
/-! a function of the top, walked where it is called -/
section
variable {g : Glo} {k : Fun} {A : Around} {E : Value → Shared → Prop} {F : PMap} {X : XS} {G : GS} {s : Shared} {mg mb : Str → Option Value}

noncomputable def BodyIn (g : Glo) (k : Fun) (A : Around) (env : Env) (body : List Stmt) (Φ : Cont Value) (F : PMap) (X : XS) (G : GS) : Prop :=
  W g k (A.deeper env) (execs body env) (fun f F' X' G' => ∃ Z, Z.Sublist X' ∧ Φ (match f with | .ret v => v | _ => .none) F' Z G') (fun _ _ => False) F X G

theorem code_inline (T : Top0 g (KK g.w) mg mb) {a : Addr} {args : Args} (binds : List (Str × Value)) {Φ : Cont Value} {n : Nat} (hroom : Room A (n + 1)) {R : Result → Shared → Prop}
    (ho : (KK g.w).lookup a = some (objAt g.w a)) (hdata : (objAt g.w a).data = .func (fdAt g.w a)) (hcd : codeIn (KK g.w) (fdAt g.w a).code (fdAt g.w a).qualname = true) (hbody : (fdAt g.w a).body = .stmts (bodyAt g.w a))
    (hbind : bindArgs (fdAt g.w a) args = pure binds) (hgood : goodBinds (fdAt g.w a).scope.names binds = true)
    (hco : (fdAt g.w a).scope.isCoroutine = false) (hgen : (fdAt g.w a).scope.isGenerator = false) (hk : (fdAt g.w a).scope.kind = .function)
    (h : ∀ L m, BindsAre m binds → BodyIn g k A (eAt g.w a L) (bodyAt g.w a) Φ F ((L, .ns m) :: X) G) (hs : St g k F X G s)
    (hR : ∀ v F' X' G' s', St g k F' X' G' s' → Φ v F' X' G' → R (.ok (.ret v)) s') : codeAny (model g.prog g.w) A (.call (.ref a) args) R s := by
  simp only [goodBinds, Bool.and_eq_true, List.all_eq_true, decide_eq_true_eq] at hgood
  refine codeAny_call_function hroom.lt (hs.fro _ _ (T.get hs.base ho)) hdata hco hgen hbody ((T.code hs.base hcd).rec hs.fro) (BindsTo.of_eq hbind _ _ _ _ ?_)
  refine wpAny_newFunctionEnv hgood.2 hgood.1.1 (fun h₁ hns hsb => ⟨(T.nolimit.keeps hs.toOk.stays).fresh _ hsb, codeAny_func ?_⟩) hk
  have st := hs.own (r := .ns fun x => binds.reverse.lookup x) (h' := h₁) (fun b o e => hsb.extBut b o (Nat.ne_of_lt (Heap.lt_size e)) (Heap.get?_push_of_some _ e)) (s.toks + binds.length) (size_none _) hns
  refine wpAny_mono ((h s.heap.objs.size _ (bindsAre_rev hgood.1.2)).run _ st) (fun f s' ⟨F', X', G', st', Z, hZ, hP⟩ => ?_) fun _ _ x => x.elim
  exact hR _ _ _ _ _ (st'.drop hZ) hP

theorem W_inline (T : Top0 g (KK g.w) mg mb) {a : Addr} {pos : List Value} (binds : List (Str × Value)) {Φ : Cont Value} {n : Nat} (hroom : Room A (n + 1))
    (h : ∀ L m, BindsAre m binds → BodyIn g k A (eAt g.w a L) (bodyAt g.w a) Φ F ((L, .ns m) :: X) G)
    (ho : (KK g.w).lookup a = some (objAt g.w a)) (hdata : (objAt g.w a).data = .func (fdAt g.w a)) (hcd : codeIn (KK g.w) (fdAt g.w a).code (fdAt g.w a).qualname = true) (hbody : (fdAt g.w a).body = .stmts (bodyAt g.w a))
    (hbind : bindArgs (fdAt g.w a) ⟨pos, []⟩ = pure binds) (hgood : goodBinds (fdAt g.w a).scope.names binds = true)
    (hco : (fdAt g.w a).scope.isCoroutine = false) (hgen : (fdAt g.w a).scope.isGenerator = false) (hk : (fdAt g.w a).scope.kind = .function) : W g k A (call (.ref a) pos []) Φ E F X G := ⟨fun s hs =>
  wpAny_call (code_inline T binds hroom ho hdata hcd hbody hbind hgood hco hgen hk h hs fun v F' X' G' s' st hP => st.done hP)⟩

/-! instances -/
noncomputable def pqN : Str := Str.ofString "pq"
noncomputable abbrev wlC : Addr := 80
noncomputable def pqDict (h : Int) (t : Tok) (q : Addr) : Obj := dictOf [⟨h, .str pqN t, .ref q⟩] 1
theorem look_pq (h : Int) (t : Tok) (q : Addr) : lookIn pqN (pqDict h t q) = some (some (.ref q)) := by kernel_rfl
theorem look_no {name : Str} (hn : (Value.str pqN 0).isStr name = false) (h : Int) (t : Tok) (q : Addr) : lookIn name (pqDict h t q) = some none := by
  unfold lookIn pqDict
  have hn' : (Value.str pqN t).isStr name = false := hn
  simp [List.find?, hn', DictEntry.refKey]
/-- the work list v, with its queue at q -/
noncomputable def WLAt (F : PMap) (v : Value) (q : Addr) : Prop := ∃ x dx h t, v = .ref x ∧ F x = some (instObj wlC dx) ∧ F dx = some (pqDict h t q)
theorem WLAt.mono {F F' : PMap} {v : Value} {q : Addr} (x : WLAt F v q) (le : PLe F F') : WLAt F' v q := let ⟨x, dx, h, t, e, a, b⟩ := x; ⟨x, dx, h, t, e, le _ _ a, le _ _ b⟩

theorem W_getPq {v : Value} {q : Addr} {Φ : Cont Value} {expr : Bool} (T : Top0 g (KK g.w) mg mb) (hw : WLAt F v q) (h : Φ (.ref q) F X G) : W g k A (getAttr v pqN expr) Φ E F X G := ⟨fun s hs => by
  obtain ⟨x, dx, hh, t, rfl, hx, hd⟩ := hw
  have I : InstAt s.heap x (instObj wlC dx) wlC (some (pqDict hh t q)) := ⟨hs.fro _ _ hx, rfl, rfl, hs.fro _ _ hd⟩
  have hg : plainGet (KK g.w) wlC pqN = true := by kernel_rfl
  exact get_value (T.K.keeps hs.toOk.stays) I (plainGet_of hg).1 (findObj_own (attr := none) (by kernel_rfl) (by kernel_rfl) (by kernel_rfl) (look_pq hh t q)) (by rfl) ((hs.tok _).done h)⟩
theorem W_getMethod {v : Value} {q f : Addr} {name : Str} {pl : Sem Bool} {Φ : Cont (Value × List Value)} (T : Top0 g (KK g.w) mg mb) (hw : WLAt F v q) (hn : (Value.str pqN 0).isStr name = false)
    (hg : plainGet (KK g.w) wlC name = true) (hf : findIn (KK g.w) (.ref wlC) name = some (some (.ref f))) (ht : isFn (KK g.w) (.ref f) = true) (h : Φ (.ref f, [v]) F X G) : W g k A (getMethod v name pl) Φ E F X G := ⟨fun s hs => by
  obtain ⟨x, dx, hh, t, rfl, hx, hd⟩ := hw
  have I : InstAt s.heap x (instObj wlC dx) wlC (some (pqDict hh t q)) := ⟨hs.fro _ _ hx, rfl, rfl, hs.fro _ _ hd⟩
  exact method_fn (T.K.keeps hs.toOk.stays) I (plainGet_of hg).1 (plainGet_of hg).2 hf (beq_iff_eq.mp ht) (by show (lookIn name (pqDict hh t q)).map _ = _; rw [look_no hn]; rfl) (hs.done h)⟩
theorem osa_new {prog : Program} {w : World} {K : Frag} {x dx C : Addr} {ox : Obj} {tk : Tok} {q : Addr} {R : Result → Shared → Prop} (KI : K.In s.heap) (I : InstAt s.heap x ox C (some emptyDict)) (hd : ox.dict = some dx)
    (D : s.heap.get? dx = some emptyDict) (hp : plainOver K C = true) (ht : takerIn K C pqN = some none) (hh : (clsIn K C).any (·.hasDict) = true)
    (h : ∀ h' hsh t tk', h'.get? dx = some (pqDict hsh t q) → Heap.SameBut dx s.heap h' → R (.ok (.ret .none)) { s with heap := h', toks := tk' }) :
    codeAny (model prog w) A (.call (.builtin "object.__setattr__") ⟨[.ref x, .str pqN tk, .ref q], []⟩) R s := by
  refine osa_open KI I hp ht fun b => ?_
  obtain ⟨cd, hc, hd'⟩ := any_some hh
  obtain ⟨hx, hcl, hn, -⟩ := I
  obtain ⟨oc, odi, oda, osl⟩ := ox
  dsimp only at hcl hd
  subst hcl hd
  refine wpAny_bind (wpAny_pure (wpAny_bind (wpAny_bind (wpAny_loadPart hx (wpAny_bind ((looks_clsIn KI hc).here ?_))))))
  rw [hd']
  refine wpAny_pure (a := some dx) (wpAny_bind (wpAny_pure (wpAny_bind ?_)))
  unfold nsSet
  refine wpAny_bind (wpAny_bind (wpAny_askSetting (wpAny_pure (wpAny_bind (wpAny_mkText (wpAny_bind (wpAny_loadPart D ?_)))))))
  dsimp only
  rw [aRefKeyMayBeTheName_at]
  refine wpAny_ite_split (fun hc => by simp at hc) (fun _ => ?_)
  refine wpAny_updatePart D ?_
  have hu : ∀ hsh : Int, (s.heap.update dx (Obj.putName pqN hsh (.str pqN s.toks) (.ref q))).get? dx = some (pqDict hsh s.toks q) := fun hsh => by
    rw [Heap.get?_update_self _ D (by rw [show emptyDict = dictOf [] 0 from rfl, putName_dict]; rfl), show emptyDict = dictOf [] 0 from rfl, putName_dict]
    rfl
  refine wpAny_bind (wpAny_lookBehind (hu _) (by rfl) ?_)
  exact wpAny_pure (h _ _ _ _ (hu _) (Heap.SameBut.update ..))
theorem W_setPq {x dx : Addr} {q : Addr} {i j : Nat} {Φ : Cont Unit} (T : Top0 g (KK g.w) mg mb) (hx : X[i]? = some (x, .ob (instObj wlC dx))) (hd : X[j]? = some (dx, .ob emptyDict))
    (h : ∀ hsh t, Φ () F (X.set j (dx, .ob (pqDict hsh t q))) G) : W g k A (setAttr (.ref x) pqN (.ref q)) Φ E F X G := ⟨fun s hs => by
  have D : s.heap.get? dx = some emptyDict := hs.at hd
  have I : InstAt s.heap x (instObj wlC dx) wlC (some emptyDict) := ⟨hs.at hx, rfl, rfl, D⟩
  have KI := T.K.keeps hs.toOk.stays
  refine set_plain KI I (by kernel_rfl) (osa_new (s := { s with toks := s.toks + 1 }) KI I rfl D (by kernel_rfl) (by kernel_rfl) (by kernel_rfl) fun h' hsh t tk' hn hsb => ?_)
  exact (hs.set (r' := .ob (pqDict hsh t q)) hd _ (fun b o hb e => (hsb.2 b hb).trans e) hn).done (h _ _)⟩
theorem room_under {C : Addr} {rest : List Value} {kw : List (Str × Value)} {n : Nat} (h : Room A (n + 1)) : Room (A.under (.builtin "type.__call__" ⟨.ref C :: rest, kw⟩)) n := by
  have h1 : (Code.builtin "type.__call__" ⟨.ref C :: rest, kw⟩).weight = 1 := by rfl
  have h2 : (Code.builtin "type.__call__" ⟨.ref C :: rest, kw⟩).cUnits = 1 := by rfl
  refine ⟨?_, ?_⟩
  · show A.depth + _ + n ≤ 900
    rw [h1]
    have := h.1
    exact far 1 [_, _] [.add (.add (.var 0) (.num 1)) (.var 1), .num 900, .add (.var 0) (.add (.var 1) (.num 1)), .num 900] rfl this
  · show A.units + _ + 10 * n ≤ 9000
    rw [h2]
    have := h.2
    exact far 1 [_, _] [.add (.add (.var 0) (.num 1)) (.mulL 10 (.var 1)), .num 9000, .add (.var 0) (.mulL 10 (.add (.var 1) (.num 1))), .num 9000] rfl this
/-- WorkList() -/
theorem W_newWL {Φ : Cont Value} {n : Nat} (T : Top0 g (KK g.w) mg mb) (hroom : Room A (n + 2)) (h : ∀ F' v q, PLe F F' → WLAt F' v q → Φ v F' (X ++ [(q, .li [])]) G) : W g k A (call (.ref wlC) [] []) Φ E F X G := ⟨fun s hs => by
  have KI := T.K.keeps hs.toOk.stays
  have Y := makes_of (M := model g.prog g.w) KI (C := wlC) (by kernel_rfl)
  have st0 := hs.own (r := .ob emptyDict) (h' := s.heap.push emptyDict) (fun b o e => Heap.get?_push_of_some _ e) s.toks (size_none _) (Heap.get?_push_size _ rfl)
  have st1 := st0.own (r := .ob (instObj wlC s.heap.objs.size)) (h' := (s.heap.push emptyDict).push (instObj wlC s.heap.objs.size)) (fun b o e => Heap.get?_push_of_some _ e) s.toks (size_none _) (Heap.get?_push_size _ rfl)
  have hsz : (s.heap.push emptyDict).objs.size = s.heap.objs.size + 1 := Heap.size_push ..
  rw [hsz] at st1
  refine wpAny_call ?_
  obtain ⟨hp, gg, d, t, os⟩ := s
  refine make_core Y (looks_findIn KI (r := some (.ref 56)) (by kernel_rfl)) (fun self => bind_fn KI self (f := 56) (by kernel_rfl)) (.inl rfl) ?_
  have hroom' := room_under (C := wlC) (rest := []) (kw := []) hroom
  refine code_inline (F := F) (G := G) (Φ := fun v F' X' G' => v = .none ∧ F' = F ∧ G' = G ∧ ∃ hsh t q, X' = (hp.objs.size + 1, .ob (instObj wlC hp.objs.size)) :: (hp.objs.size, .ob (pqDict hsh t q)) :: (X ++ [(q, .li [])])) T [(Str.ofString "self", .ref (hp.objs.size + 1))] hroom'
    (by kernel_rfl) (by kernel_rfl) (by kernel_rfl) (by kernel_rfl) (by kernel_rfl) (by kernel_rfl) (by kernel_rfl) (by kernel_rfl) (by kernel_rfl) (fun L m hm => ?_) st1 (fun v F' X' G' s' st' hv => ?_)
  · simp only [BindsAre] at hm
    obtain ⟨hm, -⟩ := hm
    unfold BodyIn
    walk_at "w"
    walk_at "w"
    refine W_ListO ?_
    walk_at "w"
    refine ⟨by show 0 ≤ 16777216; exact Nat.zero_le _, fun q => ?_⟩
    walk_at "w"
    walk_at "w"
    refine W_setPq (i := 1) (j := 2) T rfl rfl fun hsh t => ?_
    walk_at "x"
    walk_at "w"
    exact ⟨_, List.sublist_cons_self _ _, rfl, rfl, rfl, hsh, t, q, rfl⟩
  · obtain ⟨rfl, rfl, rfl, hsh, t, q, rfl⟩ := hv
    have a1 := (st'.apart _ (.head _)).1
    have st2 := st'.freeze (i := 0) rfl (st'.at (i := 0) rfl)
    have a2 := (st2.apart _ (.head _)).1
    have st3 := st2.freeze (i := 0) rfl (st2.at (i := 0) rfl)
    have le1 := fset_le a1 (o := instObj wlC hp.objs.size)
    have le2 := fset_le a2 (o := pqDict hsh t q)
    exact ⟨rfl, st3.done (h _ _ q (le1.trans le2) ⟨_, _, hsh, t, rfl, le2 _ _ fset_self, fset_self⟩)⟩⟩
end
end
section
/-! raising a new exception while another may be handled -/
noncomputable def HOk (A : Around) (F : PMap) : Prop := A.handled = none ∨ ∃ e o vs, A.handled = some (.ref e) ∧ F e = some o ∧ o.data = .fields vs ∧ vs[2]? = some .none
theorem HOk.none {A : Around} {F : PMap} (h : A.handled = none) : HOk A F := .inl h
theorem HOk.mono {A : Around} {F F' : PMap} (h : HOk A F) (le : PLe F F') : HOk A F' := by
  rcases h with h | ⟨e, o, vs, h1, h2, h3, h4⟩
  · exact .inl h
  · exact .inr ⟨e, o, vs, h1, le _ _ h2, h3, h4⟩
theorem HOk.deeper {A : Around} {F : PMap} {env : Env} (h : HOk A F) : HOk (A.deeper env) F := h
theorem HOk.in1 {A : Around} {F : PMap} (h : HOk A F) : HOk A.in1 F := h
theorem entry_unchain : entryFor table "proto.unchain" = some Builtin.«proto.unchain» := entryFor_of_tree (by kernel_rfl)
theorem plain_unchain : plainId "proto.unchain" = true := by decide +kernel
section
variable {prog : Program} {w : World} {A : Around} {E : Value → Shared → Prop} {s : Shared} {α : Type}
theorem raiseNew_ok {F : PMap} {x : Addr} {o : Obj} {vs : Array Value} {Q : α → Shared → Prop} (hk : HOk A F) (hF : PLe F s.heap.get?) (hx : F x = none) (ho : s.heap.get? x = some o) (hd : o.data = .fields vs) (hn : 2 < vs.size)
    (h : ∀ h', (∃ o', h'.get? x = some o' ∧ o'.cls = o.cls) → Heap.ExtBut x s.heap h' → E (.ref x) { s with heap := h' }) : wpAny (model prog w) A (raiseNew (.ref x) : Sem α) Q E s := by
  unfold raiseNew
  refine wpAny_bind (wpAny_handled ?_)
  rcases hk with hk | ⟨e, oe, ves, hk, he, hed, he2⟩
  · rw [hk]
    exact wpAny_bind (wpAny_pure (wpAny_throw (h s.heap ⟨o, ho, rfl⟩ fun _ _ _ e => e)))
  · rw [hk]
    have hne : e ≠ x := fun q => by subst q; rw [hx] at he; cases he
    have hb : ((Value.ref e) != (Value.ref x)) = true := by
      simp only [bne_iff_ne, ne_eq]
      intro q; injection q with q; exact hne q
    dsimp only
    rw [hb]
    refine wpAny_bind ?_
    refine wpAny_holding (wpAny_runValue (codeAny_builtin entry_unchain ?_))
    rw [Around.under_plainId plain_unchain _]
    unfold Builtin.«proto.unchain»
    refine wpAny_bind (wpAny_field (hF _ _ he) hed (x := .none) he2 ?_)
    rw [if_pos (by rfl)]
    refine wpAny_pure ?_
    unfold updateField
    refine wpAny_bind (wpAny_bind (wpAny_load ho ?_))
    rw [hd]
    dsimp only
    rw [if_pos hn]
    refine wpAny_update ho ?_
    refine wpAny_throw (h _ ⟨_, Heap.get?_update_self _ ho (Obj.isFreed_of_fields (Obj.data_mapFields hd _)), Obj.cls_mapFields ..⟩ ?_)
    exact (Heap.SameBut.update ..).extBut

theorem PLe.below {F : PMap} {h : Heap} (hF : PLe F h.get?) {a : Addr} (ha : h.objs.size ≤ a) : F a = none := by
  cases e : F a with
  | none => rfl
  | some o => exact absurd (Heap.lt_size (hF _ _ e)) (Nat.not_lt.mpr ha)
theorem stopIter {F : PMap} {Q : α → Shared → Prop} (hk : HOk A F) (hF : PLe F s.heap.get?)
    (h : ∀ x h', (∃ o, h'.get? x = some o ∧ o.cls = .type "StopIteration") → (∀ b o, s.heap.get? b = some o → h'.get? b = some o) → E (.ref x) { s with heap := h' }) :
    wpAny (model prog w) A (newExc (.type "StopIteration") []) (fun a s' => wpAny (model prog w) A (raiseNew a : Sem α) Q E s') E s := by
  simp only [newExc, newTuple]
  refine wpAny_bind (wpAny_newObj_type ?_ (by size_fits))
  refine wpAny_bind (m := firstArgMember _ _) (wpAny_of_eq (a := Value.none) (by first | rfl | (simp only [firstArgMember]; rfl)) ?_)
  refine wpAny_newObj_type ?_ (by size_fits)
  have k1 : ∀ b o, s.heap.get? b = some o → ((s.heap.push { cls := .type "tuple", data := .seq ([] : List Value).toArray }).push { cls := .type "StopIteration", data := .fields (#[.ref s.heap.objs.size, .none, .none, .none, .bool false, .none] ++ ownMembersOf (.type "StopIteration") []) }).get? b = some o :=
    fun b o e => Heap.get?_push_of_some _ (Heap.get?_push_of_some _ e)
  refine raiseNew_ok (F := F) hk (fun b o e => k1 b o (hF _ _ e)) ?_ (Heap.get?_push_size _ rfl) rfl ?_ fun h' ho' he' => ?_
  · refine hF.below ?_
    show _ ≤ (s.heap.push _).objs.size
    rw [Heap.size_push]
    exact far 1 [_] [.var 0, .add (.var 0) (.num 1)] rfl
  · rw [Array.size_append]
    exact Nat.lt_of_lt_of_le (by decide : 2 < 6) (Nat.le_add_right 6 _)
  refine h _ h' ho' fun b o e => he' b o ?_ (k1 b o e)
  intro q
  have h1 := Heap.lt_size e
  have h2 : b = (s.heap.push { cls := .type "tuple", data := .seq ([] : List Value).toArray }).objs.size := q
  rw [Heap.size_push] at h2
  rw [h2] at h1
  exact Nat.lt_irrefl _ (Nat.lt_trans h1 (Nat.lt_succ_self _))

theorem tuple_end {F : PMap} {it t : Addr} {i : Nat} {items} {Q : Option Value → Shared → Prop} (hk : HOk A F) (hF : PLe F s.heap.get?) (hit0 : F it = none)
    (hit : IsTupIter s.heap it t i) (ht : IsTup s.heap t items) (hx : items[i]? = none)
    (hQ : ∀ h', Heap.ExtBut it s.heap h' → Q none { s with heap := h' }) : wpAny (model prog w) A (pyNext (.ref it)) Q E s := by
  obtain ⟨o, ho, hc, hd⟩ := id hit
  obtain ⟨ol, hol, _, nl, hdl⟩ := ht
  unfold pyNext
  refine wpAny_bind (wpAny_attempt (wpAny_callSpecial?_slot (name := Str.ofString "__next__") hit.typeIs slot_tupleiter_next
    (wpAny_call_entry slot_tupleiter_next hit.typeIs entry_tupleiter_next ?_ (args_tupleiter_next _))))
  refine wpAny_bind (m := field (.ref it) 0) (wpAny_field ho hd (x := .ref t) rfl ?_)
  refine wpAny_ite_split (fun q => by cases q) (fun _ => ?_)
  refine wpAny_bind (m := field (.ref it) 1) (wpAny_field ho hd (x := .int i 0) rfl ?_)
  refine wpAny_bind (m := seqItems? (.ref t)) (wpAny_seqItems hol hdl ?_)
  simp only [Int.toNat_natCast, hx]
  refine wpAny_bind (wpAny_rule (wpAny_bind (wpAny_setField ho hd (by simp) ?_)))
  refine wpAny_bind ?_
  refine stopIter (s := { s with heap := s.heap.update it (Obj.mapFields (·.setIfInBounds 0 .none)) }) hk.in1 (fun b ob e => (Heap.SameBut.update ..).extBut b ob (fun q => absurd (hit0.symm.trans (q ▸ e)) (by simp)) (hF _ _ e)) fun x h' ⟨o', ho', hc'⟩ he' => ?_
  refine wpAny_bind (wpAny_isInstance (T := "StopIteration") (b := true) ⟨_, ho', hc'⟩ isSubtype_stop ?_)
  exact wpAny_pure (hQ _ fun b ob hb e => he' b ob ((Heap.SameBut.update ..).extBut b ob hb e))
end

section
variable {g : Glo} {k : Fun} {A : Around} {E : Value → Shared → Prop} {F : PMap} {X : XS} {G : GS} {env : Env} {s : Shared} {mg mb : Str → Option Value}
theorem W_unpack2 {t₁ t₂ : Expr} {n : Nat} {pos : Pos} {v x y : Value} {Φ : Cont Unit} (hk : HOk A F) (hv : FTup F v [x, y])
    (h : W g k A (assign t₁ env x) (fun _ => W g k A (assign t₂ env y) Φ E) E F X G)
    (he : assignEach [t₁, t₂] env = [(false, assign t₁ env), (false, assign t₂ env)] := by kernel_rfl) : W g k A (assign (.Tuple [t₁, t₂] n pos) env v) Φ E F X G := ⟨fun s hs => by
  obtain ⟨t, m, rfl, ft⟩ := hv
  have hF := hs.fro
  have ht : IsTup s.heap t #[x, y] := ⟨_, hF _ _ ft, rfl, m, rfl⟩
  have hlt : t ≠ s.heap.objs.size := Nat.ne_of_lt ht.lt
  rw [assign_Tuple, he]
  refine wpAny_bind (wpAny_standAt ?_)
  unfold unpack
  refine wpAny_bind (wpAny_holding ?_)
  show wpAny _ A (unpackItems (.ref t) 2 none) _ E s
  unfold unpackItems notIterableAtAll
  refine wpAny_bind (wpAny_bind (wpAny_specialOf ht.typeIs slot_tuple_iter.lookup (wpAny_pure ?_)))
  refine wpAny_ite_split (fun q => by cases q) (fun _ => ?_)
  refine wpAny_bind (wpAny_holding (iter_tuple ht ?_))
  refine wpAny_bind (wpAny_holding (draw_tuple hlt 2 0 _ _ ⟨_, Heap.get?_push_size _ rfl, rfl, rfl⟩ (ht.push _) (by show 0 + 2 ≤ 2; exact far 1 [] [.add (.num 0) (.num 2), .num 2] rfl) fun h₁ hit₁ hs₁ => ?_))
  refine wpAny_ite_split (fun q => by simp at q) (fun _ => ?_)
  have ht₁ : IsTup h₁ t #[x, y] := (ht.push _).extBut hs₁.extBut hlt
  have kF : PLe F h₁.get? := fun b ob e => hs₁.extBut b ob (Nat.ne_of_lt (Heap.lt_size (hF _ _ e))) (Heap.get?_push_of_some _ (hF _ _ e))
  refine wpAny_bind (wpAny_holding (tuple_end hk kF (hF.below (Nat.le_refl _)) hit₁ ht₁ (by rfl) fun h₂ he₂ => ?_))
  refine wpAny_ite_split (fun q => by cases q) (fun _ => ?_)
  refine wpAny_pure ?_
  have st := hs.grow (h' := h₂) (fun b o e => he₂ b o (Nat.ne_of_lt (Heap.lt_size e)) (hs₁.extBut b o (Nat.ne_of_lt (Heap.lt_size e)) (Heap.get?_push_of_some _ e))) s.toks
  refine assignInOrder_cons (h.then st fun _ F X G s st h => assignInOrder_cons (h.then st fun _ F X G s st h => assignInOrder_nil (st.done h)))⟩
end
end
section
section
variable {g : Glo} {k : Fun} {A : Around} {E : Value → Shared → Prop} {F : PMap} {X : XS} {G : GS} {env : Env} {s : Shared} {mg mb : Str → Option Value}
theorem W_CallWl {o : Expr} {name : Str} {apos pos : Pos} {args : List Expr} {Φ : Cont Value} {f : Addr} (T : Top0 g (KK g.w) mg mb)
    (h : W g k A (eval o env) (fun ov F X G => (∃ q, WLAt F ov q) ∧ W g k A (callWith pos (.ref f) [ov] (backTo pos (starEach args env)) []) Φ E F X G) E F X G)
    (hn : (Value.str pqN 0).isStr name = false) (hg : plainGet (KK g.w) wlC name = true) (hf : findIn (KK g.w) (.ref wlC) name = some (some (.ref f))) (ht : isFn (KK g.w) (.ref f) = true)
    (hbase : attributeBase o name env (eval o env) = eval o env := by kernel_rfl)
    (hfew : ((backTo pos (starEach args env)).all (fun x => !x.1) && (backToKw pos (keywordEach [] env)).all (fun x => x.1.isSome)
      && decide (args.length + ([] : List Keyword).length + (if ([] : List Keyword).isEmpty then 0 else 1) < 30)) = true := by kernel_rfl)
    (hline : (apos.endLine == pos.line) = true := by kernel_rfl) : W g k A (eval (.Call (.Attribute o name apos) args [] pos) env) Φ E F X G := ⟨fun s hs => by
  rw [arm_eval_Call, hbase]
  refine wpAny_bind (h.then hs fun ov F X G s st hw => wpAny_bind (wpAny_standAt ?_))
  obtain ⟨⟨q, hw⟩, hc⟩ := hw
  have hform : methodCallForm (args.length + ([] : List Keyword).length) (backTo pos (starEach args env)) (backToKw pos (keywordEach [] env)) = true := hfew
  have hpos : methodCallPos true o env apos pos = pure pos := by unfold methodCallPos; simp [hline]
  unfold methodCall
  rw [hform]
  refine wpAny_bind (wpAny_holding ?_)
  refine (W_getMethod (Φ := fun r F' X' G' => r = (.ref f, [ov]) ∧ F' = F ∧ X' = X ∧ G' = G) T hw hn hg hf ht ⟨rfl, rfl, rfl, rfl⟩).then st fun r F' X' G' s st' hr => ?_
  obtain ⟨rfl, rfl, rfl, rfl⟩ := hr
  exact wpAny_bind (wpAny_of_eq hpos (hc.run _ st'))⟩
theorem keeps_top (T : Top0 g (KK g.w) mg mb) (hF : PLe g.base.get? F) {a : Addr} (ho : (KK g.w).lookup a = some (objAt g.w a)) (hdata : (objAt g.w a).data = .func (fdAt g.w a)) : Keeps g (.ref a) F := Keeps.func (T.get hF ho) hdata
theorem W_tTup {v : Value} {x y : Value} {Φ : Cont Bool} (hv : FTup F v [x, y]) (h : Φ true F X G) : W g k A (truthy v) Φ E F X G := ⟨fun s hs => by
  obtain ⟨t, m, rfl, ft⟩ := hv
  have ht : IsTup s.heap t #[x, y] := ⟨_, hs.fro _ _ ft, rfl, m, rfl⟩
  exact truthy_tuple ht (by show ((2 : Nat) : Int) < 2 ^ 63; decide) ((hs.tok _).done h)⟩
theorem W_Attr {x : Str} {p pos : Pos} {attr : Str} {Φ : Cont Value} (h : W g k A (eval (.Name x p) env) (fun o => W g k A (getAttr o attr true) Φ E) E F X G)
    (hbase : attributeBase (.Name x p) attr env (eval (.Name x p) env) = eval (.Name x p) env := by kernel_rfl) : W g k A (eval (.Attribute (.Name x p) attr pos) env) Φ E F X G := ⟨fun s hs => by
  rw [arm_eval_Attribute, hbase]
  refine wpAny_bind (h.then hs fun o F X G s st h => wpAny_bind (wpAny_standAt (wpAny_bind (wpAny_holding (h.then st fun r F X G s st h => ?_)))))
  exact wpAny_bind (wpAny_pure (wpAny_pure (st.done h)))⟩
theorem FTup.pair {v : Value} {d : Int} {c : List UInt8} {t u : Tok} (h : FTup F v [.int d t, .bytes c.toArray u]) : isPair F v (d, c) := by
  obtain ⟨a, n, rfl, f⟩ := h
  exact ⟨a, n, t, u, rfl, f⟩
theorem isPair.tup {v : Value} {x : Item} (h : isPair F v x) : ∃ t u, FTup F v [.int x.1 t, .bytes x.2.toArray u] := by
  obtain ⟨a, n, t, u, rfl, f⟩ := h
  exact ⟨t, u, a, n, rfl, f⟩

/-- WorkList.add -/
theorem W_wlAdd {v tv : Value} {q : Addr} {i : Nat} {ps : PQ} {d : Int} {c : List UInt8} {Φ : Cont Value} {n : Nat} (T : Top0 g (KK g.w) mg mb) (hroom : Room A (n + 2)) (hk : HOk A F) (hF : PLe g.base.get? F) (hw : WLAt F v q)
    (hx : X[i]? = some (q, .li (pqVals ps))) (hz : ps.length ≤ 50000) (hok : PairsOk F ps) (htv : isPair F tv (d, c))
    (h : ∀ F' pv, PLe F F' → isPair F' pv (-d, c) → Φ .none F' (X.set i (q, .li (pqVals (pushL ps (pv, (-d, c)))))) G) : W g k A (call (.ref 63) [v, tv] []) Φ E F X G := by
  refine W_inline (n := n + 1) T [(Str.ofString "self", v), (Str.ofString "item", tv)] hroom (fun L m hm => ?_) (by kernel_rfl) (by kernel_rfl) (by kernel_rfl) (by kernel_rfl) (by kernel_rfl) (by kernel_rfl) (by kernel_rfl) (by kernel_rfl) (by kernel_rfl)
  simp only [BindsAre] at hm
  obtain ⟨hm1, hm2, -⟩ := hm
  obtain ⟨t, u, htv⟩ := htv.tup
  unfold BodyIn
  walk_at "w"
  walk_at "w"
  walk_at "w"
  walk_at "w"
  refine W_unpack2 hk.deeper htv ?_
  walk_at "w"
  walk_at "w"
  walk_at "x"
  walk_at "w"
  walk_at "w"
  walk_at "x"
  walk_at "w"
  walk_at "w"
  walk_at "w"
  walk_at "w"
  walk_at "w"
  walk_at "w"
  walk_at "w"
  refine W_Attr ?_
  walk_at "w"
  walk_at "w"
  refine W_getPq T hw ?_
  walk_at "ws"
  walk_at "ws"
  refine ⟨by show 2 ≤ 16777216; exact far 1 [] [.num 2, .num 16777216] rfl, fun F1 pv le1 hpv => ?_⟩
  walk_at "ws"
  refine W_heappush (i := i + 1) (ps := ps) (x := (-d, c)) ?_ (by simpa using hx) (by exact far 1 [_] [.var 0, .num 100000, .var 0, .num 50000] rfl hz) (hok.mono le1) hpv.pair ?_
  · have h1 := hroom.2
    have e1 : (A.deeper (eAt g.w 63 L)).units = A.units + 3 := rfl
    have e2 : cLine = 9900 := rfl
    exact far 1 [_, _, _, _] [.add (.add (.var 0) (.num 2)) (.num 1), .var 1, .add (.var 2) (.mulL 10 (.add (.var 3) (.num 2))), .num 9000, .var 0, .add (.var 2) (.num 3), .num 9900, .var 1] rfl h1 (Nat.le_of_eq e1) (Nat.le_of_eq e2.symm)
  walk_at "ws"
  exact ⟨_, List.sublist_cons_self _ _, h _ _ le1 hpv.pair⟩

/-- WorkList.get -/
theorem W_wlGet {v : Value} {q : Addr} {i : Nat} {ps r₀ : PQ} {first : Value × Item} {Φ : Cont Value} {n : Nat} (T : Top0 g (KK g.w) mg mb) (hroom : Room A (n + 2)) (hk : HOk A F) (hF : PLe g.base.get? F) (hw : WLAt F v q)
    (hx : X[i]? = some (q, .li (pqVals ps))) (hz : ps.length ≤ 50000) (hok : PairsOk F ps) (hne : ps = first :: r₀)
    (h : ∀ F' rv, PLe F F' → isPair F' rv (-first.2.1, first.2.2) → Φ rv F' (X.set i (q, .li (pqVals (popL ps)))) G) : W g k A (call (.ref 70) [v] []) Φ E F X G := by
  refine W_inline (n := n + 1) T [(Str.ofString "self", v)] hroom (fun L m hm => ?_) (by kernel_rfl) (by kernel_rfl) (by kernel_rfl) (by kernel_rfl) (by kernel_rfl) (by kernel_rfl) (by kernel_rfl) (by kernel_rfl) (by kernel_rfl)
  simp only [BindsAre] at hm
  obtain ⟨hm1, -⟩ := hm
  unfold BodyIn
  walk_at "ws"
  refine W_Attr ?_
  walk_at "ws"
  refine W_getPq T hw ?_
  walk_at "ws"
  refine W_heappop (i := i + 1) (ps := ps) ?_ (by simpa using hx) (by exact far 1 [_] [.var 0, .num 100000, .var 0, .num 50000] rfl hz) hok hne ?_
  · have h1 := hroom.2
    have e1 : (A.deeper (eAt g.w 70 L)).units = A.units + 3 := rfl
    have e2 : cLine = 9900 := rfl
    exact far 1 [_, _, _, _] [.add (.add (.var 0) (.num 2)) (.num 1), .var 1, .add (.var 2) (.mulL 10 (.add (.var 3) (.num 2))), .num 9000, .var 0, .add (.var 2) (.num 3), .num 9900, .var 1] rfl h1 (Nat.le_of_eq e1) (Nat.le_of_eq e2.symm)
  have hfp : isPair F first.1 first.2 := hok _ (by rw [hne]; exact .head _)
  obtain ⟨t, u, htv⟩ := hfp.tup
  walk_at "ws"
  refine W_tTup htv ?_
  rw [if_pos rfl]
  walk_at "ws"
  refine W_unpack2 hk.deeper htv ?_
  walk_at "ws"
  refine ⟨by show 2 ≤ 16777216; exact far 1 [] [.num 2, .num 16777216] rfl, fun F1 rv le1 hrv => ?_⟩
  exact ⟨_, List.sublist_cons_self _ _, h _ _ le1 hrv.pair⟩
end
end
section
/-! a for-loop within a generator -/
section
variable {prog : Program} {w : World} {A : Around} {R : GenEnd} {Y : Protocol} {n : Nat} {s₀ : Shared} {c : Code} {fs : List Frame} {s : Shared} {env : Env}
  {K : Flow → Sem PySem.Fin} {H : Value → Sem PySem.Fin} {gd : Bool → Bool} {lv : List Value → List Value}

/-- the frame that a for-loop leaves below it -/
noncomputable def forFrame (env : Env) (K : Flow → Sem PySem.Fin) (H : Value → Sem PySem.Fin) (gd : Bool → Bool) (lv : List Value → List Value) (c : Code) (p : Pos) (l : List Value) : Frame :=
  .ret (fun r => ((match r with | .ok f => (.pure f : Sem Flow) | .error e => .raise e).onRaise fun (x : Value) => do
        if (← field x 1) == Value.none then unsupported "frame.own-activation:exception-without-traceback"
        setFlight x env.frame).wrap K H gd lv) none (gd false) l c p []

theorem seg_For {target iter : Expr} {body : List Stmt} {pos : Pos}
    (h : wpAny (model prog w) (A.over c fs) (eval iter env) (fun x s' => wpAny (model prog w) (A.over c fs) (pyIter x) (fun it s'' => ∀ p l,
      Seg (model prog w) A R Y n s₀ (.forLoop target it body [] env) ((model prog w).den (.forLoop target it body [] env)) (forFrame env K H gd lv c p l :: fs) s'') (fun _ _ => False) s') (fun _ _ => False) s)
    (hs : ∀ x, foldedSetIterable iter env x = pure x) : Seg (model prog w) A R Y n s₀ c ((exec (.For target iter body [] pos) env).wrap K H gd lv) fs s := by
  rw [exec_For]
  refine seg_bind_wrap (wpAny_standAt ?_)
  refine seg_bind_wrap (wpAny_mono h (fun x s' h => ?_) fun _ _ x => x.elim)
  refine seg_bind_wrap (wpAny_of_eq (hs x) ?_)
  refine seg_bind_wrap (wpAny_standAt ?_)
  refine seg_bind_wrap (wpAny_holding (wpAny_mono h (fun it s'' h => ?_) fun _ _ x => x.elim))
  exact seg_call fun p => h p _

theorem seg_loop_end {target : Expr} {it : Value} {body : List Stmt} {p : Pos} {l : List Value} (hK : Seg (model prog w) A R Y n s₀ c (K .next) fs s) :
    Seg (model prog w) A R Y n s₀ (.forLoop target it body [] env) (.pure (.again (.block [] env))) (forFrame env K H gd lv c p l :: fs) s := by
  refine seg_again rfl ?_
  show Seg _ A R Y n s₀ _ (.pure (.done .next)) _ s
  exact seg_leaf (.ok .next) hK

theorem seg_forLoop {target : Expr} {it : Value} {body : List Stmt}
    (h : wpAny (model prog w) (A.over (.forLoop target it body [] env) fs) (pyNext it) (fun r s' => match r with
      | none => Seg (model prog w) A R Y n s₀ (.forLoop target it body [] env) (.pure (.again (.block [] env))) fs s'
      | some v => wpAny (model prog w) (A.over (.forLoop target it body [] env) fs) (letOwnedTupleGo target it v) (fun _ s' => wpAny (model prog w) (A.over (.forLoop target it body [] env) fs) (assign target env v) (fun _ s' => ∀ H' : Value → Sem PySem.Fin,
          Seg (model prog w) A R Y n s₀ (.forLoop target it body [] env) ((execs body env).wrap (fun f => match f with
            | .next | .cont => .pure (.again (.forLoop target it body [] env))
            | .brk => .pure (.done .next)
            | .ret v => .pure (.done (.ret v))) H' id id) fs s') (fun _ _ => False) s') (fun _ _ => False) s') (fun _ _ => False) s) :
    Seg (model prog w) A R Y n s₀ (.forLoop target it body [] env) ((model prog w).den (.forLoop target it body [] env)) fs s := by
  show Seg _ A R Y n s₀ _ ((forTurn target it body [] env).onRaise (fun x => do noteFrame x env; theTreesLotGoes x)) fs s
  unfold forTurn
  rw [Sem.onRaise_eq_wrap]
  refine seg_bind_wrap (wpAny_standAt ?_)
  refine seg_bind_wrap (wpAny_onRaise (wpAny_mono h (fun r s' h => ?_) fun _ _ x => x.elim))
  cases r with
  | none => exact h
  | some v =>
    refine seg_bind_wrap (wpAny_mono h (fun _ s' h => ?_) fun _ _ x => x.elim)
    refine seg_bind_wrap (wpAny_mono h (fun _ s' h => ?_) fun _ _ x => x.elim)
    rw [Sem.bind_eq_wrap', Sem.wrap_wrap]
    have := h (fun e => (do noteFrame e env; theTreesLotGoes e : Sem Unit).wrap (fun _ => .raise e) .raise id id)
    rw [Sem.wrap_congr (execs body env) _ _ (K' := fun f => match f with
            | .next | .cont => .pure (.again (.forLoop target it body [] env))
            | .brk => .pure (.done .next)
            | .ret v => .pure (.done (.ret v))) (H' := (fun e => (do noteFrame e env; theTreesLotGoes e : Sem Unit).wrap (fun _ => .raise e) .raise id id))
        (fun f => by cases f <;> rfl)
        (fun e => by show (do noteFrame e env; theTreesLotGoes e : Sem Unit).bind (fun _ => .raise e) = _; rw [Sem.bind_eq_wrap])]
    exact this
end
end
section
section
variable {prog : Program} {w : World} {A : Around} {E : Value → Shared → Prop} {s : Shared} {env : Env}
theorem unpack2_wp {t₁ t₂ : Expr} {n m : Nat} {pos : Pos} {t : Addr} {x y : Value} {Q : Unit → Shared → Prop} (hh : A.handled = none) (ft : s.heap.get? t = some (tupObj [x, y] m))
    (h : ∀ h', (∀ b o, s.heap.get? b = some o → h'.get? b = some o) → wpAny (model prog w) A (assign t₁ env x) (fun _ s' => wpAny (model prog w) A (assign t₂ env y) Q E s') E { s with heap := h' })
    (he : assignEach [t₁, t₂] env = [(false, assign t₁ env), (false, assign t₂ env)] := by kernel_rfl) : wpAny (model prog w) A (assign (.Tuple [t₁, t₂] n pos) env (.ref t)) Q E s := by
  have ht : IsTup s.heap t #[x, y] := ⟨_, ft, rfl, m, rfl⟩
  refine assign_Tuple_tuple hh ht (by rw [he]; rfl) (by rw [he]; rfl) fun h' he' => ?_
  rw [he]
  refine assignInOrder_cons (wpAny_mono (h h' fun b o e => he' b o (Nat.ne_of_lt (Heap.lt_size e)) e) (fun _ s h => assignInOrder_cons (wpAny_mono h (fun _ s h => assignInOrder_nil h) fun _ _ e => e)) fun _ _ e => e)
end

theorem attr_wp {M : Model} {A : Around} {E : Value → Shared → Prop} {s : Shared} {env : Env} {x attr : Str} {p pos : Pos} {Q : Value → Shared → Prop} (h : wpAny M A (eval (.Name x p) env) (fun o s' => wpAny M A (getAttr o attr true) Q E s') E s)
    (hbase : attributeBase (.Name x p) attr env (eval (.Name x p) env) = eval (.Name x p) env := by kernel_rfl) : wpAny M A (eval (.Attribute (.Name x p) attr pos) env) Q E s := by
  rw [arm_eval_Attribute, hbase]
  exact wpAny_bind (wpAny_mono h (fun o s h => wpAny_bind (wpAny_standAt (wpAny_bind (wpAny_holding (wpAny_mono h (fun r s h => wpAny_bind (wpAny_pure (wpAny_pure h))) fun _ _ e => e))))) fun _ _ e => e)

/-! the work list's generator -/
/-- what the generator asks of the state when it is woken before item i -/
structure GReady (g : Glo) (Lg q it : Addr) (wl : Value) (ps : PQ) (i : Nat) (F : PMap) (s : Shared) : Prop where
  pairs : PairsOk F ps
  fro : PLe F s.heap.get?
  lst : ∃ o, s.heap.get? q = some o ∧ isLi (pqVals ps) o
  ns : ∃ m, s.heap.Ns Lg m
  iter : s.heap.IsListIter it q i
  FL : F Lg = none
  Fi : F it = none
  ne1 : it ≠ Lg
  ne2 : q ≠ Lg
  ne3 : q ≠ it
/-- what a piece of the generator's run may change -/
noncomputable def Rel (Lg it : Addr) (s₀ s₁ : Shared) : Prop := ∃ h t, s₁ = { s₀ with heap := h, toks := t } ∧ ∀ b o, b ≠ Lg → b ≠ it → s₀.heap.get? b = some o → h.get? b = some o
theorem Rel.refl {Lg it : Addr} {s : Shared} : Rel Lg it s s := ⟨s.heap, s.toks, rfl, fun _ _ _ _ e => e⟩
noncomputable def GenY (g : Glo) (Lg q it : Addr) (wl : Value) (ps : PQ) : Protocol := fun m s₀ v s₁ kap => ∃ i p, i + m + 1 = ps.length ∧ ps[i]? = some p ∧ ((i = 0 ∧ s₀.heap.get? it = none) ∨ s₀.heap.IsListIter it q i) ∧ Rel Lg it s₀ s₁ ∧ s₁.heap.IsListIter it q (i + 1) ∧ (∃ m', s₁.heap.Ns Lg m') ∧
  (∃ a k t u, v = .ref a ∧ s₀.heap.get? a = none ∧ a ≠ it ∧ a ≠ Lg ∧ s₁.heap.get? a = some (tupObj [.int (-p.2.1) t, .bytes p.2.2.toArray u] k)) ∧ ∀ F s'', GReady g Lg q it wl ps (i + 1) F s'' → kap (.send .none) s''
noncomputable abbrev GenR (Lg it : Addr) : GenEnd := fun n s₀ r s₁ => r = .ok (.ret .none) ∧ (n = 0 ∧ Rel Lg it s₀ s₁)
section
variable {g : Glo} {A : Around} {Lg q it : Addr} {wl : Value} {ps : PQ} {c : Code} {fs : List Frame}
theorem gen_loop {target : Expr} {body : List Stmt} {env : Env} (hh : (A.over (.forLoop target (.ref it) body [] env) fs).handled = none) (hL : env.locals = Lg)
    (htar : ∃ p1 p2 n1 p3, target = .Tuple [.Name (Str.ofString "pr") p1, .Name (Str.ofString "cmt") p2] n1 p3)
    (hbody : ∃ p1 p2 p3 p4 n1 p5 p6, body = [.Expr (.Yield (some (.Tuple [.UnaryOp .USub (.Name (Str.ofString "pr") p1) p2, .Name (Str.ofString "cmt") p3] n1 p4)) p5) p6])
    (hk : env.scope.kind = .function) (hpr : env.kindOf (Str.ofString "pr") = some .local) (hcmt : env.kindOf (Str.ofString "cmt") = some .local) (hco : env.scope.isCoroutine = false) (hi : interactive env = false)
    (hfs : splitAtGen fs = none) (hfg : fs.any Frame.guarded = false)
    (hend : ∀ s₀ s, Rel Lg it s₀ s → Seg (model g.prog g.w) A (GenR Lg it) (GenY g Lg q it wl ps) 0 s₀ (.forLoop target (.ref it) body [] env) (.pure (.again (.block [] env))) fs s) :
    ∀ (m i : Nat) (s₀ s : Shared) (F : PMap), i + m = ps.length → ((i = 0 ∧ s₀.heap.get? it = none) ∨ s₀.heap.IsListIter it q i) → Rel Lg it s₀ s → GReady g Lg q it wl ps i F s →
      Seg (model g.prog g.w) A (GenR Lg it) (GenY g Lg q it wl ps) m s₀ (.forLoop target (.ref it) body [] env) ((model g.prog g.w).den (.forLoop target (.ref it) body [] env)) fs s := by
  obtain ⟨p1, p2, n1, p3, rfl⟩ := htar
  obtain ⟨q1, q2, q3, q4, n2, q5, q6, rfl⟩ := hbody
  intro m
  induction m with
  | zero =>
    intro i s₀ s F hN hi0 hrel hR
    obtain ⟨o, ho, r⟩ := hR.lst
    refine seg_forLoop (wpAny_pyNext_list_end hh hR.iter (r.isList ho) (by simp; exact far 1 [_, _] [.var 0, .var 1, .var 0, .add (.var 1) (.num 0)] rfl (Nat.le_of_eq hN.symm)) fun h' he => ?_)
    obtain ⟨h, t, rfl, hk0⟩ := hrel
    exact hend s₀ _ ⟨h', _, rfl, fun b o h1 h2 e => he b o h2 (hk0 b o h1 h2 e)⟩
  | succ m ih =>
    intro i s₀ s F hN hi0 hrel hR
    obtain ⟨o, ho, r⟩ := hR.lst
    have hlt : i < ps.length := by exact far 1 [_, _, _] [.add (.var 0) (.num 1), .var 1, .add (.var 0) (.add (.var 2) (.num 1)), .var 1] rfl (Nat.le_of_eq hN)
    refine seg_forLoop (wpAny_pyNext_list_item (x := ps[i].1) hR.iter (r.isList ho) (by simp [hlt]) fun h1 hit1 hs1 => ?_)
    obtain ⟨a, k1, t, u, ha, fa⟩ := hR.pairs ps[i] (List.getElem_mem hlt)
    have e1 : ∀ b o, b ≠ it → s.heap.get? b = some o → h1.get? b = some o := fun b o hb e => (hs1.2 b hb).trans e
    have haL : a ≠ Lg := fun e => by subst e; rw [hR.FL] at fa; cases fa
    have hai : a ≠ it := fun e => by subst e; rw [hR.Fi] at fa; cases fa
    have sa := e1 a _ hai (hR.fro _ _ fa)
    dsimp only
    rw [ha]
    refine wpAny_letOwnedTupleGo_listiter hit1 ?_
    refine unpack2_wp hh sa (fun h2 k2 => ?_)
    obtain ⟨mL, hns⟩ := hR.ns
    have hns2 : h2.Ns Lg mL := (hns.sameBut hs1 (Ne.symm hR.ne1)).keeps k2
    refine wpAny_assign_Name (wpAny_storeName_local hpr (by rw [hL]; exact hns2) (fun h3 hn3 hs3 => ?_) (by rw [hk]; rfl))
    refine wpAny_assign_Name (wpAny_storeName_local hcmt hn3 (fun h4 hn4 hs4 => ?_) (by rw [hk]; rfl))
    rw [hL] at hn3 hs3 hn4 hs4
    intro H'
    have e4 : ∀ b o, b ≠ it → b ≠ Lg → s.heap.get? b = some o → h4.get? b = some o := fun b o hb hl e => (hs4.2 b hl).trans ((hs3.2 b hl).trans (k2 _ _ (e1 b o hb e)))
    obtain ⟨oi, hoi, hri⟩ := hit1
    have hit4 : h4.IsListIter it q (i + 1) := ⟨oi, (hs4.2 it hR.ne1).trans ((hs3.2 it hR.ne1).trans (k2 _ _ hoi)), hri⟩
    refine seg_execs_cons (seg_Expr_Yield hfs rfl hfg ?_ hco hi)
    refine wpAny_Tuple (wpAny_items_cons (wpAny_UnaryOp (wpAny_Name (wpAny_loadName_local hk hpr (by rw [hL]; exact hn4) (v := .int ps[i].2.1 t) (by simp [show (Str.ofString "pr" = Str.ofString "cmt") = False from by decide]) (P.neg_int ?_))))
      rfl)
    refine wpAny_items_cons (wpAny_Name (wpAny_loadName_local hk hcmt (by rw [hL]; exact hn4) (v := .bytes ps[i].2.2.toArray u) (by simp) ?_)) rfl
    refine wpAny_items_nil ⟨by show 2 ≤ 16777216; exact far 1 [] [.num 2, .num 16777216] rfl, ?_⟩
    intro kap hkap
    obtain ⟨h0, t0, rfl, hk0⟩ := hrel
    dsimp only at *
    have e5 : ∀ (x : Obj) b o, h4.get? b = some o → (h4.push x).get? b = some o := fun x b o e => Heap.get?_push_of_some _ e
    refine ⟨i, ps[i], by exact Nat.le_antisymm (far 1 [_, _, _] [.add (.add (.var 0) (.var 1)) (.num 1), .var 2, .add (.var 0) (.add (.var 1) (.num 1)), .var 2] rfl (Nat.le_of_eq hN)) (far 1 [_, _, _] [.var 0, .add (.add (.var 1) (.var 2)) (.num 1), .var 0, .add (.var 1) (.add (.var 2) (.num 1))] rfl (Nat.le_of_eq hN.symm)), by simp [hlt], hi0, ⟨_, _, rfl, fun b o h1 h2 e => e5 _ _ _ (e4 b o h2 h1 (hk0 b o h1 h2 e))⟩, ?_, ⟨_, hn4.keeps (e5 _)⟩, ⟨_, 0, _, u, rfl, ?_, ?_, ?_, Heap.get?_push_size _ rfl⟩, ?_⟩
    · obtain ⟨oi, hoi, hri⟩ := hit4
      exact ⟨oi, e5 _ _ _ hoi, hri⟩
    · cases e : s₀.heap.get? h4.objs.size with
      | none => rfl
      | some o2 =>
        obtain ⟨oi, hoi, hri⟩ := hit4
        have := e4 _ _ (Ne.symm (Nat.ne_of_lt (Heap.lt_size hoi))) (Ne.symm (Nat.ne_of_lt hn4.lt)) (hk0 _ _ (Ne.symm (Nat.ne_of_lt hn4.lt)) (Ne.symm (Nat.ne_of_lt (Heap.lt_size hoi))) e)
        exact absurd (Heap.lt_size this) (Nat.lt_irrefl _)
    · obtain ⟨oi, hoi, hri⟩ := hit4
      exact Ne.symm (Nat.ne_of_lt (Heap.lt_size hoi))
    · exact Ne.symm (Nat.ne_of_lt hn4.lt)
    · intro F2 s2 hR2
      refine hkap .none s2 ?_
      refine seg_execs_nil (seg_again rfl ?_)
      exact ih (i + 1) s2 s2 F2 (by exact Nat.le_antisymm (far 1 [_, _, _] [.add (.add (.var 0) (.num 1)) (.var 1), .var 2, .add (.var 0) (.add (.var 1) (.num 1)), .var 2] rfl (Nat.le_of_eq hN)) (far 1 [_, _, _] [.var 0, .add (.add (.var 1) (.num 1)) (.var 2), .var 0, .add (.var 1) (.add (.var 2) (.num 1))] rfl (Nat.le_of_eq hN.symm))) (.inr hR2.iter) .refl hR2
theorem gen_start {mg mb : Str → Option Value} {F : PMap} {s : Shared} (T : Top0 g (KK g.w) mg mb) (hh : A.handled = none) (ok : Ok g F s) (hw : WLAt F wl q) (hp : PairsOk F ps) (hq : ∃ o, s.heap.get? q = some o ∧ isLi (pqVals ps) o) (hqF : F q = none)
    {m : Str → Option Value} (hns : s.heap.Ns Lg m) (hself : m (Str.ofString "self") = some wl) (hFL : F Lg = none) (hne : q ≠ Lg) :
    Seg (model g.prog g.w) A (GenR Lg s.heap.objs.size) (GenY g Lg q s.heap.objs.size wl ps) ps.length s (.func (bodyAt g.w 77) (eAt g.w 77 Lg)) ((model g.prog g.w).den (.func (bodyAt g.w 77) (eAt g.w 77 Lg))) [] s := by
  have hL : (eAt g.w 77 Lg).locals = Lg := by kernel_rfl
  have hk : (eAt g.w 77 Lg).scope.kind = .function := by kernel_rfl
  refine seg_func ?_
  refine seg_execs_cons ?_
  refine seg_For ?_ (by intro x; kernel_rfl)
  have hns' : s.heap.Ns (eAt g.w 77 Lg).locals m := by rw [hL]; exact hns
  refine attr_wp (wpAny_Name (wpAny_loadName_local hk (by kernel_rfl) hns' hself ?_))
  obtain ⟨x, dx, hsh, t, rfl, hx, hd⟩ := hw
  have I : InstAt s.heap x (instObj wlC dx) wlC (some (pqDict hsh t q)) := ⟨ok.fro _ _ hx, rfl, rfl, ok.fro _ _ hd⟩
  have hg : plainGet (KK g.w) wlC pqN = true := by kernel_rfl
  refine get_value (T.K.keeps ok.stays) I (plainGet_of hg).1 (findObj_own (attr := none) (by kernel_rfl) (by kernel_rfl) (by kernel_rfl) (look_pq hsh t q)) (by rfl) ?_
  obtain ⟨o, ho, r⟩ := hq
  have hlq : q < s.heap.objs.size := Heap.lt_size ho
  refine wpAny_pyIter_list (r.isList ho) ?_
  intro p l
  have up : ∀ b o, s.heap.get? b = some o → (s.heap.push { cls := .type "list_iterator", data := .fields #[.ref q, .int 0 0] }).get? b = some o := fun b o e => Heap.get?_push_of_some _ e
  refine gen_loop ?_ hL ⟨_, _, _, _, rfl⟩ ⟨_, _, _, _, _, _, _, rfl⟩ hk (by kernel_rfl) (by kernel_rfl) (by kernel_rfl) (by kernel_rfl) rfl rfl (fun s₀ s1 hrel => ?_) ps.length 0 s _ F (by exact Nat.le_antisymm (far 1 [_] [.add (.num 0) (.var 0), .var 0] rfl) (far 1 [_] [.var 0, .add (.num 0) (.var 0)] rfl)) (.inl ⟨rfl, size_none _⟩) ⟨_, _, rfl, fun b o _ _ e => up b o e⟩ ?_
  · show (marksOver _ (A.handled, A.handled)).1 = none
    rw [hh]
    rfl
  · refine seg_loop_end ?_
    refine seg_execs_nil ?_
    exact seg_end (.ok (.ret .none)) ⟨rfl, rfl, hrel⟩
  · exact ⟨hp, fun b o e => up _ _ (ok.fro _ _ e), ⟨o, up _ _ ho, r⟩, ⟨m, hns.keeps up⟩, ⟨_, Heap.get?_push_size _ rfl, rfl, rfl⟩, hFL, PLe.below ok.fro (Nat.le_refl _), Ne.symm (Nat.ne_of_lt hns.lt), hne, Nat.ne_of_lt hlq⟩
end
end
section
section
variable {g : Glo} {k : Fun} {A : Around} {E : Value → Shared → Prop} {F : PMap} {X T : XS} {G : GS} {s : Shared} {mg mb : Str → Option Value}
/-- the things T are changed at will, into T' -/
theorem St.alter (hs : St g k F (X ++ T) G s) {h' : Heap} (t : Nat) {G' : GS} {T' : XS} (hk : ∀ b o, b ∉ T.map (·.1) → s.heap.get? b = some o → h'.get? b = some o)
    (hT : ∀ p ∈ T', p.2.Holds g h' p.1) (hnew : ∀ p ∈ T', p.1 ∈ T.map (·.1) ∨ s.heap.get? p.1 = none) (hnod : (T'.map (·.1)).Nodup) (hb : AllBare G') :
    St g k F (X ++ T') G' { s with heap := h', toks := t, gens := G' } :=
  have hTap : ∀ b ∈ T.map (·.1), F b = none ∧ k.C b = none ∧ (∀ q ∈ g.tabs, b ≠ q.2) ∧ ∀ p ∈ X, p.1 ≠ b := fun b hb => by
    obtain ⟨p, hp, rfl⟩ := List.mem_map.mp hb
    have h1 := hs.apart p (List.mem_append_right _ hp)
    refine ⟨h1.1, h1.2.1, h1.2.2, fun q hq e => ?_⟩
    have := hs.nod
    rw [List.map_append, List.nodup_append] at this
    exact this.2.2 _ (List.mem_map_of_mem (f := (·.1)) hq) _ hb e
  have hX : ∀ p ∈ X, p.2.Holds g h' p.1 := fun p hp => (hs.res p (List.mem_append_left _ hp)).keep fun o e => hk _ _ (fun hm => (hTap _ hm).2.2.2 p hp rfl) e
  { base := hs.base
    fro := fun b o e => hk b o (fun hm => by rw [(hTap _ hm).1] at e; cases e) (hs.fro b o e)
    tab := fun q hq => let ⟨ps, e, rr⟩ := hs.tab q hq; ⟨ps, hk _ _ (fun hm => (hTap _ hm).2.2.1 q hq rfl) e, rr⟩
    tabF := hs.tabF, os := hs.os, bare := hb
    res := fun p hp => by
      rcases List.mem_append.mp hp with hp | hp
      · exact hX p hp
      · exact hT p hp
    nod := by
      rw [List.map_append, List.nodup_append]
      have h0 := hs.nod
      rw [List.map_append, List.nodup_append] at h0
      refine ⟨h0.1, hnod, fun a ha b hb e => ?_⟩
      subst e
      obtain ⟨p, hp, rfl⟩ := List.mem_map.mp ha
      obtain ⟨p', hp', e'⟩ := List.mem_map.mp hb
      rcases hnew p' hp' with h1 | h1
      · rw [e'] at h1
        exact (hTap _ h1).2.2.2 p hp rfl
      · obtain ⟨o, ho⟩ := (hs.res p (List.mem_append_left _ hp)).there
        rw [e', ho] at h1; cases h1
    apart := fun p hp => by
      rcases List.mem_append.mp hp with hp | hp
      · exact hs.apart p (List.mem_append_left _ hp)
      · rcases hnew p hp with h1 | h1
        · exact ⟨(hTap _ h1).1, (hTap _ h1).2.1, (hTap _ h1).2.2.1⟩
        · exact ⟨hs.fNone h1, hs.cNone h1, hs.tNot h1⟩
    kept := fun b o e => let ⟨h1, sl, h2⟩ := hs.kept b o e
      have hne : b ∉ T.map (·.1) := fun hm => by rw [(hTap _ hm).2.1] at e; cases e
      ⟨fun hf => hk _ _ hne (h1 hf), sl, hk _ _ hne h2⟩
    tabC := hs.tabC, fresh := hs.fresh, gens := rfl }

/-- the next of a generator of a function; what is left is bare -/
theorem pyNext_genB {prog : Program} {w : World} {a : Addr} {gi n : Nat} {gs : GenState} {P : Nat → Shared → Shared → Prop} {Y : Protocol} {Q : Option Value → Shared → Prop} (hh : A.handled = none)
    (hl : s.heap.NoLimit) (hroom : A.depth < recursionLimit) (hg : s.heap.IsGen a gi) (hgs : s.gens[gi]? = some gs)
    (hgo : gs.Goes (model prog w) A.in1 (fun n s₀ r s₁ => r = .ok (.ret .none) ∧ P n s₀ s₁) Y n (.send .none) (s.setGen gi .running))
    (hY : ∀ v s₁ gs', gs'.bare = true → Y (n - 1) (s.setGen gi .running) v s₁ (fun r' s'' => match n with
        | 0 => False
        | m + 1 => gs'.Goes (model prog w) A.in1 (fun n s₀ r s₁ => r = .ok (.ret .none) ∧ P n s₀ s₁) Y m r' s'') → Q (some v) (s₁.setGen gi gs'))
    (hP : ∀ s₁, P n (s.setGen gi .running) s₁ → ∀ h', (∀ b o, s₁.heap.get? b = some o → h'.get? b = some o) → Q none { s₁.setGen gi .finished with heap := h' }) :
    wpAny (model prog w) A (pyNext (.ref a)) Q E s := by
  unfold pyNext
  refine wpAny_bind (wpAny_attempt (wpAny_callSpecial?_slot (name := Str.ofString "__next__") hg.typeIs slot_gen_next
    (wpAny_call_entry slot_gen_next hg.typeIs entry_gen_next ?_ (args_gen_next _))))
  show wpAny _ A.in1 (Builtin.Generator.genWake (.ref a) (.send .none)) _ _ s
  unfold Builtin.Generator.genWake
  refine wpAny_bind (wpAny_holding (wpAny_genNumber hg (wpAny_bind (wpAny_genState hgs ?_))))
  have go : wpAny (model prog w) A.in1 (roomToWake) (fun _ s' => s' = s) (fun _ _ => False) s := wpAny_roomToWake hl hroom rfl
  cases gs with
  | running => exact hgo.elim
  | finished => exact hgo.elim
  | _ =>
    refine wpAny_bind (wpAny_mono go (fun _ s' e => ?_) fun _ _ x => x.elim)
    subst e
    refine wpAny_resumeQ hgs hgo (fun x s₁ hx => ?_) (fun v s₁ gs' hb hv => ?_)
    · obtain ⟨rfl, hp⟩ := hx
      show wpAny _ _ (newExc (.type "StopIteration") [] >>= _) _ _ _
      refine wpAny_bind (wpAny_mono (stopIter (α := Unit) (Q := fun _ _ => False) (F := fun _ => none) (HOk.none hh) (fun _ _ e => by cases e) fun x h' ⟨o', ho', hc'⟩ he' => ?_) (fun a s' h => wpAny_bind (wpAny_mono h (fun _ _ x => x.elim) fun _ _ e => e)) fun _ _ e => e)
      refine wpAny_bind (wpAny_isInstance (T := "StopIteration") (b := true) ⟨_, ho', hc'⟩ isSubtype_stop ?_)
      exact wpAny_pure (hP s₁ hp _ he')
    · exact wpAny_pure ⟨v, rfl, wpAny_pure (hY v s₁ gs' hb hv)⟩

noncomputable def GTail (g : Glo) (A : Around) (Lg q : Addr) (gi : Nat) (wl : Value) (ps : PQ) (i : Nat) (T : XS) (G : GS) : Prop :=
  (i = 0 ∧ ∃ m, T = [(Lg, .ns m)] ∧ m (Str.ofString "self") = some wl ∧ G[gi]? = some (.fresh (.func (bodyAt g.w 77) (eAt g.w 77 Lg)))) ∨
  (0 < i ∧ ∃ it m gs, T = [(Lg, .ns m), (it, .it q i)] ∧ G[gi]? = some gs ∧ ∀ F s'', GReady g Lg q it wl ps i F s'' → gs.Goes (model g.prog g.w) A.in1 (GenR Lg it) (GenY g Lg q it wl ps) (ps.length - i) (.send .none) s'')
noncomputable def GenObj (F : PMap) (ga : Addr) (gi : Nat) : Prop := ∃ o nm qn, F ga = some o ∧ o.cls = .type "generator" ∧ o.data = .fields #[.int gi 0, nm, qn] ∧ o.slots = #[]
theorem GenObj.mono {F F' : PMap} {ga : Addr} {gi : Nat} (x : GenObj F ga gi) (h : PLe F F') : GenObj F' ga gi := let ⟨o, nm, qn, a, r⟩ := x; ⟨o, nm, qn, h _ _ a, r⟩
theorem GenObj.isGen {F : PMap} {h : Heap} {ga : Addr} {gi : Nat} (x : GenObj F ga gi) (hF : PLe F h.get?) : h.IsGen ga gi := let ⟨o, nm, qn, a, r⟩ := x; ⟨o, nm, qn, hF _ _ a, r⟩
theorem bare_set {G : GS} {gi : Nat} {x : GenState} (h : AllBare G) (hx : x.bare = true) : AllBare (G.setIfInBounds gi x) := fun y hy => by
  rcases Array.mem_or_eq_of_mem_setIfInBounds hy with h1 | rfl
  · exact h y h1
  · exact hx

/-- what a wakening of the work list's generator gives -/
theorem W_genNext {Lg q ga : Addr} {gi i j n : Nat} {wl : Value} {ps : PQ} {Φ : Cont (Option Value)} (TT : Top0 g (KK g.w) mg mb) (hh : A.handled = none) (hroom : Room A (n + 1)) (hgF : GenObj F ga gi) (hw : WLAt F wl q) (hp : PairsOk F ps)
    (hx : X[j]? = some (q, .li (pqVals ps))) (hT : GTail g A Lg q gi wl ps i T G) (hi : i ≤ ps.length)
    (hitem : ∀ (h : i < ps.length) v F' T' G', PLe F F' → isPair F' v (-ps[i].2.1, ps[i].2.2) → GTail g A Lg q gi wl ps (i + 1) T' G' → Φ (some v) F' (X ++ T') G')
    (hend : i = ps.length → ∀ G', Φ none F X G') : W g k A (pyNext (.ref ga)) Φ E F (X ++ T) G := ⟨fun s hs => by
  have hjX : j < X.length := (List.getElem?_eq_some_iff.mp hx).1
  have hxq : (X ++ T)[j]? = some (q, .li (pqVals ps)) := by rw [List.getElem?_append_left hjX]; exact hx
  have hql := hs.at hxq
  have hqF := (hs.apart _ (List.mem_of_getElem? hxq)).1
  have hmq : q ∈ X.map (·.1) := List.mem_map.mpr ⟨_, List.mem_of_getElem? hx, rfl⟩
  have hdis : ∀ b ∈ T.map (·.1), q ≠ b := fun b hb e => by
    have h0 := hs.nod
    rw [List.map_append, List.nodup_append] at h0
    exact h0.2.2 _ hmq _ hb e
  -- one way for both: the iterator's place, and that the state goes on
  obtain ⟨it, gs, m, hLT, hns, hit, hgs, hgo⟩ : ∃ it gs m, (Lg, Res.ns m) ∈ T ∧ (s.heap.Ns Lg m) ∧ ((i = 0 ∧ it = s.heap.objs.size ∧ T = [(Lg, .ns m)]) ∨ T = [(Lg, .ns m), (it, .it q i)]) ∧ s.gens[gi]? = some gs ∧
      gs.Goes (model g.prog g.w) A.in1 (GenR Lg it) (GenY g Lg q it wl ps) (ps.length - i) (.send .none) (s.setGen gi .running) := by
    rcases hT with ⟨rfl, m, rfl, hself, hG⟩ | ⟨hi0, it, m, gs, rfl, hG, hgo⟩
    · have hmem : (Lg, Res.ns m) ∈ X ++ [(Lg, Res.ns m)] := by simp
      have hns : s.heap.Ns Lg m := hs.res _ hmem
      refine ⟨_, .fresh (.func (bodyAt g.w 77) (eAt g.w 77 Lg)), m, by simp, hns, .inl ⟨rfl, rfl, rfl⟩, by rw [hs.gens]; exact hG, rfl, ?_⟩
      have ok' : Ok g F (s.setGen gi .running) := ⟨hs.base, hs.fro, hs.tab, hs.tabF, hs.os, bare_set hs.bare rfl⟩
      exact gen_start (s := s.setGen gi .running) TT hh ok' hw hp hql hqF hns hself (hs.apart _ hmem).1 (hdis Lg (by simp))
    · have hmem : (Lg, Res.ns m) ∈ X ++ [(Lg, Res.ns m), (it, .it q i)] := by simp
      have hmem2 : (it, Res.it q i) ∈ X ++ [(Lg, Res.ns m), (it, .it q i)] := by simp
      have hns : s.heap.Ns Lg m := hs.res _ hmem
      refine ⟨it, gs, m, by simp, hns, .inr rfl, by rw [hs.gens]; exact hG, hgo F _ ⟨hp, hs.fro, hql, ⟨m, hns⟩, hs.res _ hmem2, (hs.apart _ hmem).1, (hs.apart _ hmem2).1, ?_, hdis Lg (by simp), hdis it (by simp)⟩⟩
      have h0 := hs.nod
      rw [List.map_append, List.nodup_append] at h0
      have h1 := h0.2.1
      simp only [List.map_cons, List.map_nil, List.nodup_cons, List.mem_singleton] at h1
      exact Ne.symm h1.1
  have hkT : ∀ {h' : Heap}, (∀ b o, b ≠ Lg → b ≠ it → s.heap.get? b = some o → h'.get? b = some o) → ∀ b o, b ∉ T.map (·.1) → s.heap.get? b = some o → h'.get? b = some o := fun hk b o hb e => by
    refine hk b o (fun e1 => hb ?_) (fun e1 => ?_) e
    · rw [e1]; exact List.mem_map.mpr ⟨_, hLT, rfl⟩
    · rcases hit with ⟨_, h1, _⟩ | h1
      · rw [e1, h1, size_none] at e; cases e
      · exact hb (by rw [h1, e1]; simp)
  refine pyNext_genB hh (TT.nolimit.keeps hs.toOk.stays) hroom.lt (hgF.isGen hs.fro) hgs hgo (fun v s₁ gs' hb hY => ?_) (fun s₁ hrel h' hk' => ?_)
  · obtain ⟨i', p, hN, hpi, hi0', ⟨h1, t1, rfl, hk1⟩, hit1, ⟨m', hns1⟩, ⟨a, kk, t, u, rfl, ha0, hai, haL, ha1⟩, hkap⟩ := hY
    obtain ⟨hlt, rfl⟩ := List.getElem?_eq_some_iff.mp hpi
    have hii : i' = i := by
      rcases Nat.lt_or_ge i ps.length with h1 | h1
      · exact Nat.le_antisymm (far 1 [_, _, _, _, _] [.var 0, .var 1, .add (.add (.var 0) (.var 2)) (.num 1), .var 3, .var 3, .add (.var 4) (.var 1), .var 4, .add (.var 2) (.num 1)] rfl (Nat.le_of_eq hN) (sbA _ _) (sbA _ _)) (far 1 [_, _, _, _, _] [.var 0, .var 1, .var 2, .add (.add (.var 1) (.var 3)) (.num 1), .add (.var 4) (.var 0), .var 2, .add (.var 3) (.num 1), .var 4] rfl (Nat.le_of_eq hN.symm) (sbC hi) (sbC (far 1 [_, _, _] [.num 1, .var 0, .add (.var 1) (.num 1), .var 2, .var 2, .add (.var 0) (.var 1)] rfl h1 (sbA _ _))))
      · rcases hit with ⟨h2, _, _⟩ | h2
        · exact Nat.le_antisymm (Nat.le_of_lt (Nat.le_trans hlt h1)) (far 1 [_, _] [.var 0, .var 1, .var 0, .num 0] rfl (Nat.le_of_eq h2))
        · obtain ⟨o2, ho2, _, hd2⟩ : s.heap.IsListIter it q i := hs.res (it, .it q i) (by rw [h2]; simp)
          rcases hi0' with ⟨_, h3⟩ | ⟨o3, ho3, _, hd3⟩
          · rw [show s.heap.get? it = none from h3] at ho2; cases ho2
          · rw [show s.heap.get? it = some o3 from ho3] at ho2
            cases ho2
            rw [hd2] at hd3
            have : (i : Int) = i' := by simpa [rawInt] using hd3
            omega
    subst hii
    have hne : it ≠ Lg := by
      rcases hit with ⟨_, h1, _⟩ | h1
      · rw [h1]; exact Ne.symm (Nat.ne_of_lt hns.lt)
      · have h0 := hs.nod
        rw [List.map_append, List.nodup_append] at h0
        have h2 := h0.2.1
        rw [h1] at h2
        simp only [List.map_cons, List.map_nil, List.nodup_cons, List.mem_singleton] at h2
        exact Ne.symm h2.1
    have haF : F a = none := by
      cases e : F a with
      | none => rfl
      | some o => have := hs.fro _ _ e; rw [show s.heap.get? a = none from ha0] at this; cases this
    have st := hs.alter (h' := h1) t1 (T' := [(Lg, .ns m'), (it, .it q (i' + 1)), (a, .ob (tupObj [.int (-ps[i'].2.1) t, .bytes ps[i'].2.2.toArray u] kk))]) (G' := (s.gens.setIfInBounds gi .running).setIfInBounds gi gs') (hkT hk1) (fun p hp => by
        rcases List.mem_cons.mp hp with rfl | hp
        · exact hns1
        · rcases List.mem_cons.mp hp with rfl | hp
          · exact hit1
          · rw [List.mem_singleton.mp hp]; exact ha1) (fun p hp => by
        rcases List.mem_cons.mp hp with rfl | hp
        · exact .inl (List.mem_map.mpr ⟨_, hLT, rfl⟩)
        · rcases List.mem_cons.mp hp with rfl | hp
          · rcases hit with ⟨_, h1, _⟩ | h1
            · exact .inr (by show s.heap.get? it = none; rw [h1]; exact size_none _)
            · exact .inl (by rw [h1]; simp)
          · rw [List.mem_singleton.mp hp]; exact .inr ha0) (by simp [Ne.symm hne, Ne.symm haL, Ne.symm hai]) (bare_set (bare_set hs.bare rfl) hb)
    have hget : (X ++ [(Lg, Res.ns m'), (it, .it q (i' + 1)), (a, .ob (tupObj [.int (-ps[i'].2.1) t, .bytes ps[i'].2.2.toArray u] kk))])[X.length + 2]? = some (a, .ob (tupObj [.int (-ps[i'].2.1) t, .bytes ps[i'].2.2.toArray u] kk)) := by
      rw [List.getElem?_append_right (by exact far 1 [_] [.var 0, .add (.var 0) (.num 2)] rfl)]
      simp
    have st2 := st.freeze hget ha1
    have herase : (X ++ [(Lg, Res.ns m'), (it, .it q (i' + 1)), (a, .ob (tupObj [.int (-ps[i'].2.1) t, .bytes ps[i'].2.2.toArray u] kk))]).eraseIdx (X.length + 2) = X ++ [(Lg, .ns m'), (it, .it q (i' + 1))] := by
      rw [List.eraseIdx_append_of_length_le (by exact far 1 [_] [.var 0, .add (.var 0) (.num 2)] rfl)]
      simp
    rw [herase] at st2
    refine st2.done (hitem hlt _ _ _ _ (fset_le haF) ⟨a, kk, t, u, rfl, fset_self⟩ (.inr ⟨by exact far 1 [_] [.add (.num 0) (.num 1), .add (.var 0) (.num 1)] rfl, it, m', gs', rfl, ?_, fun F2 s2 hR2 => ?_⟩))
    · have h5 : gi < s.gens.size := by
        rcases Nat.lt_or_ge gi s.gens.size with h6 | h6
        · exact h6
        · rw [Array.getElem?_eq_none h6] at hgs; cases hgs
      simp [h5]
    · have := hkap F2 s2 hR2
      have hn : ps.length - i' = (ps.length - (i' + 1)) + 1 := by exact Nat.le_antisymm (far 1 [_, _, _, _, _] [.var 0, .add (.var 1) (.num 1), .add (.add (.var 2) (.var 3)) (.num 1), .var 4, .var 0, .add (.var 3) (.num 1), .var 4, .add (.var 1) (.add (.var 2) (.num 1))] rfl (Nat.le_of_eq hN) (sbA _ _) (sbA _ _)) (far 1 [_, _, _, _] [.add (.var 0) (.num 1), .var 1, .var 2, .add (.var 1) (.var 3), .add (.var 0) (.add (.var 3) (.num 1)), .var 2] rfl (sbA _ _) (sbC hlt))
      rw [hn] at this
      exact this
  · obtain ⟨hn0, h1, t1, rfl, hk1⟩ := hrel
    have st := hs.alter (h' := h') t1 (T' := []) (G' := (s.gens.setIfInBounds gi .running).setIfInBounds gi .finished) (hkT fun b o e1 e2 e => hk' _ _ (hk1 b o e1 e2 e)) (fun p hp => by cases hp) (fun p hp => by cases hp) (by simp) (bare_set (bare_set hs.bare rfl) rfl)
    rw [List.append_nil] at st
    have hN : i = ps.length := by exact Nat.le_antisymm hi (far 1 [_, _, _] [.var 0, .var 1, .var 2, .num 0, .var 0, .add (.var 2) (.var 1)] rfl (Nat.le_of_eq hn0) (sbA _ _))
    exact st.done (hend hN _)⟩
end
end
section
section
variable {g : Glo} {k : Fun} {A : Around} {E : Value → Shared → Prop} {F : PMap} {X T : XS} {G : GS} {s : Shared} {mg mb : Str → Option Value} {env : Env}
theorem St.regen (hs : St g k F X G s) {G' : GS} (t : Nat) (hb : AllBare G') : St g k F X G' { s with gens := G', toks := t } :=
  { base := hs.base, fro := hs.fro, tab := hs.tab, tabF := hs.tabF, os := hs.os, bare := hb, res := hs.res, nod := hs.nod, apart := hs.apart, kept := hs.kept, tabC := hs.tabC, fresh := hs.fresh, gens := rfl }
/-- wl.iter() -/
theorem W_wlIter {wl : Value} {q : Addr} {ps : PQ} {Φ : Cont Value} {n : Nat} (TT : Top0 g (KK g.w) mg mb) (hroom : Room A (n + 1)) (hF : PLe g.base.get? F)
    (h : ∀ F' ga gi Lg T' G', PLe F F' → GenObj F' ga gi → GTail g A Lg q gi wl ps 0 T' G' → Φ (.ref ga) F' (X ++ T') G') : W g k A (call (.ref 77) [wl] []) Φ E F X G := ⟨fun s hs => by
  refine wpAny_call (codeAny_call_generator hroom.lt (hs.fro _ _ (TT.get (a := 77) (o := objAt g.w 77) hF (by kernel_rfl))) (fd := fdAt g.w 77) (body := bodyAt g.w 77) (by kernel_rfl) (by kernel_rfl) (by kernel_rfl) (by kernel_rfl) ((TT.code hF (by kernel_rfl)).rec hs.fro) ?_)
  have hb : bindArgs (fdAt g.w 77) ⟨[wl], []⟩ = pure [(Str.ofString "self", wl)] := by kernel_rfl
  have hgood : goodBinds (fdAt g.w 77).scope.names [(Str.ofString "self", wl)] = true := by kernel_rfl
  simp only [goodBinds, Bool.and_eq_true, List.all_eq_true, decide_eq_true_eq] at hgood
  refine BindsTo.of_eq hb _ _ _ _ ?_
  refine wpAny_newFunctionEnv hgood.2 hgood.1.1 (fun h₁ hns hsb => ⟨(TT.nolimit.keeps hs.toOk.stays).fresh _ hsb, ?_⟩) (by kernel_rfl)
  have st := hs.ownL (r := .ns fun x => [(Str.ofString "self", wl)].reverse.lookup x) (h' := h₁) (fun b o e => hsb.extBut b o (Nat.ne_of_lt (Heap.lt_size e)) (Heap.get?_push_of_some _ e)) (s.toks + [(Str.ofString "self", wl)].length) (size_none _) hns
  generalize hs2 : ({ s with heap := h₁, toks := s.toks + [(Str.ofString "self", wl)].length } : Shared) = s2 at st
  have hh1 : h₁ = s2.heap := by rw [← hs2]
  have hg1 : s.gens = s2.gens := by rw [← hs2]
  obtain ⟨le, st2⟩ := st.newF (h' := s2.heap.push { cls := .type "generator", data := .fields #[.int s2.gens.size 0, .str (fdAt g.w 77).name s2.toks, .str (fdAt g.w 77).qualname (s2.toks + 1)] }) (fun b o e => Heap.get?_push_of_some _ e) s2.toks (size_none _) (Heap.get?_push_size _ rfl)
  have st3 := st2.regen (G' := s2.gens.push (.fresh (.func (bodyAt g.w 77) (eAt g.w 77 s.heap.objs.size)))) (s2.toks + 1 + 1) (st2.bare.push rfl)
  subst hs2
  refine ⟨_, _, _, st3, h _ _ _ _ _ _ le ⟨_, _, _, fset_self, rfl, rfl, rfl⟩ (.inl ⟨rfl, _, rfl, ?_, ?_⟩)⟩
  · show ([(Str.ofString "self", wl)].reverse.lookup (Str.ofString "self")) = some wl
    simp
  · simp⟩
theorem W_iterGen {ga : Addr} {gi : Nat} {Φ : Cont Value} (hg : GenObj F ga gi) (h : Φ (.ref ga) F X G) : W g k A (pyIter (.ref ga)) Φ E F X G := ⟨fun s hs => wpAny_pyIter_gen (hg.isGen hs.fro) (hs.done h)⟩

/-- for over the work list's generator -/
theorem W_ForGen {target iter : Expr} {body : List Stmt} {pos : Pos} {Φ : Cont Flow} {n : Nat} (TT : Top0 g (KK g.w) mg mb) (hh : A.handled = none) (hroom : Room A (n + 1)) (htar : ∃ l a b, target = .Tuple l a b)
    (h : W g k A (eval iter env) (fun x F X G => ∃ (ga : Addr) (gi : Nat) (Lg q : Addr) (wl : Value) (ps : PQ) (Y T : XS) (j : Nat) (J : Nat → PMap → XS → Prop), x = .ref ga ∧ X = Y ++ T ∧ GenObj F ga gi ∧ GTail g A Lg q gi wl ps 0 T G ∧ WLAt F wl q ∧ PairsOk F ps ∧ J 0 F Y ∧ (∀ i F' F'' Y', PLe F' F'' → J i F' Y' → J i F'' Y') ∧
      (∀ i F' Y', PLe F F' → J i F' Y' → Y'[j]? = some (q, .li (pqVals ps))) ∧
      (∀ i (hi : i < ps.length) v F' Y' T' G' E', PLe F F' → isPair F' v (-ps[i].2.1, ps[i].2.2) → J i F' Y' → W g k A (assign target env v) (fun _ => W g k A (execs body env) (fun f F₂ X G => PLe F' F₂ ∧ G = G' ∧ match f with
        | .next | .cont => ∃ Z, (Z ++ T').Sublist X ∧ J (i + 1) F₂ Z
        | .brk => ∃ Z, Z.Sublist X ∧ Φ .next F₂ Z G
        | .ret v => ∃ Z, Z.Sublist X ∧ Φ (.ret v) F₂ Z G) E') E' F' (Y' ++ T') G') ∧
      (∀ F' Y' G', PLe F F' → J ps.length F' Y' → Φ .next F' Y' G')) E F X G)
    (hs : ∀ x, foldedSetIterable iter env x = pure x := by intro _; kernel_rfl) : W g k A (exec (.For target iter body [] pos) env) Φ E F X G := ⟨fun s st => by
  obtain ⟨tl, ta, tb, rfl⟩ := htar
  refine wpAny_For (h.then st fun x F X G s st h => ?_) hs
  obtain ⟨ga, gi, Lg, q, wl, ps, Y, T, j, J, rfl, rfl, hga, hT, hw, hp, h0, hmono, hq, turn, fin⟩ := h
  refine (W_iterGen (Φ := fun v F' X' G' => v = .ref ga ∧ F' = F ∧ X' = Y ++ T ∧ G' = G) hga ⟨rfl, rfl, rfl, rfl⟩).then st fun v F' X' G' s st0 hv => ?_
  obtain ⟨rfl, rfl, rfl, rfl⟩ := hv
  refine codeAny_forLoop_any (fun m s => ∃ i F₁ Y₁ T₁ G₁, m = ps.length - i ∧ i ≤ ps.length ∧ St g k F₁ (Y₁ ++ T₁) G₁ s ∧ PLe F' F₁ ∧ GTail g A Lg q gi wl ps i T₁ G₁ ∧ J i F₁ Y₁) ?_ ps.length ⟨0, F', Y, T, G', rfl, Nat.zero_le _, st0, .rfl, hT, h0⟩
  rintro m s ⟨i, F₁, Y₁, T₁, G₁, rfl, hi, st, le, hT, hJ⟩
  refine (W_genNext (n := n) (Φ := fun o F₂ X₂ G₂ => match o with
      | some v => ∃ (hi : i < ps.length) (T₂ : XS), PLe F₁ F₂ ∧ isPair F₂ v (-ps[i].2.1, ps[i].2.2) ∧ X₂ = Y₁ ++ T₂ ∧ GTail g A Lg q gi wl ps (i + 1) T₂ G₂
      | none => i = ps.length ∧ F₂ = F₁ ∧ X₂ = Y₁) TT hh hroom (hga.mono le) (hw.mono le) (hp.mono le) (hq i _ _ le hJ) hT hi
      (fun hi v F₂ T₂ G₂ le2 hv hT2 => ⟨hi, T₂, le2, hv, rfl, hT2⟩) (fun hi G₂ => ⟨hi, rfl, rfl⟩)).then st fun o F₂ X₂ G₂ s st1 ho => ?_
  cases o with
  | none =>
    obtain ⟨rfl, rfl, rfl⟩ := ho
    exact wpAny_execs_nil (st1.done (fin _ _ _ le hJ))
  | some v =>
    obtain ⟨hi, T₂, le2, hv, rfl, hT2⟩ := ho
    obtain ⟨og, nm, qn, hog, hcg, hdg, _⟩ := (hga.mono (le.trans le2))
    dsimp only
    refine letGo_none (st1.fro _ _ hog) hcg hdg (by decide) ?_
    refine (turn i hi v F₂ Y₁ T₂ G₂ _ (le.trans le2) hv (hmono _ _ _ _ le2 hJ)).then st1 fun _ F₃ X₃ G₃ s st2 hb => hb.then st2 fun f F₄ X₄ G₄ s st3 hf => ?_
    obtain ⟨le3, rfl, hf⟩ := hf
    cases f with
    | next => obtain ⟨Z, hZ, hJ⟩ := hf; exact ⟨ps.length - (i + 1), by exact far 1 [_, _, _, _] [.add (.var 0) (.num 1), .var 1, .add (.var 0) (.add (.var 2) (.num 1)), .var 3, .var 3, .add (.var 1) (.var 2)] rfl (sbC hi) (sbA _ _), i + 1, _, _, _, _, rfl, hi, st3.drop hZ, (le.trans le2).trans le3, hT2, hJ⟩
    | cont => obtain ⟨Z, hZ, hJ⟩ := hf; exact ⟨ps.length - (i + 1), by exact far 1 [_, _, _, _] [.add (.var 0) (.num 1), .var 1, .add (.var 0) (.add (.var 2) (.num 1)), .var 3, .var 3, .add (.var 1) (.var 2)] rfl (sbC hi) (sbA _ _), i + 1, _, _, _, _, rfl, hi, st3.drop hZ, (le.trans le2).trans le3, hT2, hJ⟩
    | brk => obtain ⟨Z, hZ, hJ⟩ := hf; exact (st3.drop hZ).done hJ
    | ret v => obtain ⟨Z, hZ, hJ⟩ := hf; exact (st3.drop hZ).done hJ⟩
end
end
section
/-! dicts -/
noncomputable abbrev KV := List (List UInt8 × Value)
theorem valueAt_stored (kvs : KV) (k x : List UInt8) (v : Value) : valueAt (stored kvs k v) x = if x = k then some v else valueAt kvs x := by
  unfold stored valueAt
  split
  · rename_i h
    induction kvs with
    | nil => simp at h
    | cons p r ih =>
      simp only [List.map_cons, List.find?_cons]
      by_cases hp : p.1 = k
      · simp only [hp, if_true]
        by_cases hx : x = k
        · subst hx; simp
        · have h1 : ¬ k = x := fun e => hx e.symm
          simp only [h1, decide_false, hx, if_false]
          have hfind : ∀ l : KV, (l.map fun kv => if kv.1 = k then (kv.1, v) else kv).find? (fun kv => decide (kv.1 = x)) = l.find? fun kv => decide (kv.1 = x) := by
            intro l
            induction l with
            | nil => rfl
            | cons a t iht =>
              simp only [List.map_cons, List.find?_cons]
              by_cases ha : a.1 = k
              · simp only [ha, if_true, h1, decide_false]; exact iht
              · simp only [ha, if_false]; rw [iht]
          rw [hfind]
      · simp only [hp, if_false]
        have h' : (r.any fun kv => decide (kv.1 = k)) = true := by simpa [hp] using h
        by_cases hx : p.1 = x
        · have : ¬ x = k := fun e => hp (hx.trans e)
          simp [hx, this]
        · simp only [hx, decide_false]
          exact ih h'
  · rename_i h
    rw [List.find?_append]
    by_cases hx : x = k
    · subst hx
      have : kvs.find? (fun kv => decide (kv.1 = x)) = none := by
        rw [List.find?_eq_none]
        intro p hp e
        exact h (List.any_eq_true.mpr ⟨p, hp, e⟩)
      simp [this]
    · have h1 : ¬ k = x := fun e => hx e.symm
      simp [h1, hx]
/-- a dict that may be read -/
noncomputable def DView (g : Glo) (F : PMap) (X : XS) (v : Value) (kvs : KV) : Prop := ∃ d, v = .ref d ∧ (d == sysModules) = false ∧ (FHolds g F d (.di kvs) ∨ ∃ i : Nat, X[i]? = some (d, .di kvs))
section
variable {g : Glo} {k : Fun} {A : Around} {E : Value → Shared → Prop} {F : PMap} {X : XS} {G : GS} {env : Env} {s : Shared}
theorem St.dict {d : Addr} {kvs : KV} (hs : St g k F X G s) (h : FHolds g F d (.di kvs) ∨ ∃ i : Nat, X[i]? = some (d, .di kvs)) : s.heap.DictOf (bytesKind g.prog g.w) d kvs := by
  rcases h with h | ⟨i, hx⟩
  · exact h _ hs.fro
  · exact hs.at hx
theorem isBy.is {v : Value} {b : List UInt8} (h : isBy v b) : (bytesKind g.prog g.w).is b v = true := by
  obtain ⟨t, rfl⟩ := h
  show isBytes b (.bytes b.toArray t) = true
  simp [isBytes]
theorem W_setItem {d : Addr} {i : Nat} {kv v : Value} {b : List UInt8} {kvs : KV} {Φ : Cont Unit} (hx : X[i]? = some (d, .di kvs)) (hk : isBy kv b) (hz : kvs.length ≤ 1000000) (h : Φ () F (X.set i (d, .di (stored kvs b v))) G) :
    W g k A (setItem (.ref d) kv v) Φ E F X G := ⟨fun s hs =>
  wpAny_setItem_pairs (hsz := by show _ ≤ 16777216; exact far 1 [_] [.var 0, .num 16777216, .var 0, .num 1000000] rfl hz) (isBy.is hk) (hs.at hx) fun h' hm hsb => (hs.set (r' := .di (stored kvs b v)) hx _ (fun b o hb e => (hsb.2 b hb).trans e) hm).done h⟩
theorem W_DictN {mg mb : Str → Option Value} {K : Frag} {pos : Pos} {Φ : Cont Value} (T : Top0 g K mg mb) (h : ∀ a, (a == sysModules) = false → Φ (.ref a) F (X ++ [(a, .di [])]) G) : W g k A (eval (.Dict [] [] pos) env) Φ E F X G := ⟨fun s hs => by
  have hm : mainGlobals < s.heap.objs.size := by
    obtain ⟨o, es, ep, ho, _⟩ := T.gns
    exact Heap.lt_size (hs.toOk.stays _ _ ho)
  have hne : (s.heap.objs.size == sysModules) = false := by
    have h1 : 3 < s.heap.objs.size := hm
    show (s.heap.objs.size == 1) = false
    simp
    exact Nat.ne_of_gt (far 1 [_] [.add (.num 1) (.num 1), .var 0, .add (.num 3) (.num 1), .var 0] rfl h1)
  exact wpAny_Dict_empty ((hs.ownL (r := .di []) (fun b o e => Heap.get?_push_of_some { cls := .type "dict", data := .dict #[] } e) s.toks (size_none _) (Heap.DictOf.new _)).done (h _ hne))⟩
theorem W_dItem {value slice : Expr} {v kv x : Value} {b : List UInt8} {kvs : KV} {Φ : Cont Value} (hd : DView g F X v kvs) (hk : isBy kv b) (hx : valueAt kvs b = some x) (h : Φ x F X G)
    (hs : ∀ a t, subscripted slice false (.ref a) (.bytes b.toArray t) = operate [.ref a, .bytes b.toArray t] (getItem (.ref a) (.bytes b.toArray t)) := by intro _ _; kernel_rfl)
    (hg : ∀ a r, letTemporaryGo value (.ref a) r = pure () := by intro _ _; kernel_rfl) : W g k A (subscriptTail value slice v kv) Φ E F X G := ⟨fun s st => by
  obtain ⟨d, rfl, hne, hd⟩ := hd
  have hm := st.dict hd
  have hkk := isBy.is (g := g) hk
  obtain ⟨t, rfl⟩ := hk
  exact subscriptTail_builtin hm.typeIs slot_dict_getitem.lookup (wpAny_getItem_of hkk hm.mapOf hx ((st.tok _).done h)) (hs d t) (hg d)⟩
theorem W_dIn {v kv : Value} {b : List UInt8} {kvs : KV} {Φ : Cont Value} (hd : DView g F X v kvs) (hk : isBy kv b) (h : Φ (.bool (valueAt kvs b).isSome) F X G) : W g k A (compareOp .In kv v) Φ E F X G := ⟨fun s st => by
  obtain ⟨d, rfl, hne, hd⟩ := hd
  exact wpAny_in_of (isBy.is hk) hne (st.dict hd).mapOf ((st.tok _).done h)⟩
theorem DView.typ {v : Value} {kvs : KV} (x : DView g F X v kvs) : ∀ s, St g k F X G s → s.TypeIs v "dict" ∧ (∀ a, v = .ref a → ∃ ob, s.heap.get? a = some ob ∧ ob.dict = none) := fun s st => by
  obtain ⟨d, rfl, hne, hd⟩ := x
  exact ⟨(st.dict hd).typeIs, (st.dict hd).mapOf.noDict⟩
theorem W_dGet {v kv z : Value} {b : List UInt8} {kvs : KV} {Φ : Cont Value} (hd : DView g F X v kvs) (hk : isBy kv b) (h : Φ ((valueAt kvs b).getD z) F X G) : W g k A (call (.builtin "dict.get") [v, kv, z]) Φ E F X G := ⟨fun s st => by
  obtain ⟨d, rfl, hne, hd⟩ := hd
  have hm := st.dict hd
  exact call_meetsIn PySem.F.slot_dict_get hm.typeIs PySem.F.entry_dict_get (PySem.F.args_dict_get_3 _ _ _) (meets_dict_get_default _ d (isBy.is hk) hne z) ⟨_, hm.mapOf, (by
    cases hv : valueAt kvs b with
    | none => rw [hv] at h; exact (st.tok _).done h
    | some y => rw [hv] at h; exact (st.tok _).done h)⟩⟩
theorem W_CallGet {o : Expr} {apos pos : Pos} {args : List Expr} {Φ : Cont Value}
    (h : W g k A (eval o env) (fun ov F X G => (∃ kvs, DView g F X ov kvs) ∧ W g k A (callWith pos (.builtin "dict.get") [ov] (backTo pos (starEach args env)) []) Φ E F X G) E F X G)
    (hbase : attributeBase o (Str.ofString "get") env (eval o env) = eval o env := by kernel_rfl)
    (hfew : ((backTo pos (starEach args env)).all (fun x => !x.1) && (backToKw pos (keywordEach [] env)).all (fun x => x.1.isSome)
      && decide (args.length + ([] : List Keyword).length + (if ([] : List Keyword).isEmpty then 0 else 1) < 30)) = true := by kernel_rfl)
    (hline : (apos.endLine == pos.line) = true := by kernel_rfl) :
    W g k A (eval (.Call (.Attribute o (Str.ofString "get") apos) args [] pos) env) Φ E F X G :=
  W_CallMeth PySem.F.plainAttrs_dict PySem.F.slot_dict_get PySem.F.type_dict_get (h.mono fun ov F X G ⟨⟨vs, hv⟩, hw⟩ => ⟨hv.typ, hw⟩) hbase hfew hline

/-! sets -/
/-- a frozen set, whose truth is b -/
noncomputable def FSet (F : PMap) (v : Value) (b : Bool) : Prop := ∃ a o es ep t, v = .ref a ∧ F a = some o ∧ o.ExactSet ∧ o.data = .set es ep t ∧ t.fits es.size = true ∧ es.size < 1000000 ∧ b = !es.isEmpty
theorem FSet.mono {F F' : PMap} {v : Value} {b : Bool} (x : FSet F v b) (h : PLe F F') : FSet F' v b := let ⟨a, o, es, ep, t, e, f, r⟩ := x; ⟨a, o, es, ep, t, e, h _ _ f, r⟩
theorem noBool_set : typeLookup (.type "set") "__bool__" = pure none := by rw [typeLookup_type, builtinLookup_eq_fast]; kernel_rfl
theorem W_tSet {v : Value} {b : Bool} {Φ : Cont Bool} (hv : FSet F v b) (h : Φ b F X G) : W g k A (truthy v) Φ E F X G := ⟨fun s hs => by
  obtain ⟨a, o, es, ep, t, rfl, fa, hex, hd, hf, hz, rfl⟩ := hv
  have ho := hs.fro _ _ fa
  have hT : s.TypeIs (.ref a) "set" := ⟨o, ho, hex.1⟩
  have hne : ((es.size : Int) != 0) = !es.isEmpty := by
    unfold Array.isEmpty
    rcases Nat.eq_zero_or_pos es.size with e | e
    · rw [e]; rfl
    · have h2 : es.size ≠ 0 := by exact Nat.ne_of_gt e
      have h1 : ((es.size : Int) != 0) = true := bne_iff_ne.mpr (by omega)
      rw [h1, decide_eq_false h2]; rfl
  have key : wpAny (model g.prog g.w) A (runValue (.builtin "len" ⟨[.ref a], []⟩)) (fun r s' => r = .int es.size (s.toks + 1) ∧ s' = { s with toks := s.toks + 1 + 1 }) E s := by
    refine wpAny_runValue (codeAny_builtin entry_len ?_)
    rw [Around.under_plainId plain_len _]
    exact wpAny_mono (wpAny_len_body_set (Q := fun r s' => r = .int es.size (s.toks + 1) ∧ s' = { s with toks := s.toks + 1 + 1 }) ho hex hd hf (by exact Int.ofNat_lt.mpr (show es.size < 9223372036854775808 from far 1 [_] [.add (.var 0) (.num 1), .num 9223372036854775808, .add (.var 0) (.num 1), .num 1000000] rfl hz)) ⟨rfl, rfl⟩) (fun fin s' h' => by obtain ⟨r, rfl, hq⟩ := h'; exact hq) fun _ _ e => e
  unfold truthy
  first
    | refine wpAny_bind (wpAny_callSpecial?_none (name := Str.ofString "__bool__") hT noBool_set ?_)
    | refine wpAny_bind (wpAny_pure (wpAny_bind (wpAny_callSpecial?_none (name := Str.ofString "__bool__") hT noBool_set ?_)))
  first
    | refine wpAny_bind (wpAny_specialOf (name := Str.ofString "__len__") hT PySem.F.slot_set_len.lookup ?_)
    | refine wpAny_bind (wpAny_pure (wpAny_bind (wpAny_specialOf (name := Str.ofString "__len__") hT PySem.F.slot_set_len.lookup ?_)))
  first
    | refine wpAny_bind (wpAny_mono key (fun r s' h' => ?_) fun _ _ e => e)
    | refine wpAny_bind (wpAny_pure (wpAny_bind (wpAny_mono key (fun r s' h' => ?_) fun _ _ e => e)))
  obtain ⟨rfl, rfl⟩ := h'
  refine wpAny_pure ?_
  rw [hne]
  exact (hs.tok (s.toks + 1 + 1)).done h⟩
theorem fits_fresh (led : Bool) : (SetTable.fresh 0 0 led).fits 0 = true := by cases led <;> decide
theorem W_set0 {Φ : Cont Value} (h : ∀ F' v, PLe F F' → FSet F' v false → Φ v F' X G) : W g k A (call (.type "set") []) Φ E F X G := ⟨fun s hs => call_set_0 fun led => by
  obtain ⟨l, st'⟩ := hs.newF (fun b o e => Heap.get?_push_of_some { cls := .type "set", dict := none, data := .set #[] 0 (.fresh 0 0 led) } e) s.toks (size_none _) (Heap.get?_push_size _ rfl)
  exact st'.done (h _ _ l ⟨_, _, #[], 0, .fresh 0 0 led, rfl, fset_self, ⟨rfl, rfl, rfl⟩, rfl, fits_fresh led, by decide, rfl⟩)⟩
theorem W_SetB {b : List UInt8} {n kk : Nat} {p pos : Pos} {Φ : Cont Value} (T : True) (h : ∀ F' v, PLe F F' → FSet F' v true → Φ v F' X G) (hmain : ∀ (s : Shared) (Q : Bool → Shared → Prop), St g k F X G s → (∀ b, Q b s) → wpAny (model g.prog g.w) A (inMainModule env) Q E s)
    (hroad : (displayRoad kk [.Constant (.bytes b) n p] == .constants) = false) (hroad2 : (displayRoad kk [.Constant (.bytes b) n p] == .unsure) = false) : W g k A (eval (.Set [.Constant (.bytes b) n p] kk pos) env) Φ E F X G := ⟨fun s hs => by
  rw [arm_eval_Set]
  refine wpAny_bind (wpAny_standAt ?_)
  refine wpAny_bind (hmain s _ hs fun bb => ?_)
  rw [kds_star _ (by rfl), List.map_map]
  refine kds_core (ts := (evalEach [.Constant (.bytes b) n p] env).map fun t => do let v ← t; standAt pos; pure v) hroad (by rfl) (by show 1 ≤ 30; exact far 1 [] [.num 1, .num 30] rfl) ?_ fun led => ?_
  · rw [List.map_map]; rfl
  · refine kds_all pos _ _ _ ?_
    show wpAny _ _ (eval (.Constant (.bytes b) n p) env) _ E _
    refine Constant_bytes ?_
    show KdsFill _ _ _ _ _ _ _ _
    rw [hroad2]
    refine kds_fill_cons ?_
    unfold setAdd
    have hS : Heap.SetOf (bytesKind g.prog g.w) (s.heap.push { cls := .type "set", dict := none, data := .set #[] 0 (.fresh 0 0 led) }) s.heap.objs.size (fun _ => false) 0 :=
      ⟨_, #[], 0, .fresh 0 0 led, Heap.get?_push_size _ rfl, ⟨rfl, rfl, rfl⟩, rfl, fun e he => by simp at he, fun k => by simp, by decide, fits_fresh led, rfl⟩
    have hkey : (bytesKind g.prog g.w).is b (.bytes b.toArray s.toks) = true := isBy.is ⟨_, rfl⟩
    refine wpAny_holding (wpAny_bind ((bytesKind g.prog g.w).pyHash hkey ?_))
    refine wpAny_setAddHashed_of (knd := bytesKind g.prog g.w) hkey rfl hS (by decide) fun h' hsb hS' => ?_
    refine kds_fill_nil rfl ?_
    obtain ⟨o, es, ep, t, ho, hex, hd, hel, hmem, hb, hf, hn⟩ := hS'
    obtain ⟨l, st'⟩ := hs.newF (h' := h') (fun b o e => hsb.extBut b o (Nat.ne_of_lt (Heap.lt_size e)) (Heap.get?_push_of_some _ e)) (s.toks + 1 + 1) (size_none _) ho
    have hn : es.size = 1 := by simpa using hn
    refine st'.done (h _ _ l ⟨_, _, es, ep, t, rfl, fset_self, hex, hd, hf, by exact far 1 [_] [.add (.var 0) (.num 1), .num 1000000, .var 0, .num 1] rfl (Nat.le_of_eq hn), ?_⟩)
    simp [Array.isEmpty, hn]⟩
end
end
section
/-! exceptions: the object and its newest trace are owned things -/
noncomputable def exObj (o : Obj) (tb : Value) : Prop := o.cls = .type "KeyError" ∧ ∃ t, o.data = .fields #[t, tb, .none, .none, .bool false, .none]
noncomputable def tbObj (o : Obj) (fl : Value) : Prop := ∃ ts, o.data = .fields ts ∧ ts[3]? = some fl
section
variable {g : Glo} {k : Fun} {l : List Env} {A : Around} {E : Value → Shared → Prop} {F : PMap} {X Y : XS} {G : GS} {env : Env} {s : Shared} {L0 : Addr}
theorem Stack.funFrames {h : Heap} (hS : ∀ env ∈ l, env.scope.kind = .function ∧ ∃ L o es ep, env.frame = some L ∧ h.get? L = some o ∧ o.data = .dict es ep ∧ F L = none) : h.FunFrames {} l := by
  induction l with
  | nil => trivial
  | cons e r ih =>
    obtain ⟨hk, L, o, es, ep, hf, ho, hd, _⟩ := hS e (.head _)
    exact ⟨by rw [hk]; decide, ⟨L, o, hf, rfl, ho, fun vs q => by rw [hd] at q; cases q⟩, ih fun env he => hS env (.tail _ he)⟩
/-- frames get their slots -/
theorem St.slots (hs : St g k F X G s) (H : Here k l A L0) {m : Str → Option Value} {i : Nat} (hx : X[i]? = some (L0, .ns m)) {h' : Heap} (x : Heap.SlotsOnly (frsOf l) s.heap h') (t : Nat) : St g k F X G { s with heap := h', toks := t } := by
  have hS := hs.stack H hx
  have hfr : ∀ a ∈ frsOf l, F a = none ∧ (a = L0 ∨ ∃ o, k.C a = some o) := fun a ha => by
    obtain ⟨env, he, hfe⟩ := List.mem_filterMap.mp ha
    refine ⟨?_, ?_⟩
    · obtain ⟨_, L, o, es, ep, h1, _, _, h4⟩ := hS.each env he
      rw [h1] at hfe; cases hfe; exact h4
    · obtain ⟨e, rest, hl, hk, hf, hr⟩ := H.own
      subst hl
      rcases List.mem_cons.mp he with rfl | he
      · rw [hf] at hfe; cases hfe; exact .inl rfl
      · obtain ⟨hk, L, o, es, ep, h1, h2, _⟩ := hr env he
        rw [h1] at hfe; cases hfe; exact .inr ⟨o, h2⟩
  have hL0 := hs.apart _ (List.mem_of_getElem? hx)
  exact
  { base := hs.base
    fro := fun b o e => (x.2.1 b fun hm => by rw [(hfr b hm).1] at e; cases e).trans (hs.fro b o e)
    tab := fun q hq => by
      obtain ⟨ps, e, rr⟩ := hs.tab q hq
      refine ⟨ps, (x.2.1 _ fun hm => ?_).trans e, rr⟩
      rcases (hfr _ hm).2 with h1 | ⟨o, h1⟩
      · exact hL0.2.2 q hq h1.symm
      · rw [hs.tabC q hq] at h1; cases h1
    tabF := hs.tabF, os := hs.os, bare := hs.bare
    res := fun p hp => by
      by_cases hL : p.1 = L0
      · obtain ⟨a, r⟩ := p
        simp only at hL; subst hL
        obtain ⟨j, hj⟩ := List.getElem?_of_mem hp
        have := nodup_ne hs.nod hj hx rfl
        subst this
        rw [hj] at hx; cases hx
        exact ns_slots (hs.res _ hp) fun o ho => x.2.2 _ o ho
      · refine (hs.res p hp).at (x.2.1 _ fun hm => ?_)
        rcases (hfr _ hm).2 with h1 | ⟨o, h1⟩
        · exact hL h1
        · rw [(hs.apart p hp).2.1] at h1; cases h1
    nod := hs.nod, apart := hs.apart
    kept := fun a o e => by
      obtain ⟨h1, sl, h2⟩ := hs.kept a o e
      obtain ⟨sl2, h3⟩ := x.2.2 a _ h2
      exact ⟨fun hf => (x.2.1 a (by rw [← H.fr]; exact hf)).trans (h1 hf), sl2, h3⟩
    tabC := hs.tabC, fresh := hs.fresh, gens := hs.gens }

theorem ob_there {a : Addr} {o : Obj} {i : Nat} (hs : St g k F X G s) (h : X[i]? = some (a, .ob o)) : s.heap.get? a = some o := hs.at h
theorem get_len {p q : Addr × Res} : (Y ++ [p, q])[Y.length]? = some p := by simp
theorem get_len1 {p q : Addr × Res} : (Y ++ [p, q])[Y.length + 1]? = some q := by simp
theorem set_len {p q r : Addr × Res} : (Y ++ [p, q]).set Y.length r = Y ++ [r, q] := by simp [List.set_append]
theorem set_len1 {p q r : Addr × Res} : (Y ++ [p, q]).set (Y.length + 1) r = Y ++ [p, r] := by simp [List.set_append]
theorem erase_len1 {p q : Addr × Res} : (Y ++ [p, q]).eraseIdx (Y.length + 1) = Y ++ [p] := by
  rw [List.eraseIdx_append_of_length_le (by exact far 1 [_] [.var 0, .add (.var 0) (.num 1)] rfl)]; simp

theorem exObj.set {o : Obj} {tb tb' : Value} (h : exObj o tb) : exObj (Obj.mapFields (·.setIfInBounds 1 tb') o) tb' := by
  obtain ⟨hc, t, hd⟩ := h
  exact ⟨(Obj.cls_mapFields ..).trans hc, t, by rw [Obj.data_mapFields hd]; simp⟩
theorem tbObj.set {o : Obj} {fl fl' : Value} (h : tbObj o fl) : tbObj (Obj.mapFields (·.setIfInBounds 3 fl') o) fl' := by
  obtain ⟨ts, hd, h3⟩ := h
  have h4 := (Array.getElem?_eq_some_iff.mp h3).1
  exact ⟨_, Obj.data_mapFields hd _, by simp [h4]⟩

/-- a new trace entry on top of head -/
theorem newEntry_st {outer : List Env} {e : Addr} {eo : Obj} {tb head : Value} {hadNext : Bool} {L : Addr} {m : Str → Option Value} {i : Nat} {Q : Unit → Shared → Prop} (hs : St g k F (Y ++ [(e, .ob eo)]) G s) (H : Here k (env :: outer) A L) (hf : env.frame = some L)
    (hx : Y[i]? = some (L, .ns m)) (he : exObj eo tb)
    (h : ∀ s' T eo' oT, St g k F (Y ++ [(e, .ob eo'), (T, .ob oT)]) G s' → exObj eo' (.ref T) → tbObj oT (rawInt L) → Q () s') :
    wpAny (model g.prog g.w) A (do setField (.ref e) 1 (← EntryCells.newEntry head (← frameOf env) .none (rawInt L) .none (← entryPlaceOf L hadNext))) Q E s := by
  have hi : i < Y.length := (List.getElem?_eq_some_iff.mp hx).1
  have hx' : (Y ++ [(e, Res.ob eo)])[i]? = some (L, .ns m) := by rw [List.getElem?_append_left hi]; exact hx
  refine wpAny_bind (wpAny_frameOf_fun H.frames (Stack.funFrames (hs.stack H hx').each) hf fun h₁ hs₁ => ?_)
  have st1 := hs.slots H hx' hs₁ s.toks
  refine wpAny_bind (wpAny_entryPlaceOf fun pl hpl => ?_)
  unfold EntryCells.newEntry newFields
  refine wpAny_bind (wpAny_newObj_type ?_ (hpl.sizeOk5 _ _ _ _ _))
  have st2 := st1.ownL (r := .ob { cls := .type "traceback", dict := none, data := .fields ([head, .ref L, .none, rawInt L, .none] ++ (if pl.isEmpty then List.replicate 6 Value.none else pl)).toArray }) (fun b o e => Heap.get?_push_of_some { cls := .type "traceback", dict := none, data := .fields ([head, .ref L, .none, rawInt L, .none] ++ (if pl.isEmpty then List.replicate 6 Value.none else pl)).toArray } e) s.toks (size_none _) (Heap.get?_push_size _ rfl)
  rw [List.append_assoc, List.singleton_append] at st2
  obtain ⟨hc, t, hd⟩ := id he
  have he2 := ob_there st2 get_len
  refine wpAny_setField he2 hd (by simp) ?_
  have st3 := st2.set (r' := .ob (Obj.mapFields (·.setIfInBounds 1 (.ref h₁.objs.size)) eo)) get_len s.toks (h' := Heap.update _ e (Obj.mapFields (·.setIfInBounds 1 (.ref h₁.objs.size)))) (fun b o hb e => ((Heap.SameBut.update ..).2 b hb).trans e) (Heap.get?_update_self _ he2 (Obj.isFreed_of_fields (Obj.data_mapFields hd _)))
  rw [set_len] at st3
  refine h _ _ _ _ st3 he.set ⟨_, rfl, ?_⟩
  simp
theorem noteFrame_eq (e : Value) (env : Env) (L : Addr) (hf : env.frame = some L) : noteFrame e env = (do
  let head ← field e 1
  if head != .none then
    if (← field head 3) == rawInt L then return
    setField head 3 .none
  setField e 1 (← EntryCells.newEntry head (← frameOf env) .none (rawInt L) .none (← entryPlaceOf L (head != .none)))) := by
  unfold noteFrame; rw [hf]

noncomputable abbrev Two (Y : XS) (e : Addr) (eo : Obj) (T : Addr) (oT : Obj) : XS := Y ++ [(e, .ob eo), (T, .ob oT)]
theorem field_tb {M : Model} {e : Addr} {eo : Obj} {tb : Value} {Q : Value → Shared → Prop} (ho : s.heap.get? e = some eo) (he : exObj eo tb) (h : Q tb s) : wpAny M A (field (.ref e) 1) Q E s := by
  obtain ⟨hc, t, hd⟩ := he
  exact wpAny_field ho hd (x := tb) (by simp) h
theorem field_fl {M : Model} {T : Addr} {oT : Obj} {fl : Value} {Q : Value → Shared → Prop} (ho : s.heap.get? T = some oT) (he : tbObj oT fl) (h : Q fl s) : wpAny M A (field (.ref T) 3) Q E s := by
  obtain ⟨ts, hd, h3⟩ := he
  exact wpAny_field ho hd h3 h
/-- the trace's flight mark is set -/
theorem flight_st {e T : Addr} {eo oT : Obj} {fl : Value} {fr : Option Addr} {Q : Unit → Shared → Prop} (hs : St g k F (Two Y e eo T oT) G s) (he : exObj eo (.ref T)) (ht : tbObj oT fl)
    (h : ∀ s' oT', St g k F (Two Y e eo T oT') G s' → tbObj oT' (fr.elim .none fun f => rawInt f) → Q () s') : wpAny (model g.prog g.w) A (setFlight (.ref e) fr) Q E s := by
  unfold setFlight
  refine wpAny_bind (field_tb (ob_there hs get_len) he ?_)
  rw [if_pos (show (Value.ref T != Value.none) = true from by simp)]
  have hT := ob_there hs get_len1
  have ht' := ht.set (fl' := fr.elim .none fun f => rawInt f)
  obtain ⟨ts, hd, h3⟩ := ht
  refine wpAny_setField hT hd (Array.getElem?_eq_some_iff.mp h3).1 ?_
  have st3 := hs.set (r' := .ob (Obj.mapFields (·.setIfInBounds 3 (fr.elim .none fun f => rawInt f)) oT)) get_len1 s.toks (h' := Heap.update _ T (Obj.mapFields (·.setIfInBounds 3 (fr.elim .none fun f => rawInt f)))) (fun b o hb e => ((Heap.SameBut.update ..).2 b hb).trans e) (Heap.get?_update_self _ hT (Obj.isFreed_of_fields (Obj.data_mapFields hd _)))
  rw [set_len1] at st3
  exact h _ _ st3 ht'
/-- the first frame that an exception passes -/
theorem note_first {outer : List Env} {e : Addr} {eo : Obj} {L : Addr} {m : Str → Option Value} {i : Nat} {Q : Unit → Shared → Prop} (hs : St g k F (Y ++ [(e, .ob eo)]) G s) (H : Here k (env :: outer) A L) (hf : env.frame = some L)
    (hx : Y[i]? = some (L, .ns m)) (he : exObj eo .none) (h : ∀ s' T eo' oT, St g k F (Two Y e eo' T oT) G s' → exObj eo' (.ref T) → tbObj oT (rawInt L) → Q () s') : wpAny (model g.prog g.w) A (noteFrame (.ref e) env) Q E s := by
  rw [noteFrame_eq _ _ _ hf]
  have ho : s.heap.get? e = some eo := ob_there hs last_get
  refine wpAny_bind (field_tb ho he ?_)
  rw [if_neg (by decide)]
  exact newEntry_st hs H hf hx he h
/-- a further frame -/
theorem note_next {outer : List Env} {e T : Addr} {eo oT : Obj} {L : Addr} {m : Str → Option Value} {i : Nat} {Q : Unit → Shared → Prop} (hs : St g k F (Two Y e eo T oT) G s) (H : Here k (env :: outer) A L) (hf : env.frame = some L)
    (hx : Y[i]? = some (L, .ns m)) (he : exObj eo (.ref T)) (ht : tbObj oT .none) (h : ∀ s' T eo' oT, St g k F (Two Y e eo' T oT) G s' → exObj eo' (.ref T) → tbObj oT (rawInt L) → Q () s') : wpAny (model g.prog g.w) A (noteFrame (.ref e) env) Q E s := by
  rw [noteFrame_eq _ _ _ hf]
  refine wpAny_bind (field_tb (ob_there hs get_len) he ?_)
  rw [if_pos (show (Value.ref T != Value.none) = true from by simp)]
  refine wpAny_bind (field_fl (ob_there hs get_len1) ht ?_)
  rw [if_neg (show ¬ ((Value.none == rawInt L) = true) from by simp [rawInt])]
  have hT := ob_there hs get_len1
  obtain ⟨ts, hd, h3⟩ := ht
  refine wpAny_bind (wpAny_setField hT hd (Array.getElem?_eq_some_iff.mp h3).1 ?_)
  have st3 := hs.lose (h' := Heap.update _ T (Obj.mapFields (·.setIfInBounds 3 .none))) get_len1 s.toks (fun b o hb e => ((Heap.SameBut.update ..).2 b hb).trans e)
  rw [erase_len1] at st3
  exact newEntry_st st3 H hf hx he h
/-- the same frame again -/
theorem note_again {e T : Addr} {eo oT : Obj} {L : Addr} {Q : Unit → Shared → Prop} (hs : St g k F (Two Y e eo T oT) G s) (hf : env.frame = some L)
    (he : exObj eo (.ref T)) (ht : tbObj oT (rawInt L)) (h : Q () s) : wpAny (model g.prog g.w) A (noteFrame (.ref e) env) Q E s := by
  rw [noteFrame_eq _ _ _ hf]
  refine wpAny_bind (field_tb (ob_there hs get_len) he ?_)
  rw [if_pos (show (Value.ref T != Value.none) = true from by simp)]
  refine wpAny_bind (field_fl (ob_there hs get_len1) ht ?_)
  rw [if_pos (show (rawInt L == rawInt L) = true from by simp)]
  exact wpAny_pure h
end
end
section
/-! calls that may raise KeyError -/
noncomputable def Raised (g : Glo) (F : PMap) (fr : List Addr) (s : Shared) (PE : PMap → Prop) (r : Result) (s' : Shared) : Prop :=
  ∃ e T eo oT F', r = .error (.ref e) ∧ Ok g F' s' ∧ PLe F F' ∧ (∀ a o, F' a = some o → (∃ o, F a = some o) ∨ s.heap.get? a = none) ∧
    (∀ a o, s.heap.get? a = some o → (∀ q ∈ g.tabs, a ≠ q.2) → KeptAt fr s'.heap a o) ∧ PE F' ∧
    (s.heap.get? e = none ∧ F' e = none ∧ ∀ q ∈ g.tabs, e ≠ q.2) ∧ (s.heap.get? T = none ∧ F' T = none ∧ ∀ q ∈ g.tabs, T ≠ q.2) ∧ e ≠ T ∧
    s'.heap.get? e = some eo ∧ s'.heap.get? T = some oT ∧ exObj eo (.ref T) ∧ tbObj oT .none
noncomputable def BackR (g : Glo) (F : PMap) (fr : List Addr) (s : Shared) (P : Value → PMap → Prop) (PE : PMap → Prop) (r : Result) (s' : Shared) : Prop := Back g F fr s P r s' ∨ Raised g F fr s PE r s'
noncomputable def CallsR (g : Glo) (A : Around) (c : Code) (F : PMap) (P : Value → PMap → Prop) (PE : PMap → Prop) : Prop :=
  ∀ l s, Ok g F s → Stack A l F s.heap → codeAny (model g.prog g.w) A c (BackR g F (frsOf l) s P PE) s

/-- what holds when an exception flies in the function at hand -/
noncomputable def EW (g : Glo) (k : Fun) (L : Addr) (EΦ : PMap → XS → GS → Prop) : Value → Shared → Prop := fun v s => ∃ e T eo oT fl F Y G, v = .ref e ∧ St g k F (Two Y e eo T oT) G s ∧ exObj eo (.ref T) ∧ tbObj oT fl ∧ (fl = .none ∨ fl = rawInt L) ∧ EΦ F Y G
section
variable {g : Glo} {k : Fun} {l : List Env} {A : Around} {E : Value → Shared → Prop} {F : PMap} {X Y : XS} {G : GS} {env : Env} {s : Shared} {L0 : Addr}
theorem St.backR (hs : St g k F X G s) (H : Here k l A L0) {m : Str → Option Value} {i : Nat} (hx : X[i]? = some (L0, .ns m)) {PE : PMap → Prop} {r : Result} {s' : Shared}
    (hb : Raised g F (frsOf l) s PE r s') : ∃ e T eo oT F', r = .error (.ref e) ∧ PLe F F' ∧ PE F' ∧ St g k F' (Two X e eo T oT) s'.gens s' ∧ exObj eo (.ref T) ∧ tbObj oT .none := by
  obtain ⟨e, T, eo, oT, F', rfl, ok, le, fresh, kept, hP, he1, hT1, hne, he, hT, hex, htb⟩ := hb
  obtain ⟨v, F2, hv, le2, hP2, st⟩ := hs.back (P := fun _ F2 => F2 = F') H hx (r := .ok (.ret .none)) (s' := s') ⟨.none, F', rfl, ok, le, fresh, kept, rfl⟩
  subst hP2
  refine ⟨e, T, eo, oT, F2, rfl, le, hP, ?_, hex, htb⟩
  have hX : ∀ p ∈ X, s.heap.get? p.1 ≠ none := fun p hp q => by
    obtain ⟨o, ho⟩ := (hs.res p hp).there
    rw [q] at ho; cases ho
  exact { st with
    res := fun p hp => by
      rcases List.mem_append.mp hp with hp | hp
      · exact st.res p hp
      · rcases List.mem_cons.mp hp with rfl | hp
        · exact he
        · rw [List.mem_singleton.mp hp]; exact hT
    nod := by
      rw [List.map_append, List.nodup_append]
      refine ⟨st.nod, by simp [hne], fun a ha b hb q => ?_⟩
      subst q
      obtain ⟨p, hp, rfl⟩ := List.mem_map.mp ha
      simp only [List.map_cons, List.map_nil, List.mem_cons, List.not_mem_nil, or_false] at hb
      rcases hb with hb | hb
      · exact hX p hp (by rw [hb]; exact he1.1)
      · exact hX p hp (by rw [hb]; exact hT1.1)
    apart := fun p hp => by
      rcases List.mem_append.mp hp with hp | hp
      · exact st.apart p hp
      · rcases List.mem_cons.mp hp with rfl | hp
        · exact ⟨he1.2.1, hs.cNone he1.1, he1.2.2⟩
        · rw [List.mem_singleton.mp hp]; exact ⟨hT1.2.1, hs.cNone hT1.1, hT1.2.2⟩ }
theorem W_callsR {f : Value} {pos : List Value} {kw : List (Str × Value)} {P : Value → PMap → Prop} {PE : PMap → Prop} {Φ : Cont Value} {EΦ : PMap → XS → GS → Prop} {m : Str → Option Value} {i : Nat} (H : Here k l A L0) (hx : X[i]? = some (L0, .ns m))
    (hc : CallsR g A (.call f ⟨pos, kw⟩) F P PE) (h : ∀ v F' G', PLe F F' → P v F' → Φ v F' X G') (hE : ∀ F' G', PLe F F' → PE F' → EΦ F' X G') : W g k A (call f pos kw) Φ (EW g k L0 EΦ) F X G := ⟨fun s hs =>
  wpAny_call (codeAny_mono (hc _ s hs.toOk (hs.stack H hx)) fun r s' hb => by
    rcases hb with hb | hb
    · obtain ⟨v, F', rfl, le, hP, st⟩ := hs.back H hx hb
      exact st.done (h v F' _ le hP)
    · obtain ⟨e, T, eo, oT, F', rfl, le, hP, st, hex, htb⟩ := hs.backR H hx hb
      exact ⟨e, T, eo, oT, .none, F', X, _, rfl, st, hex, htb, .inl rfl, hE _ _ le hP⟩)⟩
/-- note, whichever way the exception came -/
theorem note_any {outer : List Env} {e T : Addr} {eo oT : Obj} {fl : Value} {L : Addr} {m : Str → Option Value} {i : Nat} {Q : Unit → Shared → Prop} (hs : St g k F (Two Y e eo T oT) G s) (H : Here k (env :: outer) A L) (hf : env.frame = some L)
    (hx : Y[i]? = some (L, .ns m)) (he : exObj eo (.ref T)) (ht : tbObj oT fl) (hfl : fl = .none ∨ fl = rawInt L) (h : ∀ s' T eo' oT, St g k F (Two Y e eo' T oT) G s' → exObj eo' (.ref T) → tbObj oT (rawInt L) → Q () s') : wpAny (model g.prog g.w) A (noteFrame (.ref e) env) Q E s := by
  rcases hfl with rfl | rfl
  · exact note_next hs H hf hx he ht h
  · exact note_again hs hf he ht (h _ _ _ _ hs he ht)
theorem sub_KeyError_Base : isSubtype (.type "KeyError") (.type "BaseException") = pure true := by rw [isSubtype_type]; kernel_rfl
theorem sub_KeyError : isSubtype (.type "KeyError") (.type "KeyError") = pure true := by rw [isSubtype_type]; kernel_rfl
theorem noTup_KeyError : isSubtype (.type ((Manifest.find? "KeyError").elim "type" fun x => x.metatype)) (.type "tuple") = pure false := by rw [isSubtype_type]; kernel_rfl
/-- try with one clause for KeyError -/
theorem W_TryK {outer : List Env} {body orelse : List Stmt} {np hp pos : Pos} {b₀ : Stmt} {suite : List Stmt} {Φ : Cont Flow} {EΦ : PMap → XS → GS → Prop} {K : Frag} {mg mb : Str → Option Value} (TT : Top0 g K mg mb) (H : Here k (env :: outer) A L0) (hf : env.frame = some L0)
    (hk : env.kindOf (Str.ofString "KeyError") = some .globalImplicit) (hnm : nsIn K mainGlobals (Str.ofString "KeyError") = some none)
    (hg : env.globals = mainGlobals) (hb : env.builtins = builtinsNs) (hsc : env.scope.kind = .function)
    (h : W g k A (execs body env) (seqK (W g k A (execs orelse env) Φ E) Φ) (EW g k L0 EΦ) F X G)
    (hx : ∀ F Y G, EΦ F Y G → ∃ (i : Nat) (m : Str → Option Value), Y[i]? = some (L0, .ns m))
    (hh : ∀ e T eo oT F Y G, EΦ F Y G → exObj eo (.ref T) → tbObj oT .none → W g k (A.mark (some (.ref e))) (execs (b₀ :: suite) env) Φ (notedBy (model g.prog g.w) (A.mark (some (.ref e))) env (cameBackBy (model g.prog g.w) A env E)) F (Two Y e eo T oT) G) :
    W g k A (exec (.Try body [.ExceptHandler (some (.Name (Str.ofString "KeyError") np)) none (b₀ :: suite) hp] orelse [] pos) env) Φ E F X G := ⟨fun s hs => by
  refine wpAny_Try_except (wpAny_mono (h.run s hs) (fun f s₁ ⟨F', X', G', st, hq⟩ => ?_) fun v s₁ hv => ?_)
  · cases f <;> first | exact hq.run _ st | exact st.done hq
  · obtain ⟨e, T, eo, oT, fl, F', Y, G', rfl, st, hex, htb, hfl, hE⟩ := hv
    obtain ⟨i, m, hY⟩ := hx _ _ _ hE
    refine note_any st H hf hY hex htb hfl fun s2 T2 eo2 oT2 st2 hex2 htb2 => ?_
    refine flight_st st2 hex2 htb2 fun s3 oT3 st3 htb3 => ?_
    have W1 : W g k (A.mark (some (.ref e))) (eval (.Name (Str.ofString "KeyError") np) env) (fun v F'' X'' G'' => v = .type "KeyError" ∧ F'' = F' ∧ X'' = Two Y e eo2 T2 oT3 ∧ G'' = G') (notedBy (model g.prog g.w) (A.mark (some (.ref e))) env (cameBackBy (model g.prog g.w) A env E)) F' (Two Y e eo2 T2 oT3) G' :=
      W_Name (W_builtin TT hk hnm (by decide +kernel) ⟨rfl, rfl, rfl, rfl⟩ (by decide +kernel) hg hb hsc) (by decide +kernel)
    refine wpAny_handleBy_builtin (X := "KeyError") (T := "KeyError") (b := true) sub_KeyError_Base noTup_KeyError sub_KeyError (W1.then st3 fun v F4 X4 G4 s4 st4 hv => ?_)
    obtain ⟨rfl, rfl, rfl, rfl⟩ := hv
    refine ⟨rfl, ⟨eo2, ob_there st4 get_len, hex2.1⟩, ?_⟩
    rw [if_pos rfl]
    refine flight_st st4 hex2 htb3 fun s5 oT5 st5 htb5 => ?_
    exact (hh e T2 eo2 oT5 _ _ _ hE hex2 htb5).run _ st5⟩
end
end
section
section
variable {g : Glo} {k : Fun} {l : List Env} {A A' : Around} {E : Value → Shared → Prop} {F : PMap} {X Y : XS} {G : GS} {env : Env} {s : Shared} {L0 : Addr}

theorem St.raisedAt {PE : PMap → Prop} (hs : Ok g F s) {env : Env} {L : Addr} (hf : env.frame = some L) (hL : s.heap.get? L = none) {e T : Addr} {eo oT : Obj} {F' : PMap} {G' : GS} {s' : Shared}
    (st3 : St g ⟨tabFree g s.heap, F, frsOf (env :: l)⟩ F' (Two Y e eo T oT) G' s') (hex : exObj eo (.ref T)) (htb : tbObj oT .none) (le : PLe F F') (hP : PE F') : Raised g F (frsOf l) s PE (.error (.ref e)) s' := by
  have hbk := St.leave (v := .none) (P := fun _ F2 => F2 = F') hs hf hL st3 le rfl
  obtain ⟨_, F2, _, ok, le2, fresh, kept, hF2⟩ := hbk
  subst hF2
  have old : ∀ p ∈ Two Y e eo T oT, s.heap.get? p.1 = none ∧ F2 p.1 = none ∧ ∀ q ∈ g.tabs, p.1 ≠ q.2 := fun p hp => by
    have h1 := st3.apart p hp
    refine ⟨?_, h1.1, h1.2.2⟩
    cases q : s.heap.get? p.1 with
    | none => rfl
    | some o =>
      have h2 : tabFree g s.heap p.1 = some o := tabFree_of q h1.2.2
      exact absurd (h2.symm.trans h1.2.1) (by simp)
  have hne : e ≠ T := fun q => by
    have h1 := st3.nod
    rw [List.map_append, List.nodup_append] at h1
    have := h1.2.1
    simp [q] at this
  exact ⟨e, T, eo, oT, F2, rfl, ok, le2, fresh, kept, hP, old (e, .ob eo) (by simp), old (T, .ob oT) (by simp), hne, ob_there st3 get_len, ob_there st3 get_len1, hex, htb⟩
/-- an exception leaves the function at hand -/
theorem St.leaveR {PE : PMap → Prop} {P : Value → PMap → Prop} (hs : Ok g F s) {env : Env} {L : Addr} (hf : env.frame = some L) (hL : s.heap.get? L = none) {v : Value} {s' : Shared} {E' : Value → Shared → Prop} (H : Here ⟨tabFree g s.heap, F, frsOf (env :: l)⟩ (env :: l) (A.deeper env) L)
    (hw : EW g ⟨tabFree g s.heap, F, frsOf (env :: l)⟩ L (fun F' Y G' => PLe F F' ∧ PE F' ∧ ∃ (i : Nat) (m : Str → Option Value), Y[i]? = some (L, .ns m)) v s') :
    wpAny (model g.prog g.w) (A.deeper env) (leaving env v) (fun _ s'' => BackR g F (frsOf l) s P PE (.error v) s'') E' s' := by
  obtain ⟨e, T, eo, oT, fl, F', Y, G', rfl, st, hex, htb, hfl, le, hP, i, m, hY⟩ := hw
  unfold leaving
  refine wpAny_bind (note_any st H hf hY hex htb hfl fun s2 T2 eo2 oT2 st2 hex2 htb2 => ?_)
  exact flight_st st2 hex2 htb2 fun s3 oT3 st3 htb3 => .inr (St.raisedAt hs hf hL st3 hex2 htb3 le hP)
/-- a new exception leaves the function at hand -/
theorem St.leaveN {PE : PMap → Prop} {P : Value → PMap → Prop} (hs : Ok g F s) {env : Env} {L : Addr} (hf : env.frame = some L) (hL : s.heap.get? L = none) {v : Value} {s' : Shared} {E' : Value → Shared → Prop} (H : Here ⟨tabFree g s.heap, F, frsOf (env :: l)⟩ (env :: l) (A.deeper env) L)
    (hw : ∃ e eo F' Y G', v = .ref e ∧ St g ⟨tabFree g s.heap, F, frsOf (env :: l)⟩ F' (Y ++ [(e, .ob eo)]) G' s' ∧ exObj eo .none ∧ PLe F F' ∧ PE F' ∧ ∃ (i : Nat) (m : Str → Option Value), Y[i]? = some (L, .ns m)) :
    wpAny (model g.prog g.w) (A.deeper env) (leaving env v) (fun _ s'' => BackR g F (frsOf l) s P PE (.error v) s'') E' s' := by
  obtain ⟨e, eo, F', Y, G', rfl, st, hex, le, hP, i, m, hY⟩ := hw
  unfold leaving
  refine wpAny_bind (note_first st H hf hY hex fun s2 T2 eo2 oT2 st2 hex2 htb2 => ?_)
  exact flight_st st2 hex2 htb2 fun s3 oT3 st3 htb3 => .inr (St.raisedAt hs hf hL st3 hex2 htb3 le hP)

/-- the body of a function that may raise KeyError -/
noncomputable abbrev BodyR (g : Glo) (A : Around) (l : List Env) (F : PMap) (env : Env) (L : Addr) (X : XS) (body : List Stmt) (P : Value → PMap → Prop) (PE : PMap → Prop) : Prop :=
  ∀ k G, Here k (env :: l) (A.deeper env) L →
    W g k (A.deeper env) (execs body env) (fun f F' X' G' => PLe F F' ∧ P (match f with | .ret v => v | _ => .none) F') (EW g k L (fun F' Y G' => PLe F F' ∧ PE F' ∧ ∃ (i : Nat) (m : Str → Option Value), Y[i]? = some (L, .ns m))) F X G

theorem calls_plainR {K : Frag} {mg mb : Str → Option Value} (T : Top0 g K mg mb) {a : Addr} {args : Args} {o : Obj} {fd : FuncData} {body : List Stmt} {binds : List (Str × Value)} {P : Value → PMap → Prop} {PE : PMap → Prop} {n : Nat} (hroom : Room A n)
    (ho : F a = some o) (hdata : o.data = .func fd) (hcd : CodeAtF F fd.code fd.qualname) (hbody : fd.body = .stmts body) (hbind : ∀ s, Ok g F s → BindsTo s fd args binds)
    (hloc : ∀ x ∈ binds, fd.scope.names.lookup x.1 = some .local) (hcell : ∀ x ∈ fd.scope.names, x.2 ≠ .cell)
    (h : ∀ L l, BodyR g A l F (newEnv fd.scope L fd.globals fd.closure (fd.qualname ++ ".<locals>.") (some a) fd.code none fd.builtins) L [(L, .ns fun x => binds.reverse.lookup x)] body P PE)
    (hco : fd.scope.isCoroutine = false) (hgen : fd.scope.isGenerator = false) (hk : fd.scope.kind = .function) : CallsR g A (.call (.ref a) args) F P PE := fun l s hs hS => by
  refine codeAny_call_function hroom.lt (hs.fro _ _ ho) hdata hco hgen hbody (hcd.rec hs.fro) (hbind s hs _ _ _ _ ?_)
  refine wpAny_newFunctionEnv hcell hloc (fun h₁ hns hsb => ⟨(T.nolimit.keeps hs.stays).fresh _ hsb, codeAny_func ?_⟩) hk
  have hk1 : ∀ b o, s.heap.get? b = some o → h₁.get? b = some o := fun b o e => hsb.extBut b o (Nat.ne_of_lt (Heap.lt_size e)) (Heap.get?_push_of_some _ e)
  have st := St.enter hs (h' := h₁) (s.toks + binds.length) [(s.heap.objs.size, .ns fun x => binds.reverse.lookup x)] (frsOf (newEnv fd.scope s.heap.objs.size fd.globals fd.closure (fd.qualname ++ ".<locals>.") (some a) fd.code none fd.builtins :: l)) hk1
    (fun p hp => by rw [List.mem_singleton.mp hp]; exact hns) (by simp) fun p hp => by rw [List.mem_singleton.mp hp]; exact size_none _
  have hH := Here.enter hS hs (env := newEnv fd.scope s.heap.objs.size fd.globals fd.closure (fd.qualname ++ ".<locals>.") (some a) fd.code none fd.builtins) (L := s.heap.objs.size) hk rfl
  exact wpAny_mono ((h s.heap.objs.size l _ s.gens hH).run _ st) (fun f s' ⟨F', X', G', st', hP⟩ => .inl (St.leave hs rfl (size_none _) st' hP.1 hP.2)) fun v s' hw => St.leaveR hs rfl (size_none _) hH hw

/-- a lambda without cells of its own -/
theorem calls_lam {K : Frag} {mg mb : Str → Option Value} (T : Top0 g K mg mb) {a : Addr} {args : Args} {o : Obj} {fd : FuncData} {body : Expr} {binds : List (Str × Value)} {P : Value → PMap → Prop} {PE : PMap → Prop} {n : Nat} (hroom : Room A n)
    (ho : F a = some o) (hdata : o.data = .func fd) (hcd : CodeAtF F fd.code fd.qualname) (hbody : fd.body = .expr body) (hbind : bindArgs fd args = pure binds)
    (hloc : ∀ x ∈ binds, fd.scope.names.lookup x.1 = some .local) (hcell : ∀ x ∈ fd.scope.names, x.2 ≠ .cell)
    (h : ∀ L l k G, Here k (newEnv fd.scope L fd.globals fd.closure (fd.qualname ++ ".<locals>.") (some a) fd.code none fd.builtins :: l) (A.deeper (newEnv fd.scope L fd.globals fd.closure (fd.qualname ++ ".<locals>.") (some a) fd.code none fd.builtins)) L →
      W g k (A.deeper (newEnv fd.scope L fd.globals fd.closure (fd.qualname ++ ".<locals>.") (some a) fd.code none fd.builtins)) (eval body (newEnv fd.scope L fd.globals fd.closure (fd.qualname ++ ".<locals>.") (some a) fd.code none fd.builtins)) (fun v F' X' G' => PLe F F' ∧ P v F')
        (fun v s' => ∃ e eo F' Y G', v = .ref e ∧ St g k F' (Y ++ [(e, .ob eo)]) G' s' ∧ exObj eo .none ∧ PLe F F' ∧ PE F' ∧ ∃ (i : Nat) (m : Str → Option Value), Y[i]? = some (L, .ns m)) F [(L, .ns fun x => binds.reverse.lookup x)] G)
    (hco : fd.scope.isCoroutine = false) (hgen : fd.scope.isGenerator = false) (hk : fd.scope.kind = .function) : CallsR g A (.call (.ref a) args) F P PE := fun l s hs hS => by
  refine kla_callFunE hroom.lt (hs.fro _ _ ho) hdata hco hgen hbody (hcd.rec hs.fro) ?_
  rw [hbind]
  refine wpAny_pure (wpAny_newFunctionEnv hcell hloc (fun h₁ hns hsb => ⟨(T.nolimit.keeps hs.stays).fresh _ hsb, kla_codeExpr ?_⟩) hk)
  have hk1 : ∀ b o, s.heap.get? b = some o → h₁.get? b = some o := fun b o e => hsb.extBut b o (Nat.ne_of_lt (Heap.lt_size e)) (Heap.get?_push_of_some _ e)
  have st := St.enter hs (h' := h₁) (s.toks + binds.length) [(s.heap.objs.size, .ns fun x => binds.reverse.lookup x)] (frsOf (newEnv fd.scope s.heap.objs.size fd.globals fd.closure (fd.qualname ++ ".<locals>.") (some a) fd.code none fd.builtins :: l)) hk1
    (fun p hp => by rw [List.mem_singleton.mp hp]; exact hns) (by simp) fun p hp => by rw [List.mem_singleton.mp hp]; exact size_none _
  have hH := Here.enter hS hs (env := newEnv fd.scope s.heap.objs.size fd.globals fd.closure (fd.qualname ++ ".<locals>.") (some a) fd.code none fd.builtins) (L := s.heap.objs.size) hk rfl
  exact wpAny_mono ((h s.heap.objs.size l _ s.gens hH).run _ st) (fun f s' ⟨F', X', G', st', hP⟩ => .inl (St.leave hs rfl (size_none _) st' hP.1 hP.2)) fun v s' hw => St.leaveN hs rfl (size_none _) hH hw
/-- d[k] in a dict where k is missing -/
theorem W_dMiss {value slice : Expr} {v kv : Value} {b : List UInt8} {kvs : KV} {Φ : Cont Value} (hh : A.handled = none) (hd : DView g F X v kvs) (hk : isBy kv b) (hx : valueAt kvs b = none)
    (h : ∀ s' e eo, St g k F (X ++ [(e, .ob eo)]) G s' → exObj eo .none → E (.ref e) s')
    (hs : ∀ a t, subscripted slice false (.ref a) (.bytes b.toArray t) = operate [.ref a, .bytes b.toArray t] (getItem (.ref a) (.bytes b.toArray t)) := by intro _ _; kernel_rfl)
    (hg : ∀ a r, letTemporaryGo value (.ref a) r = pure () := by intro _ _; kernel_rfl) : W g k A (subscriptTail value slice v kv) Φ E F X G := ⟨fun s st => by
  obtain ⟨d, rfl, hne, hd⟩ := hd
  have hm := st.dict hd
  have hkk := isBy.is (g := g) hk
  obtain ⟨t, rfl⟩ := hk
  refine subscriptTail_builtin hm.typeIs slot_dict_getitem.lookup (wpAny_getItem_missing_of hkk hne hh hm.mapOf hx fun h' e hn => ?_) (hs d t) (hg d)
  obtain ⟨ob, tt, he, hc, hdat⟩ := hn.there
  have st2 := st.ownL (r := .ob ob) hn.keeps (s.toks + 1) hn.new he
  exact h _ e ob st2 ⟨hc, tt, hdat⟩⟩
end
end
section
/-! functions made at run time -/
theorem codeAmong_snoc_or {pos pos' : Pos} {c v : Value} : ∀ (l : List Value), TriplesOk l → codeAmong pos' (l ++ [rawInt pos.line, rawInt pos.col, c]) = some v → codeAmong pos' l = some v ∨ (pos'.line = pos.line ∧ pos'.col = pos.col ∧ v = c) := fun l h e => by
  fun_induction TriplesOk l with
  | case1 =>
    simp only [List.nil_append, rawInt, codeAmong] at e
    split at e
    · rename_i hc
      simp only [Bool.and_eq_true, beq_iff_eq] at hc
      cases e
      exact .inr ⟨by omega, by omega, rfl⟩
    · cases e
  | case2 a t b u x rest ih =>
    simp only [List.cons_append, codeAmong] at e ⊢
    split at e
    · rename_i hc
      cases e
      left; rw [if_pos hc]
    · rename_i hc
      rcases ih h e with h1 | h1
      · left; rw [if_neg hc]; exact h1
      · exact .inr h1
  | case3 l h1 h2 => exact h.elim
section
variable {g : Glo} {k : Fun} {A : Around} {E : Value → Shared → Prop} {F : PMap} {X Y : XS} {G : GS} {env : Env} {s : Shared} {K : Frag} {mg mb : Str → Option Value}
/-- the table P got a code c' -/
theorem St.newCode (hs : St g k F X G s) {c P c' : Addr} {pos : Pos} {ps : Array Value} {qual : Str} (hq : (c, P) ∈ g.tabs) (hqa : g.qa P pos.line pos.col = qual) (hP : s.heap.get? P = some (tabObj ps)) (htri : TriplesOk ps.toList)
    (hcod : ∀ pos v, codeAmong pos ps.toList = some v → CodeAtF F v (g.qa P pos.line pos.col)) {h' : Heap} (t : Nat) (hx : Heap.ExtBut P s.heap h') (hge : s.heap.objs.size ≤ c') (hrec : h'.CodeRec (.ref c') qual)
    (htb : h'.get? P = some (tabObj (ps ++ #[rawInt pos.line, rawInt pos.col, .ref c']))) : ∃ F', PLe F F' ∧ CodeAtF F' (.ref c') qual ∧ St g k F' X G { s with heap := h', toks := t } := by
  obtain ⟨c₂, oc, vs, tq, e2, hoc, hd, hv⟩ := hrec
  cases e2
  have hnew : s.heap.get? c' = none := Heap.get?_none_of_le hge
  have le := fset_le (hs.fNone hnew) (o := oc)
  have hcode : CodeAtF (fset F c' oc) (.ref c') qual := ⟨c', oc, vs, tq, rfl, fset_self, hd, hv⟩
  have hne : c' ≠ P := fun q => by rw [q, hP] at hnew; cases hnew
  have hkeep : ∀ b o, b ≠ P → s.heap.get? b = some o → h'.get? b = some o := fun b o hb e => hx b o hb e
  refine ⟨_, le, hcode, ?_⟩
  exact
  { base := hs.base.trans le
    fro := fun b o e => by
      unfold fset at e
      split at e
      · rename_i hb; subst hb; cases e; exact hoc
      · exact hkeep b o (fun q => by subst q; rw [hs.tabF _ hq] at e; cases e) (hs.fro b o e)
    tab := fun q hq' => by
      by_cases hqP : q.2 = P
      · rw [hqP]
        refine ⟨_, htb, by simpa using TriplesOk_snoc _ _ _ _ htri, fun pos' v e => ?_⟩
        rw [show (ps ++ #[rawInt pos.line, rawInt pos.col, Value.ref c']).toList = ps.toList ++ [rawInt pos.line, rawInt pos.col, .ref c'] from by simp] at e
        rcases codeAmong_snoc_or _ htri e with h1 | ⟨h1, h2, rfl⟩
        · exact (hcod _ _ h1).mono le
        · rw [h1, h2, hqa]; exact hcode
      · obtain ⟨ps2, e, r1, r2⟩ := hs.tab q hq'
        exact ⟨ps2, hkeep _ _ hqP e, r1, fun pos v e => (r2 pos v e).mono le⟩
    tabF := fun q hq' => fset_none (fun e => by
      obtain ⟨ps2, e2, _⟩ := hs.tab q hq'
      rw [e, hnew] at e2; cases e2) (hs.tabF q hq')
    os := hs.os, bare := hs.bare
    res := fun p hp => (hs.res p hp).keep fun o e => hkeep _ _ ((hs.apart p hp).2.2 _ hq) e
    nod := hs.nod
    apart := fun p hp => ⟨fset_none (fun e => by
      obtain ⟨o, ho⟩ := (hs.res p hp).there
      rw [e, hnew] at ho; cases ho) (hs.apart p hp).1, (hs.apart p hp).2⟩
    kept := fun b o e => let ⟨h1, sl, h2⟩ := hs.kept b o e
      have hb : b ≠ P := fun q => by subst q; rw [hs.tabC _ hq] at e; cases e
      ⟨fun hf => hkeep _ _ hb (h1 hf), sl, hkeep _ _ hb h2⟩
    tabC := hs.tabC
    fresh := fun b o' e => by
      unfold fset at e
      split at e
      · rename_i hb; subst hb; exact .inr (hs.cNone hnew)
      · exact hs.fresh b o' e
    gens := hs.gens }
theorem St.builtinsAt (hs : St g k F X G s) (T : Top0 g K mg mb) {c P : Addr} {ps : Array Value} (hq : (c, P) ∈ g.tabs) (hP : s.heap.get? P = some (tabObj ps)) : s.heap.BuiltinsAt mg P ∧ mainGlobals ≠ P := by
  obtain ⟨bm, ob, b1, b2, b3, b4, b5, b6⟩ := T.bmain
  have hgs := T.gns.keeps hs.toOk.stays
  have e3 := hs.toOk.stays _ _ b3
  refine ⟨⟨bm, ob, b1, b2, fun q => ?_, fun q => ?_, e3, b4, b5, b6⟩, fun q => ?_⟩
  · obtain ⟨o, es, ep, e, hd, _⟩ := T.gns
    rw [q, e] at b3; cases b3; rw [hd] at b6; cases b6
  · rw [q, hP] at e3; cases e3; cases b4
  · obtain ⟨o, es, ep, e, hd, _⟩ := hgs
    rw [q, hP] at e; cases e; cases hd
/-- a lambda is made -/
theorem W_Lambda {params : Arguments} {body : Expr} {scope : Scope} {pos : Pos} {c P : Addr} {clos : List (Str × Addr)} {Φ : Cont Value} (T : Top0 g K mg mb) (hq : (c, P) ∈ g.tabs) (hcode : env.code = .ref c) (hqa : g.qa P pos.line pos.col = env.qual ++ "<lambda>")
    (hcl : closureFor scope env = pure clos) (h : ∀ F' f cd ct, PLe F F' → F' f = some { cls := .type "function", data := .func (kla_fn "<lambda>" (env.qual ++ "<lambda>") params body scope clos ((mg "__name__").getD .none) cd ct) } → CodeAtF F' cd (env.qual ++ "<lambda>") → Φ (.ref f) F' X G)
    (hdef : defaultsOf params env = ([], []) := by kernel_rfl) (hg : env.globals = mainGlobals := by kernel_rfl) : W g k A (eval (.Lambda params body scope pos) env) Φ E F X G := ⟨fun s hs => by
  refine kla_eval hdef ?_
  obtain ⟨ps, hP, htri, hcod⟩ := hs.tab _ hq
  obtain ⟨hbi, hgP⟩ := hs.builtinsAt T hq hP
  have C := (T.heads _ hq).keeps hs.toOk.stays
  have hgs := T.gns.keeps hs.toOk.stays
  cases hc : codeAmong pos ps.toList with
  | some cv =>
    have hcv := hcod pos cv hc
    rw [hqa] at hcv
    refine kla_makeFunctionHit (mg := mg) hcl hg hgs hcode C hP htri hc hbi fun ctv h' tk hk hsz => ?_
    obtain ⟨le, st⟩ := (hs.grow hk s.toks).newF (h' := h'.push { cls := .type "function", data := .func (kla_fn "<lambda>" (env.qual ++ "<lambda>") params body scope clos ((mg "__name__").getD .none) cv ctv) }) (fun b o e => Heap.get?_push_of_some _ e) tk (size_none _) (Heap.get?_push_size _ rfl)
    exact st.done (h _ _ cv ctv le fset_self (hcv.mono le))
  | none =>
    refine kla_makeFunction (mg := mg) hcl hg hgs hcode C hP htri hc hgP hbi fun c' ctv h' tk hx hge hlt hrec htb => ?_
    obtain ⟨F1, le1, hcd, st1⟩ := hs.newCode hq hqa hP htri hcod s.toks hx hge hrec htb
    obtain ⟨le, st⟩ := st1.newF (h' := h'.push (kla_obj "<lambda>" (env.qual ++ "<lambda>") params body scope clos ((mg "__name__").getD .none) c' ctv)) (fun b o e => Heap.get?_push_of_some _ e) tk (size_none _) (Heap.get?_push_size _ rfl)
    exact st.done (h _ _ (.ref c') ctv (le1.trans le) fset_self (hcd.mono le))⟩
theorem W_FuncDef {name : Str} {params : Arguments} {body : List Stmt} {scope : Scope} {pos : Pos} {c P : Addr} {clos : List (Str × Addr)} {Φ : Cont Flow} (T : Top0 g K mg mb) (hq : (c, P) ∈ g.tabs) (hcode : env.code = .ref c) (hqa : g.qa P pos.line pos.col = qualnameIn env name name)
    (hcl : closureFor scope env = pure clos) (h : ∀ F' f cd ct doc, PLe F F' → F' f = some { cls := .type "function", data := .func (fnX name (qualnameIn env name name) params body scope clos .none .none doc ((mg "__name__").getD .none) none cd ct) } → CodeAtF F' cd (qualnameIn env name name) →
      W g k A (storeName env name (.ref f)) (fun _ => Φ .next) E F' X G)
    (hd0 : params.defaults = [] := by kernel_rfl) (hk0 : params.kw_defaults = [] := by kernel_rfl) (ha : annTrees params none env = [] := by kernel_rfl) (hg : env.globals = mainGlobals := by kernel_rfl) : W g k A (exec (.FunctionDef name params body [] none [] scope none name pos) env) Φ E F X G := ⟨fun s hs => by
  refine nestDef_K hd0 hk0 ha ?_
  obtain ⟨ps, hP, htri, hcod⟩ := hs.tab _ hq
  obtain ⟨hbi, hgP⟩ := hs.builtinsAt T hq hP
  have C := (T.heads _ hq).keeps hs.toOk.stays
  have hgs := T.gns.keeps hs.toOk.stays
  cases hc : codeAmong pos ps.toList with
  | some cv =>
    have hcv := hcod pos cv hc
    rw [hqa] at hcv
    refine makeFunction_hit (mg := mg) hcl hg hgs hcode C hP htri hc hbi fun ctv doc h' tk hk hsz => ?_
    obtain ⟨le, st⟩ := (hs.grow hk s.toks).newF (h' := h'.push { cls := .type "function", data := .func (fnX name (qualnameIn env name name) params body scope clos .none .none doc ((mg "__name__").getD .none) none cv ctv) }) (fun b o e => Heap.get?_push_of_some _ e) tk (size_none _) (Heap.get?_push_size _ rfl)
    exact (h _ _ cv ctv doc le fset_self (hcv.mono le)).then st fun _ _ _ _ _ st hw => st.done hw
  | none =>
    refine makeFunction_K (mg := mg) hcl hg hgs hcode C hP htri hc hgP hbi fun c' ctv doc h' tk hx hge hlt hrec htb => ?_
    obtain ⟨F1, le1, hcd, st1⟩ := hs.newCode hq hqa hP htri hcod s.toks hx hge hrec htb
    obtain ⟨le, st⟩ := st1.newF (h' := h'.push (fnMade name (qualnameIn env name name) params body scope clos doc ((mg "__name__").getD .none) c' ctv)) (fun b o e => Heap.get?_push_of_some _ e) tk (size_none _) (Heap.get?_push_size _ rfl)
    exact (h _ _ (.ref c') ctv doc (le1.trans le) fset_self (hcd.mono le)).then st fun _ _ _ _ _ st hw => st.done hw⟩

/-- a nested function without cells of its own, walked where it is called -/
theorem W_inlineF {a : Addr} {o : Obj} {fd : FuncData} {body : List Stmt} {pos : List Value} (binds : List (Str × Value)) {Φ : Cont Value} {n : Nat} (T : Top0 g K mg mb) (hroom : Room A (n + 1)) (ho : F a = some o) (hdata : o.data = .func fd) (hcd : CodeAtF F fd.code fd.qualname) (hbody : fd.body = .stmts body)
    (hbind : bindArgs fd ⟨pos, []⟩ = pure binds) (hgood : goodBinds fd.scope.names binds = true) (hco : fd.scope.isCoroutine = false) (hgen : fd.scope.isGenerator = false) (hk : fd.scope.kind = .function)
    (h : ∀ L m, BindsAre m binds → BodyIn g k A (newEnv fd.scope L fd.globals fd.closure (fd.qualname ++ ".<locals>.") (some a) fd.code none fd.builtins) body Φ F ((L, .ns m) :: X) G) : W g k A (call (.ref a) pos []) Φ E F X G := ⟨fun s hs => by
  simp only [goodBinds, Bool.and_eq_true, List.all_eq_true, decide_eq_true_eq] at hgood
  refine wpAny_call (codeAny_call_function hroom.lt (hs.fro _ _ ho) hdata hco hgen hbody (hcd.rec hs.fro) (BindsTo.of_eq hbind _ _ _ _ ?_))
  refine wpAny_newFunctionEnv hgood.2 hgood.1.1 (fun h₁ hns hsb => ⟨(T.nolimit.keeps hs.toOk.stays).fresh _ hsb, codeAny_func ?_⟩) hk
  have st := hs.own (r := .ns fun x => binds.reverse.lookup x) (h' := h₁) (fun b o e => hsb.extBut b o (Nat.ne_of_lt (Heap.lt_size e)) (Heap.get?_push_of_some _ e)) (s.toks + binds.length) (size_none _) hns
  refine wpAny_mono ((h s.heap.objs.size _ (bindsAre_rev hgood.1.2)).run _ st) (fun f s' ⟨F', X', G', st', Z, hZ, hP⟩ => ?_) fun _ _ x => x.elim
  exact (st'.drop hZ).done hP⟩
end
end
section
theorem bitAnd_nat (a b : Nat) : Builtin.bitAnd (a : Int) (b : Int) = ((a &&& b : Nat) : Int) := by
  unfold Builtin.bitAnd
  rw [decide_eq_true (Int.natCast_nonneg a), decide_eq_true (Int.natCast_nonneg b)]
  rfl
theorem bitOr_nat (a b : Nat) : Builtin.bitOr (a : Int) (b : Int) = ((a ||| b : Nat) : Int) := by
  unfold Builtin.bitOr Builtin.bitAnd Builtin.bitNot
  have h1 : decide (0 ≤ -(a : Int) - 1) = false := decide_eq_false (by omega)
  have h2 : decide (0 ≤ -(b : Int) - 1) = false := decide_eq_false (by omega)
  simp only [h1, h2]
  have e1 : (-(-(a : Int) - 1) - 1).toNat = a := by omega
  have e2 : (-(-(b : Int) - 1) - 1).toNat = b := by omega
  rw [e1, e2]
  omega

/-! _has_candidates -/
noncomputable def FlagsOk (kvs : KV) (cs : List UInt8 → Option Nat) : Prop := ∀ b, (valueAt kvs b = none ∧ cs b = none) ∨ ∃ v n, valueAt kvs b = some v ∧ cs b = some n ∧ isNat v n
noncomputable def liveItem (cs : List UInt8 → Option Nat) (x : Item) : Bool := match cs x.2 with
  | some n => !(decide (n &&& 4 = 4))
  | none => false
noncomputable def hcDef (w : World) : Arguments × List Stmt × Scope := match ((bodyAt w 90)[6]? : Option Stmt) with
  | some (.FunctionDef _ params body _ _ _ scope _ _ _) => (params, body, scope)
  | _ => default
noncomputable def hcFd (w : World) (cl : List (Str × Addr)) (doc pm cd ct : Value) : FuncData :=
  fnX (Str.ofString "_has_candidates") (Str.ofString "_find_lcas.<locals>._has_candidates") (hcDef w).1 (hcDef w).2.1 (hcDef w).2.2 cl .none .none doc pm none cd ct
section
variable {g : Glo} {k : Fun} {A : Around} {E : Value → Shared → Prop} {F : PMap} {X : XS} {G : GS} {env : Env} {s : Shared} {mg mb : Str → Option Value}
theorem W_base {α : Type} {t : Sem α} {Φ : Cont α} (h : PLe g.base.get? F → W g k A t Φ E F X G) : W g k A t Φ E F X G := ⟨fun s hs => (h hs.base).run s hs⟩
set_option maxHeartbeats 4000000
theorem W_hasCand {f q d dc : Addr} {iq id n : Nat} {o oc : Obj} {doc pm cd ct wl : Value} {ps : PQ} {kvs : KV} {cs : List UInt8 → Option Nat} {t4 : Tok} {Φ : Cont Value} (T : Top0 g (KK g.w) mg mb) (hh : A.handled = none) (hroom : Room A (n + 4))
    (ho : F f = some o) (hfd : o.data = .func (hcFd g.w [(Str.ofString "_DNC", dc)] doc pm cd ct)) (hcd : CodeAtF F cd (Str.ofString "_find_lcas.<locals>._has_candidates"))
    (hdc : F dc = some oc) (hdc2 : oc.data = .cell (some (.int 4 t4))) (hw : WLAt F wl q) (hp : PairsOk F ps) (hxq : X[iq]? = some (q, .li (pqVals ps))) (hxd : X[id]? = some (d, .di kvs)) (hds : (d == sysModules) = false) (hfl : FlagsOk kvs cs)
    (h : ∀ F' G', PLe F F' → Φ (.bool (ps.any fun p => liveItem cs p.2)) F' X G') : W g k A (call (.ref f) [wl, .ref d] []) Φ E F X G := by
  refine W_base fun hF => ?_
  refine W_inlineF (n := n + 3) [(Str.ofString "wlst", wl), (Str.ofString "cstates", .ref d)] T hroom ho hfd hcd (body := (hcDef g.w).2.1) (by kernel_rfl) (by kernel_rfl) (by kernel_rfl) (by kernel_rfl) (by kernel_rfl) (by kernel_rfl) (fun L m hm => ?_)
  simp only [BindsAre] at hm
  obtain ⟨hm1, hm2, -⟩ := hm
  unfold BodyIn
  walk_at "w"
  have hdl : id < X.length := (List.getElem?_eq_some_iff.mp hxd).1
  have hql : iq < X.length := (List.getElem?_eq_some_iff.mp hxq).1
  have hget : ∀ r T', (((L, r) :: X) ++ T')[id + 1]? = some (d, Res.di kvs) := fun r T' => by
    rw [List.cons_append, List.getElem?_cons_succ, List.getElem?_append_left hdl]; exact hxd
  refine W_ForGen (n := n) T hh (hroom.deeper.le (by exact far 1 [_] [.add (.var 0) (.num 1), .add (.var 0) (.num 3)] rfl)) ⟨_, _, _, rfl⟩ ?_
  refine W_CallWl T ?_ (by kernel_rfl) (by kernel_rfl) (f := 77) (by kernel_rfl) (by kernel_rfl)
  walk_at "ws"
  refine ⟨⟨q, hw⟩, ?_⟩
  refine W_callW0 (keeps_top T hF (by kernel_rfl) (by kernel_rfl)) ?_
  refine W_wlIter (n := n) (q := q) (ps := ps) T (hroom.deeper.le (by exact far 1 [_] [.add (.var 0) (.num 1), .add (.var 0) (.num 3)] rfl)) hF fun F1 ga gi Lg T1 G1 le1 hga hT1 => ?_
  refine ⟨ga, gi, Lg, q, wl, ps, _, T1, iq + 1, fun i F' Y' => (∃ m', Y' = (L, .ns m') :: X ∧ m' (Str.ofString "cstates") = some (.ref d)) ∧ ∀ p ∈ ps.take i, liveItem cs p.2 = false, rfl, rfl, hga, hT1, hw.mono le1, hp.mono le1,
    ⟨⟨m, rfl, hm2⟩, by simp⟩, fun i F' F'' Y' le h => h, ?_, ?_, ?_⟩
  · rintro i F' Y' le ⟨⟨m', rfl, _⟩, _⟩
    simpa using hxq
  · rintro i hi v F' Y' T2 G2 E2 le2 hv ⟨⟨m', rfl, hm'⟩, hno⟩
    obtain ⟨t, u, htv⟩ := hv.tup
    refine W_unpack2 (.inl hh) htv ?_
    walk_at "ws"
    refine W_dIn ⟨d, rfl, hds, .inr ⟨id + 1, hget _ _⟩⟩ ⟨u, rfl⟩ ?_
    walk_at "ws"
    have htake : ∀ b, liveItem cs ps[i].2 = b → b = false → ∀ p ∈ ps.take (i + 1), liveItem cs p.2 = false := fun b hb hb2 p hp => by
      rw [List.take_add_one, List.getElem?_eq_getElem hi] at hp
      rcases List.mem_append.mp hp with hp | hp
      · exact hno p hp
      · simp at hp; rw [hp, hb, hb2]
    rcases hfl ps[i].2.2 with ⟨hv1, hc1⟩ | ⟨fv, fn, hv1, hc1, tf, rfl⟩
    · rw [if_neg (by rw [hv1]; simp)]
      walk_at "ws"
      exact ⟨.rfl, rfl, (L, .ns _) :: X, List.Sublist.refl _, ⟨_, rfl, by walk_at "nm"⟩, htake _ rfl (by unfold liveItem; rw [hc1])⟩
    · rw [if_pos (by rw [hv1]; rfl)]
      walk_at "ws"
      refine W_dItem ⟨d, rfl, hds, .inr ⟨id + 1, hget _ _⟩⟩ ⟨u, rfl⟩ hv1 ?_
      walk_at "ws"
      obtain ⟨oc', hoc', hoc2⟩ : ∃ oc', F' dc = some oc' ∧ oc'.data = .cell (some (.int 4 t4)) := ⟨oc, le1.trans le2 _ _ hdc, hdc2⟩
      refine W_cellF (.inr (by kernel_rfl)) (by kernel_rfl) hoc' hoc2 ?_
      walk_at "ws"
      refine W_cellF (.inr (by kernel_rfl)) (by kernel_rfl) hoc' hoc2 ?_
      walk_at "ws"
      have hb : (Builtin.bitAnd (fn : Int) 4 == 4) = decide (fn &&& 4 = 4) := by
        rw [show (4 : Int) = ((4 : Nat) : Int) from rfl, bitAnd_nat]
        rw [Bool.eq_iff_iff]
        simp
        omega
      rw [hb]
      have hl : liveItem cs ps[i].2 = !(decide (fn &&& 4 = 4)) := by unfold liveItem; rw [hc1]
      by_cases h4 : fn &&& 4 = 4
      · rw [if_neg (by simp [h4])]
        walk_at "ws"
        exact ⟨.rfl, rfl, (L, .ns _) :: X, List.Sublist.refl _, ⟨_, rfl, by walk_at "nm"⟩, htake _ hl (by simp [h4])⟩
      · rw [if_pos (by simp [h4])]
        walk_at "ws"
        refine ⟨.rfl, rfl, _, List.sublist_append_left _ _, _, List.sublist_cons_self _ _, ?_⟩
        have hany : (ps.any fun p => liveItem cs p.2) = true := List.any_eq_true.mpr ⟨ps[i], List.getElem_mem hi, by rw [hl]; simp [h4]⟩
        rw [← hany]
        exact h _ _ (le1.trans le2)
  · rintro F' Y' G' le2 ⟨⟨m', rfl, hm'⟩, hno⟩
    walk_at "ws"
    refine ⟨_, List.sublist_cons_self _ _, ?_⟩
    have hany : (ps.any fun p => liveItem cs p.2) = false := by
      rw [List.any_eq_false]
      intro p hp
      rw [hno p (by rw [List.take_length]; exact hp)]
      simp
    rw [← hany]
    exact h _ _ (le1.trans le2)
end
end
section
@[reducible] noncomputable def whileK (F : PMap) (n : Nat) (J : Nat → PMap → XS → GS → Prop) (Φ : Cont Flow) : Cont Flow := fun f F₂ X₂ G₂ => PLe F F₂ ∧ match f with
  | .next | .cont => ∃ m, m < n ∧ ∃ Z, Z.Sublist X₂ ∧ J m F₂ Z G₂
  | .brk => ∃ Z, Z.Sublist X₂ ∧ Φ .next F₂ Z G₂
  | .ret v => ∃ Z, Z.Sublist X₂ ∧ Φ (.ret v) F₂ Z G₂
section
variable {g : Glo} {k : Fun} {A : Around} {E : Value → Shared → Prop} {F : PMap} {X : XS} {G : GS} {env : Env} {s : Shared} {l : List Env} {L0 : Addr}
theorem calls_cellsR {K : Frag} {mg mb : Str → Option Value} (T : Top0 g K mg mb) {a : Addr} {args : Args} {o : Obj} {fd : FuncData} {body : List Stmt} {binds : List (Str × Value)} {P : Value → PMap → Prop} {PE : PMap → Prop} {n : Nat} (hroom : Room A n)
    (ho : F a = some o) (hdata : o.data = .func fd) (hcd : CodeAtF F fd.code fd.qualname) (hbody : fd.body = .stmts body) (hclo : fd.closure = []) (hbind : ∀ s, Ok g F s → BindsTo s fd args binds)
    (hgood : goodBindsC fd.scope.names binds = true)
    (h : ∀ L l m, BindsAre m (localBinds fd.scope.names binds) → BodyR g A l F (callEnvC fd L a) L ((L, .ns m) :: cellsX fd.scope.names binds L) body P PE)
    (hco : fd.scope.isCoroutine = false) (hgen : fd.scope.isGenerator = false) (hk : fd.scope.kind = .function) : CallsR g A (.call (.ref a) args) F P PE := fun l s hs hS => by
  simp only [goodBindsC, Bool.and_eq_true, List.all_eq_true, decide_eq_true_eq, Bool.or_eq_true] at hgood
  obtain ⟨⟨hg1, hg2⟩, hg3⟩ := hgood
  have hnm : ∀ n, (cellsFrom n fd.scope.names []).map (·.1) = (cellsFrom 0 fd.scope.names []).map (·.1) := fun n => cellsFrom_names _ _ _ _ _ rfl
  refine codeAny_call_function hroom.lt (hs.fro _ _ ho) hdata hco hgen hbody (hcd.rec hs.fro) (hbind s hs _ _ _ _ ?_)
  rw [hclo]
  refine wpAny_newFunctionEnv_cells hk (fun x hx => ?_) fun env he s' x => ?_
  · rcases hg1 x hx with h1 | ⟨h1, h2⟩
    · exact .inl h1
    · refine .inr ⟨h1, ?_⟩
      rw [lookup_isSome] at h2 ⊢
      rwa [hnm]
  subst he
  have hkeep := x.toInCall.keep
  refine ⟨(T.nolimit.keeps hs.stays).keeps hkeep, codeAny_func ?_⟩
  obtain ⟨h', tk, rfl, _⟩ := x.done
  have hL : (s.heap.objs.size, Res.ns (bindL (kindIn fd.scope.names) binds fun _ => none)).2.Holds g h' s.heap.objs.size := x.toInCall.ns
  have hlt : ∀ p ∈ cellsX fd.scope.names binds s.heap.objs.size, s.heap.objs.size < p.1 := fun p hp => by
    obtain ⟨q, hq, rfl⟩ := List.mem_map.mp hp
    exact x.above q.1 q.2 hq
  have st := St.enter hs (h' := h') tk ((s.heap.objs.size, .ns (bindL (kindIn fd.scope.names) binds fun _ => none)) :: cellsX fd.scope.names binds s.heap.objs.size) (frsOf (callEnvC fd s.heap.objs.size a :: l)) hkeep
    (fun p hp => by
      rcases List.mem_cons.mp hp with rfl | hp
      · exact hL
      · obtain ⟨q, hq, rfl⟩ := List.mem_map.mp hp
        refine x.cell q.1 q.2 ?_
        have hnd : ((cellsFrom (s.heap.objs.size + 1) fd.scope.names []).map (·.1)).Nodup := by rw [hnm]; exact hg3
        have : ∀ {l : List (Str × Addr)}, (l.map (·.1)).Nodup → q ∈ l → l.lookup q.1 = some q.2 := by
          intro l
          induction l with
          | nil => intro _ h; cases h
          | cons y r ih =>
            intro hn hm
            obtain ⟨h1, h2⟩ := List.nodup_cons.mp hn
            rcases List.mem_cons.mp hm with rfl | hm
            · rw [List.lookup_cons]; simp
            · have : q.1 ≠ y.1 := fun e => h1 (by show y.1 ∈ _; rw [← e]; exact List.mem_map_of_mem (f := (·.1)) hm)
              rw [List.lookup_cons]
              simp only [show (q.1 == y.1) = false from beq_eq_false_iff_ne.mpr this]
              exact ih h2 hm
        exact this hnd hq)
    (by
      rw [List.map_cons]
      refine List.nodup_cons.mpr ⟨fun hm => ?_, ?_⟩
      · obtain ⟨p, hp, e⟩ := List.mem_map.mp hm
        have := hlt p hp
        rw [e] at this
        exact Nat.lt_irrefl _ this
      · show (List.map _ (List.map _ _)).Nodup
        rw [List.map_map]
        exact List.pairwise_map.mpr x.apart)
    (fun p hp => by
      rcases List.mem_cons.mp hp with rfl | hp
      · exact size_none _
      · exact Heap.get?_none_of_le (Nat.le_of_lt (hlt p hp)))
  have hH := Here.enter hS hs (env := callEnvC fd s.heap.objs.size a) (L := s.heap.objs.size) hk rfl
  exact wpAny_mono ((h s.heap.objs.size l _ (bindsAre_L hg2) _ s.gens hH).run _ st) (fun f s' ⟨F', X', G', st', hP⟩ => .inl (St.leave hs rfl (size_none _) st' hP.1 hP.2)) fun v s' hw => St.leaveR hs rfl (size_none _) hH hw
theorem calls_topCR {mg mb : Str → Option Value} (T : Top0 g (KK g.w) mg mb) (hF : PLe g.base.get? F) {A : Around} {a : Addr} {args : Args} (binds : List (Str × Value)) {P : Value → PMap → Prop} {PE : PMap → Prop} {n : Nat} (hroom : Room A n)
    (ho : (KK g.w).lookup a = some (objAt g.w a)) (hdata : (objAt g.w a).data = .func (fdAt g.w a)) (hcd : codeIn (KK g.w) (fdAt g.w a).code (fdAt g.w a).qualname = true) (hbody : (fdAt g.w a).body = .stmts (bodyAt g.w a)) (hclo : (fdAt g.w a).closure = [])
    (hbind : ∀ s, Ok g F s → BindsTo s (fdAt g.w a) args binds) (hgood : goodBindsC (fdAt g.w a).scope.names binds = true) {XC : Addr → XS} {lb : List (Str × Value)} (hX : ∀ L, cellsX (fdAt g.w a).scope.names binds L = XC L) (hlb : localBinds (fdAt g.w a).scope.names binds = lb)
    (hco : (fdAt g.w a).scope.isCoroutine = false) (hgen : (fdAt g.w a).scope.isGenerator = false) (hk : (fdAt g.w a).scope.kind = .function)
    (h : ∀ L l m, BindsAre m lb → BodyR g A l F (eAtC g.w a L) L ((L, .ns m) :: XC L) (bodyAt g.w a) P PE) : CallsR g A (.call (.ref a) args) F P PE :=
  calls_cellsR T hroom (T.get hF ho) hdata (T.code hF hcd) hbody hclo hbind hgood (fun L l m hm => by rw [hX]; exact h L l m (hlb ▸ hm)) hco hgen hk

/-- a function of one name, that gives what P says or raises KeyError -/
noncomputable def LookOk (g : Glo) (F : PMap) (f : Value) (has : List UInt8 → Bool) (P : List UInt8 → Value → PMap → Prop) : Prop :=
  (∃ a o fd, f = .ref a ∧ F a = some o ∧ o.data = .func fd) ∧
  ∀ (A : Around) (F' : PMap) (v : Value) (b : List UInt8), Room A 5 → A.handled = none → PLe F F' → isBy v b → CallsR g A (.call f ⟨[v], []⟩) F' (fun r F'' => has b = true ∧ P b r F'') (fun _ => has b = false)
theorem LookOk.mono {F F' : PMap} {f : Value} {has : List UInt8 → Bool} {P : List UInt8 → Value → PMap → Prop} (h : LookOk g F f has P) (le : PLe F F') : LookOk g F' f has P :=
  ⟨let ⟨a, o, fd, h1, h2, h3⟩ := h.1; ⟨a, o, fd, h1, le _ _ h2, h3⟩, fun A F2 v b hr hh le2 hv => h.2 A F2 v b hr hh (le.trans le2) hv⟩
theorem LookOk.keeps {f : Value} {has : List UInt8 → Bool} {P : List UInt8 → Value → PMap → Prop} (h : LookOk g F f has P) : Keeps g f F := by
  obtain ⟨⟨a, o, fd, rfl, h2, h3⟩, _⟩ := h
  exact Keeps.func h2 h3
theorem W_look {f v : Value} {b : List UInt8} {has : List UInt8 → Bool} {P : List UInt8 → Value → PMap → Prop} {Φ : Cont Value} {EΦ : PMap → XS → GS → Prop} {m : Str → Option Value} {i : Nat} (H : Here k l A L0) (hx : X[i]? = some (L0, .ns m)) (hl : LookOk g F f has P)
    (hr : Room A 5) (hh : A.handled = none) (hv : isBy v b) (h : ∀ r F' G', has b = true → PLe F F' → P b r F' → Φ r F' X G') (hE : ∀ F' G', has b = false → PLe F F' → EΦ F' X G') : W g k A (call f [v] []) Φ (EW g k L0 EΦ) F X G :=
  W_callsR H hx (hl.2 A F v b hr hh .rfl hv) (fun r F' G' le hp => h r F' G' hp.1 le hp.2) fun F' G' le hp => hE F' G' hp le
end

/-! the mirror of _find_lcas -/
noncomputable abbrev Name := List UInt8
structure LD where
  par : Name → Option (List Name)
  st : Name → Option Int
  sh : Bool
  min : Int
structure LS where
  cs : Name → Option Nat
  q : List Item
  cands : List Item
  cnt : Nat
noncomputable def updN (cs : Name → Option Nat) (c : Name) (n : Nat) : Name → Option Nat := fun x => if x = c then some n else cs x
noncomputable def pushI (q : List Item) (x : Item) : List Item := upL itemLt (q.length + 1) q.length (q ++ [x])
noncomputable def popI (q : List Item) : List Item := match q.getLast? with
  | none => []
  | some last => match q.dropLast with
    | [] => []
    | _ :: r => downL itemLt (r.length + 1) 0 (last :: r)
noncomputable def LS.put (s : LS) (c : Name) (n : Nat) (t : Int) : LS := { s with cs := updN s.cs c n, q := pushI s.q (-t, c), cnt := s.cnt + 1 }
noncomputable def parentStep (D : LD) (cf : Nat) (s : LS) (p : Name) : Option LS :=
  if (s.cs p).getD 0 &&& cf = cf then some s else
  match D.st p with
  | none => if D.sh then some s else none
  | some t => if t < D.min then some s else some (s.put p ((s.cs p).getD 0 ||| cf) t)
noncomputable def parentsStep (D : LD) (cf : Nat) : LS → List Name → Option LS
  | s, [] => some s
  | s, p :: r => match parentStep D cf s p with
    | none => none
    | some s' => parentsStep D cf s' r
noncomputable def markStep (s : LS) (x : Item) (fl : Nat) : LS :=
  if fl &&& 7 = 3 then (if fl &&& 8 = 8 then s else { s with cs := updN s.cs x.2 (fl ||| 8), cands := s.cands ++ [(-x.1, x.2)], cnt := s.cnt + 1 }) else s
noncomputable def outFlags (fl : Nat) : Nat := if fl &&& 7 = 3 then 7 else fl &&& 7
noncomputable def lcaStep (D : LD) (s : LS) : Option LS :=
  match s.q with
  | [] => none
  | x :: _ => match s.cs x.2 with
    | none => none
    | some fl => match D.par x.2 with
      | none => if D.sh then some (markStep { s with q := popI s.q } x fl) else none
      | some ps => parentsStep D (outFlags fl) (markStep { s with q := popI s.q } x fl) ps
noncomputable def LS.live (s : LS) : Bool := s.q.any (liveItem s.cs)
/-- the start: the first commit and the others -/
noncomputable def startStep (D : LD) (s : LS) (c : Name) (bit : Nat) : Option LS :=
  match D.st c with
  | none => if D.sh then some (s.put c ((s.cs c).getD 0 ||| bit) 0) else none
  | some t => some (s.put c ((s.cs c).getD 0 ||| bit) t)
noncomputable def startAll (D : LD) : LS → List Name → Option LS
  | s, [] => some s
  | s, c :: r => match startStep D s c 2 with
    | none => none
    | some s' => startAll D s' r
noncomputable def LS.empty : LS := ⟨fun _ => none, [], [], 0⟩
end
section
/-! the heap, as a list: members, maps -/
theorem set2_perm {α : Type} {l : List α} {i j : Nat} {x y : α} (hi : l[i]? = some x) (hj : l[j]? = some y) : ((l.set i y).set j x).Perm l := by
  obtain ⟨h1, rfl⟩ := List.getElem?_eq_some_iff.mp hi
  obtain ⟨h2, rfl⟩ := List.getElem?_eq_some_iff.mp hj
  exact List.set_set_perm h1 h2
theorem upL_perm {α : Type} {lt : α → α → Bool} : ∀ (n pos : Nat) (l : List α), (upL lt n pos l).Perm l
  | 0, _, _ => .refl _
  | n + 1, pos, l => by
    unfold upL
    split
    · split
      · rename_i x p hx hp
        split
        · exact (upL_perm n _ _).trans (set2_perm hp hx)
        · exact .refl _
      · exact .refl _
    · exact .refl _
theorem downL_perm {α : Type} {lt : α → α → Bool} : ∀ (n pos : Nat) (l : List α), (downL lt n pos l).Perm l
  | 0, _, _ => .refl _
  | n + 1, pos, l => by
    unfold downL
    split
    · split
      · rename_i c p hc hp
        exact (downL_perm n _ _).trans (set2_perm hc hp)
      · exact .refl _
    · exact upL_perm _ _ _
theorem upL_map {α β : Type} {lt : α → α → Bool} {lt' : β → β → Bool} (f : α → β) (hf : ∀ a b, lt' (f a) (f b) = lt a b) : ∀ (n pos : Nat) (l : List α), (upL lt n pos l).map f = upL lt' n pos (l.map f)
  | 0, _, _ => rfl
  | n + 1, pos, l => by
    unfold upL
    split
    · rw [List.getElem?_map, List.getElem?_map]
      cases h1 : l[pos]? with
      | none => rfl
      | some x =>
        cases h2 : l[(pos - 1) / 2]? with
        | none => rfl
        | some p =>
          simp only [Option.map_some, hf]
          split
          · rw [upL_map f hf, List.map_set, List.map_set]
          · rfl
    · rfl
theorem childL_map {α β : Type} {lt : α → α → Bool} {lt' : β → β → Bool} (f : α → β) (hf : ∀ a b, lt' (f a) (f b) = lt a b) (pos : Nat) (l : List α) : childL lt' pos (l.map f) = childL lt pos l := by
  unfold childL
  rw [List.getElem?_map, List.getElem?_map]
  cases h1 : l[2 * pos + 1]? with
  | none => rfl
  | some x =>
    cases h2 : l[2 * pos + 1 + 1]? with
    | none => rfl
    | some p => simp only [Option.map_some, hf]
theorem downL_map {α β : Type} {lt : α → α → Bool} {lt' : β → β → Bool} (f : α → β) (hf : ∀ a b, lt' (f a) (f b) = lt a b) : ∀ (n pos : Nat) (l : List α), (downL lt n pos l).map f = downL lt' n pos (l.map f)
  | 0, _, _ => rfl
  | n + 1, pos, l => by
    unfold downL
    rw [List.length_map, childL_map f hf]
    split
    · rw [List.getElem?_map, List.getElem?_map]
      cases h1 : l[childL lt pos l]? with
      | none => rfl
      | some x =>
        cases h2 : l[pos]? with
        | none => rfl
        | some p =>
          simp only [Option.map_some]
          rw [downL_map f hf, List.map_set, List.map_set]
    · exact upL_map f hf _ _ _
theorem pushL_items (ps : PQ) (p : Value × Item) : (pushL ps p).map (·.2) = pushI (ps.map (·.2)) p.2 := by
  unfold pushL pushI
  rw [upL_map (lt := pqLt) (lt' := itemLt) (fun x : Value × Item => x.2) (fun _ _ => rfl)]
  simp
theorem popL_items (ps : PQ) : (popL ps).map (·.2) = popI (ps.map (·.2)) := by
  unfold popL popI
  rw [List.getLast?_map, ← List.map_dropLast]
  cases h1 : ps.getLast? with
  | none => rfl
  | some x =>
    simp only [Option.map_some]
    cases h2 : ps.dropLast with
    | nil => rfl
    | cons y r =>
      simp only [List.map_cons]
      rw [downL_map (lt := pqLt) (lt' := itemLt) (fun x : Value × Item => x.2) (fun _ _ => rfl)]
      simp
theorem pushL_perm (ps : PQ) (p : Value × Item) : (pushL ps p).Perm (ps ++ [p]) := upL_perm _ _ _
theorem pushI_perm (q : List Item) (x : Item) : (pushI q x).Perm (q ++ [x]) := upL_perm _ _ _
theorem popG_perm {α : Type} (lt : α → α → Bool) (x y : α) (t : List α) : ∀ z d, (x :: y :: t).getLast? = some z → (x :: y :: t).dropLast = d → (downL lt (d.tail.length + 1) 0 (z :: d.tail)).Perm (y :: t) := by
  intro z d hz hd
  rw [List.getLast?_cons] at hz
  rw [List.dropLast_cons_of_ne_nil (by simp)] at hd
  subst hd
  refine (downL_perm _ _ _).trans ?_
  have h := List.dropLast_concat_getLast (l := y :: t) (by simp)
  have e : (y :: t).getLast?.getD x = (y :: t).getLast (by simp) := by rw [List.getLast?_eq_some_getLast (by simp)]; rfl
  rw [e] at hz
  cases hz
  refine .trans ?_ (.of_eq h)
  exact List.perm_append_comm (l₁ := [_])
theorem popI_perm {x : Item} {r : List Item} : (popI (x :: r)).Perm r := by
  cases r with
  | nil => exact .refl _
  | cons y t =>
    unfold popI
    have h := popG_perm itemLt x y t
    cases hz : (x :: y :: t).getLast? with
    | none => simp at hz
    | some z =>
      cases hd : (x :: y :: t).dropLast with
      | nil => simp at hd
      | cons d r => exact h z _ hz hd
theorem popL_perm {x : Value × Item} {r : PQ} : (popL (x :: r)).Perm r := by
  cases r with
  | nil => exact .refl _
  | cons y t =>
    unfold popL
    have h := popG_perm pqLt x y t
    cases hz : (x :: y :: t).getLast? with
    | none => simp at hz
    | some z =>
      cases hd : (x :: y :: t).dropLast with
      | nil => simp at hd
      | cons d r => exact h z _ hz hd
theorem PairsOk.push {F : PMap} {ps : PQ} {v : Value} {x : Item} (h : PairsOk F ps) (hv : isPair F v x) : PairsOk F (pushL ps (v, x)) := fun p hp => by
  rcases List.mem_append.mp ((pushL_perm ps (v, x)).mem_iff.mp hp) with hp | hp
  · exact h p hp
  · rw [List.mem_singleton.mp hp]; exact hv
theorem PairsOk.pop {F : PMap} {ps : PQ} (h : PairsOk F ps) : PairsOk F (popL ps) := by
  cases ps with
  | nil => intro p hp; cases hp
  | cons x r => exact fun p hp => h p (.tail _ (popL_perm.mem_iff.mp hp))
end
section
/-! loops and clauses that an exception may leave -/
section
variable {g : Glo} {k : Fun} {l : List Env} {A : Around} {E : Value → Shared → Prop} {F : PMap} {X Y : XS} {G : GS} {env : Env} {s : Shared} {L0 : Addr} {α : Type}
theorem W.monoE {t : Sem α} {Φ : α → PMap → XS → GS → Prop} {E' : Value → Shared → Prop} (h : W g k A t Φ E F X G) (he : ∀ v s, E v s → E' v s) : W g k A t Φ E' F X G := ⟨fun s hs => wpAny_mono (h.run s hs) (fun _ _ x => x) fun v s x => he v s x⟩
theorem Here.mark (H : Here k l A L0) {h : Option Value} : Here k l (A.mark h) L0 := ⟨H.frames, H.fr, H.own⟩
theorem EW.noted {outer : List Env} {A₂ : Around} {EΦ : PMap → XS → GS → Prop} (H : Here k (env :: outer) A L0) (hf : env.frame = some L0) (hx : ∀ F Y G, EΦ F Y G → ∃ (i : Nat) (m : Str → Option Value), Y[i]? = some (L0, .ns m))
    {v : Value} (h : EW g k L0 EΦ v s) : notedBy (model g.prog g.w) A env (cameBackBy (model g.prog g.w) A₂ env (EW g k L0 EΦ)) v s := by
  obtain ⟨e, T, eo, oT, fl, F, Y, G, rfl, st, hex, htb, hfl, hE⟩ := h
  obtain ⟨i, m, hY⟩ := hx _ _ _ hE
  refine note_any st H hf hY hex htb hfl fun s2 T2 eo2 oT2 st2 hex2 htb2 => ?_
  refine wpAny_bind (field_tb (ob_there st2 get_len) hex2 ?_)
  rw [if_neg (by simp)]
  rw [hf]
  exact flight_st st2 hex2 htb2 fun s3 oT3 st3 ht3 => ⟨e, T2, eo2, oT3, _, F, Y, G, rfl, st3, hex2, ht3, .inr rfl, hE⟩
/-- try with one clause for KeyError, in a function that a KeyError may leave -/
theorem W_TryKE {outer : List Env} {body orelse : List Stmt} {np hp pos : Pos} {b₀ : Stmt} {suite : List Stmt} {Φ : Cont Flow} {EΦ EΦ₀ : PMap → XS → GS → Prop} {K : Frag} {mg mb : Str → Option Value} (TT : Top0 g K mg mb) (H : Here k (env :: outer) A L0) (hf : env.frame = some L0)
    (hk : env.kindOf (Str.ofString "KeyError") = some .globalImplicit) (hnm : nsIn K mainGlobals (Str.ofString "KeyError") = some none)
    (hg : env.globals = mainGlobals) (hb : env.builtins = builtinsNs) (hsc : env.scope.kind = .function) (hx0 : ∀ F Y G, EΦ₀ F Y G → ∃ (i : Nat) (m : Str → Option Value), Y[i]? = some (L0, .ns m))
    (h : W g k A (execs body env) (seqK (W g k A (execs orelse env) Φ (EW g k L0 EΦ₀)) Φ) (EW g k L0 EΦ) F X G)
    (hx : ∀ F Y G, EΦ F Y G → ∃ (i : Nat) (m : Str → Option Value), Y[i]? = some (L0, .ns m))
    (hh : ∀ e T eo oT F Y G, EΦ F Y G → exObj eo (.ref T) → tbObj oT .none → W g k (A.mark (some (.ref e))) (execs (b₀ :: suite) env) Φ (EW g k L0 EΦ₀) F (Two Y e eo T oT) G) :
    W g k A (exec (.Try body [.ExceptHandler (some (.Name (Str.ofString "KeyError") np)) none (b₀ :: suite) hp] orelse [] pos) env) Φ (EW g k L0 EΦ₀) F X G :=
  W_TryK TT H hf hk hnm hg hb hsc h hx fun e T eo oT F Y G hE he ht => (hh e T eo oT F Y G hE he ht).monoE fun _ _ => EW.noted H.mark hf hx0
theorem W_Raise0E {pos : Pos} {e T : Addr} {eo oT : Obj} {fl : Value} {Φ : Cont Flow} {EΦ : PMap → XS → GS → Prop} (hh : A.handled = some (.ref e)) (hf : env.frame = some L0) (he : exObj eo (.ref T)) (ht : tbObj oT fl) (h : EΦ F Y G) :
    W g k A (exec (.Raise none none pos) env) Φ (EW g k L0 EΦ) F (Two Y e eo T oT) G := ⟨fun s hs => by
  rw [arm_exec_Raise]
  refine wpAny_bind (wpAny_standAt ?_)
  show wpAny _ A (raiseStmt env none none) _ _ s
  unfold raiseStmt
  refine wpAny_bind (wpAny_handled ?_)
  rw [hh]
  refine wpAny_bind (wpAny_rule (wpAny_bind (field_tb (ob_there hs get_len) he ?_)))
  rw [if_neg (by simp)]
  rw [hf]
  refine wpAny_bind (flight_st hs he ht fun s1 oT1 st1 ht1 => ?_)
  refine wpAny_throw ?_
  exact ⟨e, T, eo, oT1, _, F, Y, G, rfl, st1, he, ht1, .inr rfl, h⟩⟩
@[reducible] noncomputable def iterKE (g : Glo) (k : Fun) (A : Around) (env : Env) (target : Expr) (body : List Stmt) (Φ : Cont Flow) (E : Value → Shared → Prop) : Cont Value := fun it F X G => ∃ (I : Addr) (r : Nat → Res) (n : Nat) (V : Nat → Value → Prop) (Y : XS) (J : Nat → PMap → XS → GS → Prop), it = .ref I ∧ X = Y ++ [(I, r 0)] ∧ Iter g A F I r n V ∧ J 0 F Y G ∧
      (∀ i x F' Y' G', i < n → V i x → PLe F F' → J i F' Y' G' → W g k A (assign target env x) (fun _ => W g k A (execs body env) (forK F (I, r (i + 1)) (J (i + 1)) Φ) E) E F' (Y' ++ [(I, r (i + 1))]) G') ∧
      (∀ F' Y' G', PLe F F' → J n F' Y' G' → Φ .next F' Y' G')
theorem W_ForE {outer : List Env} {target iter : Expr} {body : List Stmt} {pos : Pos} {Φ : Cont Flow} {EΦ : PMap → XS → GS → Prop} (H : Here k (env :: outer) A L0) (hf : env.frame = some L0) (hx : ∀ F Y G, EΦ F Y G → ∃ (i : Nat) (m : Str → Option Value), Y[i]? = some (L0, .ns m))
    (h : W g k A (eval iter env) (fun x => W g k A (pyIter x) (iterKE g k A env target body Φ (EW g k L0 EΦ)) (EW g k L0 EΦ)) (EW g k L0 EΦ) F X G)
    (hs : ∀ x, foldedSetIterable iter env x = pure x := by intro _; kernel_rfl) : W g k A (exec (.For target iter body [] pos) env) Φ (EW g k L0 EΦ) F X G := ⟨fun s st => by
  refine wpAny_For (h.then st fun x F X G s st h => h.then st fun it F X G s st h => ?_) hs
  obtain ⟨I, r, n, V, Y, J, rfl, rfl, hI, h0, turn, fin⟩ := h
  refine codeAny_forLoop_any (fun m s => ∃ i F' Y' G', m = n - i ∧ i ≤ n ∧ St g k F' (Y' ++ [(I, r i)]) G' s ∧ PLe F F' ∧ J i F' Y' G') ?_ n ⟨0, F, Y, G, rfl, Nat.zero_le _, st, .rfl, h0⟩
  rintro m s ⟨i, F', Y', G', rfl, hi, st, le, hJ⟩
  by_cases hlt : i < n
  · refine (hI.item (Φ := fun o F₁ X₁ G₁ => ∃ x, o = some x ∧ V i x ∧ F₁ = F' ∧ X₁ = Y' ++ [(I, r (i + 1))] ∧ G₁ = G') i hlt le fun x hx => ⟨x, rfl, hx, rfl, rfl, rfl⟩).then st fun o F₁ X₁ G₁ s st1 hx => ?_
    obtain ⟨x, rfl, hx, rfl, rfl, rfl⟩ := hx
    dsimp only
    refine (hI.tup (Φ := fun _ F₂ X₁ G₂ => F₂ = F₁ ∧ X₁ = Y' ++ [(I, r (i + 1))] ∧ G₂ = G₁) (i + 1) ⟨rfl, rfl, rfl⟩).then st1 fun _ F₂ X₂ G₂ s st2 hx' => ?_
    obtain ⟨rfl, rfl, rfl⟩ := hx'
    refine ((turn i x _ _ _ hlt hx le hJ).monoE fun _ _ => EW.noted H hf ‹_›).then st2 fun _ F₂ X₂ G₂ s st hb => (hb.monoE fun _ _ => EW.noted H hf ‹_›).then st fun f F₃ X₃ G₃ s st hf => ?_
    obtain ⟨le3, hf⟩ := hf
    cases f with
    | next => obtain ⟨Z, hZ, hJ⟩ := hf; exact ⟨n - (i + 1), by exact far 1 [_, _, _, _] [.add (.var 0) (.num 1), .var 1, .add (.var 0) (.add (.var 2) (.num 1)), .var 3, .var 3, .add (.var 1) (.var 2)] rfl (sbC hlt) (sbA _ _), i + 1, _, _, _, rfl, hlt, st.drop hZ, le3, hJ⟩
    | cont => obtain ⟨Z, hZ, hJ⟩ := hf; exact ⟨n - (i + 1), by exact far 1 [_, _, _, _] [.add (.var 0) (.num 1), .var 1, .add (.var 0) (.add (.var 2) (.num 1)), .var 3, .var 3, .add (.var 1) (.var 2)] rfl (sbC hlt) (sbA _ _), i + 1, _, _, _, rfl, hlt, st.drop hZ, le3, hJ⟩
    | brk => obtain ⟨Z, hZ, hJ⟩ := hf; exact (st.drop hZ).done hJ
    | ret v => obtain ⟨Z, hZ, hJ⟩ := hf; exact (st.drop hZ).done hJ
  · obtain rfl : i = n := Nat.le_antisymm hi (Nat.not_lt.mp hlt)
    refine (hI.fin (Φ := fun o F₁ X₁ G₁ => o = none ∧ F₁ = F' ∧ X₁ = Y' ∧ G₁ = G') le ⟨rfl, rfl, rfl, rfl⟩).then st fun o F₁ X₁ G₁ s st1 hx => ?_
    obtain ⟨rfl, rfl, rfl, rfl⟩ := hx
    exact wpAny_execs_nil (st1.done (fin _ _ _ le hJ))⟩
theorem W_WhileE {outer : List Env} {test : Expr} {body : List Stmt} {pos : Pos} {Φ : Cont Flow} {EΦ : PMap → XS → GS → Prop} (H : Here k (env :: outer) A L0) (hf : env.frame = some L0) (hx : ∀ F Y G, EΦ F Y G → ∃ (i : Nat) (m : Str → Option Value), Y[i]? = some (L0, .ns m))
    (J : Nat → PMap → XS → GS → Prop) (n₀ : Nat) (h0 : J n₀ F X G)
    (turn : ∀ n F' X' G', PLe F F' → J n F' X' G' → W g k A (isTrue test env (eval test env)) (fun b => if b = true then W g k A (execs body env) (whileK F n J Φ) (EW g k L0 EΦ) else Φ .next) (EW g k L0 EΦ) F' X' G') : W g k A (exec (.While test body [] pos) env) Φ (EW g k L0 EΦ) F X G := ⟨fun s st => by
  refine wpAny_While (codeAny_whileLoop (fun n s => ∃ F' X' G', St g k F' X' G' s ∧ PLe F F' ∧ J n F' X' G') ?_ n₀ ⟨F, X, G, st, .rfl, h0⟩)
  rintro n s ⟨F', X', G', st, le, hJ⟩
  refine ((turn n F' X' G' le hJ).monoE fun _ _ => EW.noted H hf hx).then st fun b F₁ X₁ G₁ s st hb => ?_
  cases b with
  | false =>
    rw [if_neg Bool.false_ne_true] at hb ⊢
    exact wpAny_execs_nil (st.done hb)
  | true =>
    rw [if_pos rfl] at hb ⊢
    refine (hb.monoE fun _ _ => EW.noted H hf hx).then st fun f F₂ X₂ G₂ s st hf => ?_
    obtain ⟨le2, hf⟩ := hf
    cases f with
    | next => obtain ⟨m, hm, Z, hZ, hJ⟩ := hf; exact ⟨m, hm, _, _, _, st.drop hZ, le2, hJ⟩
    | cont => obtain ⟨m, hm, Z, hZ, hJ⟩ := hf; exact ⟨m, hm, _, _, _, st.drop hZ, le2, hJ⟩
    | brk => obtain ⟨Z, hZ, hJ⟩ := hf; exact (st.drop hZ).done hJ
    | ret v => obtain ⟨Z, hZ, hJ⟩ := hf; exact (st.drop hZ).done hJ⟩
end
end
section
/-! _find_lcas: what its frame holds -/
noncomputable def ShOk (F : PMap) (v : Value) (b : Bool) : Prop := (v = .none ∧ b = false) ∨ FSet F v b
theorem ShOk.mono {F F' : PMap} {v : Value} {b : Bool} (h : ShOk F v b) (le : PLe F F') : ShOk F' v b := h.imp id fun x => x.mono le
structure V90 where
  lp : Value
  c1 : Value
  c2s : Value
  ls : Value
  sh : Value
  wl : Value
  ca : Addr
  d : Addr
  f : Addr
  q : Addr
  t1 : Tok
  t2 : Tok
  t4 : Tok
  t8 : Tok
  tm : Tok
structure Fr90 (v : V90) (D : LD) (m : Str → Option Value) : Prop where
  lp : m (Str.ofString "lookup_parents") = some v.lp
  c1 : m (Str.ofString "c1") = some v.c1
  c2s : m (Str.ofString "c2s") = some v.c2s
  ls : m (Str.ofString "lookup_stamp") = some v.ls
  mn : m (Str.ofString "min_stamp") = some (.int D.min v.tm)
  sh : m (Str.ofString "shallows") = some v.sh
  ca : m (Str.ofString "cands") = some (.ref v.ca)
  cs : m (Str.ofString "cstates") = some (.ref v.d)
  a1 : m (Str.ofString "_ANC_OF_1") = some (.int 1 v.t1)
  a2 : m (Str.ofString "_ANC_OF_2") = some (.int 2 v.t2)
  a8 : m (Str.ofString "_LCA") = some (.int 8 v.t8)
  hc : m (Str.ofString "_has_candidates") = some (.ref v.f)
  wl : m (Str.ofString "wlst") = some v.wl
noncomputable def names90 : List Str := [Str.ofString "lookup_parents", Str.ofString "c1", Str.ofString "c2s", Str.ofString "lookup_stamp", Str.ofString "min_stamp", Str.ofString "shallows", Str.ofString "cands", Str.ofString "cstates", Str.ofString "_ANC_OF_1", Str.ofString "_ANC_OF_2", Str.ofString "_LCA", Str.ofString "_has_candidates", Str.ofString "wlst"]
theorem Fr90.upd {v : V90} {D : LD} {m : Str → Option Value} {x : Str} {u : Value} (h : Fr90 v D m) (hx : names90.contains x = false) : Fr90 v D (upd m x u) := by
  simp only [names90, List.contains_cons, Bool.or_eq_false_iff] at hx
  obtain ⟨h1, h2, h3, h4, h5, h6, h7, h8, h9, h10, h11, h12, h13, -⟩ := hx
  have ne : ∀ {y : Str} {w : Value}, (x == y) = false → m y = some w → Mine.upd m x u y = some w := fun {y w} hy hm => upd_ne hm (by rw [beq_eq_false_iff_ne] at hy ⊢; exact fun e => hy e.symm)
  exact ⟨ne h1 h.lp, ne h2 h.c1, ne h3 h.c2s, ne h4 h.ls, ne h5 h.mn, ne h6 h.sh, ne h7 h.ca, ne h8 h.cs, ne h9 h.a1, ne h10 h.a2, ne h11 h.a8, ne h12 h.hc, ne h13 h.wl⟩
noncomputable abbrev LookP (g : Glo) (F : PMap) (v : Value) (par : Name → Option (List Name)) : Prop := LookOk g F v (fun b => (par b).isSome) fun b r F' => ∃ ps, par b = some ps ∧ BL F' r ps
noncomputable abbrev LookS (g : Glo) (F : PMap) (v : Value) (st : Name → Option Int) : Prop := LookOk g F v (fun b => (st b).isSome) fun b r _ => ∃ i, st b = some i ∧ isInt r i
structure Fz (g : Glo) (v : V90) (D : LD) (L : Addr) (F : PMap) : Prop where
  lp : LookP g F v.lp D.par
  ls : LookS g F v.ls D.st
  sh : ShOk F v.sh D.sh
  wl : WLAt F v.wl v.q
  dnc : ∃ oc, F (L + 1) = some oc ∧ oc.data = .cell (some (.int 4 v.t4))
  hc : ∃ o doc pm cd ct, F v.f = some o ∧ o.data = .func (hcFd g.w [(Str.ofString "_DNC", L + 1)] doc pm cd ct) ∧ CodeAtF F cd (Str.ofString "_find_lcas.<locals>._has_candidates")
  ds : (v.d == sysModules) = false
theorem Fz.mono {g : Glo} {v : V90} {D : LD} {L : Addr} {F F' : PMap} (h : Fz g v D L F) (le : PLe F F') : Fz g v D L F' :=
  ⟨h.lp.mono le, h.ls.mono le, h.sh.mono le, h.wl.mono le, let ⟨oc, a, b⟩ := h.dnc; ⟨oc, le _ _ a, b⟩, let ⟨o, doc, pm, cd, ct, a, b, c⟩ := h.hc; ⟨o, doc, pm, cd, ct, le _ _ a, b, c.mono le⟩, h.ds⟩
/-- the state and its mirror -/
structure Sim (F : PMap) (kvs : KV) (ps : PQ) (cvs : List Value) (S : LS) : Prop where
  fl : FlagsOk kvs S.cs
  pq : ps.map (·.2) = S.q
  ok : PairsOk F ps
  ca : Paired (isPair F) cvs S.cands
  n1 : kvs.length ≤ S.cnt
  n2 : ps.length ≤ S.cnt
  n3 : cvs.length ≤ S.cnt
theorem Sim.mono {F F' : PMap} {kvs : KV} {ps : PQ} {cvs : List Value} {S : LS} (h : Sim F kvs ps cvs S) (le : PLe F F') : Sim F' kvs ps cvs S :=
  ⟨h.fl, h.pq, h.ok.mono le, paired_mono h.ca fun _ _ x => x.mono le, h.n1, h.n2, h.n3⟩
theorem FlagsOk.set {kvs : KV} {cs : Name → Option Nat} (h : FlagsOk kvs cs) {b : Name} {v : Value} {n : Nat} (hv : isNat v n) : FlagsOk (stored kvs b v) (updN cs b n) := fun x => by
  rw [valueAt_stored]
  unfold updN
  by_cases hx : x = b
  · rw [if_pos hx, if_pos hx]; exact .inr ⟨v, n, rfl, rfl, hv⟩
  · rw [if_neg hx, if_neg hx]; exact h x
theorem stored_len (kvs : KV) (b : List UInt8) (v : Value) : (stored kvs b v).length ≤ kvs.length + 1 := by
  unfold stored
  split <;> simp
theorem pushL_len (ps : PQ) (p : Value × Item) : (pushL ps p).length = ps.length + 1 := by rw [(pushL_perm ps p).length_eq]; simp
theorem Sim.put {F : PMap} {kvs : KV} {ps : PQ} {cvs : List Value} {S : LS} (h : Sim F kvs ps cvs S) {b : Name} {v pv : Value} {n : Nat} {t : Int} (hv : isNat v n) (hp : isPair F pv (-t, b)) : Sim F (stored kvs b v) (pushL ps (pv, (-t, b))) cvs (S.put b n t) :=
  ⟨h.fl.set hv, by rw [pushL_items, h.pq]; rfl, h.ok.push hp, h.ca, Nat.le_trans (stored_len _ _ _) (Nat.succ_le_succ h.n1), by rw [pushL_len]; exact Nat.succ_le_succ h.n2, Nat.le_trans h.n3 (Nat.le_succ _)⟩
section
variable {g : Glo} {k : Fun} {A : Around} {E : Value → Shared → Prop} {F : PMap} {X : XS} {G : GS} {env : Env} {s : Shared} {mg mb : Str → Option Value}
theorem W_tSh {v : Value} {b : Bool} {Φ : Cont Bool} (hv : ShOk F v b) (h : Φ b F X G) : W g k A (truthy v) Φ E F X G := by
  rcases hv with ⟨rfl, rfl⟩ | hv
  · exact W_tNone h
  · exact W_tSet hv h
theorem ShOk.none {v : Value} {b : Bool} (h : ShOk F v b) : (v == .none) = true → b = false := fun e => by
  rcases h with ⟨_, h⟩ | ⟨a, o, es, ep, t, rfl, _⟩
  · exact h
  · cases e
theorem W_shOr {p1 p2 p3 p4 p5 p6 : Pos} {v : Value} {b : Bool} {m : Str → Option Value} {whole : Sem Value} {Φ : Cont Bool} {i : Nat} (hv : ShOk F v b) (hx : X[i]? = some (env.locals, .ns m)) (hm : m (Str.ofString "shallows") = some v) (hl : env.kindOf (Str.ofString "shallows") = some .local) (hk : env.scope.kind = .function)
    (h : Φ (!b) F X G) : W g k A (isTrue (.BoolOp .Or [.Compare (.Name (Str.ofString "shallows") p1) [.Is] [.Constant .none 0 p2] p3, .UnaryOp .Not (.Name (Str.ofString "shallows") p4) p5] p6) env whole) Φ E F X G := by
  walk_at "w"
  walk_at "w"
  walk_at "w"
  walk_at "w"
  refine W_local hx hl hm ?_ hk
  walk_at "ws"
  split
  · rename_i hc
    rw [hv.none hc] at h
    exact h
  · walk_at "w"
    walk_at "w"
    walk_at "w"
    walk_at "w"
    refine W_local hx hl hm ?_ hk
    refine W_tSh hv ?_
    cases b
    · rw [if_pos (show (!false) = true from rfl)]; exact h
    · rw [if_neg (show ¬ (!true) = true by decide)]; walk_at "ws"; exact h
theorem W_shAnd {p1 p2 p3 p4 p6 : Pos} {v : Value} {b : Bool} {m : Str → Option Value} {whole : Sem Value} {Φ : Cont Bool} {i : Nat} (hv : ShOk F v b) (hx : X[i]? = some (env.locals, .ns m)) (hm : m (Str.ofString "shallows") = some v) (hl : env.kindOf (Str.ofString "shallows") = some .local) (hk : env.scope.kind = .function)
    (h : Φ b F X G) : W g k A (isTrue (.BoolOp .And [.Compare (.Name (Str.ofString "shallows") p1) [.IsNot] [.Constant .none 0 p2] p3, .Name (Str.ofString "shallows") p4] p6) env whole) Φ E F X G := by
  walk_at "w"
  walk_at "w"
  walk_at "w"
  walk_at "w"
  refine W_local hx hl hm ?_ hk
  walk_at "ws"
  split
  · walk_at "w"
    walk_at "w"
    walk_at "w"
    refine W_local hx hl hm ?_ hk
    refine W_tSh hv ?_
    cases b
    · rw [if_neg (show ¬ false = true by decide)]; exact h
    · rw [if_pos (show true = true from rfl)]; walk_at "ws"; exact h
  · rename_i hc
    rw [hv.none (by simpa using hc)] at h
    exact h
end
end
section
noncomputable def st90 (w : World) (i : Nat) : Stmt := ((bodyAt w 90)[i]?).getD default
noncomputable def body90c2 (w : World) : List Stmt := match st90 w 10 with
  | .For _ _ body _ _ => body
  | _ => []
noncomputable def st90c2 (w : World) : Stmt := ((body90c2 w)[2]?).getD default
noncomputable abbrev E90 (w : World) (L : Addr) : Env := eAtC w 90 L
noncomputable abbrev X90 (v : V90) (L : Addr) (m : Str → Option Value) (cvs : List Value) (kvs : KV) (ps : PQ) (Tl : XS) : XS := (L, .ns m) :: (v.ca, .li cvs) :: (v.d, .di kvs) :: (v.q, .li (pqVals ps)) :: Tl
section
variable {g : Glo} {k : Fun} {l : List Env} {A : Around} {E : Value → Shared → Prop} {F : PMap} {X Y : XS} {G : GS} {env : Env} {s : Shared} {mg mb : Str → Option Value} {L0 : Addr} {α : Type}
theorem erase_len {p q : Addr × Res} : (Y ++ [p, q]).eraseIdx Y.length = Y ++ [q] := by
  rw [List.eraseIdx_append_of_length_le (Nat.le_refl _)]; simp
/-- the handled exception is kept -/
theorem W_keepExc {t : Sem α} {Φ : Cont α} {e T : Addr} {eo oT : Obj} (he : exObj eo (.ref T)) (h : ∀ F', PLe F F' → HOk (A.mark (some (.ref e))) F' → W g k (A.mark (some (.ref e))) t Φ E F' Y G) : W g k (A.mark (some (.ref e))) t Φ E F (Two Y e eo T oT) G := ⟨fun s hs => by
  have hap := hs.apart _ (List.mem_of_getElem? get_len)
  have st := hs.freeze get_len (ob_there hs get_len)
  rw [erase_len] at st
  obtain ⟨hc, t, hd⟩ := he
  exact (h _ (fset_le hap.1) (.inr ⟨e, eo, _, rfl, fset_self, hd, rfl⟩)).run _ (st.drop (List.sublist_append_left _ _))⟩
theorem Room.mark {A : Around} {n : Nat} {h : Option Value} (x : Room A n) : Room (A.mark h) n := x

set_option maxHeartbeats 4000000
theorem W_try1 {v : V90} {D : LD} {L : Addr} {m : Str → Option Value} {cvs : List Value} {kvs : KV} {ps : PQ} {Tl : XS} {c : Name} {Φ : Cont Flow} {EΦ : PMap → XS → GS → Prop} (T : Top0 g (KK g.w) mg mb) (hF : PLe g.base.get? F) (hh : A.handled = none) (hroom : Room A 8) (H : Here k (E90 g.w L :: l) A L)
    (hm : Fr90 v D m) (hz : Fz g v D L F) (hc : isBy v.c1 c) (hok : PairsOk F ps) (hps : ps.length ≤ 50000) (hx0 : ∀ F Y G, EΦ F Y G → ∃ (i : Nat) (m : Str → Option Value), Y[i]? = some (L, .ns m))
    (h : ∀ F' pv t G', PLe F F' → (D.st c = some t ∨ (D.st c = none ∧ D.sh = true ∧ t = 0)) → isPair F' pv (-t, c) → Φ .next F' (X90 v L m cvs kvs (pushL ps (pv, (-t, c))) Tl) G')
    (hE : ∀ F' G', PLe F F' → D.st c = none → D.sh = false → EΦ F' (X90 v L m cvs kvs ps Tl) G') :
    W g k A (exec (st90 g.w 9) (E90 g.w L)) Φ (EW g k L EΦ) F (X90 v L m cvs kvs ps Tl) G := by
  obtain ⟨ct, hct⟩ := hc
  obtain ⟨hm1, hm2, hm3, hm4, hm5, hm6, hm7, hm8, hm9, hm10, hm11, hm12, hm13⟩ := id hm
  refine W_TryKE (EΦ := fun F' Y G' => PLe F F' ∧ D.st c = none ∧ Y = X90 v L m cvs kvs ps Tl) T H rfl (by kernel_rfl) (by kernel_rfl) (by kernel_rfl) (by kernel_rfl) (by kernel_rfl) hx0 ?_ (fun F' Y G' ⟨_, _, e⟩ => ⟨0, m, by rw [e]; rfl⟩) ?_
  · walk_at "w"
    walk_at "w"
    refine W_CallWl T ?_ (by kernel_rfl) (by kernel_rfl) (f := 63) (by kernel_rfl) (by kernel_rfl)
    walk_at "ws"
    refine ⟨⟨_, hz.wl⟩, ?_⟩
    walk_at "w"
    walk_at "w"
    walk_at "w"
    walk_at "w"
    walk_at "w"
    walk_at "w"
    walk_at "w"
    walk_at "w"
    walk_at "w"
    walk_at "w"
    walk_at "w"
    walk_at "w"
    refine ⟨hz.ls.keeps, ?_⟩
    refine W_look (i := 0) H rfl hz.ls (hroom.le (by exact far 1 [] [.num 5, .num 8] rfl)) hh ⟨_, hct⟩ (fun r F1 G1 hb le1 hr => ?_) fun F1 G1 hb le1 => ⟨le1, by simpa using hb, rfl⟩
    obtain ⟨i, hi, ti, rfl⟩ := hr
    walk_at "w"
    walk_at "w"
    walk_at "w"
    walk_at "w"
    refine ⟨by show 2 ≤ 16777216; exact far 1 [] [.num 2, .num 16777216] rfl, fun F2 tv le2 htv => ?_⟩
    rw [hct] at htv
    walk_at "w"
    refine ⟨keeps_top T (hF.trans (le1.trans le2)) (by kernel_rfl) (by kernel_rfl), ?_⟩
    refine W_wlAdd (n := 2) (i := 3) T (hroom.le (by exact far 1 [] [.add (.num 2) (.num 2), .num 8] rfl)) (.inl hh) (hF.trans (le1.trans le2)) (hz.wl.mono (le1.trans le2)) rfl hps (hok.mono (le1.trans le2)) htv.pair fun F3 pv le3 hpv => ?_
    refine ⟨nofun, ?_⟩
    walk_at "x"
    walk_at "w"
    walk_at "w"
    exact h _ _ _ _ ((le1.trans le2).trans le3) (.inl hi) hpv
  · rintro e T2 eo oT F1 Y G1 ⟨le1, hst, rfl⟩ hex htb
    walk_at "w"
    walk_at "w"
    refine W_shOr (i := 0) (hz.sh.mono le1) rfl hm6 (by kernel_rfl) (by kernel_rfl) ?_
    cases hsh : D.sh with
    | false =>
      rw [if_pos (show (!false) = true from rfl)]
      walk_at "w"
      exact W_Raise0E rfl rfl hex htb (hE _ _ le1 hst hsh)
    | true =>
      rw [if_neg (show ¬ (!true) = true by decide)]
      walk_at "w"
      refine W_keepExc hex fun F2 le2 hk2 => ?_
      walk_at "w"
      walk_at "w"
      refine W_CallWl T ?_ (by kernel_rfl) (by kernel_rfl) (f := 63) (by kernel_rfl) (by kernel_rfl)
      walk_at "ws"
      refine ⟨⟨_, hz.wl.mono (le1.trans le2)⟩, ?_⟩
      walk_at "ws"
      refine ⟨by show 2 ≤ 16777216; exact far 1 [] [.num 2, .num 16777216] rfl, fun F3 tv le3 htv => ?_⟩
      rw [hct] at htv
      walk_at "w"
      have le13 := (le1.trans le2).trans le3
      refine ⟨keeps_top T (hF.trans le13) (by kernel_rfl) (by kernel_rfl), ?_⟩
      refine W_wlAdd (n := 2) (i := 3) T (hroom.mark.le (by exact far 1 [] [.add (.num 2) (.num 2), .num 8] rfl)) (hk2.mono le3) (hF.trans le13) (hz.wl.mono le13) rfl hps (hok.mono le13) htv.pair fun F4 pv le4 hpv => ?_
      refine ⟨nofun, ?_⟩
      walk_at "x"
      walk_at "w"
      exact h _ _ 0 _ (le13.trans le4) (.inr ⟨hst, hsh, rfl⟩) hpv
theorem W_try2 {v : V90} {D : LD} {L : Addr} {m : Str → Option Value} {cvs : List Value} {kvs : KV} {ps : PQ} {Tl : XS} {c : Name} {x : Value} {Φ : Cont Flow} {EΦ : PMap → XS → GS → Prop} (T : Top0 g (KK g.w) mg mb) (hF : PLe g.base.get? F) (hh : A.handled = none) (hroom : Room A 8) (H : Here k (E90 g.w L :: l) A L)
    (hm : Fr90 v D m) (hz : Fz g v D L F) (hmx : m (Str.ofString "c2") = some x) (hc : isBy x c) (hok : PairsOk F ps) (hps : ps.length ≤ 50000) (hx0 : ∀ F Y G, EΦ F Y G → ∃ (i : Nat) (m : Str → Option Value), Y[i]? = some (L, .ns m))
    (h : ∀ F' pv t G', PLe F F' → (D.st c = some t ∨ (D.st c = none ∧ D.sh = true ∧ t = 0)) → isPair F' pv (-t, c) → Φ .next F' (X90 v L m cvs kvs (pushL ps (pv, (-t, c))) Tl) G')
    (hE : ∀ F' G', PLe F F' → D.st c = none → D.sh = false → EΦ F' (X90 v L m cvs kvs ps Tl) G') :
    W g k A (exec (st90c2 g.w) (E90 g.w L)) Φ (EW g k L EΦ) F (X90 v L m cvs kvs ps Tl) G := by
  obtain ⟨ct, hct⟩ := hc
  obtain ⟨hm1, hm2, hm3, hm4, hm5, hm6, hm7, hm8, hm9, hm10, hm11, hm12, hm13⟩ := id hm
  refine W_TryKE (EΦ := fun F' Y G' => PLe F F' ∧ D.st c = none ∧ Y = X90 v L m cvs kvs ps Tl) T H rfl (by kernel_rfl) (by kernel_rfl) (by kernel_rfl) (by kernel_rfl) (by kernel_rfl) hx0 ?_ (fun F' Y G' ⟨_, _, e⟩ => ⟨0, m, by rw [e]; rfl⟩) ?_
  · walk_at "w"
    walk_at "w"
    refine W_CallWl T ?_ (by kernel_rfl) (by kernel_rfl) (f := 63) (by kernel_rfl) (by kernel_rfl)
    walk_at "ws"
    refine ⟨⟨_, hz.wl⟩, ?_⟩
    walk_at "w"
    walk_at "w"
    walk_at "w"
    walk_at "w"
    walk_at "w"
    walk_at "w"
    walk_at "w"
    walk_at "w"
    walk_at "w"
    walk_at "w"
    walk_at "w"
    walk_at "w"
    refine ⟨hz.ls.keeps, ?_⟩
    refine W_look (i := 0) H rfl hz.ls (hroom.le (by exact far 1 [] [.num 5, .num 8] rfl)) hh ⟨_, hct⟩ (fun r F1 G1 hb le1 hr => ?_) fun F1 G1 hb le1 => ⟨le1, by simpa using hb, rfl⟩
    obtain ⟨i, hi, ti, rfl⟩ := hr
    walk_at "w"
    walk_at "w"
    walk_at "w"
    walk_at "w"
    refine ⟨by show 2 ≤ 16777216; exact far 1 [] [.num 2, .num 16777216] rfl, fun F2 tv le2 htv => ?_⟩
    rw [hct] at htv
    walk_at "w"
    refine ⟨keeps_top T (hF.trans (le1.trans le2)) (by kernel_rfl) (by kernel_rfl), ?_⟩
    refine W_wlAdd (n := 2) (i := 3) T (hroom.le (by exact far 1 [] [.add (.num 2) (.num 2), .num 8] rfl)) (.inl hh) (hF.trans (le1.trans le2)) (hz.wl.mono (le1.trans le2)) rfl hps (hok.mono (le1.trans le2)) htv.pair fun F3 pv le3 hpv => ?_
    refine ⟨nofun, ?_⟩
    walk_at "x"
    walk_at "w"
    walk_at "w"
    exact h _ _ _ _ ((le1.trans le2).trans le3) (.inl hi) hpv
  · rintro e T2 eo oT F1 Y G1 ⟨le1, hst, rfl⟩ hex htb
    walk_at "w"
    walk_at "w"
    refine W_shOr (i := 0) (hz.sh.mono le1) rfl hm6 (by kernel_rfl) (by kernel_rfl) ?_
    cases hsh : D.sh with
    | false =>
      rw [if_pos (show (!false) = true from rfl)]
      walk_at "w"
      exact W_Raise0E rfl rfl hex htb (hE _ _ le1 hst hsh)
    | true =>
      rw [if_neg (show ¬ (!true) = true by decide)]
      walk_at "w"
      refine W_keepExc hex fun F2 le2 hk2 => ?_
      walk_at "w"
      walk_at "w"
      refine W_CallWl T ?_ (by kernel_rfl) (by kernel_rfl) (f := 63) (by kernel_rfl) (by kernel_rfl)
      walk_at "ws"
      refine ⟨⟨_, hz.wl.mono (le1.trans le2)⟩, ?_⟩
      walk_at "ws"
      refine ⟨by show 2 ≤ 16777216; exact far 1 [] [.num 2, .num 16777216] rfl, fun F3 tv le3 htv => ?_⟩
      rw [hct] at htv
      walk_at "w"
      have le13 := (le1.trans le2).trans le3
      refine ⟨keeps_top T (hF.trans le13) (by kernel_rfl) (by kernel_rfl), ?_⟩
      refine W_wlAdd (n := 2) (i := 3) T (hroom.mark.le (by exact far 1 [] [.add (.num 2) (.num 2), .num 8] rfl)) (hk2.mono le3) (hF.trans le13) (hz.wl.mono le13) rfl hps (hok.mono le13) htv.pair fun F4 pv le4 hpv => ?_
      refine ⟨nofun, ?_⟩
      walk_at "x"
      walk_at "w"
      exact h _ _ 0 _ (le13.trans le4) (.inr ⟨hst, hsh, rfl⟩) hpv
end
end
section
theorem FlagsOk.get {kvs : KV} {cs : Name → Option Nat} (h : FlagsOk kvs cs) (b : Name) (t : Tok) : ∃ u, (valueAt kvs b).getD (.int 0 t) = .int (((cs b).getD 0 : Nat) : Int) u := by
  rcases h b with ⟨h1, h2⟩ | ⟨v, n, h1, h2, u, rfl⟩
  · exact ⟨t, by rw [h1, h2]; rfl⟩
  · exact ⟨u, by rw [h1, h2]; rfl⟩
theorem isNat.or {a b : Nat} {t : Tok} : isNat (.int (Builtin.bitOr (a : Int) (b : Int)) t) (a ||| b) := ⟨t, by rw [bitOr_nat]⟩
theorem startAll_snoc {D : LD} : ∀ {cs : List Name} {S : LS} {c : Name}, startAll D S (cs ++ [c]) = match startAll D S cs with
    | none => none
    | some S' => startStep D S' c 2
  | [], S, c => by
    show (match startStep D S c 2 with | none => none | some s' => startAll D s' []) = startStep D S c 2
    cases startStep D S c 2 <;> rfl
  | a :: r, S, c => by
    show (match startStep D S a 2 with | none => none | some s' => startAll D s' (r ++ [c])) = _
    show _ = match (match startStep D S a 2 with | none => none | some s' => startAll D s' r) with
      | none => none
      | some S' => startStep D S' c 2
    cases startStep D S a 2 with
    | none => rfl
    | some s' => exact startAll_snoc
theorem startAll_none {D : LD} : ∀ {cs : List Name} {S : LS} (i : Nat), startAll D S (cs.take i) = none → startAll D S cs = none
  | [], S, i, h => by simpa using h
  | c :: r, S, 0, h => by cases h
  | c :: r, S, i + 1, h => by
    have h' : (match startStep D S c 2 with | none => none | some s' => startAll D s' (r.take i)) = none := h
    show (match startStep D S c 2 with | none => none | some s' => startAll D s' r) = none
    cases e : startStep D S c 2 with
    | none => rfl
    | some s' => rw [e] at h'; exact startAll_none i h'
section
variable {g : Glo} {k : Fun} {l : List Env} {A : Around} {E : Value → Shared → Prop} {F : PMap} {X Y : XS} {G : GS} {env : Env} {s : Shared} {mg mb : Str → Option Value} {L0 : Addr} {α : Type}
set_option maxHeartbeats 4000000
theorem W_for2 {v : V90} {D : LD} {L : Addr} {m : Str → Option Value} {cvs : List Value} {kvs : KV} {ps : PQ} {cs : List Name} {S : LS} {Φ : Cont Flow} {EΦ : PMap → XS → GS → Prop} (T : Top0 g (KK g.w) mg mb) (hF : PLe g.base.get? F) (hh : A.handled = none) (hroom : Room A 8) (H : Here k (E90 g.w L :: l) A L)
    (hm : Fr90 v D m) (hz : Fz g v D L F) (hc : BL F v.c2s cs) (hS : Sim F kvs ps cvs S) (hcnt : S.cnt + cs.length ≤ 40000) (hx0 : ∀ F Y G, EΦ F Y G → ∃ (i : Nat) (m : Str → Option Value), Y[i]? = some (L, .ns m))
    (h : ∀ F' m' kvs' ps' S' G', PLe F F' → Fr90 v D m' → startAll D S cs = some S' → S'.cnt = S.cnt + cs.length → Sim F' kvs' ps' cvs S' → Φ .next F' (X90 v L m' cvs kvs' ps' []) G')
    (hE : ∀ F' Y G', PLe F F' → startAll D S cs = none → (∃ (i : Nat) (m : Str → Option Value), Y[i]? = some (L, .ns m)) → EΦ F' Y G') :
    W g k A (exec (st90 g.w 10) (E90 g.w L)) Φ (EW g k L EΦ) F (X90 v L m cvs kvs ps []) G := by
  obtain ⟨vs, hvs, hpr⟩ := hc
  have hlen := hpr.length
  have hc2s := hm.c2s
  refine W_ForE H rfl hx0 ?_
  walk_at "ws"
  refine W_iterL hh hvs fun I r hI => ?_
  refine ⟨I, r, _, _, _, fun i F' Y' G' => ∃ m' kvs' ps' S', Y' = X90 v L m' cvs kvs' ps' [] ∧ Fr90 v D m' ∧ startAll D S (cs.take i) = some S' ∧ S'.cnt = S.cnt + i ∧ Sim F' kvs' ps' cvs S', rfl, rfl, hI, ⟨m, kvs, ps, S, rfl, hm, by simp [startAll], rfl, hS⟩, ?_, ?_⟩
  · rintro i x F1 Y1 G1 hi hx le1 ⟨m1, kvs1, ps1, S1, rfl, hm1, hS1, hn1, hs1⟩
    obtain ⟨c, hcx, hxc⟩ := paired_get' hpr hx
    have hcs1 := hm1.cs
    have ha2 := hm1.a2
    obtain ⟨tx, rfl⟩ := hxc
    walk_at "w"
    walk_at "w"
    walk_at "x"
    walk_at "w"
    walk_at "w"
    refine W_CallGet ?_
    walk_at "ws"
    have hdv : DView g F1 ((L, Res.ns (upd m1 (Str.ofString "c2") (.bytes c.toArray tx))) :: (v.ca, Res.li cvs) :: (v.d, Res.di kvs1) :: (v.q, Res.li (pqVals ps1)) :: [(I, r (i + 1))]) (.ref v.d) kvs1 := ⟨v.d, rfl, hz.ds, .inr ⟨2, rfl⟩⟩
    refine ⟨⟨_, hdv⟩, ?_⟩
    walk_at "ws"
    refine W_dGet hdv ⟨tx, rfl⟩ ?_
    rename_i t0
    obtain ⟨u, hu⟩ := hs1.fl.get c t0
    rw [hu]
    walk_at "ws"
    walk_at "x"
    walk_at "ws"
    have hn1' := hs1.n1
    have hil : i < cs.length := by omega
    have htake : cs.take (i + 1) = cs.take i ++ [c] := by rw [List.take_add_one, hcx]; rfl
    refine W_setItem (i := 2) rfl ⟨tx, rfl⟩ (by exact far 1 [_, _, _, _, _] [.var 0, .num 1000000, .add (.var 1) (.var 2), .num 40000, .var 3, .add (.var 1) (.var 4), .var 0, .var 3, .add (.var 4) (.num 1), .var 2] rfl hcnt (Nat.le_of_eq hn1) hn1' hil) ?_
    walk_at "x"
    walk_at "w"
    have hmf : Fr90 v D (upd (upd m1 (Str.ofString "c2") (Value.bytes c.toArray tx)) (Str.ofString "cflags") (Value.int (((S1.cs c).getD 0 : Nat) : Int) u)) := (hm1.upd (by kernel_rfl)).upd (by kernel_rfl)
    refine W_try2 (Tl := [(I, r (i + 1))]) T (hF.trans le1) hh hroom H hmf (hz.mono le1) (upd_ne upd_self (by kernel_rfl)) ⟨tx, rfl⟩ hs1.ok (by have := hs1.n2; exact far 1 [_, _, _, _, _] [.var 0, .num 50000, .add (.var 1) (.var 2), .num 40000, .var 3, .add (.var 1) (.var 4), .add (.var 4) (.num 1), .var 2, .var 0, .var 3] rfl hcnt (Nat.le_of_eq hn1) hil this) hx0 (fun F2 pv t G2 le2 ht hpv => ?_) fun F2 G2 le2 hst hsh => ?_
    · walk_at "w"
      refine ⟨le1.trans le2, _, List.Sublist.refl _, _, _, _, _, rfl, hmf, ?_, ?_, (hs1.mono le2).put (isNat.or (b := 2)) hpv⟩
      · rw [htake, startAll_snoc, hS1]
        show startStep D S1 c 2 = _
        unfold startStep
        rcases ht with ht | ⟨h1, h2, rfl⟩
        · rw [ht]
        · rw [h1, h2]; rfl
      · show S1.cnt + 1 = _
        exact Nat.le_antisymm (far 1 [_, _, _] [.add (.var 0) (.num 1), .add (.var 1) (.add (.var 2) (.num 1)), .var 0, .add (.var 1) (.var 2)] rfl (Nat.le_of_eq hn1)) (far 1 [_, _, _] [.add (.var 0) (.add (.var 1) (.num 1)), .add (.var 2) (.num 1), .add (.var 0) (.var 1), .var 2] rfl (Nat.le_of_eq hn1.symm))
    · refine hE _ _ _ (le1.trans le2) (startAll_none (i + 1) ?_) ⟨0, _, rfl⟩
      rw [htake, startAll_snoc, hS1]
      show startStep D S1 c 2 = _
      unfold startStep
      rw [hst, hsh]; rfl
  · rintro F1 Y1 G1 le1 ⟨m1, kvs1, ps1, S1, rfl, hm1, hS1, hn1, hs1⟩
    rw [hlen] at hn1 hS1
    rw [List.take_length] at hS1
    exact h _ _ _ _ _ _ le1 hm1 hS1 hn1 hs1
end
end
section
theorem parentsStep_snoc {D : LD} {cf : Nat} : ∀ {cs : List Name} {S : LS} {c : Name}, parentsStep D cf S (cs ++ [c]) = match parentsStep D cf S cs with
    | none => none
    | some S' => parentStep D cf S' c
  | [], S, c => by
    show (match parentStep D cf S c with | none => none | some s' => parentsStep D cf s' []) = parentStep D cf S c
    cases parentStep D cf S c <;> rfl
  | a :: r, S, c => by
    show (match parentStep D cf S a with | none => none | some s' => parentsStep D cf s' (r ++ [c])) = _
    show _ = match (match parentStep D cf S a with | none => none | some s' => parentsStep D cf s' r) with
      | none => none
      | some S' => parentStep D cf S' c
    cases parentStep D cf S a with
    | none => rfl
    | some s' => exact parentsStep_snoc
theorem parentsStep_none {D : LD} {cf : Nat} : ∀ {cs : List Name} {S : LS} (i : Nat), parentsStep D cf S (cs.take i) = none → parentsStep D cf S cs = none
  | [], S, i, h => by simpa using h
  | c :: r, S, 0, h => by cases h
  | c :: r, S, i + 1, h => by
    have h' : (match parentStep D cf S c with | none => none | some s' => parentsStep D cf s' (r.take i)) = none := h
    show (match parentStep D cf S c with | none => none | some s' => parentsStep D cf s' r) = none
    cases e : parentStep D cf S c with
    | none => rfl
    | some s' => rw [e] at h'; exact parentsStep_none i h'
noncomputable def whileBody (w : World) : List Stmt := match st90 w 11 with
  | .While _ body _ _ => body
  | _ => []
noncomputable def parFor (w : World) : Stmt := match ((whileBody w)[6]? : Option Stmt) with
  | some (.If _ body _ _) => (body[0]?).getD default
  | _ => default
theorem bitAnd_eq (a b : Nat) : (Builtin.bitAnd (a : Int) (b : Int) == (b : Int)) = decide (a &&& b = b) := by
  rw [bitAnd_nat, Bool.eq_iff_iff]
  simp [Int.ofNat_inj]
section
variable {g : Glo} {k : Fun} {l : List Env} {A : Around} {E : Value → Shared → Prop} {F : PMap} {X Y : XS} {G : GS} {env : Env} {s : Shared} {mg mb : Str → Option Value} {L0 : Addr} {α : Type}
set_option maxHeartbeats 4000000
theorem W_parFor {v : V90} {D : LD} {L : Addr} {m : Str → Option Value} {cvs : List Value} {kvs : KV} {ps : PQ} {cs : List Name} {S : LS} {cf : Nat} {tc : Tok} {pv : Value} {Φ : Cont Flow} {EΦ : PMap → XS → GS → Prop} (T : Top0 g (KK g.w) mg mb) (hF : PLe g.base.get? F) (hh : A.handled = none) (hroom : Room A 8) (H : Here k (E90 g.w L :: l) A L)
    (hm : Fr90 v D m) (hz : Fz g v D L F) (hmp : m (Str.ofString "parents") = some pv) (hmc : m (Str.ofString "cflags") = some (.int cf tc)) (hc : BL F pv cs) (hS : Sim F kvs ps cvs S) (hcnt : S.cnt + cs.length ≤ 40000) (hx0 : ∀ F Y G, EΦ F Y G → ∃ (i : Nat) (m : Str → Option Value), Y[i]? = some (L, .ns m))
    (h : ∀ F' m' kvs' ps' S' G', PLe F F' → Fr90 v D m' → parentsStep D cf S cs = some S' → S'.cnt ≤ S.cnt + cs.length → Sim F' kvs' ps' cvs S' → Φ .next F' (X90 v L m' cvs kvs' ps' []) G')
    (hE : ∀ F' Y G', PLe F F' → parentsStep D cf S cs = none → (∃ (i : Nat) (m : Str → Option Value), Y[i]? = some (L, .ns m)) → EΦ F' Y G') :
    W g k A (exec (parFor g.w) (E90 g.w L)) Φ (EW g k L EΦ) F (X90 v L m cvs kvs ps []) G := by
  obtain ⟨vs, hvs, hpr⟩ := hc
  have hlen := hpr.length
  refine W_ForE H rfl hx0 ?_
  walk_at "ws"
  refine W_iterL hh hvs fun I r hI => ?_
  refine ⟨I, r, _, _, _, fun i F' Y' G' => ∃ m' kvs' ps' S', Y' = X90 v L m' cvs kvs' ps' [] ∧ Fr90 v D m' ∧ m' (Str.ofString "cflags") = some (.int cf tc) ∧ parentsStep D cf S (cs.take i) = some S' ∧ S'.cnt ≤ S.cnt + i ∧ Sim F' kvs' ps' cvs S', rfl, rfl, hI, ⟨m, kvs, ps, S, rfl, hm, hmc, by simp [parentsStep], Nat.le_refl _, hS⟩, ?_, ?_⟩
  · rintro i x F1 Y1 G1 hi hx le1 ⟨m1, kvs1, ps1, S1, rfl, hm1, hmc1, hS1, hn1, hs1⟩
    obtain ⟨c, hcx, hxc⟩ := paired_get' hpr hx
    obtain ⟨tx, rfl⟩ := hxc
    have hil : i < cs.length := by omega
    have htake : cs.take (i + 1) = cs.take i ++ [c] := by rw [List.take_add_one, hcx]; rfl
    have hstep : parentsStep D cf S (cs.take (i + 1)) = parentStep D cf S1 c := by rw [htake, parentsStep_snoc, hS1]
    have hm1' := hm1.upd (x := Str.ofString "pcmt") (u := .bytes c.toArray tx) (by kernel_rfl)
    have hcs1 := hm1'.cs
    walk_at "w"
    walk_at "w"
    walk_at "x"
    walk_at "w"
    walk_at "w"
    refine W_CallGet ?_
    walk_at "ws"
    have hdv : DView g F1 ((L, Res.ns (upd m1 (Str.ofString "pcmt") (.bytes c.toArray tx))) :: (v.ca, Res.li cvs) :: (v.d, Res.di kvs1) :: (v.q, Res.li (pqVals ps1)) :: [(I, r (i + 1))]) (.ref v.d) kvs1 := ⟨v.d, rfl, hz.ds, .inr ⟨2, rfl⟩⟩
    refine ⟨⟨_, hdv⟩, ?_⟩
    walk_at "ws"
    refine W_dGet hdv ⟨tx, rfl⟩ ?_
    rename_i t0
    obtain ⟨u, hu⟩ := hs1.fl.get c t0
    rw [hu]
    clear hdv
    walk_at "w"
    walk_at "x"
    have hm2 := hm1'.upd (x := Str.ofString "pflags") (u := .int (((S1.cs c).getD 0 : Nat) : Int) u) (by kernel_rfl)
    have hmc2 : upd (upd m1 (Str.ofString "pcmt") (.bytes c.toArray tx)) (Str.ofString "pflags") (.int (((S1.cs c).getD 0 : Nat) : Int) u) (Str.ofString "cflags") = some (.int cf tc) := upd_ne (upd_ne hmc1 (by kernel_rfl)) (by kernel_rfl)
    have hmp2 : upd (upd m1 (Str.ofString "pcmt") (.bytes c.toArray tx)) (Str.ofString "pflags") (.int (((S1.cs c).getD 0 : Nat) : Int) u) (Str.ofString "pcmt") = some (.bytes c.toArray tx) := upd_ne upd_self (by kernel_rfl)
    have hmq2 : upd (upd m1 (Str.ofString "pcmt") (.bytes c.toArray tx)) (Str.ofString "pflags") (.int (((S1.cs c).getD 0 : Nat) : Int) u) (Str.ofString "pflags") = some (.int (((S1.cs c).getD 0 : Nat) : Int) u) := upd_self
    generalize upd (upd m1 (Str.ofString "pcmt") (.bytes c.toArray tx)) (Str.ofString "pflags") (.int (((S1.cs c).getD 0 : Nat) : Int) u) = m2 at hm2 hmc2 hmp2 hmq2 ⊢
    generalize hpf : (S1.cs c).getD 0 = pf at hmq2 ⊢
    clear hm1' hcs1
    walk_at "ws"
    rw [bitAnd_eq]
    by_cases hin : pf &&& cf = cf
    · rw [if_pos (decide_eq_true hin)]
      walk_at "ws"
      refine ⟨le1, _, List.Sublist.refl _, m2, kvs1, ps1, S1, rfl, hm2, hmc2, ?_, by exact far 1 [_, _, _] [.var 0, .add (.var 1) (.add (.var 2) (.num 1)), .var 0, .add (.var 1) (.var 2)] rfl hn1, hs1⟩
      rw [hstep]; unfold parentStep; rw [hpf, if_pos hin]
    · rw [if_neg (by simpa using hin)]
      walk_at "w"
      walk_at "w"
      refine W_TryKE (EΦ := fun F' Y G' => PLe F1 F' ∧ D.st c = none ∧ Y = X90 v L m2 cvs kvs1 ps1 [(I, r (i + 1))]) T H rfl (by kernel_rfl) (by kernel_rfl) (by kernel_rfl) (by kernel_rfl) (by kernel_rfl) hx0 ?_ (fun F' Y G' ⟨_, _, e⟩ => ⟨0, m2, by rw [e]; rfl⟩) ?_
      · have hls := hm2.ls
        walk_at "ws"
        refine ⟨(hz.ls.mono le1).keeps, ?_⟩
        refine W_look (i := 0) H rfl (hz.ls.mono le1) (hroom.le (by exact far 1 [] [.num 5, .num 8] rfl)) hh ⟨tx, rfl⟩ (fun rv F2 G2 hb le2 hr => ?_) fun F2 G2 hb le2 => ⟨le2, by simpa using hb, rfl⟩
        obtain ⟨pdt, hi2, ti, rfl⟩ := hr
        walk_at "w"
        walk_at "x"
        have hm3 := hm2.upd (x := Str.ofString "pdt") (u := .int pdt ti) (by kernel_rfl)
        have hmc3 : upd m2 (Str.ofString "pdt") (.int pdt ti) (Str.ofString "cflags") = some (.int cf tc) := upd_ne hmc2 (by kernel_rfl)
        have hmp3 : upd m2 (Str.ofString "pdt") (.int pdt ti) (Str.ofString "pcmt") = some (.bytes c.toArray tx) := upd_ne hmp2 (by kernel_rfl)
        have hmq3 : upd m2 (Str.ofString "pdt") (.int pdt ti) (Str.ofString "pflags") = some (.int (pf : Int) u) := upd_ne hmq2 (by kernel_rfl)
        have hmd3 : upd m2 (Str.ofString "pdt") (.int pdt ti) (Str.ofString "pdt") = some (.int pdt ti) := upd_self
        generalize upd m2 (Str.ofString "pdt") (.int pdt ti) = m3 at hm3 hmc3 hmp3 hmq3 hmd3 ⊢
        have hmn := hm3.mn
        have hcs3 := hm3.cs
        have hwl3 := hm3.wl
        walk_at "ws"
        by_cases hlt : pdt < D.min
        · rw [if_pos (decide_eq_true hlt)]
          walk_at "ws"
          refine ⟨le1.trans le2, _, List.Sublist.refl _, m3, kvs1, ps1, S1, rfl, hm3, hmc3, ?_, by exact far 1 [_, _, _] [.var 0, .add (.var 1) (.add (.var 2) (.num 1)), .var 0, .add (.var 1) (.var 2)] rfl hn1, hs1.mono le2⟩
          rw [hstep]; unfold parentStep; rw [hpf, if_neg hin, hi2]; dsimp only; rw [if_pos hlt]
        · rw [if_neg (by simpa using hlt)]
          walk_at "ws"
          have hn1' := hs1.n1
          refine W_setItem (i := 2) rfl ⟨tx, rfl⟩ (by exact far 1 [_, _, _, _, _] [.var 0, .num 1000000, .add (.var 1) (.var 2), .num 40000, .var 3, .add (.var 1) (.var 4), .add (.var 4) (.num 1), .var 2, .var 0, .var 3] rfl hcnt hn1 hil hn1') ?_
          walk_at "x"
          walk_at "w"
          walk_at "w"
          refine W_CallWl T ?_ (by kernel_rfl) (by kernel_rfl) (f := 63) (by kernel_rfl) (by kernel_rfl)
          walk_at "ws"
          refine ⟨⟨_, hz.wl.mono (le1.trans le2)⟩, ?_⟩
          walk_at "ws"
          refine ⟨by show 2 ≤ 16777216; exact far 1 [] [.num 2, .num 16777216] rfl, fun F3 tv le3 htv => ?_⟩
          walk_at "w"
          have le13 := (le1.trans le2).trans le3
          refine ⟨keeps_top T (hF.trans le13) (by kernel_rfl) (by kernel_rfl), ?_⟩
          have hn2' := hs1.n2
          refine W_wlAdd (n := 2) (i := 3) T (hroom.le (by exact far 1 [] [.add (.num 2) (.num 2), .num 8] rfl)) (.inl hh) (hF.trans le13) (hz.wl.mono le13) rfl (by exact far 1 [_, _, _, _, _] [.var 0, .num 50000, .add (.var 1) (.var 2), .num 40000, .var 3, .add (.var 1) (.var 4), .add (.var 4) (.num 1), .var 2, .var 0, .var 3] rfl hcnt hn1 hil hn2') (hs1.ok.mono (le2.trans le3)) htv.pair fun F4 pv4 le4 hpv => ?_
          refine ⟨nofun, ?_⟩
          walk_at "x"
          walk_at "w"
          refine ⟨le13.trans le4, _, List.Sublist.refl _, m3, _, _, _, rfl, hm3, hmc3, ?_, ?_, (hs1.mono ((le2.trans le3).trans le4)).put isNat.or hpv⟩
          · rw [hstep]; unfold parentStep; rw [hpf, if_neg hin, hi2]; dsimp only; rw [if_neg hlt]
          · show S1.cnt + 1 ≤ _
            exact far 1 [_, _, _] [.add (.var 0) (.num 1), .add (.var 1) (.add (.var 2) (.num 1)), .var 0, .add (.var 1) (.var 2)] rfl hn1
      · rintro e T2 eo oT F2 Y G2 ⟨le2, hst, rfl⟩ hex htb
        have hsh2 := hm2.sh
        walk_at "w"
        walk_at "w"
        refine W_shAnd (i := 0) (hz.sh.mono (le1.trans le2)) rfl hsh2 (by kernel_rfl) (by kernel_rfl) ?_
        cases hsh : D.sh with
        | false =>
          rw [if_neg (show ¬ false = true by decide)]
          walk_at "w"
          walk_at "w"
          refine W_Raise0E rfl rfl hex htb (hE _ _ _ (le1.trans le2) (parentsStep_none (i + 1) ?_) ⟨0, _, rfl⟩)
          rw [hstep]; unfold parentStep; rw [hpf, if_neg hin, hst]; dsimp only; rw [hsh]; rfl
        | true =>
          rw [if_pos rfl]
          walk_at "w"
          walk_at "w"
          refine ⟨le1.trans le2, X90 v L m2 cvs kvs1 ps1 [], List.sublist_append_left _ _, m2, kvs1, ps1, S1, rfl, hm2, hmc2, ?_, by exact far 1 [_, _, _] [.var 0, .add (.var 1) (.add (.var 2) (.num 1)), .var 0, .add (.var 1) (.var 2)] rfl hn1, hs1.mono le2⟩
          rw [hstep]; unfold parentStep; rw [hpf, if_neg hin, hst]; dsimp only; rw [hsh]; rfl
  · rintro F1 Y1 G1 le1 ⟨m1, kvs1, ps1, S1, rfl, hm1, hmc1, hS1, hn1, hs1⟩
    rw [hlen] at hn1 hS1
    rw [List.take_length] at hS1
    exact h _ _ _ _ _ _ le1 hm1 hS1 hn1 hs1
end
end
section
noncomputable def stepTail (D : LD) (cf : Nat) (c : Name) (S : LS) : Option LS := match D.par c with
  | none => if D.sh then some S else none
  | some ps => parentsStep D cf S ps
noncomputable def lcaLoop (D : LD) : Nat → LS → Option (Option LS)
  | 0, _ => none
  | n + 1, S => if S.live then (match lcaStep D S with
    | none => some none
    | some S' => lcaLoop D n S') else some (some S)
noncomputable def Flagged (S : LS) : Prop := ∀ x ∈ S.q, S.cs x.2 ≠ none
theorem updN_ne {cs : Name → Option Nat} {b y : Name} {n : Nat} (h : cs y ≠ none) : updN cs b n y ≠ none := by unfold updN; split <;> simp_all
theorem updN_self {cs : Name → Option Nat} {b : Name} {n : Nat} : updN cs b n b = some n := by simp [updN]
theorem Flagged.put {S : LS} (h : Flagged S) {b : Name} {n : Nat} {t : Int} : Flagged (S.put b n t) := fun x hx => by
  show updN S.cs b n x.2 ≠ none
  rcases List.mem_append.mp ((pushI_perm S.q (-t, b)).mem_iff.mp hx) with hx | hx
  · exact updN_ne (h x hx)
  · rw [List.mem_singleton.mp hx]; simp [updN_self]
theorem Flagged.parent {D : LD} {cf : Nat} {S S' : LS} {c : Name} (h : Flagged S) (e : parentStep D cf S c = some S') : Flagged S' := by
  unfold parentStep at e
  split at e
  · cases e; exact h
  · split at e
    · split at e
      · cases e; exact h
      · cases e
    · split at e
      · cases e; exact h
      · cases e; exact h.put
theorem Flagged.parents {D : LD} {cf : Nat} : ∀ {cs : List Name} {S S' : LS}, Flagged S → parentsStep D cf S cs = some S' → Flagged S'
  | [], S, S', h, e => by cases e; exact h
  | c :: r, S, S', h, e => by
    unfold parentsStep at e
    split at e
    · cases e
    · rename_i S1 hs
      exact (h.parent hs).parents e
theorem Flagged.tail {D : LD} {cf : Nat} {c : Name} {S S' : LS} (h : Flagged S) (e : stepTail D cf c S = some S') : Flagged S' := by
  unfold stepTail at e
  split at e
  · split at e
    · cases e; exact h
    · cases e
  · exact h.parents e
theorem Flagged.mark {S : LS} {x : Item} {fl : Nat} (h : Flagged S) : Flagged (markStep S x fl) := by
  unfold markStep
  split
  · split
    · exact h
    · exact fun y hy => updN_ne (h y hy)
  · exact h
theorem Flagged.pop {S : LS} (h : Flagged S) : Flagged { S with q := popI S.q } := fun x hx => by
  refine h x ?_
  have hx : x ∈ popI S.q := hx
  cases e : S.q with
  | nil => rw [e] at hx; cases hx
  | cons y r => rw [e] at hx; exact .tail _ (popI_perm.mem_iff.mp hx)
theorem lcaStep_eq {D : LD} {S : LS} {x : Item} {r : List Item} {fl : Nat} (hq : S.q = x :: r) (hf : S.cs x.2 = some fl) : lcaStep D S = stepTail D (outFlags fl) x.2 (markStep { S with q := popI S.q } x fl) := by
  unfold lcaStep stepTail
  rw [hq]; dsimp only; rw [hf]
  try rfl
section
variable {g : Glo} {k : Fun} {l : List Env} {A : Around} {E : Value → Shared → Prop} {F : PMap} {X Y : XS} {G : GS} {env : Env} {s : Shared} {mg mb : Str → Option Value} {L0 : Addr} {α : Type}
set_option maxHeartbeats 4000000
noncomputable def parTry (w : World) : Stmt := ((whileBody w)[5]?).getD default
noncomputable def parIf (w : World) : Stmt := ((whileBody w)[6]?).getD default
theorem W_stepTail {v : V90} {D : LD} {L : Addr} {m : Str → Option Value} {cvs : List Value} {kvs : KV} {ps : PQ} {c : Name} {S : LS} {cf : Nat} {tc tx : Tok} {Φ : Cont Flow} {EΦ : PMap → XS → GS → Prop} (T : Top0 g (KK g.w) mg mb) (hF : PLe g.base.get? F) (hh : A.handled = none) (hroom : Room A 8) (H : Here k (E90 g.w L :: l) A L)
    (hm : Fr90 v D m) (hz : Fz g v D L F) (hmx : m (Str.ofString "cmt") = some (.bytes c.toArray tx)) (hmc : m (Str.ofString "cflags") = some (.int cf tc)) (hS : Sim F kvs ps cvs S) (hcnt : S.cnt + 10 ≤ 40000) (hpar : ∀ c ps, D.par c = some ps → ps.length ≤ 10) (hx0 : ∀ F Y G, EΦ F Y G → ∃ (i : Nat) (m : Str → Option Value), Y[i]? = some (L, .ns m))
    (h : ∀ f F' X' m' kvs' ps' S' G', (f = .next ∨ f = .cont) → PLe F F' → Fr90 v D m' → stepTail D cf c S = some S' → S'.cnt ≤ S.cnt + 10 → Sim F' kvs' ps' cvs S' → (X90 v L m' cvs kvs' ps' []).Sublist X' → Φ f F' X' G')
    (hE : ∀ F' Y G', PLe F F' → stepTail D cf c S = none → (∃ (i : Nat) (m : Str → Option Value), Y[i]? = some (L, .ns m)) → EΦ F' Y G') :
    W g k A (execs [parTry g.w, parIf g.w] (E90 g.w L)) Φ (EW g k L EΦ) F (X90 v L m cvs kvs ps []) G := by
  walk_at "w"
  refine W_TryKE (EΦ := fun F' Y G' => PLe F F' ∧ D.par c = none ∧ Y = X90 v L m cvs kvs ps []) T H rfl (by kernel_rfl) (by kernel_rfl) (by kernel_rfl) (by kernel_rfl) (by kernel_rfl) hx0 ?_ (fun F' Y G' ⟨_, _, e⟩ => ⟨0, m, by rw [e]; rfl⟩) ?_
  · have hlp := hm.lp
    walk_at "ws"
    refine ⟨hz.lp.keeps, ?_⟩
    refine W_look (i := 0) H rfl hz.lp (hroom.le (by exact far 1 [] [.num 5, .num 8] rfl)) hh ⟨tx, rfl⟩ (fun rv F2 G2 hb le2 hr => ?_) fun F2 G2 hb le2 => ⟨le2, by simpa using hb, rfl⟩
    obtain ⟨pn, hpn, hrv⟩ := hr
    walk_at "w"
    walk_at "x"
    have hm3 := hm.upd (x := Str.ofString "parents") (u := rv) (by kernel_rfl)
    have hmc3 : upd m (Str.ofString "parents") rv (Str.ofString "cflags") = some (.int cf tc) := upd_ne hmc (by kernel_rfl)
    have hmp3 : upd m (Str.ofString "parents") rv (Str.ofString "parents") = some rv := upd_self
    generalize upd m (Str.ofString "parents") rv = m3 at hm3 hmc3 hmp3 ⊢
    have hst : stepTail D cf c S = parentsStep D cf S pn := by unfold stepTail; rw [hpn]
    have hpl := hpar _ _ hpn
    walk_at "ws"
    refine W_If ?_
    walk_at "ws"
    obtain ⟨vs, hvs, hpr⟩ := id hrv
    have hlen := hpr.length
    refine W_tL (.inl hvs) (by show _ ≤ 16777216; omega) ?_
    cases vs with
    | nil =>
      obtain rfl := paired_nil hpr
      rw [if_neg (by decide)]
      walk_at "ws"
      exact h _ _ _ _ _ _ _ _ (.inl rfl) le2 hm3 (by rw [hst]; rfl) (Nat.le_add_right _ _) (hS.mono le2) (List.Sublist.refl _)
    | cons v0 vr =>
      rw [if_pos (show (!(v0 :: vr).isEmpty) = true from rfl)]
      walk_at "w"
      refine W_parFor (hm := hm3) T (hF.trans le2) hh hroom H (hz.mono le2) hmp3 hmc3 hrv (hS.mono le2) (by exact far 1 [_, _] [.add (.var 0) (.var 1), .num 40000, .add (.var 0) (.num 10), .num 40000, .var 1, .num 10] rfl hcnt hpl) hx0 (fun F3 m' kvs' ps' S' G3 le3 hm' hp' hn' hs' => ?_) fun F3 Y G3 le3 hn hY => ?_
      · walk_at "ws"
        exact h _ _ _ _ _ _ _ _ (.inl rfl) (le2.trans le3) hm' (by rw [hst]; exact hp') (by exact far 1 [_, _, _] [.var 0, .add (.var 1) (.num 10), .var 2, .num 10, .var 0, .add (.var 1) (.var 2)] rfl hpl hn') hs' (List.Sublist.refl _)
      · exact hE _ _ _ (le2.trans le3) (by rw [hst]; exact hn) hY
  · rintro e T2 eo oT F2 Y G2 ⟨le2, hst, rfl⟩ hex htb
    have hsh2 := hm.sh
    have hst2 : stepTail D cf c S = if D.sh then some S else none := by unfold stepTail; rw [hst]
    walk_at "w"
    walk_at "w"
    refine W_shAnd (i := 0) (hz.sh.mono le2) rfl hsh2 (by kernel_rfl) (by kernel_rfl) ?_
    cases hsh : D.sh with
    | false =>
      rw [if_neg (show ¬ false = true by decide)]
      walk_at "w"
      walk_at "w"
      refine W_Raise0E rfl rfl hex htb (hE _ _ _ le2 ?_ ⟨0, _, rfl⟩)
      rw [hst2, hsh]; rfl
    | true =>
      rw [if_pos rfl]
      walk_at "w"
      walk_at "w"
      exact h _ _ _ _ _ _ _ _ (.inr rfl) le2 hm (by rw [hst2, hsh]; rfl) (Nat.le_add_right _ _) (hS.mono le2) (List.sublist_append_left _ _)
end
end
section
theorem Sim.pop {F : PMap} {kvs : KV} {ps : PQ} {cvs : List Value} {S : LS} (h : Sim F kvs ps cvs S) : Sim F kvs (popL ps) cvs { S with q := popI S.q } :=
  ⟨h.fl, by rw [popL_items, h.pq], h.ok.pop, h.ca, h.n1, by
    refine Nat.le_trans ?_ h.n2
    cases ps with
    | nil => exact Nat.le_refl _
    | cons x r => rw [popL_perm.length_eq]; exact Nat.le_succ _, h.n3⟩
theorem Sim.mark {F : PMap} {kvs : KV} {ps : PQ} {cvs : List Value} {S : LS} (h : Sim F kvs ps cvs S) {x : Item} {fl : Nat} {v tv : Value} (h3 : fl &&& 7 = 3) (h8 : ¬ fl &&& 8 = 8) (hv : isNat v (fl ||| 8)) (ht : isPair F tv (-x.1, x.2)) : Sim F (stored kvs x.2 v) ps (cvs ++ [tv]) (markStep S x fl) := by
  unfold markStep
  rw [if_pos h3, if_neg h8]
  exact ⟨h.fl.set hv, h.pq, h.ok, h.ca.snoc ht, Nat.le_trans (stored_len _ _ _) (Nat.succ_le_succ h.n1), Nat.le_trans h.n2 (Nat.le_succ _), by
    show (cvs ++ [tv]).length ≤ S.cnt + 1
    rw [List.length_append]; exact Nat.succ_le_succ h.n3⟩
theorem markStep_cnt {S : LS} {x : Item} {fl : Nat} : (markStep S x fl).cnt ≤ S.cnt + 1 := by
  unfold markStep
  split
  · split
    · exact Nat.le_succ _
    · exact Nat.le_refl _
  · exact Nat.le_succ _
theorem live_eq {S : LS} {ps : PQ} (h : ps.map (·.2) = S.q) : (ps.any fun p => liveItem S.cs p.2) = S.live := by
  unfold LS.live
  rw [← h, List.any_map]
  rfl
theorem natBeq (a b : Nat) : ((a : Int) == (b : Int)) = decide (a = b) := by
  rw [Bool.eq_iff_iff]; simp [Int.ofNat_inj]
section
variable {g : Glo} {k : Fun} {l : List Env} {A : Around} {E : Value → Shared → Prop} {F : PMap} {X Y : XS} {G : GS} {env : Env} {s : Shared} {mg mb : Str → Option Value} {L0 : Addr} {α : Type}
theorem isPair.notNone {v : Value} {x : Item} (h : isPair F v x) : (v == Value.none) = false := by
  obtain ⟨a, n, t, u, rfl, f⟩ := h
  rfl
set_option maxHeartbeats 4000000
theorem W_lcaWhile {v : V90} {D : LD} {L : Addr} {m : Str → Option Value} {cvs : List Value} {kvs : KV} {ps : PQ} {S : LS} {N : Nat} {res : Option LS} {Φ : Cont Flow} {EΦ : PMap → XS → GS → Prop} (T : Top0 g (KK g.w) mg mb) (hF : PLe g.base.get? F) (hh : A.handled = none) (hroom : Room A 8) (H : Here k (E90 g.w L :: l) A L)
    (hm : Fr90 v D m) (hz : Fz g v D L F) (hS : Sim F kvs ps cvs S) (hfl : Flagged S) (hrun : lcaLoop D N S = some res) (hcnt : S.cnt + 12 * N ≤ 39000) (hpar : ∀ c ps, D.par c = some ps → ps.length ≤ 10) (hx0 : ∀ F Y G, EΦ F Y G → ∃ (i : Nat) (m : Str → Option Value), Y[i]? = some (L, .ns m))
    (h : ∀ F' m' kvs' ps' cvs' S' G', PLe F F' → Fr90 v D m' → res = some S' → S'.cnt ≤ 40000 → Sim F' kvs' ps' cvs' S' → Φ .next F' (X90 v L m' cvs' kvs' ps' []) G')
    (hE : ∀ F' Y G', PLe F F' → res = none → (∃ (i : Nat) (m : Str → Option Value), Y[i]? = some (L, .ns m)) → EΦ F' Y G') :
    W g k A (exec (st90 g.w 11) (E90 g.w L)) Φ (EW g k L EΦ) F (X90 v L m cvs kvs ps []) G := by
  refine W_WhileE H rfl hx0 (fun n F' X' _ => ∃ m kvs ps cvs S, X' = X90 v L m cvs kvs ps [] ∧ Fr90 v D m ∧ Sim F' kvs ps cvs S ∧ lcaLoop D n S = some res ∧ S.cnt + 12 * n ≤ 39000 ∧ Flagged S) N ⟨m, kvs, ps, cvs, S, rfl, hm, hS, hrun, hcnt, hfl⟩ ?_
  rintro n F1 X1 G1 le1 ⟨m, kvs, ps, cvs, S, rfl, hm, hS, hrun, hcnt, hfl⟩
  cases n with
  | zero => cases hrun
  | succ n =>
  have hz1 := hz.mono le1
  obtain ⟨o, doc, pm, cd, ct, ho, hod, hcd⟩ := hz1.hc
  obtain ⟨oc, hoc, hoc2⟩ := hz1.dnc
  have hhc := hm.hc
  have hwl := hm.wl
  have hcs := hm.cs
  walk_at "ws"
  refine ⟨Keeps.func ho hod, ?_⟩
  refine W_hasCand (iq := 3) (id := 2) (n := 3) T hh (hroom.le (by exact far 1 [] [.add (.num 3) (.num 4), .num 8] rfl)) ho hod hcd hoc hoc2 hz1.wl hS.ok rfl rfl hz.ds hS.fl fun F2 G2 le2 => ?_
  rw [live_eq hS.pq]
  walk_at "ws"
  unfold lcaLoop at hrun
  cases hl : S.live with
  | false =>
    rw [if_neg Bool.false_ne_true]
    rw [hl, if_neg Bool.false_ne_true] at hrun
    cases hrun
    exact h _ _ _ _ _ _ _ (le1.trans le2) hm rfl (by exact far 1 [_, _] [.var 0, .num 40000, .add (.var 0) (.mulL 12 (.add (.var 1) (.num 1))), .num 39000] rfl hcnt) (hS.mono le2)
  | true =>
    rw [if_pos rfl]
    rw [hl, if_pos rfl] at hrun
    obtain ⟨first, r0, rfl⟩ : ∃ first r0, ps = first :: r0 := by
      cases ps with
      | nil => rw [← live_eq hS.pq] at hl; cases hl
      | cons a b => exact ⟨a, b, rfl⟩
    have hq : S.q = first.2 :: r0.map (·.2) := by rw [← hS.pq]; rfl
    obtain ⟨fl, hfl1⟩ := Option.ne_none_iff_exists'.mp (hfl first.2 (by rw [hq]; exact .head _))
    obtain ⟨fv, hfv, tf, rfl⟩ : ∃ fv, valueAt kvs first.2.2 = some fv ∧ isNat fv fl := by
      rcases hS.fl first.2.2 with ⟨_, h2⟩ | ⟨fv, n', h1, h2, h3⟩
      · rw [hfl1] at h2; cases h2
      · rw [hfl1] at h2; cases h2; exact ⟨fv, h1, h3⟩
    rw [lcaStep_eq hq hfl1] at hrun
    have hn2 := hS.n2
    have hn1 := hS.n1
    have le12 := le1.trans le2
    walk_at "w"
    walk_at "w"
    refine W_CallWl T ?_ (by kernel_rfl) (by kernel_rfl) (f := 70) (by kernel_rfl) (by kernel_rfl)
    walk_at "ws"
    refine ⟨⟨_, hz.wl.mono le12⟩, ?_⟩
    refine W_callW0 (keeps_top T (hF.trans le12) (by kernel_rfl) (by kernel_rfl)) ?_
    refine W_wlGet (n := 2) (i := 3) T (hroom.le (by exact far 1 [] [.add (.num 2) (.num 2), .num 8] rfl)) (.inl hh) (hF.trans le12) (hz.wl.mono le12) rfl (by exact far 1 [_, _, _] [.var 0, .num 50000, .add (.var 1) (.mulL 12 (.add (.var 2) (.num 1))), .num 39000, .var 0, .var 1] rfl hcnt hn2) (hS.ok.mono le2) rfl fun F3 rv le3 hrv => ?_
    walk_at "x"
    walk_at "w"
    walk_at "x"
    have hm2 := hm.upd (x := Str.ofString "result") (u := rv) (by kernel_rfl)
    have hr2 : upd m (Str.ofString "result") rv (Str.ofString "result") = some rv := upd_self
    generalize upd m (Str.ofString "result") rv = m2 at hm2 hr2 ⊢
    clear hm hhc hwl hcs
    walk_at "ws"
    rw [hrv.notNone, if_neg Bool.false_ne_true]
    walk_at "ws"
    obtain ⟨t, u, htv⟩ := hrv.tup
    refine W_unpack2 (.inl hh) htv ?_
    walk_at "w"
    walk_at "w"
    walk_at "x"
    walk_at "w"
    walk_at "w"
    walk_at "x"
    have hm3 := (hm2.upd (x := Str.ofString "dt") (u := .int (-first.2.1) t) (by kernel_rfl)).upd (x := Str.ofString "cmt") (u := .bytes first.2.2.toArray u) (by kernel_rfl)
    have hd3 : upd (upd m2 (Str.ofString "dt") (.int (-first.2.1) t)) (Str.ofString "cmt") (.bytes first.2.2.toArray u) (Str.ofString "dt") = some (.int (-first.2.1) t) := upd_ne upd_self (by kernel_rfl)
    have hc3 : upd (upd m2 (Str.ofString "dt") (.int (-first.2.1) t)) (Str.ofString "cmt") (.bytes first.2.2.toArray u) (Str.ofString "cmt") = some (.bytes first.2.2.toArray u) := upd_self
    generalize upd (upd m2 (Str.ofString "dt") (.int (-first.2.1) t)) (Str.ofString "cmt") (.bytes first.2.2.toArray u) = m3 at hm3 hd3 hc3 ⊢
    clear hm2 hr2
    have hcs := hm3.cs
    have ha1 := hm3.a1
    have ha2 := hm3.a2
    have ha8 := hm3.a8
    have hca := hm3.ca
    have hS3 := (hS.mono (le2.trans le3)).pop
    have le13 := le12.trans le3
    have hz3 := hz.mono le13
    obtain ⟨oc3, hoc3, hoc32⟩ := hz3.dnc
    walk_at "ws"
    refine W_dItem (kvs := kvs) ⟨v.d, rfl, hz.ds, .inr ⟨2, rfl⟩⟩ ⟨u, rfl⟩ hfv ?_
    walk_at "ws"
    refine W_cellF (.inl (by kernel_rfl)) (by kernel_rfl) hoc3 hoc32 ?_
    walk_at "w"
    walk_at "w"
    rw [show Builtin.bitOr (Builtin.bitOr 1 2) 4 = ((7 : Nat) : Int) by decide, bitAnd_nat]
    walk_at "w"
    walk_at "x"
    rename_i t5
    have hm4 := hm3.upd (x := Str.ofString "cflags") (u := .int ((fl &&& 7 : Nat) : Int) t5) (by kernel_rfl)
    have hd4 : upd m3 (Str.ofString "cflags") (.int ((fl &&& 7 : Nat) : Int) t5) (Str.ofString "dt") = some (.int (-first.2.1) t) := upd_ne hd3 (by kernel_rfl)
    have hc4 : upd m3 (Str.ofString "cflags") (.int ((fl &&& 7 : Nat) : Int) t5) (Str.ofString "cmt") = some (.bytes first.2.2.toArray u) := upd_ne hc3 (by kernel_rfl)
    have hf4 : upd m3 (Str.ofString "cflags") (.int ((fl &&& 7 : Nat) : Int) t5) (Str.ofString "cflags") = some (.int ((fl &&& 7 : Nat) : Int) t5) := upd_self
    generalize upd m3 (Str.ofString "cflags") (.int ((fl &&& 7 : Nat) : Int) t5) = m4 at hm4 hd4 hc4 hf4 ⊢
    clear hm3 hd3 hc3 hcs ha1 ha2 ha8 hca
    have hcs := hm4.cs
    have ha1 := hm4.a1
    have ha2 := hm4.a2
    have ha8 := hm4.a8
    have hca := hm4.ca
    have tail : ∀ F4 m5 kvs5 cvs5 t5 S5 G5, PLe F3 F4 → S5 = markStep { S with q := popI S.q } first.2 fl → Fr90 v D m5 → m5 (Str.ofString "cmt") = some (.bytes first.2.2.toArray u) → m5 (Str.ofString "cflags") = some (.int ((outFlags fl : Nat) : Int) t5) → Sim F4 kvs5 (popL (first :: r0)) cvs5 S5 →
        W g k A (execs [parTry g.w, parIf g.w] (E90 g.w L)) (fun f F₂ X₂ G₂ => PLe F F₂ ∧ match f with
          | .next | .cont => ∃ m, m < n + 1 ∧ ∃ Z, Z.Sublist X₂ ∧ ∃ m_1 kvs ps cvs S, Z = X90 v L m_1 cvs kvs ps [] ∧ Fr90 v D m_1 ∧ Sim F₂ kvs ps cvs S ∧ lcaLoop D m S = some res ∧ S.cnt + 12 * m ≤ 39000 ∧ Flagged S
          | .brk => ∃ Z, Z.Sublist X₂ ∧ Φ .next F₂ Z G₂
          | .ret v => ∃ Z, Z.Sublist X₂ ∧ Φ (.ret v) F₂ Z G₂) (EW g k L EΦ) F4 (X90 v L m5 cvs5 kvs5 (popL (first :: r0)) []) G5 := by
      rintro F4 m5 kvs5 cvs5 t5 S5 G5 le4 hS5 hm5 hc5 hf5 hs5
      have hc5' : S5.cnt ≤ S.cnt + 1 := by rw [hS5]; exact markStep_cnt
      refine W_stepTail (hm := hm5) T (hF.trans (le13.trans le4)) hh hroom H (hz.mono (le13.trans le4)) hc5 hf5 hs5 (by exact far 1 [_, _, _] [.add (.var 0) (.num 10), .num 40000, .add (.var 1) (.mulL 12 (.add (.var 2) (.num 1))), .num 39000, .var 0, .add (.var 1) (.num 1)] rfl hcnt hc5') hpar hx0 (fun f F6 X6 m6 kvs6 ps6 S6 G6 hf le6 hm6 ht6 hn6 hs6 hsub => ?_) fun F6 Y G6 le6 hn6 hY => ?_
      · rw [← hS5, ht6] at hrun
        dsimp only at hrun
        have hfl6 : Flagged S6 := Flagged.tail (by rw [hS5]; exact hfl.pop.mark) ht6
        have key : ∃ m, m < n + 1 ∧ ∃ Z, Z.Sublist X6 ∧ ∃ m_1 kvs ps cvs S, Z = X90 v L m_1 cvs kvs ps [] ∧ Fr90 v D m_1 ∧ Sim F6 kvs ps cvs S ∧ lcaLoop D m S = some res ∧ S.cnt + 12 * m ≤ 39000 ∧ Flagged S :=
          ⟨n, Nat.lt_succ_self _, _, hsub, _, _, _, _, _, rfl, hm6, hs6, hrun, by exact far 1 [_, _, _, _] [.add (.var 0) (.mulL 12 (.var 1)), .num 39000, .add (.var 2) (.mulL 12 (.add (.var 1) (.num 1))), .num 39000, .var 3, .add (.var 2) (.num 1), .var 0, .add (.var 3) (.num 10)] rfl hcnt hc5' hn6, hfl6⟩
        rcases hf with rfl | rfl
        · exact ⟨(le13.trans le4).trans le6, key⟩
        · exact ⟨(le13.trans le4).trans le6, key⟩
      · rw [← hS5, hn6] at hrun
        dsimp only at hrun
        cases hrun
        exact hE _ _ _ ((le13.trans le4).trans le6) rfl hY
    walk_at "ws"
    rw [show Builtin.bitOr 1 2 = ((3 : Nat) : Int) by decide, natBeq]
    by_cases h3 : fl &&& 7 = 3
    · rw [if_pos (decide_eq_true h3)]
      have hout : outFlags fl = 7 := by unfold outFlags; rw [if_pos h3]
      walk_at "w"
      walk_at "w"
      walk_at "ws"
      refine W_dItem (kvs := kvs) ⟨v.d, rfl, hz.ds, .inr ⟨2, rfl⟩⟩ ⟨u, rfl⟩ hfv ?_
      walk_at "ws"
      rw [show (8 : Int) = ((8 : Nat) : Int) from rfl, bitAnd_eq]
      by_cases h8 : fl &&& 8 = 8
      · rw [if_neg (by simp [h8])]
        walk_at "ws"
        refine W_cellF (.inl (by kernel_rfl)) (by kernel_rfl) hoc3 hoc32 ?_
        walk_at "w"
        rw [h3, show Builtin.bitOr ((3 : Nat) : Int) 4 = ((7 : Nat) : Int) by decide]
        walk_at "w"
        walk_at "x"
        walk_at "w"
        refine tail _ _ _ _ _ _ _ .rfl rfl (hm4.upd (by kernel_rfl)) (upd_ne hc4 (by kernel_rfl)) (by rw [hout]; exact upd_self) ?_
        unfold markStep
        rw [if_pos h3, if_pos h8]
        exact hS3
      · rw [if_pos (by simp [h8])]
        walk_at "ws"
        refine W_dItem (kvs := kvs) ⟨v.d, rfl, hz.ds, .inr ⟨2, rfl⟩⟩ ⟨u, rfl⟩ hfv ?_
        walk_at "ws"
        refine W_setItem (i := 2) rfl ⟨u, rfl⟩ (by exact far 1 [_, _, _] [.var 0, .num 1000000, .add (.var 1) (.mulL 12 (.add (.var 2) (.num 1))), .num 39000, .var 0, .var 1] rfl hcnt hn1) ?_
        walk_at "x"
        walk_at "w"
        walk_at "w"
        refine W_CallAppend ?_
        walk_at "w"
        walk_at "w"
        refine ⟨⟨cvs, by walk_at "lv"⟩, ?_⟩
        have hn3 := hS.n3
        walk_at "ws"
        refine ⟨by show 2 ≤ 16777216; exact far 1 [] [.num 2, .num 16777216] rfl, fun F4 tv le4 htv => ?_⟩
        have hcz : cvs.length ≤ sizeLine := by show _ ≤ 16777216; exact far 1 [_, _, _] [.var 0, .num 16777216, .add (.var 1) (.mulL 12 (.add (.var 2) (.num 1))), .num 39000, .var 0, .var 1] rfl hcnt hn3
        walk_at "w"
        walk_at "w"
        walk_at "w"
        walk_at "w"
        walk_at "x"
        walk_at "ws"
        refine W_cellF (.inl (by kernel_rfl)) (by kernel_rfl) (le4 _ _ hoc3) hoc32 ?_
        walk_at "w"
        rw [h3, show Builtin.bitOr ((3 : Nat) : Int) 4 = ((7 : Nat) : Int) by decide]
        walk_at "w"
        walk_at "x"
        walk_at "w"
        exact tail _ _ _ _ _ _ _ le4 rfl (hm4.upd (by kernel_rfl)) (upd_ne hc4 (by kernel_rfl)) (by rw [hout]; exact upd_self) ((hS3.mono le4).mark h3 h8 isNat.or htv.pair)
    · rw [if_neg (by simpa using h3)]
      walk_at "w"
      refine tail _ _ _ _ _ _ _ .rfl rfl hm4 hc4 (by rw [show outFlags fl = fl &&& 7 from by unfold outFlags; rw [if_neg h3]]; exact hf4) ?_
      unfold markStep
      rw [if_neg h3]
      exact hS3
end
end
section
/-! the sort of a row whose keys never rise: it is stable -/
section
noncomputable abbrev TT (T : Keyed → Keyed → Prop) (xs : Array Keyed) (i j : Nat) : Prop := ∀ p q, xs[i]? = some p → xs[j]? = some q → T p q
/-- the first x are turned about, equal ones against their order -/
structure DOne (a₀ : Array Keyed) (T : Keyed → Keyed → Prop) (x : Nat) (xs : Array Keyed) : Prop where
  k : ∀ i, K xs i = K a₀ i
  rest : ∀ i, x ≤ i → xs[i]? = a₀[i]?
  old : ∀ i j, i < j → j < x → K a₀ i = K a₀ j → TT T xs j i
structure DInv (a₀ : Array Keyed) (T : Keyed → Keyed → Prop) (x neq : Nat) (xs : Array Keyed) : Prop where
  one : DOne a₀ T (x - (neq + 1)) xs
  le : neq + 1 ≤ x
  eq : ∀ i, x - (neq + 1) ≤ i → i < x → K a₀ i = K a₀ (x - 1)
  gt : ∀ i, i < x - (neq + 1) → K a₀ (x - 1) < K a₀ i
theorem DInv.turn {a₀ xs : Array Keyed} {T : Keyed → Keyed → Prop} {x neq : Nat} (h : DInv a₀ T x neq xs) (hx : x ≤ xs.size) (hT : ∀ i j, i < j → j < a₀.size → K a₀ i = K a₀ j → TT T a₀ i j) (hsz : xs.size = a₀.size) :
    DOne a₀ T x (mirror xs (x - (neq + 1)) x ((x - (x - (neq + 1))) / 2)) where
  k := fun i => by
    rw [K_mirror_equal hx (fun k h1 h2 => by rw [h.one.k, h.one.k]; exact h.eq k h1 h2)]
    exact h.one.k i
  rest := fun i hi => by
    rw [getElem?_mirror_all hx, if_neg (by exact fun hs9 => Nat.not_succ_le_zero 0 (far 0 [_, _] [.num 1, .num 0, .var 0, .var 1, .add (.var 1) (.num 1), .var 0] rfl hi hs9.2))]
    exact h.one.rest i (by exact Nat.le_trans (Nat.sub_le _ _) hi)
  old := fun i j hij hj hK p q hp hq => by
    rw [getElem?_mirror_all hx] at hp hq
    by_cases h1 : x - (neq + 1) ≤ j ∧ j < x
    · rw [if_pos h1] at hp
      by_cases h2 : x - (neq + 1) ≤ i ∧ i < x
      · rw [if_pos h2] at hq
        rw [h.one.rest _ (by omega)] at hp hq
        exact hT _ _ (by exact far 1 [_, _, _, _, _] [.add (.var 0) (.num 1), .var 1, .add (.var 2) (.num 1), .var 3, .add (.var 0) (.var 3), .var 4, .var 4, .add (.var 1) (.var 2)] rfl hij (sbC (far 1 [_, _, _, _] [.var 0, .var 1, .add (.var 0) (.num 1), .var 2, .add (.var 3) (.var 2), .add (.var 1) (.num 1)] rfl hj (sbA _ _))) (sbA _ _)) (by exact far 1 [_, _, _, _, _, _, _] [.add (.var 0) (.num 1), .var 1, .var 2, .var 3, .var 3, .var 1, .var 4, .var 5, .add (.var 6) (.num 1), .add (.var 4) (.var 2), .add (.var 0) (.var 5), .var 6] rfl hx (Nat.le_of_eq hsz) h2.1 (sbC (far 1 [_, _, _] [.num 1, .add (.var 0) (.var 1), .add (.var 2) (.num 1), .var 1] rfl hj)) (sbC (far 1 [_, _, _, _] [.var 0, .var 1, .add (.var 0) (.num 1), .var 2, .add (.var 3) (.var 2), .add (.var 1) (.num 1)] rfl h2.2 (sbA _ _)))) ((h.eq _ (by exact far 1 [_, _, _, _, _] [.var 0, .var 1, .add (.var 2) (.num 1), .var 3, .add (.var 0) (.var 3), .add (.var 4) (.num 1), .var 4, .add (.var 1) (.var 2)] rfl hj (sbA _ _) (sbA _ _)) (by exact far 1 [_, _, _, _, _, _] [.add (.var 0) (.num 1), .var 1, .add (.var 2) (.num 1), .var 3, .var 4, .var 2, .var 5, .add (.var 4) (.var 1), .add (.var 0) (.var 3), .var 5] rfl hij h2.1 (Nat.sub_le _ _) (sbC (far 1 [_, _, _, _] [.var 0, .var 1, .add (.var 0) (.num 1), .var 2, .add (.var 3) (.var 2), .add (.var 1) (.num 1)] rfl hj (sbA _ _))))).trans (h.eq _ (by exact far 1 [_, _, _, _, _] [.var 0, .var 1, .add (.var 2) (.num 1), .var 3, .add (.var 0) (.var 3), .add (.var 4) (.num 1), .var 4, .add (.var 1) (.var 2)] rfl h2.2 (sbA _ _) (sbA _ _)) (by exact far 1 [_, _, _, _, _] [.add (.var 0) (.num 1), .var 1, .var 2, .var 3, .add (.var 4) (.num 1), .add (.var 2) (.var 1), .add (.var 0) (.var 3), .var 4] rfl h2.1 (sbC (far 1 [_, _, _] [.num 1, .add (.var 0) (.var 1), .add (.var 2) (.num 1), .var 1] rfl hj)) (sbC (far 1 [_, _, _, _] [.var 0, .var 1, .add (.var 0) (.num 1), .var 2, .add (.var 3) (.var 2), .add (.var 1) (.num 1)] rfl h2.2 (sbA _ _))))).symm) p q hp hq
      · have := h.gt i (by omega)
        have := h.eq j h1.1 h1.2
        omega
    · rw [if_neg h1] at hp
      rw [if_neg (by omega)] at hq
      exact h.one.old i j hij (by omega) hK p q hp hq
theorem DOne.start {a₀ xs : Array Keyed} {T : Keyed → Keyed → Prop} {x : Nat} (h : DOne a₀ T x xs) (h1 : 1 ≤ x) (hn : NonInc a₀ a₀.size) (hx : x < a₀.size) (hlt : K a₀ x < K a₀ (x - 1)) : DInv a₀ T (x + 1) 0 xs :=
  ⟨by simpa using h, by exact far 1 [_] [.add (.num 0) (.num 1), .add (.var 0) (.num 1)] rfl, fun i h1 h2 => by congr 1; exact Nat.le_antisymm (far 1 [_, _, _] [.var 0, .var 1, .add (.var 0) (.num 1), .add (.var 2) (.num 1), .add (.var 2) (.num 1), .add (.var 1) (.num 1)] rfl h2 (sbA _ _)) (far 1 [_, _, _, _] [.var 0, .var 1, .var 2, .var 1, .add (.var 3) (.num 1), .add (.var 2) (.add (.num 0) (.num 1)), .add (.var 0) (.num 1), .add (.var 3) (.num 1)] rfl h1 (sbA _ _) (sbC (far 1 [_] [.num 1, .add (.var 0) (.num 1)] rfl))), fun i hi => by
    have := hn i (x - 1) (by exact far 1 [_, _, _, _] [.var 0, .var 1, .add (.var 0) (.num 1), .var 2, .add (.var 2) (.add (.num 0) (.num 1)), .add (.var 3) (.num 1), .var 3, .add (.var 1) (.num 1)] rfl hi (sbC (far 1 [_] [.add (.num 0) (.num 1), .add (.var 0) (.num 1)] rfl)) (sbA _ _)) (by exact Nat.lt_of_le_of_lt (Nat.sub_le _ _) hx)
    have e : x + 1 - 1 = x := rfl
    rw [e]; omega⟩
theorem DInv.done0 {a₀ xs : Array Keyed} {T : Keyed → Keyed → Prop} {x : Nat} (h : DInv a₀ T x 0 xs) : DOne a₀ T x xs where
  k := h.one.k
  rest := fun i hi => h.one.rest i (by exact Nat.le_trans (Nat.sub_le _ _) hi)
  old := fun i j hij hj hK => by
    by_cases hjx : j < x - (0 + 1)
    · exact h.one.old i j hij hjx hK
    · have := h.gt i (by exact far 1 [_, _, _, _] [.add (.var 0) (.num 1), .var 1, .add (.var 0) (.num 1), .var 2, .add (.var 2) (.num 1), .var 3, .var 3, .add (.var 1) (.add (.num 0) (.num 1))] rfl hij hj (sbA _ _))
      have := h.eq j (by exact Nat.le_of_not_lt hjx) hj
      omega
noncomputable def StableTo (T : Keyed → Keyed → Prop) (xs : Array Keyed) (n : Nat) : Prop := SortedTo xs n ∧ ∀ i j, i < j → j < n → K xs i = K xs j → TT T xs i j
theorem DOne.fin {a₀ xs : Array Keyed} {T : Keyed → Keyed → Prop} (h : DOne a₀ T a₀.size xs) (hsz : xs.size = a₀.size) (hn : NonInc a₀ a₀.size) : StableTo T (mirror xs 0 a₀.size ((a₀.size - 0) / 2)) a₀.size := by
  have hx : a₀.size ≤ xs.size := by exact Nat.le_of_eq hsz.symm
  refine ⟨fun i j hij hj => ?_, fun i j hij hj hK p q hp hq => ?_⟩
  · rw [K_mirror hx, K_mirror hx, if_pos (by exact ⟨Nat.zero_le _, Nat.lt_of_le_of_lt hij hj⟩), if_pos (by exact ⟨Nat.zero_le _, hj⟩), h.k, h.k]
    exact hn _ _ (by exact far 1 [_, _, _, _, _] [.var 0, .var 1, .var 2, .var 3, .add (.var 0) (.var 3), .var 4, .var 4, .add (.var 1) (.var 2)] rfl hij (sbC (far 1 [_, _, _] [.var 0, .var 1, .add (.var 0) (.num 1), .var 2, .add (.num 0) (.var 2), .add (.var 1) (.num 1)] rfl hj (sbA _ _))) (sbA _ _)) (by exact far 1 [_, _, _] [.add (.var 0) (.num 1), .var 1, .add (.var 2) (.num 1), .add (.num 0) (.var 1), .var 0, .var 2] rfl (sbC (far 1 [_, _] [.num 1, .add (.num 0) (.var 0), .add (.var 1) (.num 1), .var 0] rfl hj)) (Nat.sub_le _ _))
  · rw [K_mirror hx, K_mirror hx, if_pos (by exact ⟨Nat.zero_le _, Nat.le_trans hij (Nat.le_of_lt hj)⟩), if_pos (by exact ⟨Nat.zero_le _, hj⟩), h.k, h.k] at hK
    rw [getElem?_mirror_all hx, if_pos (by omega)] at hp hq
    exact h.old _ _ (by exact far 1 [_, _, _, _, _] [.add (.var 0) (.num 1), .var 1, .add (.var 2) (.num 1), .var 3, .add (.var 0) (.var 3), .var 4, .var 4, .add (.var 1) (.var 2)] rfl hij (sbC (far 1 [_, _, _] [.var 0, .var 1, .add (.var 0) (.num 1), .var 2, .add (.num 0) (.var 2), .add (.var 1) (.num 1)] rfl hj (sbA _ _))) (sbA _ _)) (by exact far 1 [_, _, _] [.add (.var 0) (.num 1), .var 1, .add (.var 2) (.num 1), .add (.num 0) (.var 1), .var 0, .var 2] rfl (sbC (far 1 [_, _] [.num 1, .add (.num 0) (.var 0), .add (.var 1) (.num 1), .var 0] rfl hj)) (Nat.sub_le _ _)) hK.symm p q hp hq
section
variable {prog : Program} {w : World} {A : Around} {E : Value → Shared → Prop} {s : Shared} {a₀ : Array Keyed} {T : Keyed → Keyed → Prop}
theorem wpS_descLoopD {st : SortSt} {n : Nat} {Q : DescSt → SortSt → Prop} (h0 : IntKeys a₀) (hT : ∀ i j, i < j → j < a₀.size → K a₀ i = K a₀ j → TT T a₀ i j) (hni : NonInc a₀ a₀.size) (h1 : 1 ≤ n) (hnn : n ≤ a₀.size) (hB : SBase a₀ st)
    (hs : DInv a₀ T n 0 (arrOf st)) (h : ∀ neq st', SBase a₀ st' → DInv a₀ T a₀.size neq (arrOf st') → Q (none, a₀.size, neq) st') :
    wpS (model prog w) A E s (descLoop n a₀.size) Q st := by
  unfold descLoop
  refine wpS_forRange (I := fun x c st' => ∃ neq, c = (none, x, neq) ∧ SBase a₀ st' ∧ DInv a₀ T x neq (arrOf st')) ?step ?fin ⟨0, rfl, hB, hs⟩
  case fin =>
    rintro c st' ⟨neq, rfl, hB', hs'⟩
    rw [show max n a₀.size = a₀.size by omega] at hs' ⊢
    exact h neq st' hB' hs'
  case step =>
    rintro x c st' hax hxn ⟨neq, rfl, hB', hs'⟩
    dsimp only
    have hsz : x ≤ (arrOf st').size := by rw [hB'.size]; exact Nat.le_of_lt hxn
    refine wpS_bind (wpS_ltK hB' h0 (by exact hxn) (by exact Nat.lt_of_le_of_lt (Nat.sub_le _ _) hxn) ?_)
    rw [hs'.one.k, hs'.one.k]
    by_cases hless : K a₀ x < K a₀ (x - 1)
    · simp only [hless, decide_true, if_true]
      by_cases hneq : neq > 0
      · rw [if_pos hneq]
        refine wpS_bind (wpS_reverse (wpS_pure ⟨0, rfl, hB'.setArr (mirror_perm _ _ _ _), ?_⟩))
        exact (hs'.turn hsz hT hB'.size).start (by exact Nat.le_trans h1 hax) hni hxn hless
      · rw [if_neg hneq]
        obtain rfl : neq = 0 := by exact Nat.le_antisymm ((Nat.le_of_not_lt hneq)) (Nat.zero_le _)
        exact wpS_pure ⟨0, rfl, hB', hs'.done0.start (by exact Nat.le_trans h1 hax) hni hxn hless⟩
    · simp only [hless, decide_false, Bool.false_eq_true, if_false]
      refine wpS_bind (wpS_ltK hB' h0 (by exact Nat.lt_of_le_of_lt (Nat.sub_le _ _) hxn) (by exact hxn) ?_)
      rw [hs'.one.k, hs'.one.k]
      have hle := hni (x - 1) x (by exact Nat.sub_le _ _) hxn
      have hl : ¬ K a₀ (x - 1) < K a₀ x := by omega
      simp only [hl, decide_false, Bool.false_eq_true, if_false]
      have hq := hs'.le
      refine wpS_pure ⟨neq + 1, rfl, hB', ⟨by rw [show x + 1 - (neq + 1 + 1) = x - (neq + 1) by exact Nat.le_antisymm (far 1 [_, _, _, _] [.var 0, .var 1, .add (.var 0) (.add (.add (.var 2) (.num 1)) (.num 1)), .add (.var 3) (.num 1), .var 3, .add (.var 1) (.add (.var 2) (.num 1))] rfl (sbC (Nat.succ_le_succ hq)) (sbA _ _)) (far 1 [_, _, _, _] [.var 0, .var 1, .add (.var 2) (.num 1), .add (.var 1) (.add (.add (.var 3) (.num 1)) (.num 1)), .add (.var 0) (.add (.var 3) (.num 1)), .var 2] rfl (sbA _ _) (sbC hq))]; exact hs'.one, by exact Nat.succ_le_succ hq, fun i h1 h2 => ?_, fun i hi => ?_⟩⟩
      · rw [show x + 1 - 1 = x by exact Nat.le_antisymm (Nat.le_of_lt_succ (sbC (far 1 [_] [.num 1, .add (.var 0) (.num 1)] rfl))) (Nat.le_of_lt_succ (sbA (x + 1) (1)))]
        by_cases hix : i = x
        · rw [hix]
        · rw [hs'.eq i (by exact far 1 [_, _, _, _, _] [.var 0, .var 1, .var 2, .var 1, .add (.var 3) (.num 1), .add (.var 2) (.add (.add (.var 4) (.num 1)) (.num 1)), .add (.var 0) (.add (.var 4) (.num 1)), .var 3] rfl h1 (sbA _ _) (sbC hq)) (by exact Nat.lt_of_le_of_ne (Nat.le_of_lt_succ h2) hix)]; omega
      · rw [show x + 1 - 1 = x by exact Nat.le_antisymm (Nat.le_of_lt_succ (sbC (far 1 [_] [.num 1, .add (.var 0) (.num 1)] rfl))) (Nat.le_of_lt_succ (sbA (x + 1) (1)))]
        have := hs'.gt i (by exact far 1 [_, _, _, _, _] [.add (.var 0) (.num 1), .var 1, .add (.var 0) (.num 1), .var 2, .add (.var 2) (.add (.add (.var 3) (.num 1)) (.num 1)), .add (.var 4) (.num 1), .var 4, .add (.var 1) (.add (.var 3) (.num 1))] rfl hi (sbC (Nat.succ_le_succ hq)) (sbA _ _))
        omega
theorem wpS_tail3D {st : SortSt} {Q : Option Nat → SortSt → Prop} (h0 : IntKeys a₀) (hni : NonInc a₀ a₀.size) (h1 : 1 ≤ a₀.size) (hB : SBase a₀ st)
    (hs : DOne a₀ T a₀.size (arrOf st)) (h : ∀ st', SBase a₀ st' → StableTo T (arrOf st') a₀.size → Q (some a₀.size) st') :
    wpS (model prog w) A E s (tail3 a₀.size a₀.size) Q st := by
  unfold tail3
  refine wpS_bind (wpS_reverse ?_)
  have hB' : SBase a₀ (setArr st (mirror (arrOf st) 0 a₀.size ((a₀.size - 0) / 2))) := hB.setArr (mirror_perm _ _ _ _)
  have hst := hs.fin hB.size hni
  refine wpS_bind (wpS_ascLoop h0 (Nat.le_refl _) h1 (Nat.le_refl _) hB' hst.1 fun m hm1 hm2 hsm _ => ?_)
  obtain rfl : m = a₀.size := by exact Nat.le_antisymm hm2 hm1
  exact wpS_pure (h _ hB' hst)
theorem wpS_descPartD {st : SortSt} {n : Nat} {Q : Option Nat → SortSt → Prop} (h0 : IntKeys a₀) (hT : ∀ i j, i < j → j < a₀.size → K a₀ i = K a₀ j → TT T a₀ i j) (hni : NonInc a₀ a₀.size) (hnn : n + 1 ≤ a₀.size) (hB : SBase a₀ st)
    (hs : DInv a₀ T (n + 1) 0 (arrOf st)) (h : ∀ st', SBase a₀ st' → StableTo T (arrOf st') a₀.size → Q (some a₀.size) st') :
    wpS (model prog w) A E s (descPart n a₀.size) Q st := by
  unfold descPart
  refine wpS_bind (wpS_lift (wpAny_rule ⟨rfl, ?_⟩))
  refine wpS_bind (wpS_descLoopD h0 hT hni (by exact far 1 [_] [.num 1, .add (.var 0) (.num 1)] rfl) hnn hB hs fun neq st' hB' hs' => ?_)
  dsimp only
  by_cases hneq : neq > 0
  · rw [if_pos hneq]
    exact wpS_bind (wpS_reverse (wpS_tail3D h0 hni (by exact Nat.zero_lt_of_lt hnn) (hB'.setArr (mirror_perm _ _ _ _)) (hs'.turn (by rw [hB'.size]; exact Nat.le_refl _) hT hB'.size) h))
  · rw [if_neg hneq]
    obtain rfl : neq = 0 := by exact Nat.le_antisymm ((Nat.le_of_not_lt hneq)) (Nat.zero_le _)
    exact wpS_tail3D h0 hni (by exact Nat.zero_lt_of_lt hnn) hB' hs'.done0 h
theorem wpS_countRunD {st : SortSt} {Q : Option Nat → SortSt → Prop} (h0 : IntKeys a₀) (hT : ∀ i j, i < j → j < a₀.size → K a₀ i = K a₀ j → TT T a₀ i j) (hni : NonInc a₀ a₀.size) (h1 : 1 ≤ a₀.size) (hB : SBase a₀ st) (hst : arrOf st = a₀)
    (h : ∀ st', SBase a₀ st' → StableTo T (arrOf st') a₀.size → Q (some a₀.size) st') :
    wpS (model prog w) A E s (countRun' 0 a₀.size) Q st := by
  rw [countRun0_eq]
  refine wpS_bind (wpS_ascLoop h0 (Nat.le_refl _) (Nat.le_refl 1) h1 hB (fun i j hij hj => by have : i = j := by exact Nat.le_antisymm hij (far 1 [_, _] [.var 0, .var 1, .add (.var 0) (.num 1), .num 1] rfl hj)
                                                                                              subst this; exact Int.le_refl _) fun n hn1 hn2 hsn hor => ?_)
  dsimp only
  rw [hst] at hsn hor
  by_cases hnn : n = a₀.size
  · rw [if_pos (by simpa using hnn)]
    subst hnn
    exact wpS_pure (h st hB (by rw [hst]; exact ⟨hsn, hT⟩))
  · rw [if_neg (by simpa using hnn)]
    have hlt : K a₀ n < K a₀ (n - 1) := hor.resolve_left hnn
    by_cases hgt : n > 1
    · rw [if_pos hgt]
      refine wpS_bind (wpS_ltK hB h0 (by exact far 1 [_] [.add (.num 0) (.num 1), .var 0, .num 1, .var 0] rfl h1) (by exact Nat.le_trans (sbC hn1) hn2) ?_)
      rw [hst]
      have hr : ¬ K a₀ 0 < K a₀ (n - 1) := by
        have := hni 0 (n - 1) (by exact Nat.zero_le _) (by exact Nat.le_trans (sbC hn1) hn2)
        omega
      simp only [hr, decide_false, Bool.false_eq_true, if_false]
      have hall : ∀ k, k < n → K a₀ k = K a₀ (n - 1) := by
        intro k hk
        have a1 := hsn k (n - 1) (by exact far 1 [_, _, _] [.var 0, .var 1, .add (.var 0) (.num 1), .var 2, .var 2, .add (.var 1) (.num 1)] rfl hk (sbA _ _)) (by exact sbC hn1)
        have a2 := hni k (n - 1) (by exact far 1 [_, _, _] [.var 0, .var 1, .add (.var 0) (.num 1), .var 2, .var 2, .add (.var 1) (.num 1)] rfl hk (sbA _ _)) (by exact Nat.le_trans (sbC hn1) hn2)
        omega
      have hI : DInv a₀ T n (n - 1) (arrOf st) := by
        rw [hst]
        exact ⟨⟨fun _ => rfl, fun _ _ => rfl, fun i j _ hj => by exact False.elim (Nat.not_succ_le_zero 0 (far 0 [_, _, _, _] [.num 1, .num 0, .add (.var 0) (.num 1), .var 1, .var 2, .add (.var 3) (.num 1), .add (.var 1) (.add (.var 3) (.num 1)), .var 2] rfl hj (sbA _ _) (sbC ((sbC hn1)))))⟩, by exact sbC hn1, fun i _ hi => hall i hi, fun i hi => by exact False.elim (Nat.not_succ_le_zero 0 (far 0 [_, _, _, _] [.num 1, .num 0, .add (.var 0) (.num 1), .var 1, .var 2, .add (.var 3) (.num 1), .add (.var 1) (.add (.var 3) (.num 1)), .var 2] rfl hi (sbA _ _) (sbC ((sbC hn1)))))⟩
      have hD := hI.turn (by rw [hst]; exact hn2) hT hB.size
      rw [show n - (n - 1 + 1) = 0 by exact Nat.le_antisymm (far 1 [_, _, _] [.var 0, .num 0, .var 1, .add (.var 2) (.num 1), .add (.var 0) (.add (.var 2) (.num 1)), .var 1] rfl (sbA _ _) (sbC ((sbC hn1)))) (Nat.zero_le _)] at hD
      exact wpS_bind (wpS_reverse (wpS_descPartD h0 hT hni (by exact Nat.lt_of_le_of_ne hn2 hnn) (hB.setArr (mirror_perm _ _ _ _)) (hD.start (by exact hn1) hni (by exact Nat.lt_of_le_of_ne hn2 hnn) hlt) h))
    · rw [if_neg hgt]
      have hn1' : n = 1 := by exact Nat.le_antisymm ((Nat.le_of_not_lt hgt)) hn1
      subst hn1'
      refine wpS_descPartD h0 hT hni (by exact Nat.lt_of_le_of_ne h1 hnn) hB ?_ h
      rw [hst]
      exact DOne.start ⟨fun _ => rfl, fun _ _ => rfl, fun i j _ hj => by omega⟩ (by exact Nat.le_refl _) hni (by exact Nat.lt_of_le_of_ne h1 hnn) hlt
noncomputable def SDoneD (T : Keyed → Keyed → Prop) (a₀ : Array Keyed) (st : SortSt) : Prop :=
  (arrOf st).Perm a₀ ∧ failedOf st = none ∧ pendingOf st = #[(0, a₀.size, 0)] ∧ StableTo T (arrOf st) a₀.size
theorem wpS_sortRunsD {st : SortSt} {Q : Unit → SortSt → Prop} (h0 : IntKeys a₀) (hT : ∀ i j, i < j → j < a₀.size → K a₀ i = K a₀ j → TT T a₀ i j) (hni : NonInc a₀ a₀.size) (hB : SBase a₀ st) (hst : arrOf st = a₀) (h2 : 2 ≤ a₀.size) (h64 : a₀.size < 64)
    (h : ∀ st', (arrOf st').Perm a₀ → failedOf st' = none → StableTo T (arrOf st') a₀.size → Q () st') : wpS (model prog w) A E s sortRuns' Q st := by
  rw [sortRuns'_eq]
  refine wpS_bind (wpS_get ?_)
  dsimp only
  have hmr : minRun' a₀.size a₀.size 0 = a₀.size := by
    obtain ⟨f, hf⟩ : ∃ f, a₀.size = f + 1 := ⟨a₀.size - 1, by exact Nat.le_antisymm ((sbA _ _)) ((sbC (far 1 [_] [.num 1, .var 0, .num 2, .var 0] rfl h2)))⟩
    have : minRun' (f + 1) a₀.size 0 = a₀.size := by rw [minRun'_succ, if_pos h64]; rfl
    rwa [← hf] at this
  simp only [hB.size, hmr]
  refine wpS_bind (wpS_mono (wpS_forRange
    (I := fun x c st' => (x = 0 ∧ c = (none, 0) ∧ SBase a₀ st' ∧ arrOf st' = a₀) ∨ (1 ≤ x ∧ c = (none, a₀.size) ∧ SDoneD T a₀ st'))
    (Q := fun c st' => c = (none, a₀.size) ∧ SDoneD T a₀ st') ?step ?fin (.inl ⟨rfl, rfl, hB, hst⟩)) ?post)
  case fin =>
    rintro c st' (⟨hx, _, _⟩ | ⟨_, hc, hD⟩)
    · omega
    · exact ⟨hc, hD⟩
  case step =>
    rintro x c st' _ hx (⟨rfl, rfl, hB', hst'⟩ | ⟨hx1, rfl, hD⟩)
    · dsimp only
      rw [if_neg (by exact Nat.not_le.mpr (far 1 [_] [.add (.num 0) (.num 1), .var 0, .num 2, .var 0] rfl h2))]
      simp only [Nat.sub_zero, Nat.min_self, Nat.zero_add]
      refine wpS_bind (wpS_countRunD h0 hT hni (by exact far 1 [_] [.num 1, .var 0, .num 2, .var 0] rfl h2) hB' hst' fun st2 hB2 hs2 => ?_)
      dsimp only
      rw [if_neg (by exact Nat.not_lt.mpr (Nat.le_refl _))]
      refine wpS_bind (wpS_get ?_)
      have hb : (pendingOf st2).back? = none := by rw [hB2.pend]; rfl
      rw [hb]
      dsimp only
      exact wpS_bind (wpS_modify (wpS_pure (.inr ⟨by exact Nat.le_refl _, rfl, hB2.perm, hB2.failed, by show (pendingOf st2).push _ = _; rw [hB2.pend]; rfl, hs2⟩)))
    · dsimp only
      rw [if_pos (Nat.le_refl _)]
      exact wpS_pure ⟨rfl, hD⟩
  case post =>
    rintro c st' ⟨rfl, hD⟩
    dsimp only
    refine wpS_bind (wpS_mono (wpS_forRange (I := fun _ c st'' => st'' = st' ∧ c = (none, ())) (Q := fun c st'' => st'' = st' ∧ c = (none, ())) ?_ (fun _ _ hh => hh) ⟨rfl, rfl⟩) ?_)
    · rintro x c st'' _ _ ⟨rfl, rfl⟩
      refine wpS_bind (wpS_get ?_)
      rw [if_pos (by rw [hD.2.2.1]; exact Nat.le_refl 1)]
      exact wpS_pure ⟨rfl, rfl⟩
    · rintro c st'' ⟨rfl, rfl⟩
      exact wpS_pure (h _ hD.1 hD.2.1 hD.2.2.2)
end
end
end
section
/-! list.sort by the first place of pairs that stand from the greatest on -/
theorem isPair.fn {F : PMap} {v : Value} {x y : Item} (hx : isPair F v x) (hy : isPair F v y) : x = y := by
  obtain ⟨a, n, t, u, rfl, f⟩ := hx
  obtain ⟨b, n2, t2, u2, e, f2⟩ := hy
  cases e
  rw [f] at f2
  obtain ⟨x1, x2⟩ := x
  obtain ⟨y1, y2⟩ := y
  simp only [tupObj, Option.some.injEq, Obj.mk.injEq, Data.seq.injEq, true_and, and_true] at f2
  have h := f2.1
  simp at h
  obtain ⟨⟨h1, -⟩, h2, -⟩ := h
  subst h1
  rw [h2]
open Classical in
noncomputable def itOf (F : PMap) (v : Value) : Item := if h : ∃ x, isPair F v x then h.choose else (0, [])
theorem itOf_eq {F : PMap} {v : Value} {x : Item} (h : isPair F v x) : itOf F v = x := by
  have hx : ∃ x, isPair F v x := ⟨x, h⟩
  unfold itOf
  rw [dif_pos hx]
  exact (Exists.choose_spec hx).fn h
theorem pairs_map {F : PMap} {vs : List Value} {items : List Item} (h : Paired (isPair F) vs items) : items = vs.map (itOf F) := by
  induction h with
  | nil => rfl
  | cons h _ ih => rw [List.map_cons, itOf_eq h, ← ih]
theorem pairs_of_map {F : PMap} : ∀ {vs : List Value}, (∀ v ∈ vs, ∃ x, isPair F v x) → Paired (isPair F) vs (vs.map (itOf F))
  | [], _ => .nil
  | v :: r, h => .cons (by obtain ⟨x, hx⟩ := h v (.head _); rw [itOf_eq hx]; exact hx) (pairs_of_map fun w hw => h w (.tail _ hw))
/-- by stamp, then by name -/
noncomputable def itemLe (x y : Item) : Prop := x.1 < y.1 ∨ (x.1 = y.1 ∧ bytesLt x.2 y.2 = true)
noncomputable def itemDn (x y : Item) : Prop := y.1 < x.1 ∨ (x.1 = y.1 ∧ bytesLt x.2 y.2 = true)
theorem map_snd_zip {α β : Type} : ∀ (l₁ : List α) (l₂ : List β), l₂.length ≤ l₁.length → (l₁.zip l₂).map Prod.snd = l₂
  | _, [], _ => by simp
  | [], b :: r, h => by simp at h
  | a :: l, b :: r, h => by simp only [List.zip_cons_cons, List.map_cons]; rw [map_snd_zip l r (by simpa using h)]
theorem sort_out {F : PMap} {keys : Array Value} {vs : List Value} {items : List Item} (hp : Paired (isPair F) vs items) (hk : IntsAre keys.toList (items.map (·.1))) {out : Array Keyed} {n : Nat} (hn : n = (keys.zip vs.toArray).size)
    (hperm : out.Perm (keys.zip vs.toArray)) (hst : StableTo (fun p q => bytesLt (itOf F p.2).2 (itOf F q.2).2 = true) out n) :
    ∃ items', Paired (isPair F) (out.map (·.2)).toList items' ∧ items'.Perm items ∧ items'.Pairwise itemLe := by
  subst hn
  have hl : out.toList.Perm (keys.toList.zip vs) := by rw [← ksk_zip]; exact Array.perm_iff_toList_perm.mp hperm
  have hlen : keys.toList.length = vs.length := by rw [hk.length, List.length_map, hp.length]
  have hsz : (keys.zip vs.toArray).size = vs.length := by
    rw [Array.size_zip]
    have : keys.size = vs.length := by simpa using hlen
    simp [this]
  have hv2 : (out.map (·.2)).toList.Perm vs := by
    rw [Array.toList_map]
    have := hl.map Prod.snd
    rwa [map_snd_zip _ _ (by exact Nat.le_of_eq hlen.symm)] at this
  have hex : ∀ v ∈ vs, ∃ x, isPair F v x := fun v hv => by
    obtain ⟨i, hi⟩ := List.getElem?_of_mem hv
    obtain ⟨b, _, pb⟩ := paired_get' hp hi
    exact ⟨b, pb⟩
  refine ⟨_, pairs_of_map fun v hv => hex v (hv2.mem_iff.mp hv), ?_, ?_⟩
  · rw [pairs_map hp]; exact hv2.map _
  · have hkey : ∀ p ∈ out.toList, numOf p.1 = (itOf F p.2).1 := fun p hpm => by
      have h1 := hl.mem_iff.mp hpm
      obtain ⟨i, hi⟩ := List.getElem?_of_mem h1
      rw [List.getElem?_zip_eq_some] at hi
      have e1 : (keys.toList.map numOf)[i]? = some (numOf p.1) := by rw [List.getElem?_map, hi.1]; rfl
      rw [hk.nums, pairs_map hp, List.map_map, List.getElem?_map, hi.2] at e1
      injection e1 with e1
      exact e1.symm
    rw [Array.toList_map, List.map_map, List.pairwise_map, List.pairwise_iff_getElem]
    intro i j hi hj hij
    have hi' : i < out.size := by simpa using hi
    have hj' : j < out.size := by simpa using hj
    have hn : out.size = (keys.zip vs.toArray).size := hperm.size_eq
    have hle := hst.1 i j (Nat.le_of_lt hij) (by exact Nat.le_trans hj' (Nat.le_of_eq hn))
    have hT := hst.2 i j hij (by exact Nat.le_trans hj' (Nat.le_of_eq hn))
    rw [K_eq hi', K_eq hj'] at hle hT
    have k1 := hkey _ (List.getElem_mem hi)
    have k2 := hkey _ (List.getElem_mem hj)
    simp only [Array.getElem_toList] at k1 k2 ⊢
    rw [k1, k2] at hle hT
    show itemLe (itOf F out[i].2) (itOf F out[j].2)
    rcases Int.lt_or_eq_of_le hle with h | h
    · exact .inl h
    · exact .inr ⟨h, hT h _ _ (getElem?_pos out i hi') (getElem?_pos out j hj')⟩
theorem sort_in {F : PMap} {keys : Array Value} {vs : List Value} {items : List Item} (hp : Paired (isPair F) vs items) (hk : IntsAre keys.toList (items.map (·.1))) (hord : items.Pairwise itemDn) :
    NonInc (keys.zip vs.toArray) (keys.zip vs.toArray).size ∧ ∀ i j, i < j → j < (keys.zip vs.toArray).size → K (keys.zip vs.toArray) i = K (keys.zip vs.toArray) j → TT (fun p q => bytesLt (itOf F p.2).2 (itOf F q.2).2 = true) (keys.zip vs.toArray) i j := by
  have hlen : keys.toList.length = vs.length := by rw [hk.length, List.length_map, hp.length]
  have hks : keys.size = vs.length := by simpa using hlen
  have hsz : (keys.zip vs.toArray).size = vs.length := by rw [Array.size_zip]; simp [hks]
  have hil := hp.length
  have hat : ∀ i (h : i < (keys.zip vs.toArray).size), numOf (keys.zip vs.toArray)[i].1 = (items[i]'(by omega)).1 ∧ itOf F (keys.zip vs.toArray)[i].2 = items[i]'(by omega) := fun i h => by
    have h1 : i < keys.size := by exact far 1 [_, _, _, _] [.add (.var 0) (.num 1), .var 1, .var 2, .var 1, .var 3, .var 2, .add (.var 0) (.num 1), .var 3] rfl (Nat.le_of_eq hks.symm) (Nat.le_of_eq hsz) h
    have h2 : i < vs.length := by exact Nat.le_trans h1 (Nat.le_of_eq hks)
    rw [Array.getElem_zip]
    refine ⟨?_, ?_⟩
    · have e : (keys.toList.map numOf)[i]? = some (numOf keys[i]) := by rw [List.getElem?_map, Array.getElem?_toList, getElem?_pos keys i h1]; rfl
      rw [hk.nums, List.getElem?_map, List.getElem?_eq_getElem (by exact Nat.le_trans h2 (Nat.le_of_eq hil))] at e
      injection e with e
      exact e.symm
    · have e := pairs_map hp
      show itOf F (vs.toArray[i]) = _
      have : items[i]? = (vs.map (itOf F))[i]? := by rw [← e]
      rw [List.getElem?_eq_getElem (by exact Nat.le_trans h2 (Nat.le_of_eq hil)), List.getElem?_map, List.getElem?_eq_getElem h2] at this
      injection this with this
      rw [this]; simp
  have hpw := List.pairwise_iff_getElem.mp hord
  refine ⟨fun i j hij hj => ?_, fun i j hij hj hK p q hp' hq' => ?_⟩
  · rw [K_eq hj, K_eq (Nat.lt_of_le_of_lt hij hj), (hat i (Nat.lt_of_le_of_lt hij hj)).1, (hat j hj).1]
    rcases Nat.lt_or_eq_of_le hij with h | h
    · rcases hpw i j (by exact far 1 [_, _, _, _, _] [.add (.var 0) (.num 1), .var 1, .var 2, .var 3, .var 3, .var 1, .var 0, .var 4, .add (.var 4) (.num 1), .var 2] rfl (Nat.le_of_eq hsz) (Nat.le_of_eq hil) hij hj) (by exact far 1 [_, _, _, _] [.add (.var 0) (.num 1), .var 1, .var 2, .var 3, .var 3, .var 1, .add (.var 0) (.num 1), .var 2] rfl (Nat.le_of_eq hsz) (Nat.le_of_eq hil) hj) h with h | ⟨h, _⟩
      · exact Int.le_of_lt h
      · exact Int.le_of_eq h.symm
    · subst h; exact Int.le_refl _
  · have hi := Nat.lt_trans hij hj
    rw [K_eq hj, K_eq hi, (hat i hi).1, (hat j hj).1] at hK
    rw [getElem?_pos _ i hi] at hp'
    rw [getElem?_pos _ j hj] at hq'
    cases hp'; cases hq'
    show bytesLt (itOf F (keys.zip vs.toArray)[i].2).2 (itOf F (keys.zip vs.toArray)[j].2).2 = true
    rw [(hat i hi).2, (hat j hj).2]
    rcases hpw i j (by exact far 1 [_, _, _, _] [.add (.var 0) (.num 1), .var 1, .var 2, .var 3, .var 3, .var 1, .add (.var 0) (.num 1), .var 2] rfl (Nat.le_of_eq hsz) (Nat.le_of_eq hil) hi) (by exact far 1 [_, _, _, _] [.add (.var 0) (.num 1), .var 1, .var 2, .var 3, .var 3, .var 1, .add (.var 0) (.num 1), .var 2] rfl (Nat.le_of_eq hsz) (Nat.le_of_eq hil) hj) hij with h | ⟨_, h⟩
    · omega
    · exact h
section
variable {g : Glo} {k : Fun} {A : Around} {E : Value → Shared → Prop} {F : PMap} {X Y : XS} {G : GS} {env : Env} {s : Shared}
theorem set_snoc {Y : XS} {i : Nat} {q p : Addr × Res} (h : i < Y.length) : (Y ++ [p]).set i q = Y.set i q ++ [p] := by rw [List.set_append_left _ _ h]
theorem get_snoc {Y : XS} {i : Nat} {p : Addr × Res} (h : i < Y.length) : (Y ++ [p])[i]? = Y[i]? := List.getElem?_append_left h
theorem W_listSort {a q : Addr} {i : Nat} {vs : List Value} {items : List Item} {Φ : Cont Value} (hx : X[i]? = some (a, .li vs)) (hi0 : 0 < i) (hp : Paired (isPair F) vs items) (h64 : vs.length < 64) (hord : items.Pairwise itemDn)
    (turn : ∀ (x : Value) (it : Item) F' X' G', PLe F F' → isPair F' x it → X'[0]? = X[0]? → W g k A.in1 (call (.ref q) [x]) (fun v F'' X'' _ => isInt v it.1 ∧ X'' = X' ∧ PLe F' F'') (fun _ _ => False) F' X' G')
    (h : ∀ F' vs' items' G', PLe F F' → Paired (isPair F') vs' items' → items'.Perm items → items'.Pairwise itemLe → Φ .none F' (X.set i (a, .li vs')) G') :
    W g k A (call (.builtin "list.sort") [.ref a] [(Str.ofString "key", .ref q)]) Φ E F X G := ⟨fun s hs => by
  obtain ⟨o, ho, r⟩ := hs.at hx
  obtain ⟨n, rfl⟩ := r.lst
  have ho : s.heap.get? a = some (seqObj "list" vs.toArray n) := ho
  have hil : i < X.length := (List.getElem?_eq_some_iff.mp hx).1
  have hkl := hp.length
  refine wpAny_call_entry_kw PyProof.Rows.slot_list_sort ⟨_, ho, rfl⟩ PyProof.Rows.entry_list_sort ?_ (ksk_l1 _ _)
  rw [ksk_t1]
  unfold ksk_tree
  refine wpAny_bind (listItems_at ho rfl ?_)
  refine wpAny_bind (listUpdate_at ho rfl ?_ (by rw [List.size_toArray, sizeLine_eq]; exact far 1 [_] [.var 0, .num 16777216, .add (.var 0) (.num 1), .num 64] rfl h64) (Nat.zero_le _))
  obtain ⟨e1, ho1⟩ : ∃ e1, (s.heap.update a (Obj.mapSeq fun _ => (#[] : Array Value))).get? a = some (seqObj "list" #[] e1) := ⟨_, get?_update_seq ho fun _ => #[]⟩
  have st1 := hs.set (r' := .ob (seqObj "list" #[] e1)) hx s.toks (h' := s.heap.update a (Obj.mapSeq fun _ => (#[] : Array Value))) (fun b o hb e => ((Heap.SameBut.update ..).2 b hb).trans e) ho1
  have main : ∀ kS s3, St g k F (X.set i (a, .ob (seqObj "list" #[] e1)) ++ [(kS, .ob (seqObj "list" #[] 0))]) G s3 →
      wpAny (model g.prog g.w) A.in1 (ksk_rest a (.ref q) false vs.toArray e1 (.ref kS)) (fun fin s' => ∃ v, fin = .done (.ret v) ∧ ∃ F' X' G', St g k F' X' G' s' ∧ Φ v F' X' G') E s3 := by
    intro kS s3 st3
    unfold ksk_rest
    refine wpAny_bind (wpAny_rule ?_)
    first
      | rw [List.forIn_toArray]
      | (rw [← Array.forIn_toList]; simp only [List.toList_toArray])
      | rw [← Array.forIn_toList]
    have hX0 : ∀ r, (X.set i (a, .ob (seqObj "list" #[] e1)) ++ [(kS, r)])[0]? = X[0]? := fun r => by
      rw [get_snoc (by rw [List.length_set]; exact far 1 [_, _] [.add (.num 0) (.num 1), .var 0, .add (.var 1) (.num 1), .var 0] rfl hil), List.getElem?_set_ne (by exact Nat.ne_of_gt hi0)]
    refine wpAny_bind (ksk_fold (fun j s' => ∃ F' G' kA e, St g k F' (X.set i (a, .ob (seqObj "list" #[] e1)) ++ [(kS, .ob (seqObj "list" kA e))]) G' s' ∧ PLe F F' ∧ IntsAre kA.toList ((items.map (·.1)).take j)) vs 0 s3
      ⟨F, G, #[], 0, st3, .rfl, by simpa using IntsAre.nil⟩ ?step ?done)
    case step =>
      rintro j x s' hx' ⟨F', G', kA, e, st, le, hk⟩
      simp only [Nat.zero_add] at hk ⊢
      have hj : j < vs.length := (List.getElem?_eq_some_iff.mp hx').1
      obtain ⟨it, hit, hxi⟩ := paired_get' hp hx'
      have hz : kA.size ≤ vs.length := by
        have h1 := hk.length
        rw [Array.length_toList, List.length_take] at h1
        omega
      refine wpAny_bind (wpAny_attempt (wpAny_mono ((turn x it F' _ G' le (hxi.mono le) (hX0 _)).run _ st) (fun v s'' he => ?_) fun _ _ hF => hF.elim))
      obtain ⟨F2, X2, G2, st2, ⟨t2, rfl⟩, rfl, le2⟩ := he
      try dsimp only
      have hkS := ob_there st2 last_get
      obtain ⟨c2, hc2⟩ : ∃ c2, (s''.heap.update kS (Obj.mapSeq (·.push (.int it.1 t2)))).get? kS = some (seqObj "list" (kA.push (.int it.1 t2)) c2) := ⟨_, get?_update_seq hkS (·.push (.int it.1 t2))⟩
      have st3 := st2.set (r' := .ob (seqObj "list" (kA.push (.int it.1 t2)) c2)) last_get s''.toks (h' := s''.heap.update kS (Obj.mapSeq (·.push (.int it.1 t2)))) (fun b o hb e => ((Heap.SameBut.update ..).2 b hb).trans e) hc2
      rw [last_set] at st3
      refine wpAny_bind (listUpdate_at hkS rfl ?_ (by rw [sizeLine_eq]; exact far 1 [_, _] [.var 0, .num 16777216, .add (.var 1) (.num 1), .num 64, .var 0, .var 1] rfl h64 hz) (Nat.le_trans (Nat.le_of_eq (Array.size_push ..)) (by rw [sizeLine_eq]; exact far 1 [_, _] [.add (.var 0) (.num 1), .add (.num 16777216) (.num 1), .add (.var 1) (.num 1), .num 64, .var 0, .var 1] rfl h64 hz)))
      refine wpAny_pure ⟨rfl, F2, G2, _, c2, st3, le.trans le2, ?_⟩
      have ek : (items.map (·.1)).take (j + 1) = (items.map (·.1)).take j ++ [it.1] := by rw [List.take_add_one, List.getElem?_map, hit]; rfl
      have ea : (kA.push (Value.int it.1 t2)).toList = kA.toList ++ [Value.int it.1 t2] := by simp
      rw [ea, ek]; exact ksk_snoc hk
    case done =>
      rintro s' ⟨F', G', kA, e, st, le, hk⟩
      have hk' : IntsAre kA.toList (items.map (·.1)) := by
        rwa [List.take_of_length_le (by rw [List.length_map]; exact far 1 [_, _] [.var 0, .add (.num 0) (.var 1), .var 0, .var 1] rfl (Nat.le_of_eq hkl.symm))] at hk
      have hp' : Paired (isPair F') vs items := paired_mono hp fun _ _ r => r.mono le
      have hkS := ob_there st last_get
      try dsimp only
      refine wpAny_bind (listItems_at hkS rfl ?_)
      have hsz : kA.size = vs.length := by
        have h1 := hk'.length
        rw [Array.length_toList, List.length_map] at h1
        exact Nat.le_antisymm (Nat.le_trans (Nat.le_of_eq h1) (Nat.le_of_eq hkl.symm)) (Nat.le_trans (Nat.le_of_eq hkl) (Nat.le_of_eq h1.symm))
      have hzs : (kA.zip vs.toArray).size = vs.length := by rw [Array.size_zip, hsz, List.size_toArray, Nat.min_self]
      obtain ⟨hni, hT⟩ := sort_in hp' hk' hord
      have tail : ∀ st' : SortSt, (arrOf st').Perm (kA.zip vs.toArray) → failedOf st' = none → StableTo (fun p q => bytesLt (itOf F' p.2).2 (itOf F' q.2).2 = true) (arrOf st') (kA.zip vs.toArray).size →
          wpAny (model g.prog g.w) A.in1 (ksk_tail a false e1 (.ref kS) st') (fun fin s' => ∃ v, fin = .done (.ret v) ∧ ∃ F' X' G', St g k F' X' G' s' ∧ Φ v F' X' G') E s' := fun st' hperm hfl hst => by
        obtain ⟨items', hpo, hpm, hpw⟩ := sort_out hp' hk' rfl hperm hst
        have hosz : ((arrOf st').map (·.2)).size = vs.length := by rw [Array.size_map, hperm.size_eq, hzs]
        unfold ksk_tail
        try dsimp only
        generalize (arrOf st').map (·.2) = out at hpo hosz ⊢
        generalize hh1 : s'.heap.update kS (Obj.mapSeq fun _ => (#[] : Array Value)) = h1
        have sb1 : Heap.SameBut kS s'.heap h1 := hh1 ▸ Heap.SameBut.update ..
        obtain ⟨e5, he5⟩ : ∃ e5, h1.get? kS = some (seqObj "list" #[] e5) := ⟨_, hh1 ▸ get?_update_seq hkS fun _ => #[]⟩
        have st1 := st.set (r' := .ob (seqObj "list" #[] e5)) last_get s'.toks (h' := h1) (fun b o hb e => (sb1.2 b hb).trans e) he5
        rw [last_set] at st1
        have hia : (X.set i (a, Res.ob (seqObj "list" #[] e1)) ++ [(kS, Res.ob (seqObj "list" #[] e5))])[i]? = some (a, .ob (seqObj "list" #[] e1)) := by
          rw [get_snoc (by rw [List.length_set]; exact hil), List.getElem?_set_self hil]
        have na1 := ob_there st1 hia
        have na1 : h1.get? a = some (seqObj "list" #[] e1) := na1
        generalize hh2 : h1.update a (Obj.mapSeq fun _ => out) = h2
        have sb2 : Heap.SameBut a h1 h2 := hh2 ▸ Heap.SameBut.update ..
        obtain ⟨c2, hc2⟩ : ∃ c2, h2.get? a = some (seqObj "list" out c2) := ⟨_, hh2 ▸ get?_update_seq na1 fun _ => out⟩
        have st2 := st1.set (r' := .li out.toList) hia s'.toks (h' := h2) (fun b o hb e => (sb2.2 b hb).trans e) ⟨_, hc2, rfl, rfl, rfl, c2, by simp⟩
        rw [set_snoc (by rw [List.length_set]; exact hil), List.set_set] at st2
        refine wpAny_bind (listUpdate_at hkS rfl ?_ (by rw [hsz, sizeLine_eq]; exact far 1 [_] [.var 0, .num 16777216, .add (.var 0) (.num 1), .num 64] rfl h64) (Nat.zero_le _))
        refine wpAny_bind (wpAny_letGo ?_)
        rw [hh1]
        refine wpAny_bind (seqEpoch_at na1 rfl ?_)
        refine wpAny_bind (listUpdate_at na1 rfl ?_ (Nat.zero_le _) (Nat.le_trans (Nat.le_of_eq hosz) (by rw [sizeLine_eq]; exact far 1 [_] [.var 0, .add (.num 16777216) (.num 1), .add (.var 0) (.num 1), .num 64] rfl h64)))
        rw [hfl]
        simp only [bne_self_eq_false, Bool.false_eq_true, if_false]
        rw [hh2]
        exact wpAny_pure ⟨_, rfl, (st2.drop (List.sublist_append_left _ _)).done (h _ _ _ _ le hpo hpm hpw)⟩
      unfold ksk_end
      try dsimp only
      simp only [Bool.false_eq_true, if_false]
      by_cases h2 : vs.toArray.size < 2
      · rw [if_pos h2, if_pos h2]
        refine wpAny_bind (wpAny_pure ?_)
        rw [StateT.run_pure]
        refine wpAny_bind (wpAny_pure ?_)
        try dsimp only
        refine tail _ (Array.Perm.refl _) rfl ⟨fun i j hij hj => ?_, fun i j hij hj => ?_⟩
        · rw [List.size_toArray] at h2
          have : i = j := by exact Nat.le_antisymm hij (far 1 [_, _, _, _] [.var 0, .var 1, .var 2, .var 3, .add (.var 3) (.num 1), .num 2, .add (.var 0) (.num 1), .var 2] rfl (Nat.le_of_eq hzs) h2 hj)
          subst this
          exact Int.le_refl _
        · rw [List.size_toArray] at h2
          omega
      · rw [if_neg h2, if_neg h2]
        rw [List.size_toArray] at h2
        rw [ksk_kind hk' (by rw [hsz]; exact Nat.le_of_not_lt h2)]
        refine wpAny_bind (wpAny_pure ?_)
        refine wpAny_bind (wpAny_mono (wpS_sortRunsD (a₀ := kA.zip vs.toArray) (st := SortSt.mk' oneType' (kA.zip vs.toArray) #[] 7 none)
          (Q := fun _ st' => (arrOf st').Perm (kA.zip vs.toArray) ∧ failedOf st' = none ∧ StableTo (fun p q => bytesLt (itOf F' p.2).2 (itOf F' q.2).2 = true) (arrOf st') (kA.zip vs.toArray).size)
          (ksk_intKeys hk') hT hni ⟨Array.Perm.refl _, rfl, rfl, rfl⟩ rfl (by rw [hzs]; exact Nat.le_of_not_lt h2) (by rw [hzs]; exact h64) fun st' a1 a2 a3 => ⟨a1, a2, a3⟩) ?_ fun _ _ e => e)
        rintro ⟨⟨⟩, st'⟩ s'' ⟨rfl, hpp, hf, hss⟩
        try dsimp only
        exact tail st' hpp hf hss
  refine wpAny_bind (seqEpoch_at ho1 rfl ?_)
  refine wpAny_bind (wpAny_newTuple ?_ (by show vs.length ≤ _; rw [sizeLine_eq]; exact far 1 [_] [.var 0, .num 16777216, .add (.var 0) (.num 1), .num 64] rfl h64))
  have st2 := st1.grow (h' := Heap.push _ { cls := .type "tuple", data := .seq vs.toArray.toList.toArray }) (fun b o e => Heap.get?_push_of_some _ e) s.toks
  refine wpAny_bind (wpAny_newList ?_ (Nat.zero_le _))
  have st3 := st2.ownL (r := .ob (seqObj "list" #[] 0)) (h' := Heap.push _ { cls := .type "list", data := .seq ([] : List Value).toArray }) (fun b o e => Heap.get?_push_of_some _ e) s.toks (size_none _) (Heap.get?_push_size _ rfl)
  refine wpAny_holding ?_
  exact main _ _ st3⟩
end
end
section
theorem pairEqAt {g : Glo} {A : Around} {s : Shared} {F : PMap} {y x : Value} {a b : Item} (hu : A.units < cLine) (hF : PLe F s.heap.get?) (hy : isPair F y a) (hx : isPair F x b) : SeqAt.EqAt A s y x (decide (a = b)) := by
  have hy0 := hy
  have hx0 := hx
  obtain ⟨p, n, t, u, rfl, f⟩ := hy
  obtain ⟨q, n2, t2, u2, rfl, f2⟩ := hx
  by_cases hpq : p = q
  · subst hpq
    have := hy0.fn hx0
    rw [decide_eq_true this]
    exact SeqAt.EqAt.same _
  · have hl : s.heap.IsTuple p #[.int a.1 t, .bytes a.2.toArray u] := ⟨_, hF _ _ f, rfl, n, rfl⟩
    have hb : s.heap.IsTuple q #[.int b.1 t2, .bytes b.2.toArray u2] := ⟨_, hF _ _ f2, rfl, n2, rfl⟩
    have h := SeqAt.EqAt.of_refs hpq (SeqAt.RcAt.tuples (e := fun j => if j = 0 then decide (a.1 = b.1) else decide (a.2 = b.2)) hl hb hu fun j h1 h2 => ?_)
    · have e : ((List.range (min (#[Value.int a.1 t, .bytes a.2.toArray u] : Array Value).size (#[Value.int b.1 t2, .bytes b.2.toArray u2] : Array Value).size)).all (fun j => if j = 0 then decide (a.1 = b.1) else decide (a.2 = b.2)) && (#[Value.int a.1 t, .bytes a.2.toArray u] : Array Value).size == (#[Value.int b.1 t2, .bytes b.2.toArray u2] : Array Value).size) = decide (a = b) := by
        show (([0, 1] : List Nat).all (fun j => if j = 0 then decide (a.1 = b.1) else decide (a.2 = b.2)) && true) = _
        rw [Bool.eq_iff_iff]
        simp [Prod.ext_iff]
      rw [e] at h
      exact h
    · match j, h1, h2 with
      | 0, _, _ => exact (eqBy_int.eq _ _ _ _ ⟨t, rfl⟩ ⟨t2, rfl⟩).at _ _
      | 1, _, _ => exact (eqBy_by.eq _ _ _ _ ⟨u, rfl⟩ ⟨u2, rfl⟩).at _ _
noncomputable def keyLam (w : World) : Arguments × Expr × Scope := match st90 w 14 with
  | .Expr (.Call _ _ [⟨_, .Lambda p b s _, _⟩] _) _ => (p, b, s)
  | _ => default
section
variable {g : Glo} {k : Fun} {l : List Env} {A : Around} {E : Value → Shared → Prop} {F : PMap} {X Y : XS} {G : GS} {env : Env} {s : Shared} {mg mb : Str → Option Value} {L0 : Addr} {α : Type}
theorem W_notInPairs {x v : Value} {b : Item} {vs : List Value} {items : List Item} {Φ : Cont Value} (hu : A.units + 1 < cLine) (hx : isPair F x b) (hv : LView F X v vs) (p : Paired (isPair F) vs items) (h : Φ (.bool (!decide (b ∈ items))) F X G) :
    W g k A (compareOp .NotIn x v) Φ E F X G := ⟨fun s hs => by
  obtain ⟨a, o, rfl, ho, r⟩ := hs.list hv
  refine SeqAt.notIn_listAt (fun y => decide (itOf F y = b)) (r.isList ho) (fun y hy => ?_) (hs.done ?_)
  · obtain ⟨i, hi⟩ := List.getElem?_of_mem (by simpa using hy : y ∈ vs)
    obtain ⟨c, _, pc⟩ := paired_get' p hi
    rw [itOf_eq pc]
    exact pairEqAt (g := g) hu hs.fro pc hx
  · have e : (vs.toArray.any fun y => decide (itOf F y = b)) = decide (b ∈ items) := by
      rw [pairs_map p, Bool.eq_iff_iff]
      simp
    rw [e]; exact h⟩
theorem W_itemTup {value slice : Expr} {v x y : Value} {t : Tok} {Φ : Cont Value} (hv : FTup F v [x, y]) (h : Φ x F X G)
    (hs : ∀ a, subscripted slice false (.ref a) (.int 0 t) = operate [.ref a, .int 0 t] (getItem (.ref a) (.int 0 t)) := by intro _; kernel_rfl) : W g k A (subscriptTail value slice v (.int 0 t)) Φ E F X G := ⟨fun s st => by
  obtain ⟨a, n, rfl, f⟩ := hv
  exact item_tupleT (j := 0) ⟨_, st.fro _ _ f, rfl, n, rfl⟩ (by decide) (by decide) (by rfl) (by rfl) (st.done h) (hs a)⟩
set_option maxHeartbeats 4000000
theorem calls_key (T : Top0 g (KK g.w) mg mb) {n : Nat} (hr : Room A n) {f : Addr} {q : Str} {nm cd ct xv : Value} {it : Item}
    (ho : F f = some { cls := .type "function", data := .func (kla_fn "<lambda>" q (keyLam g.w).1 (keyLam g.w).2.1 (keyLam g.w).2.2 [] nm cd ct) }) (hcd : CodeAtF F cd q) (hx : isPair F xv it) :
    CallsR g A (.call (.ref f) ⟨[xv], []⟩) F (fun r _ => isInt r it.1) (fun _ => False) := by
  obtain ⟨t, u, htv⟩ := hx.tup
  refine calls_lam (binds := [(Str.ofString "x", xv)]) T hr ho rfl hcd (body := (keyLam g.w).2.1) (by kernel_rfl) (by kernel_rfl) (fun x hx => ?_) (fun x hx => ?_) (fun L l k G H => ?_) (by kernel_rfl) (by kernel_rfl) (by kernel_rfl)
  · rw [List.mem_singleton.mp hx]; kernel_rfl
  · have : ((keyLam g.w).2.2.names.all fun x => decide (x.2 ≠ .cell)) = true := by kernel_rfl
    have := List.all_eq_true.mp this x hx
    simpa using this
  · refine W_Sub ?_
    have hm : (fun x => ([(Str.ofString "x", xv)] : List (Str × Value)).reverse.lookup x) (Str.ofString "x") = some xv := by rfl
    walk_at "ws"
    refine W_itemTup htv ?_
    exact ⟨.rfl, _, rfl⟩
end
end
section
/-! keywords -/
section
variable {g : Glo} {k : Fun} {l : List Env} {A : Around} {E : Value → Shared → Prop} {F : PMap} {X Y : XS} {G : GS} {env : Env} {s : Shared} {mg mb : Str → Option Value} {L0 : Addr} {α : Type}
theorem W_kws_nil {pos : Pos} {Φ : Cont (List Value)} (h : Φ [] F X G) : W g k A (evalAll ((backToKw pos (keywordEach [] env)).map (·.2))) Φ E F X G := ⟨fun s hs => kws_nil (hs.done h)⟩
theorem W_kws_cons {name : Str} {value : Expr} {kp : Pos} {rest : List Keyword} {pos : Pos} {Φ : Cont (List Value)}
    (h : W g k A (eval value env) (fun v => W g k A (evalAll ((backToKw pos (keywordEach rest env)).map (·.2))) (fun vs => Φ (v :: vs)) E) E F X G) :
    W g k A (evalAll ((backToKw pos (keywordEach (⟨some name, value, kp⟩ :: rest) env)).map (·.2))) Φ E F X G := ⟨fun s hs => kws_cons (h.then hs fun _ _ _ _ _ st hw => hw.then st fun _ _ _ _ _ st hw => st.done hw)⟩
theorem W_callKW {f : Value} {pos : Pos} {e : Expr} {rest : List Expr} {kws : List Keyword} {first : List Value} {Φ : Cont Value}
    (h : W g k A (spliced (backTo pos (starEach (e :: rest) env))) (fun vs => W g k A (evalAll ((backToKw pos (keywordEach kws env)).map (·.2))) (fun ks F X G => Keeps g f F ∧ W g k A (call f (first ++ vs) (((backToKw pos (keywordEach kws env)).filterMap (·.1)).zip ks)) Φ E F X G) E) E F X G)
    (hplain : ((backTo pos (starEach (e :: rest) env)).any (·.1) || (backToKw pos (keywordEach kws env)).any (·.1.isNone)) = false := by kernel_rfl) (hall : (backToKw pos (keywordEach kws env)).all (·.1.isSome) = true := by kernel_rfl)
    (he : starEach (e :: rest) env = (false, eval e env) :: starEach rest env := by kernel_rfl) : W g k A (callWith pos f first (backTo pos (starEach (e :: rest) env)) (backToKw pos (keywordEach kws env))) Φ E F X G := ⟨fun s hs =>
  callWith_of (P := fun h => ∃ k, (k = Keeper.frame ∨ k = Keeper.machine ∨ k = Keeper.boundFrame) ∧ Looks (model g.prog g.w) h (keeperOf f) k) hplain (fun _ x => x)
    (evalArgs_kw2 hall (h.then hs fun _ _ _ _ _ st hw => hw.then st fun _ _ _ _ _ st hw => ⟨hw.1 _ st.fro, hw.2.run _ st⟩) he)⟩
theorem W_callKW0 {f : Value} {pos : Pos} {kws : List Keyword} {first : List Value} {Φ : Cont Value}
    (h : W g k A (evalAll ((backToKw pos (keywordEach kws env)).map (·.2))) (fun ks F X G => Keeps g f F ∧ W g k A (call f (first ++ []) (((backToKw pos (keywordEach kws env)).filterMap (·.1)).zip ks)) Φ E F X G) E F X G)
    (hplain : ((backTo pos (starEach [] env)).any (·.1) || (backToKw pos (keywordEach kws env)).any (·.1.isNone)) = false := by kernel_rfl) (hall : (backToKw pos (keywordEach kws env)).all (·.1.isSome) = true := by kernel_rfl) :
    W g k A (callWith pos f first (backTo pos (starEach [] env)) (backToKw pos (keywordEach kws env))) Φ E F X G := ⟨fun s hs =>
  callWith_of (P := fun h => ∃ k, (k = Keeper.frame ∨ k = Keeper.machine ∨ k = Keeper.boundFrame) ∧ Looks (model g.prog g.w) h (keeperOf f) k) hplain (fun _ x => x)
    (evalArgs_kw2_nil hall (h.then hs fun _ _ _ _ _ st hw => ⟨hw.1 _ st.fro, hw.2.run _ st⟩))⟩
theorem W_CallNameKW {x : Str} {p pos : Pos} {args : List Expr} {kws : List Keyword} {Φ : Cont Value}
    (h : W g k A (eval (.Name x p) env) (fun f => W g k A (callWith pos f [] (backTo pos (starEach args env)) (backToKw pos (keywordEach kws env))) Φ E) E F X G) : W g k A (eval (.Call (.Name x p) args kws pos) env) Φ E F X G := ⟨fun s hs => wpAny_Call_Name_kw (h.then hs fun _ _ _ _ _ st hw => hw.run _ st)⟩
theorem W_CallMethKW {o : Expr} {name : Str} {apos pos : Pos} {args : List Expr} {kws : List Keyword} {T id : String} {Φ : Cont Value} (pa : PlainAttrs T) (slot : Slot T name id) (hty : typeOf (.builtin id) = pure (.type "method_descriptor"))
    (h : W g k A (eval o env) (fun ov F X G => (∀ s, St g k F X G s → s.TypeIs ov T ∧ (∀ a, ov = .ref a → ∃ ob, s.heap.get? a = some ob ∧ ob.dict = none)) ∧
      W g k A (callWith pos (.builtin id) [ov] (backTo pos (starEach args env)) (backToKw pos (keywordEach kws env))) Φ E F X G) E F X G)
    (hbase : attributeBase o name env (eval o env) = eval o env := by kernel_rfl)
    (hform : methodCallForm (args.length + kws.length) (backTo pos (starEach args env)) (backToKw pos (keywordEach kws env)) = true := by kernel_rfl)
    (hline : (apos.endLine == pos.line) = true := by kernel_rfl) :
    W g k A (eval (.Call (.Attribute o name apos) args kws pos) env) Φ E F X G := ⟨fun s hs => by
  rw [arm_eval_Call, hbase]
  refine wpAny_bind (h.then hs fun ov F X G s st hw => wpAny_bind (wpAny_standAt ?_))
  have hpos : methodCallPos true o env apos pos = pure pos := by unfold methodCallPos; simp [hline]
  unfold methodCall
  rw [hform]
  refine wpAny_bind (wpAny_holding (getMethod_builtin (hw.1 s st).1 pa slot hty (hw.1 s st).2 ?_))
  exact wpAny_bind (wpAny_of_eq hpos (hw.2.run _ st))⟩
theorem W_CallSort {o : Expr} {apos pos : Pos} {kws : List Keyword} {Φ : Cont Value}
    (h : W g k A (eval o env) (fun ov F X G => (∃ vs, LView F X ov vs) ∧ W g k A (callWith pos (.builtin "list.sort") [ov] (backTo pos (starEach [] env)) (backToKw pos (keywordEach kws env))) Φ E F X G) E F X G)
    (hbase : attributeBase o (Str.ofString "sort") env (eval o env) = eval o env := by kernel_rfl)
    (hform : methodCallForm (([] : List Expr).length + kws.length) (backTo pos (starEach [] env)) (backToKw pos (keywordEach kws env)) = true := by kernel_rfl)
    (hline : (apos.endLine == pos.line) = true := by kernel_rfl) :
    W g k A (eval (.Call (.Attribute o (Str.ofString "sort") apos) [] kws pos) env) Φ E F X G :=
  W_CallMethKW PySem.F.plainAttrs_list PySem.F.slot_list_sort PySem.F.type_list_sort (h.mono fun ov F X G ⟨⟨vs, hv⟩, hw⟩ => ⟨hv.typ, hw⟩) hbase hform hline
end
/-! the end of _find_lcas -/
structure GOk (g : Glo) : Prop where
  t90 : (89, 87) ∈ g.tabs
  t126 : (125, 123) ∈ g.tabs
  q1 : g.qa 87 30 4 = Str.ofString "_find_lcas.<locals>._has_candidates"
  q2 : g.qa 87 89 21 = Str.ofString "_find_lcas.<locals>.<lambda>"
  q3 : ∀ l c, g.qa 123 l c = Str.ofString "law.<locals>.<lambda>"
noncomputable def resultsOf (cs : Name → Option Nat) (cands : List Item) : List Item := cands.foldl (fun acc x => if liveItem cs x && !decide (x ∈ acc) then acc ++ [x] else acc) []
theorem resultsOf_snoc (cs : Name → Option Nat) (cands : List Item) (x : Item) : resultsOf cs (cands ++ [x]) = if liveItem cs x && !decide (x ∈ resultsOf cs cands) then resultsOf cs cands ++ [x] else resultsOf cs cands := by
  unfold resultsOf
  rw [List.foldl_append]
  rfl
theorem results_len (cs : Name → Option Nat) : ∀ (cands acc : List Item), (cands.foldl (fun acc x => if liveItem cs x && !decide (x ∈ acc) then acc ++ [x] else acc) acc).length ≤ acc.length + cands.length
  | [], acc => Nat.le_refl _
  | x :: r, acc => by
    rw [List.foldl_cons]
    refine Nat.le_trans (results_len cs r _) ?_
    split <;> simp <;> exact far 1 [_, _] [.add (.add (.var 0) (.num 1)) (.var 1), .add (.var 0) (.add (.var 1) (.num 1))] rfl
theorem resultsOf_len (cs : Name → Option Nat) (cands : List Item) : (resultsOf cs cands).length ≤ cands.length := by
  have := results_len cs cands []
  rw [List.length_nil, Nat.zero_add] at this
  exact this
end
section
noncomputable def end90 (w : World) : List Stmt := (bodyAt w 90).drop 12
section
variable {g : Glo} {k : Fun} {l : List Env} {A : Around} {E : Value → Shared → Prop} {F : PMap} {X Y : XS} {G : GS} {env : Env} {s : Shared} {mg mb : Str → Option Value} {L0 : Addr} {α : Type}
theorem Here.in1 (H : Here k l A L0) : Here k l A.in1 L0 := ⟨H.frames, H.fr, H.own⟩
theorem take_snoc {α : Type} {l : List α} {i : Nat} {x : α} (h : l[i]? = some x) : l.take (i + 1) = l.take i ++ [x] := by rw [List.take_add_one, h]; rfl
set_option maxHeartbeats 4000000
theorem W_lcasEnd {v : V90} {D : LD} {L : Addr} {m : Str → Option Value} {cvs : List Value} {kvs : KV} {ps : PQ} {S : LS} {Φ : Cont Flow} (T : Top0 g (KK g.w) mg mb) (GO : GOk g) (hF : PLe g.base.get? F) (hh : A.handled = none) (hroom : Room A 8) (H : Here k (E90 g.w L :: l) A L)
    (hm : Fr90 v D m) (hz : Fz g v D L F) (hS : Sim F kvs ps cvs S) (hcnt : S.cnt ≤ 40000) (hcf : ∀ x ∈ S.cands, S.cs x.2 ≠ none) (hord : (resultsOf S.cs S.cands).Pairwise itemDn) (h64 : (resultsOf S.cs S.cands).length < 64)
    (h : ∀ F' X' G' rv (items' : List Item), PLe F F' → items'.Perm (resultsOf S.cs S.cands) → items'.Pairwise itemLe → BL F' rv (items'.map (·.2)) → Φ (.ret rv) F' X' G') :
    W g k A (execs (end90 g.w) (E90 g.w L)) Φ E F (X90 v L m cvs kvs ps []) G := by
  have hn3 := hS.n3
  have hcl := hS.ca.length
  walk_at "w"
  walk_at "w"
  refine W_ListO ?_
  walk_at "w"
  refine ⟨by show 0 ≤ 16777216; exact Nat.zero_le _, fun ra => ?_⟩
  walk_at "w"
  walk_at "x"
  have hm1 := hm.upd (x := Str.ofString "results") (u := .ref ra) (by kernel_rfl)
  have hr1 : upd m (Str.ofString "results") (.ref ra) (Str.ofString "results") = some (.ref ra) := upd_self
  generalize upd m (Str.ofString "results") (.ref ra) = m1 at hm1 hr1 ⊢
  walk_at "w"
  refine W_freezeLi (i := 1) rfl fun F1 le1 hca => ?_
  walk_at "x"
  have hcand := hm1.ca
  refine W_For ?_
  walk_at "ws"
  refine W_iterL hh hca fun I r hI => ?_
  refine ⟨I, r, _, _, _, fun i F' Y' G' => ∃ m' rvs, Y' = [(L, .ns m'), (v.d, .di kvs), (v.q, .li (pqVals ps)), (ra, .li rvs)] ∧ Fr90 v D m' ∧ m' (Str.ofString "results") = some (.ref ra) ∧ Paired (isPair F') rvs (resultsOf S.cs (S.cands.take i)), rfl, rfl, hI, ⟨m1, [], rfl, hm1, hr1, .nil⟩, ?_, ?_⟩
  · rintro i x F2 Y2 G2 E2 hi hx le2 ⟨m2, rvs, rfl, hm2, hr2, hp2⟩
    have le12 := le1.trans le2
    obtain ⟨it, hit, hxi⟩ := paired_get' hS.ca hx
    have hxi := hxi.mono le12
    have htake := take_snoc hit
    obtain ⟨t, u, htv⟩ := hxi.tup
    refine W_unpack2 (.inl hh) htv ?_
    walk_at "w"
    walk_at "w"
    walk_at "x"
    walk_at "w"
    walk_at "w"
    walk_at "x"
    have hm3 := (hm2.upd (x := Str.ofString "dt") (u := .int it.1 t) (by kernel_rfl)).upd (x := Str.ofString "cmt") (u := .bytes it.2.toArray u) (by kernel_rfl)
    have hr3 : upd (upd m2 (Str.ofString "dt") (.int it.1 t)) (Str.ofString "cmt") (.bytes it.2.toArray u) (Str.ofString "results") = some (.ref ra) := upd_ne (upd_ne hr2 (by kernel_rfl)) (by kernel_rfl)
    have hd3 : upd (upd m2 (Str.ofString "dt") (.int it.1 t)) (Str.ofString "cmt") (.bytes it.2.toArray u) (Str.ofString "dt") = some (.int it.1 t) := upd_ne upd_self (by kernel_rfl)
    have hc3 : upd (upd m2 (Str.ofString "dt") (.int it.1 t)) (Str.ofString "cmt") (.bytes it.2.toArray u) (Str.ofString "cmt") = some (.bytes it.2.toArray u) := upd_self
    generalize upd (upd m2 (Str.ofString "dt") (.int it.1 t)) (Str.ofString "cmt") (.bytes it.2.toArray u) = m3 at hm3 hr3 hd3 hc3 ⊢
    have hcs3 := hm3.cs
    obtain ⟨fl, hfl⟩ := Option.ne_none_iff_exists'.mp (hcf it (List.mem_of_getElem? hit))
    obtain ⟨fv, hfv, tf, rfl⟩ : ∃ fv, valueAt kvs it.2 = some fv ∧ isNat fv fl := by
      rcases hS.fl it.2 with ⟨_, h2⟩ | ⟨fv, n', h1, h2, h3⟩
      · rw [hfl] at h2; cases h2
      · rw [hfl] at h2; cases h2; exact ⟨fv, h1, h3⟩
    have hlive : liveItem S.cs it = !(decide (fl &&& 4 = 4)) := by unfold liveItem; rw [hfl]
    obtain ⟨oc3, hoc3, hoc32⟩ := (hz.mono le12).dnc
    have hrl := hp2.length
    have hrl2 := resultsOf_len S.cs (S.cands.take i)
    rw [List.length_take] at hrl2
    walk_at "ws"
    refine W_dItem (kvs := kvs) ⟨v.d, rfl, hz.ds, .inr ⟨1, rfl⟩⟩ ⟨u, rfl⟩ hfv ?_
    walk_at "ws"
    refine W_cellF (.inl (by kernel_rfl)) (by kernel_rfl) hoc3 hoc32 ?_
    walk_at "ws"
    refine W_cellF (.inl (by kernel_rfl)) (by kernel_rfl) hoc3 hoc32 ?_
    walk_at "w"
    walk_at "w"
    rw [show (4 : Int) = ((4 : Nat) : Int) from rfl, bitAnd_eq]
    by_cases h4 : fl &&& 4 = 4
    · rw [if_neg (by simp [h4])]
      rw [if_neg (by decide)]
      walk_at "ws"
      refine ⟨le2, _, List.Sublist.refl _, m3, rvs, rfl, hm3, hr3, ?_⟩
      rw [htake, resultsOf_snoc, hlive, decide_eq_true h4]
      exact hp2
    · rw [if_pos (by simp [h4])]
      walk_at "ws"
      refine ⟨by show 2 ≤ 16777216; exact far 1 [] [.num 2, .num 16777216] rfl, fun F3 tv le3 htv3 => ?_⟩
      walk_at "ws"
      refine W_notInPairs (b := it) (items := resultsOf S.cs (S.cands.take i)) (vs := rvs) ?_ htv3.pair (.own (i := 3) rfl) (paired_mono hp2 fun _ _ r => r.mono le3) ?_
      · have h1 := hroom.2
        have e2 : cLine = 9900 := rfl
        exact far 1 [_, _] [.add (.add (.var 0) (.num 1)) (.num 1), .var 1, .add (.var 0) (.mulL 10 (.num 8)), .num 9000, .num 9900, .var 1] rfl h1 (Nat.le_of_eq e2.symm)
      walk_at "ws"
      by_cases hin : it ∈ resultsOf S.cs (S.cands.take i)
      · rw [if_neg (by simp [hin])]
        rw [if_neg (by decide)]
        walk_at "ws"
        refine ⟨le2.trans le3, _, List.Sublist.refl _, m3, rvs, rfl, hm3, hr3, ?_⟩
        rw [htake, resultsOf_snoc, if_neg (by simp [hin])]
        exact paired_mono hp2 fun _ _ r => r.mono le3
      · rw [if_pos (by simp [hin])]
        walk_at "w"
        rw [if_pos rfl]
        walk_at "w"
        walk_at "w"
        refine W_CallAppend ?_
        walk_at "w"
        walk_at "w"
        refine ⟨⟨rvs, .own (i := 3) rfl⟩, ?_⟩
        walk_at "ws"
        refine ⟨by show 2 ≤ 16777216; exact far 1 [] [.num 2, .num 16777216] rfl, fun F4 tv4 le4 htv4 => ?_⟩
        have hcz : rvs.length ≤ sizeLine := by show _ ≤ 16777216; omega
        walk_at "w"
        walk_at "w"
        walk_at "w"
        walk_at "w"
        walk_at "x"
        walk_at "ws"
        refine ⟨(le2.trans le3).trans le4, _, List.Sublist.refl _, m3, _, rfl, hm3, hr3, ?_⟩
        rw [htake, resultsOf_snoc, hlive, if_pos (by simp [hin, h4])]
        exact (paired_mono hp2 fun _ _ r => r.mono (le3.trans le4)).snoc htv4.pair
  · rintro F2 Y2 G2 le2 ⟨m2, rvs, rfl, hm2, hr2, hp2⟩
    rw [List.take_of_length_le (by exact Nat.le_of_eq hcl.symm)] at hp2
    have le12 := le1.trans le2
    have hrl := hp2.length
    show W _ _ _ _ _ _ _ _ _
    walk_at "w"
    walk_at "w"
    refine W_CallSort ?_
    walk_at "w"
    walk_at "w"
    refine ⟨⟨rvs, .own (i := 3) rfl⟩, ?_⟩
    refine W_callKW0 ?_
    refine W_kws_cons ?_
    refine W_Lambda (clos := []) T GO.t90 (by kernel_rfl) (GO.q2.trans (by kernel_rfl)) (by kernel_rfl) fun F3 f cd ct le3 hf hcd => ?_
    refine W_kws_nil ?_
    refine ⟨Keeps.builtin, ?_⟩
    show W _ _ _ (call (.builtin "list.sort") [.ref ra] [(Str.ofString "key", .ref f)]) _ _ _ _ _
    refine W_listSort (i := 3) rfl (by exact far 1 [] [.add (.num 0) (.num 1), .num 3] rfl) (paired_mono hp2 fun _ _ r => r.mono le3) (by exact Nat.lt_of_le_of_lt (Nat.le_of_eq hrl) h64) hord (fun x it F4 X4 G4 le4 hxi hX0 => ?_) fun F4 vs' items' G4 le4 hp4 hperm hpw => ?_
    · refine (W_callsR (EΦ := fun _ _ _ => False) H.in1 (i := 0) (m := m2) hX0 (calls_key (n := 4) T (hroom.le (by exact far 1 [] [.num 5, .num 8] rfl) : Room A 5).in1 (le4 _ _ hf) (hcd.mono le4) hxi) (fun v F5 G5 le5 hv => ⟨hv, rfl, le5⟩) fun _ _ _ hx => hx).monoE ?_
      rintro v s ⟨_, _, _, _, _, _, _, _, _, _, _, _, _, hx⟩
      exact hx
    refine ⟨nofun, ?_⟩
    walk_at "x"
    walk_at "w"
    refine W_freezeLi (i := 3) rfl fun F5 le5 hra => ?_
    walk_at "x"
    refine W_AssignComp (i := 0) none [] ?_
    walk_at "w"
    walk_at "w"
    refine W_iterL hh hra fun I2 r2 hI2 => ?_
    have hl4 := hp4.length
    have hpl := hperm.length_eq
    refine ⟨I2, r2, _, _, _, fun j ys F' => Paired isBy ys ((items'.take j).map (·.2)), _, rfl, rfl, ?_, hI2, ⟨.nil, ?_⟩, rfl, ?_⟩
    · show _ ≤ 16777216; exact far 1 [_, _, _] [.var 0, .num 16777216, .add (.var 1) (.num 1), .num 64, .var 0, .var 2, .var 2, .var 1] rfl h64 (Nat.le_of_eq hl4) (Nat.le_of_eq hpl)
    · rintro j x ys F6 G6 m6 cv C Dc E6 hj hx le6 hJ hy
      obtain ⟨it, hit, hxi⟩ := paired_get' hp4 hx
      obtain ⟨t, u, htv⟩ := (hxi.mono (le5.trans le6)).tup
      refine W_unpack2 (.inl hh) htv ?_
      walk_at "w"
      walk_at "w"
      walk_at "x"
      walk_at "w"
      walk_at "w"
      walk_at "x"
      refine W_tests0 ?_
      rw [if_pos rfl]
      walk_at "ws"
      refine ⟨by walk_at "sub", le6, ?_⟩
      rw [take_snoc hit, List.map_append]
      exact hJ.snoc ⟨_, rfl⟩
    · rintro ys F6 F7 G7 rv le6 hys le7 _ hrv
      rw [List.take_of_length_le (by exact Nat.le_of_eq hl4.symm)] at hys
      walk_at "x"
      walk_at "w"
      walk_at "ws"
      exact h _ _ _ _ _ (((((le12.trans le3).trans le4).trans le5).trans le6).trans le7) hperm hpw ⟨ys, hrv, hys⟩
end
end
section
noncomputable def lcaRun (D : LD) (N : Nat) (c : Name) (cs : List Name) : Option (Option LS) := match startStep D LS.empty c 1 with
  | none => some none
  | some S => match startAll D S cs with
    | none => some none
    | some S' => lcaLoop D N S'
theorem Flagged.start {D : LD} {S S' : LS} {c : Name} {b : Nat} (h : Flagged S) (e : startStep D S c b = some S') : Flagged S' := by
  unfold startStep at e
  split at e
  · split at e
    · cases e; exact h.put
    · cases e
  · cases e; exact h.put
theorem Flagged.starts {D : LD} : ∀ {cs : List Name} {S S' : LS}, Flagged S → startAll D S cs = some S' → Flagged S'
  | [], S, S', h, e => by cases e; exact h
  | c :: r, S, S', h, e => by
    unfold startAll at e
    split at e
    · cases e
    · rename_i S1 hs
      exact (h.start hs).starts e
section
variable {g : Glo} {k : Fun} {l : List Env} {A : Around} {E : Value → Shared → Prop} {F : PMap} {X Y : XS} {G : GS} {env : Env} {s : Shared} {mg mb : Str → Option Value} {L0 : Addr} {α : Type}
theorem W_freezeCe {t : Sem α} {Φ : Cont α} {i : Nat} {a : Addr} {v : Option Value} (hx : X[i]? = some (a, .ce v)) (h : ∀ F' oc, PLe F F' → F' a = some oc → oc.data = .cell v → W g k A t Φ E F' (X.eraseIdx i) G) : W g k A t Φ E F X G := ⟨fun s hs => by
    obtain ⟨o, ho, r⟩ := hs.at hx
    have hap := hs.apart _ (List.mem_of_getElem? hx)
    exact (h _ o (fset_le hap.1) fset_self r).run _ (hs.freeze hx ho)⟩
theorem keeps_cls (T : Top0 g (KK g.w) mg mb) (hF : PLe g.base.get? F) {f : Value} (hk : keepIn (KK g.w) f = true) : Keeps g f F := fun h hp => keeps_K hk h (T.K.keeps (hF.trans hp))
set_option maxHeartbeats 8000000
theorem calls_lcas (T : Top0 g (KK g.w) mg mb) (GO : GOk g) (hF : PLe g.base.get? F) (hr : Room A 9) (hh : A.handled = none) {args : Args} {lp c1 c2s ls sh : Value} {tm : Tok} {D : LD} {c : Name} {cs : List Name} {N : Nat} {res : Option LS}
    (hbind : ∀ s, Ok g F s → BindsTo s (fdAt g.w 90) args [(Str.ofString "lookup_parents", lp), (Str.ofString "c1", c1), (Str.ofString "c2s", c2s), (Str.ofString "lookup_stamp", ls), (Str.ofString "min_stamp", .int D.min tm), (Str.ofString "shallows", sh)])
    (hlp : LookP g F lp D.par) (hls : LookS g F ls D.st) (hsh : ShOk F sh D.sh) (hc1 : isBy c1 c) (hc2 : BL F c2s cs) (hcl : cs.length ≤ 100) (hN : N ≤ 3000) (hpar : ∀ c ps, D.par c = some ps → ps.length ≤ 10) (hrun : lcaRun D N c cs = some res)
    (hok : ∀ S, res = some S → (∀ x ∈ S.cands, S.cs x.2 ≠ none) ∧ (resultsOf S.cs S.cands).Pairwise itemDn ∧ (resultsOf S.cs S.cands).length < 64) :
    CallsR g A (.call (.ref 90) args) F (fun r F' => ∃ (S : LS) (items' : List Item), res = some S ∧ items'.Perm (resultsOf S.cs S.cands) ∧ items'.Pairwise itemLe ∧ BL F' r (items'.map (·.2))) (fun _ => res = none) := by
  refine calls_topCR T hF [(Str.ofString "lookup_parents", lp), (Str.ofString "c1", c1), (Str.ofString "c2s", c2s), (Str.ofString "lookup_stamp", ls), (Str.ofString "min_stamp", .int D.min tm), (Str.ofString "shallows", sh)] hr (by kernel_rfl) (by kernel_rfl) (by kernel_rfl) (by kernel_rfl) (by kernel_rfl) hbind (by kernel_rfl)
    (XC := fun L => [(L + 1, .ce none)]) (lb := [(Str.ofString "lookup_parents", lp), (Str.ofString "c1", c1), (Str.ofString "c2s", c2s), (Str.ofString "lookup_stamp", ls), (Str.ofString "min_stamp", .int D.min tm), (Str.ofString "shallows", sh)]) (fun L => by kernel_rfl) (by kernel_rfl) (by kernel_rfl) (by kernel_rfl) (by kernel_rfl) (fun L l m hm k G H => ?_)
  simp only [BindsAre] at hm
  obtain ⟨b1, b2, b3, b4, b5, b6, -⟩ := hm
  have hroom : Room (A.deeper (E90 g.w L)) 8 := hr.deeper
  walk_at "w"
  walk_at "w"
  refine W_ListO ?_
  walk_at "w"
  refine ⟨by show 0 ≤ 16777216; exact Nat.zero_le _, fun ca => ?_⟩
  walk_at "w"
  walk_at "x"
  walk_at "w"
  walk_at "w"
  refine W_DictN T fun d hds => ?_
  walk_at "w"
  walk_at "x"
  walk_at "w"
  walk_at "w"
  walk_at "w"
  rename_i t1
  walk_at "w"
  walk_at "x"
  walk_at "w"
  walk_at "w"
  walk_at "w"
  rename_i t2
  walk_at "w"
  walk_at "x"
  walk_at "w"
  walk_at "w"
  walk_at "w"
  rename_i t4
  walk_at "w"
  walk_at "x"
  walk_at "w"
  walk_at "w"
  walk_at "w"
  rename_i t8
  walk_at "w"
  walk_at "x"
  walk_at "w"
  refine W_freezeCe (i := 1) rfl fun F1 oc le1 hoc hoc2 => ?_
  walk_at "x"
  refine W_FuncDef (clos := [(Str.ofString "_DNC", L + 1)]) T GO.t90 (by kernel_rfl) (GO.q1.trans (by kernel_rfl)) (by kernel_rfl) fun F2 f cd ct doc le2 hf hcd => ?_
  walk_at "w"
  walk_at "x"
  walk_at "w"
  walk_at "w"
  walk_at "w"
  walk_at "w"
  walk_at "w"
  refine W_callW0 (keeps_cls T (hF.trans (le1.trans le2)) (by kernel_rfl)) ?_
  refine W_newWL (n := 6) T hroom fun F3 wl q le3 hwl => ?_
  walk_at "x"
  walk_at "w"
  walk_at "x"
  have le03 := (le1.trans le2).trans le3
  obtain ⟨v, hv⟩ : ∃ v : V90, v = ⟨lp, c1, c2s, ls, sh, wl, ca, d, f, q, t1, t2, t4, t8, tm⟩ := ⟨_, rfl⟩
  have hz : Fz g v D L F3 := by
    subst hv
    have hcd' : CodeAtF F3 cd (Str.ofString "_find_lcas.<locals>._has_candidates") := by
      have e : qualnameIn (eAtC g.w 90 L) (Str.ofString "_has_candidates") (Str.ofString "_has_candidates") = Str.ofString "_find_lcas.<locals>._has_candidates" := by kernel_rfl
      rw [← e]
      exact hcd.mono le3
    exact ⟨hlp.mono le03, hls.mono le03, hsh.mono le03, hwl, ⟨oc, (le2.trans le3) _ _ hoc, hoc2⟩, ⟨_, doc, (mg "__name__").getD .none, cd, ct, le3 _ _ hf, by kernel_rfl, hcd'⟩, hds⟩
  have hm : Fr90 v D (upd (upd (upd (upd (upd (upd (upd m (Str.ofString "cands") (.ref ca)) (Str.ofString "cstates") (.ref d)) (Str.ofString "_ANC_OF_1") (.int 1 t1)) (Str.ofString "_ANC_OF_2") (.int 2 t2)) (Str.ofString "_LCA") (.int 8 t8)) (Str.ofString "_has_candidates") (.ref f)) (Str.ofString "wlst") wl) := by
    subst hv
    exact ⟨by walk_at "nm", by walk_at "nm", by walk_at "nm", by walk_at "nm", by walk_at "nm", by walk_at "nm", by walk_at "nm", by walk_at "nm", by walk_at "nm", by walk_at "nm", by walk_at "nm", by walk_at "nm", by walk_at "nm"⟩
  generalize upd (upd (upd (upd (upd (upd (upd m (Str.ofString "cands") (.ref ca)) (Str.ofString "cstates") (.ref d)) (Str.ofString "_ANC_OF_1") (.int 1 t1)) (Str.ofString "_ANC_OF_2") (.int 2 t2)) (Str.ofString "_LCA") (.int 8 t8)) (Str.ofString "_has_candidates") (.ref f)) (Str.ofString "wlst") wl = m1 at hm ⊢
  clear b1 b2 b3 b4 b5 b6
  have hc1v : isBy v.c1 c := by subst hv; exact hc1
  have hc2v : BL F3 v.c2s cs := by subst hv; exact hc2.mono le03
  have hX : ([(L, .ns m1), (ca, .li []), (d, .di []), (q, .li [])] : XS) = X90 v L m1 [] [] [] [] := by subst hv; rfl
  obtain ⟨tc, htc⟩ := id hc1v
  have k1 := hm.c1
  have k2 := hm.cs
  have k3 := hm.a1
  refine W_norm hX ?_
  clear hX hv
  walk_at "w"
  walk_at "w"
  walk_at "w"
  walk_at "w"
  walk_at "w"
  walk_at "w"
  walk_at "w"
  walk_at "w"
  refine W_setItem (i := 2) rfl ⟨tc, htc⟩ (by show 0 ≤ 1000000; exact Nat.zero_le _) ?_
  walk_at "x"
  walk_at "w"
  have hF3 := hF.trans le03
  have hx0 : ∀ (F' : PMap) (Y : XS) (G' : GS), (PLe F F' ∧ res = none ∧ ∃ (i : Nat) (m : Str → Option Value), Y[i]? = some (L, .ns m)) → ∃ (i : Nat) (m : Str → Option Value), Y[i]? = some (L, .ns m) := fun _ _ _ h => h.2.2
  have hS0 : Sim F3 [] [] [] LS.empty := ⟨fun b => .inl ⟨rfl, rfl⟩, rfl, fun p hp => (by cases hp), .nil, Nat.le_refl _, Nat.le_refl _, Nat.le_refl _⟩
  refine W_try1 (Tl := []) T hF3 hh hroom H hm hz hc1v hS0.ok (by show 0 ≤ 50000; exact Nat.zero_le _) hx0 (fun F4 pv t G4 le4 ht hpv => ?_) fun F4 G4 le4 hst hsh => ⟨le03.trans le4, ?_, 0, _, rfl⟩
  · have hstart : startStep D LS.empty c 1 = some (LS.empty.put c 1 t) := by
      have e : (LS.empty.cs c).getD 0 ||| 1 = 1 := by show 0 ||| 1 = 1; decide
      unfold startStep
      rw [e]
      rcases ht with ht | ⟨h1, h2, rfl⟩
      · rw [ht]
      · rw [h1]; dsimp only; rw [h2]; rfl
    have hS4 := (hS0.mono le4).put (b := c) (n := 1) (v := .int 1 v.t1) ⟨v.t1, rfl⟩ hpv
    walk_at "w"
    refine W_for2 T (hF3.trans le4) hh hroom H hm (hz.mono le4) (hc2v.mono le4) hS4 (by show 0 + 1 + cs.length ≤ 40000; exact far 1 [_] [.add (.add (.num 0) (.num 1)) (.var 0), .num 40000, .var 0, .num 100] rfl hcl) hx0 (fun F5 m5 kvs5 ps5 S5 G5 le5 hm5 hst5 hn5 hS5 => ?_) fun F5 Y5 G5 le5 hst5 hY => ⟨(le03.trans le4).trans le5, ?_, hY⟩
    · have hloop : lcaLoop D N S5 = some res := by
        rw [← hrun]; unfold lcaRun; rw [hstart]; dsimp only; rw [hst5]
      have hf5 : Flagged S5 := Flagged.starts (Flagged.put (fun x hx => by cases hx)) hst5
      have hn5' : S5.cnt = 0 + 1 + cs.length := hn5
      walk_at "w"
      refine W_lcaWhile (N := N) (res := res) T ((hF3.trans le4).trans le5) hh hroom H hm5 ((hz.mono le4).mono le5) hS5 hf5 hloop (by omega) hpar hx0 (fun F6 m6 kvs6 ps6 cvs6 S6 G6 le6 hm6 hres hn6 hS6 => ?_) fun F6 Y6 G6 le6 hres hY => ⟨((le03.trans le4).trans le5).trans le6, hres, hY⟩
      obtain ⟨o1, o2, o3⟩ := hok _ hres
      have le06 := ((le03.trans le4).trans le5).trans le6
      refine W_lcasEnd T GO (hF.trans le06) hh hroom H hm6 (((hz.mono le4).mono le5).mono le6) hS6 hn6 o1 o2 o3 fun F7 X7 G7 rv items' le7 hp7 hw7 hb7 => ?_
      exact ⟨le06.trans le7, S6, items', hres, hp7, hw7, hb7⟩
    · have : lcaRun D N c cs = some none := by unfold lcaRun; rw [hstart]; dsimp only; rw [hst5]
      rw [hrun] at this; exact Option.some.inj this
  · have : lcaRun D N c cs = some none := by unfold lcaRun startStep; rw [hst]; dsimp only; rw [hsh]; rfl
    rw [hrun] at this; exact Option.some.inj this
end
end
section
/-! slices from one on; list(xs) -/
section
variable {g : Glo} {k : Fun} {l : List Env} {A : Around} {E : Value → Shared → Prop} {F : PMap} {X Y : XS} {G : GS} {env : Env} {s : Shared} {mg mb : Str → Option Value} {L0 : Addr} {α : Type}
theorem W_sliceFrom {value slice : Expr} {v sl : Value} {vs : List Value} {t : Tok} {Φ : Cont Value} (hl : LView F X v vs) (hsl : ∃ a, sl = .ref a ∧ F a = some { cls := .type "slice", data := .fields #[.int 1 t, .none, .none] }) (hz : vs.length ≤ sizeLine)
    (h : ∀ F' r, PLe F F' → FList F' r (vs.drop 1) → Φ r F' X G)
    (hs : ∀ a b, subscripted slice false (.ref a) (.ref b) = operate [.ref b, .ref a] (getItem (.ref a) (.ref b)) := by intro _ _; kernel_rfl)
    (ht : ∀ a r, letTemporaryGo value (.ref a) r = pure () := by intro _ _; kernel_rfl) : W g k A (subscriptTail value slice v sl) Φ E F X G := ⟨fun s st => by
  obtain ⟨a, o, rfl, ho, r⟩ := st.list hl
  obtain ⟨b, rfl, fb⟩ := hsl
  have hL := r.isList ho
  refine subscriptTail_ops hL.typeIs list_getitem_lookup (wpAny_getItem_list_slice hL ⟨_, st.fro _ _ fb, rfl, rfl⟩ (.int 1 t) .none .none (by simp) ?_ (by simpa using hz)) (hs a b) (ht a)
  obtain ⟨l, st'⟩ := st.newF (fun b o e => Heap.get?_push_of_some { cls := .type "list", data := .seq (slicePick vs.toArray (some 1) none none) } e) s.toks (size_none _) (Heap.get?_push_size _ rfl)
  refine st'.done (h _ _ l ⟨_, _, rfl, fset_self, rfl, rfl, rfl, 0, ?_⟩)
  have := slicePick_from' vs.toArray 1
  rw [show ((1 : Nat) : Int) = 1 from rfl] at this
  rw [this]⟩
theorem W_Slice1 {lo : Expr} {p : Pos} {Φ : Cont Value} (h : W g k A (eval lo env) (fun v F X G => ∀ F' a, PLe F F' → F' a = some { cls := .type "slice", data := .fields #[v, .none, .none] } → Φ (.ref a) F' X G) E F X G) : W g k A (eval (.Slice (some lo) none none p) env) Φ E F X G := ⟨fun s st => by
  rw [arm_eval_Slice]
  refine wpAny_bind ?_
  show wpAny _ A (eval lo env) _ E s
  refine h.then st fun v F X G s st hw => ?_
  refine wpAny_bind (wpAny_holding (wpAny_pure ?_))
  refine wpAny_bind (wpAny_holding (wpAny_pure ?_))
  unfold newFields
  refine wpAny_newObj_type ?_ (by size_fits)
  obtain ⟨l, st'⟩ := st.newF (fun b o e => Heap.get?_push_of_some { cls := .type "slice", data := .fields #[v, .none, .none] } e) s.toks (size_none _) (Heap.get?_push_size _ rfl)
  exact st'.done (hw _ _ l fset_self)⟩
theorem W_listCopy {v : Value} {vs : List Value} {Φ : Cont Value} (hl : LView F X v vs) (hz : vs.length ≤ sizeLine) (h : ∀ F' r, PLe F F' → FList F' r vs → Φ r F' X G) : W g k A (call (.type "list") [v] []) Φ E F X G := ⟨fun s st => by
  obtain ⟨a, o, rfl, ho, r⟩ := st.list hl
  obtain ⟨h1, h2, h3, n, h4⟩ := r
  refine call_list_seq (hsz := by simpa using hz) a (.inl rfl) ho h1 h4 fun h' c' hk hD => ?_
  obtain ⟨l, st'⟩ := st.newF (h' := h') hk s.toks (size_none _) hD
  exact st'.done (h _ _ l ⟨_, _, rfl, fset_self, rfl, rfl, rfl, c', rfl⟩)⟩
theorem calls_topR (T : Top0 g (KK g.w) mg mb) (hF : PLe g.base.get? F) {a : Addr} {args : Args} (binds : List (Str × Value)) {P : Value → PMap → Prop} {PE : PMap → Prop} {n : Nat} (hroom : Room A n)
    (ho : (KK g.w).lookup a = some (objAt g.w a)) (hdata : (objAt g.w a).data = .func (fdAt g.w a)) (hcd : codeIn (KK g.w) (fdAt g.w a).code (fdAt g.w a).qualname = true) (hbody : (fdAt g.w a).body = .stmts (bodyAt g.w a))
    (hbind : bindArgs (fdAt g.w a) args = pure binds) (hgood : goodBinds (fdAt g.w a).scope.names binds = true)
    (hco : (fdAt g.w a).scope.isCoroutine = false) (hgen : (fdAt g.w a).scope.isGenerator = false) (hk : (fdAt g.w a).scope.kind = .function)
    (h : ∀ L l m, BindsAre m binds → BodyR g A l F (eAt g.w a L) L [(L, .ns m)] (bodyAt g.w a) P PE) : CallsR g A (.call (.ref a) args) F P PE := by
  simp only [goodBinds, Bool.and_eq_true, List.all_eq_true, decide_eq_true_eq] at hgood
  exact calls_plainR T hroom (T.get hF ho) hdata (T.code hF hcd) hbody (fun s _ => BindsTo.of_eq hbind) hgood.1.1 hgood.2 (fun L l => h L l _ (bindsAre_rev hgood.1.2)) hco hgen hk
end
end
section
section
variable {g : Glo} {k : Fun} {l : List Env} {A : Around} {E : Value → Shared → Prop} {F : PMap} {X Y : XS} {G : GS} {env : Env} {s : Shared} {mg mb : Str → Option Value} {L0 : Addr} {α : Type}
set_option maxHeartbeats 4000000
theorem binds90a (T : Top0 g (KK g.w) mg mb) {lp c1 c2s ls sh : Value} (s : Shared) (hs : Ok g F s) : BindsTo s (fdAt g.w 90) ⟨[lp, c1, c2s, ls], [(Str.ofString "shallows", sh)]⟩
    [(Str.ofString "lookup_parents", lp), (Str.ofString "c1", c1), (Str.ofString "c2s", c2s), (Str.ofString "lookup_stamp", ls), (Str.ofString "min_stamp", .int 0 381), (Str.ofString "shallows", sh)] := by
  have e : (KK g.w).lookup 85 = some { cls := .type "tuple", data := .seq #[.int 0 381, .none] 0 } := by kernel_rfl
  have e2 : (fdAt g.w 90).defaults = .ref 85 := by kernel_rfl
  exact BindsTo.of_defaults (T := 85) e2 (T.K.keeps hs.stays _ _ e) rfl rfl rfl
theorem binds90b (T : Top0 g (KK g.w) mg mb) {lp c1 c2s ls mn sh : Value} (s : Shared) (hs : Ok g F s) : BindsTo s (fdAt g.w 90) ⟨[lp, c1, c2s, ls], [(Str.ofString "min_stamp", mn), (Str.ofString "shallows", sh)]⟩
    [(Str.ofString "lookup_parents", lp), (Str.ofString "c1", c1), (Str.ofString "c2s", c2s), (Str.ofString "lookup_stamp", ls), (Str.ofString "min_stamp", mn), (Str.ofString "shallows", sh)] := by
  have e : (KK g.w).lookup 85 = some { cls := .type "tuple", data := .seq #[.int 0 381, .none] 0 } := by kernel_rfl
  have e2 : (fdAt g.w 90).defaults = .ref 85 := by kernel_rfl
  exact BindsTo.of_defaults (T := 85) e2 (T.K.keeps hs.stays _ _ e) rfl rfl rfl
end
end
section
section
variable {g : Glo} {k : Fun} {l : List Env} {A : Around} {E : Value → Shared → Prop} {F : PMap} {X Y : XS} {G : GS} {env : Env} {s : Shared} {mg mb : Str → Option Value} {L0 : Addr} {α : Type}
theorem BL.one {F : PMap} {r v : Value} {b : List UInt8} (h : FList F r [v]) (hv : isBy v b) : BL F r [b] := ⟨_, h, .cons hv .nil⟩
/-- what _find_lcas tells -/
noncomputable def LcaOut (res : Option LS) (out : List Name) : Prop := ∃ (S : LS) (items' : List Item), res = some S ∧ items'.Perm (resultsOf S.cs S.cands) ∧ items'.Pairwise itemLe ∧ out = items'.map (·.2)
structure RunOk (D : LD) (N : Nat) (c : Name) (cs : List Name) (res : Option LS) : Prop where
  fuel : N ≤ 3000
  len : cs.length ≤ 100
  par : ∀ c ps, D.par c = some ps → ps.length ≤ 10
  run : lcaRun D N c cs = some res
  ok : ∀ S, res = some S → (∀ x ∈ S.cands, S.cs x.2 ≠ none) ∧ (resultsOf S.cs S.cands).Pairwise itemDn ∧ (resultsOf S.cs S.cands).length < 64
set_option maxHeartbeats 4000000
theorem calls_fmb (T : Top0 g (KK g.w) mg mb) (GO : GOk g) (hF : PLe g.base.get? F) (hr : Room A 10) (hh : A.handled = none) {lp ls sh ids : Value} {D : LD} {c : Name} {cs : List Name} {N : Nat} {res : Option LS} (hmin : D.min = 0)
    (hlp : LookP g F lp D.par) (hls : LookS g F ls D.st) (hsh : ShOk F sh D.sh) (hids : BL F ids (c :: cs)) (hrun : cs ≠ [] → c ∉ cs → RunOk D N c cs res) (hcl : cs.length ≤ 100) :
    CallsR g A (.call (.ref 97) ⟨[lp, ls, sh, ids], []⟩) F (fun r F' => ∃ out, BL F' r out ∧ if cs = [] ∨ c ∈ cs then out = [c] else LcaOut res out) (fun _ => cs ≠ [] ∧ c ∉ cs ∧ res = none) := by
  refine calls_topR T hF [(Str.ofString "lookup_parents", lp), (Str.ofString "lookup_stamp", ls), (Str.ofString "shallows", sh), (Str.ofString "commit_ids", ids)] hr (by kernel_rfl) (by kernel_rfl) (by kernel_rfl) (by kernel_rfl) (by kernel_rfl) (by kernel_rfl) (by kernel_rfl) (by kernel_rfl) (by kernel_rfl) (fun L l m hm k G H => ?_)
  simp only [BindsAre] at hm
  obtain ⟨b1, b2, b3, b4, -⟩ := hm
  obtain ⟨ivs, hiv, hip⟩ := hids
  obtain ⟨v0, vr, rfl⟩ : ∃ v0 vr, ivs = v0 :: vr := by
    cases ivs with
    | nil => cases hip
    | cons a b => exact ⟨a, b, rfl⟩
  obtain ⟨hv0, hvr⟩ : isBy v0 c ∧ Paired isBy vr cs := by cases hip with | cons a b => exact ⟨a, b⟩
  have hl := hvr.length
  have hz : (v0 :: vr).length ≤ sizeLine := by show _ ≤ 16777216; rw [List.length_cons]; omega
  obtain ⟨t0, rfl⟩ := hv0
  walk_at "w"
  walk_at "w"
  walk_at "w"
  walk_at "w"
  walk_at "w"
  walk_at "w"
  refine W_tL (.inl hiv) hz ?_
  rw [if_neg (by simp)]
  walk_at "w"
  walk_at "w"
  walk_at "w"
  walk_at "ws"
  refine W_item (.inl hiv) (by exact Int.natCast_nonneg _) (by exact Int.ofNat_lt.mpr (show 0 < 9223372036854775808 from far 1 [] [.add (.num 0) (.num 1), .num 9223372036854775808] rfl)) (x := .bytes c.toArray t0) rfl ?_
  walk_at "w"
  walk_at "x"
  walk_at "w"
  walk_at "w"
  walk_at "w"
  walk_at "w"
  walk_at "w"
  walk_at "w"
  walk_at "ws"
  by_cases hcs : cs = []
  · subst hcs
    have : vr = [] := by cases hvr; rfl
    subst this
    rw [if_pos (by simp)]
    walk_at "w"
    walk_at "w"
    refine W_ListF ?_
    walk_at "ws"
    refine ⟨by show 1 ≤ 16777216; exact far 1 [] [.num 1, .num 16777216] rfl, fun F1 r le1 hr1 => ?_⟩
    exact ⟨le1, [c], .one hr1 ⟨_, rfl⟩, by rw [if_pos (.inl rfl)]⟩
  · have hne : vr ≠ [] := fun e => hcs (by subst e; exact paired_nil hvr)
    have h2 : 1 < (Value.bytes c.toArray t0 :: vr).length := by
      cases vr with
      | nil => exact absurd rfl hne
      | cons a b => simp
    have hgt : (((Value.bytes c.toArray t0 :: vr).length : Nat) : Int) > 1 := by exact Int.ofNat_lt.mpr (show 1 < (Value.bytes (List.toArray c) t0 :: vr).length from h2)
    rw [if_neg (by simpa using hgt)]
    walk_at "w"
    walk_at "w"
    walk_at "w"
    walk_at "w"
    walk_at "w"
    walk_at "w"
    walk_at "w"
    walk_at "w"
    walk_at "w"
    walk_at "w"
    walk_at "w"
    refine W_Slice1 ?_
    walk_at "w"
    intro F1 sl le1 hsl
    refine W_sliceFrom (.inl (hiv.mono le1)) ⟨_, rfl, hsl⟩ hz fun F2 sv le2 hsv => ?_
    have hsv : FList F2 sv vr := hsv
    walk_at "w"
    walk_at "w"
    have hzr : vr.length ≤ sizeLine := by show _ ≤ 16777216; omega
    refine W_listCopy (.inl hsv) hzr fun F3 cv le3 hcv => ?_
    walk_at "w"
    walk_at "x"
    walk_at "w"
    walk_at "w"
    walk_at "w"
    walk_at "w"
    walk_at "w"
    walk_at "w"
    walk_at "w"
    refine W_in eqBy_by ⟨t0, rfl⟩ (.inl hcv) hvr ?_
    walk_at "w"
    by_cases hin : c ∈ cs
    · rw [if_pos (by simpa using hin)]
      walk_at "w"
      walk_at "w"
      refine W_ListF ?_
      walk_at "ws"
      refine ⟨by show 1 ≤ 16777216; exact far 1 [] [.num 1, .num 16777216] rfl, fun F4 r le4 hr4 => ?_⟩
      exact ⟨((le1.trans le2).trans le3).trans le4, [c], .one hr4 ⟨_, rfl⟩, by rw [if_pos (.inr hin)]⟩
    · rw [if_neg (by simpa using hin)]
      have R := hrun hcs hin
      have le13 := (le1.trans le2).trans le3
      walk_at "w"
      walk_at "w"
      walk_at "w"
      refine W_CallNameKW ?_
      walk_at "w"
      walk_at "w"
      refine W_callKW ?_
      walk_at "ws"
      refine W_kws_cons ?_
      walk_at "w"
      walk_at "w"
      refine W_kws_nil ?_
      refine ⟨keeps_top T (hF.trans le13) (by kernel_rfl) (by kernel_rfl), ?_⟩
      refine W_callsR (i := 0) H rfl (calls_lcas (D := D) (N := N) (res := res) T GO (hF.trans le13) hr.deeper hh (tm := 381) (by rw [hmin]; exact binds90a T) (hlp.mono le13) (hls.mono le13) (hsh.mono le13) ⟨t0, rfl⟩ ⟨_, hcv, hvr⟩ hcl R.fuel R.par R.run R.ok) (fun rv F4 G4 le4 hv => ?_) fun F4 G4 le4 hv => ⟨le13.trans le4, ⟨hcs, hin, hv⟩, 0, _, rfl⟩
      obtain ⟨S, items', h1, h2, h3, h4⟩ := hv
      walk_at "w"
      walk_at "x"
      walk_at "ws"
      exact ⟨le13.trans le4, _, h4, by rw [if_neg (by simp [hcs, hin])]; exact ⟨S, items', h1, h2, h3, rfl⟩⟩
end
end
section
section
variable {g : Glo} {k : Fun} {l : List Env} {A : Around} {E : Value → Shared → Prop} {F : PMap} {X Y : XS} {G : GS} {env : Env} {s : Shared} {mg mb : Str → Option Value} {L0 : Addr} {α : Type}
theorem W_eqBy {b c : List UInt8} {t u : Tok} {Φ : Cont Value} (h : Φ (.bool (decide (b = c))) F X G) : W g k A (compareOp .Eq (.bytes b.toArray t) (.bytes c.toArray u)) Φ E F X G := ⟨fun s hs => eq_bytes (hs.done (by
  have e : (b.toArray.toList == c.toArray.toList) = decide (b = c) := by by_cases h : b = c <;> simp [h]
  rw [e]; exact h))⟩
theorem CallsR.toCalls {c : Code} {P : Value → PMap → Prop} (h : CallsR g A c F P (fun _ => False)) : Calls g A c F P := fun l s hs hS => codeAny_mono (h l s hs hS) fun r s' x => by
  rcases x with x | ⟨_, _, _, _, _, _, _, _, _, _, x, _⟩
  · exact x
  · exact x.elim
set_option maxHeartbeats 4000000
theorem calls_cff (T : Top0 g (KK g.w) mg mb) (GO : GOk g) (hF : PLe g.base.get? F) (hr : Room A 10) (hh : A.handled = none) {lp ls sh c1 c2 : Value} {D : LD} {a b : Name} {N : Nat} {S : LS} (hmin : D.st a = some D.min)
    (hlp : LookP g F lp D.par) (hls : LookS g F ls D.st) (hsh : ShOk F sh D.sh) (h1 : isBy c1 a) (h2 : isBy c2 b) (hrun : a ≠ b → RunOk D N a [b] (some S)) :
    Calls g A (.call (.ref 104) ⟨[lp, ls, sh, c1, c2], []⟩) F (fun r _ => if a = b then r = .bool true else ∃ out, LcaOut (some S) out ∧ r = .bool (decide (out = [a]))) := by
  refine CallsR.toCalls ?_
  refine calls_topR T hF [(Str.ofString "lookup_parents", lp), (Str.ofString "lookup_stamp", ls), (Str.ofString "shallows", sh), (Str.ofString "c1", c1), (Str.ofString "c2", c2)] hr (by kernel_rfl) (by kernel_rfl) (by kernel_rfl) (by kernel_rfl) (by kernel_rfl) (by kernel_rfl) (by kernel_rfl) (by kernel_rfl) (by kernel_rfl) (fun L l m hm k G H => ?_)
  simp only [BindsAre] at hm
  obtain ⟨b1, b2, b3, b4, b5, -⟩ := hm
  obtain ⟨t1, rfl⟩ := h1
  obtain ⟨t2, rfl⟩ := h2
  walk_at "w"
  walk_at "w"
  walk_at "w"
  walk_at "w"
  walk_at "w"
  walk_at "w"
  walk_at "w"
  refine W_eqBy ?_
  walk_at "w"
  by_cases hab : a = b
  · rw [if_pos (by simpa using hab)]
    walk_at "ws"
    exact ⟨.rfl, by rw [if_pos hab]⟩
  · rw [if_neg (by simpa using hab)]
    have R := hrun hab
    walk_at "w"
    walk_at "w"
    refine W_TryKE (EΦ := fun _ _ _ => False) T H rfl (by kernel_rfl) (by kernel_rfl) (by kernel_rfl) (by kernel_rfl) (by kernel_rfl) (fun _ _ _ h => h.2.2) ?_ (fun _ _ _ h => h.elim) (fun _ _ _ _ _ _ _ h => h.elim)
    walk_at "w"
    walk_at "w"
    walk_at "w"
    walk_at "w"
    walk_at "w"
    walk_at "ws"
    refine ⟨hls.keeps, ?_⟩
    refine W_look (i := 0) H rfl hls (hr.deeper.le (by exact far 1 [] [.num 5, .num 9] rfl)) hh ⟨t1, rfl⟩ (fun r F1 G1 hb le1 hr => ?_) fun F1 G1 hb le1 => by rw [hmin] at hb; cases hb
    obtain ⟨i, hi, ti, rfl⟩ := hr
    rw [hmin] at hi
    cases hi
    walk_at "w"
    walk_at "x"
    walk_at "w"
    walk_at "w"
    walk_at "w"
    walk_at "w"
    refine W_CallNameKW ?_
    walk_at "w"
    walk_at "w"
    refine W_callKW ?_
    walk_at "w"
    walk_at "w"
    walk_at "w"
    walk_at "w"
    walk_at "w"
    walk_at "w"
    walk_at "w"
    refine W_ListF ?_
    walk_at "w"
    walk_at "w"
    walk_at "w"
    walk_at "w"
    refine ⟨by show 1 ≤ 16777216; exact far 1 [] [.num 1, .num 16777216] rfl, fun F2 cv le2 hcv => ?_⟩
    walk_at "ws"
    refine W_kws_cons ?_
    walk_at "w"
    walk_at "w"
    refine W_kws_cons ?_
    walk_at "w"
    walk_at "w"
    refine W_kws_nil ?_
    have le12 := le1.trans le2
    refine ⟨keeps_top T (hF.trans le12) (by kernel_rfl) (by kernel_rfl), ?_⟩
    refine W_callsR (i := 0) H rfl (calls_lcas (D := D) (N := N) (res := some S) T GO (hF.trans le12) hr.deeper hh (tm := ti) (binds90b T) (hlp.mono le12) (hls.mono le12) (hsh.mono le12) ⟨t1, rfl⟩ (.one hcv ⟨t2, rfl⟩) R.len R.fuel R.par R.run R.ok) (fun rv F4 G4 le4 hv => ?_) fun F4 G4 le4 hv => by cases hv
    obtain ⟨S', items', h1, h2, h3, h4⟩ := hv
    walk_at "w"
    walk_at "x"
    walk_at "w"
    walk_at "w"
    walk_at "w"
    walk_at "w"
    walk_at "w"
    refine W_ListF ?_
    walk_at "ws"
    refine ⟨by show 1 ≤ 16777216; exact far 1 [] [.num 1, .num 16777216] rfl, fun F5 cv5 le5 hcv5 => ?_⟩
    obtain ⟨rvs, hrv, hrp⟩ := h4.mono le5
    refine W_eqL eqBy_by (.inl hrv) (.inl hcv5) hrp (.cons ⟨t1, rfl⟩ .nil) ?_ ?_
    · exact hr.deeper.u
    walk_at "ws"
    refine ⟨(le12.trans le4).trans le5, ?_⟩
    rw [if_neg hab]
    exact ⟨_, ⟨S', items', h1, h2, h3, rfl⟩, rfl⟩
end
end
section
/-! _law_graph -/
theorem natMod (a b : Nat) : Int.fmod (a : Int) (b : Int) = ((a % b : Nat) : Int) := by rw [Int.fmod_eq_emod_of_nonneg _ (by exact Int.natCast_nonneg _)]; rfl
theorem natDiv (a b : Nat) : Int.fdiv (a : Int) (b : Int) = ((a / b : Nat) : Int) := by rw [Int.fdiv_eq_ediv_of_nonneg _ (by exact Int.natCast_nonneg _)]; rfl
theorem natAbsIf (a : Int) : (if a < 0 then -a else a) = ((a.natAbs : Nat) : Int) := by split <;> omega
noncomputable def scrSize (ns : List Int) : Nat := 2 + match ns with
  | [] => 3
  | a :: _ => a.natAbs % 9
noncomputable def scrNum (ns : List Int) (k : Nat) : Nat := match ns[1 + k]? with
  | some a => a.natAbs
  | none => 3 * k + 1
noncomputable def rowPar (k num j : Nat) : Nat := k - 1 - num / 15 / 5 ^ j % min k 5
noncomputable def rowStep (k num : Nat) (row : List Nat) (j : Nat) : List Nat := if rowPar k num j ∈ row then row else row ++ [rowPar k num j]
noncomputable def rowOf (k num : Nat) : List Nat := if 0 < k ∧ 0 < num % 5 then (List.range (1 + num / 5 % 3)).foldl (rowStep k num) [] else []
noncomputable def maxL (l : List Nat) : Nat := l.foldl max 0
noncomputable def stampOf (T : List Nat) (num : Nat) (row : List Nat) : Nat := 1 + num / 1875 % 3 + maxL (row.map fun p => T.getD p 0)
noncomputable def graphN (ns : List Int) : Nat → List (List Nat) × List Nat
  | 0 => ([], [])
  | k + 1 => ((graphN ns k).1 ++ [rowOf k (scrNum ns k)], (graphN ns k).2 ++ [stampOf (graphN ns k).2 (scrNum ns k) (rowOf k (scrNum ns k))])
theorem graphN_len (ns : List Int) : ∀ k, (graphN ns k).1.length = k ∧ (graphN ns k).2.length = k
  | 0 => ⟨rfl, rfl⟩
  | k + 1 => by
    obtain ⟨h1, h2⟩ := graphN_len ns k
    simp [graphN, h1, h2]
theorem scrSize_le (ns : List Int) : scrSize ns ≤ 10 ∧ 2 ≤ scrSize ns := by
  unfold scrSize
  split <;> omega
theorem rowPar_lt {k num j : Nat} (hk : 0 < k) : rowPar k num j < k := by unfold rowPar; exact Nat.lt_of_le_of_lt (Nat.sub_le _ _) (sbC (Nat.zero_lt_of_lt hk))
theorem rowFold_lt {k num : Nat} (hk : 0 < k) : ∀ (l : List Nat) (row : List Nat), (∀ p ∈ row, p < k) → ∀ p ∈ l.foldl (rowStep k num) row, p < k
  | [], row, h => h
  | j :: r, row, h => by
    rw [List.foldl_cons]
    refine rowFold_lt hk r _ fun p hp => ?_
    unfold rowStep at hp
    split at hp
    · exact h p hp
    · rcases List.mem_append.mp hp with hp | hp
      · exact h p hp
      · rw [List.mem_singleton.mp hp]; exact rowPar_lt hk
theorem rowOf_lt {k num : Nat} : ∀ p ∈ rowOf k num, p < k := by
  unfold rowOf
  split
  · rename_i h
    exact rowFold_lt h.1 _ _ fun p hp => by cases hp
  · intro p hp; cases hp
theorem rowFold_len {k num : Nat} : ∀ (l : List Nat) (row : List Nat), (l.foldl (rowStep k num) row).length ≤ row.length + l.length
  | [], row => Nat.le_refl _
  | j :: r, row => by
    rw [List.foldl_cons]
    refine Nat.le_trans (rowFold_len r _) ?_
    unfold rowStep
    split <;> simp <;> exact far 1 [_, _] [.add (.add (.var 0) (.num 1)) (.var 1), .add (.var 0) (.add (.var 1) (.num 1))] rfl
theorem rowOf_len {k num : Nat} : (rowOf k num).length ≤ 3 := by
  unfold rowOf
  split
  · have := rowFold_len (k := k) (num := num) (List.range (1 + num / 5 % 3)) []
    simp at this
    exact far 1 [_, _] [.var 0, .num 3, .var 0, .add (.num 1) (.var 1), .add (.var 1) (.num 1), .num 3] rfl this (Nat.mod_lt _ (by decide : 3 > 0))
  · simp
theorem maxL_fold : ∀ (l : List Nat) (a : Nat), (a ≤ l.foldl max a ∧ ∀ x ∈ l, x ≤ l.foldl max a) ∧ (l.foldl max a = a ∨ l.foldl max a ∈ l)
  | [], a => ⟨⟨Nat.le_refl _, by simp⟩, .inl rfl⟩
  | b :: r, a => by
    obtain ⟨⟨h1, h2⟩, h3⟩ := maxL_fold r (max a b)
    rw [List.foldl_cons]
    refine ⟨⟨by omega, fun x hx => ?_⟩, ?_⟩
    · rcases List.mem_cons.mp hx with rfl | hx
      · omega
      · exact h2 x hx
    · rcases h3 with h3 | h3
      · by_cases hab : a ≤ b
        · right; rw [h3, Nat.max_eq_right hab]; exact .head _
        · left; rw [h3, Nat.max_eq_left (by exact Nat.le_of_lt (Nat.lt_of_not_le hab))]
      · exact .inr (.tail _ h3)
theorem maxL_eq {l : List Nat} {M : Int} (h1 : M ∈ (0 : Int) :: l.map (fun n : Nat => (n : Int))) (h2 : ∀ a ∈ (0 : Int) :: l.map (fun n : Nat => (n : Int)), a ≤ M) : M = ((maxL l : Nat) : Int) := by
  obtain ⟨⟨k1, k2⟩, k3⟩ := maxL_fold l 0
  show M = ((l.foldl max 0 : Nat) : Int)
  have hle : ((l.foldl max 0 : Nat) : Int) ≤ M := by
    rcases k3 with k3 | k3
    · rw [k3]; exact h2 0 (.head _)
    · exact h2 _ (.tail _ (List.mem_map_of_mem (f := fun n : Nat => (n : Int)) k3))
  have hge : M ≤ ((l.foldl max 0 : Nat) : Int) := by
    rcases List.mem_cons.mp h1 with h | h
    · rw [h]; exact Int.natCast_nonneg _
    · obtain ⟨n, hn, rfl⟩ := List.mem_map.mp h
      have := k2 n hn
      exact Int.ofNat_le.mpr (show n ≤ List.foldl max 0 l from this)
  omega
section
variable {g : Glo} {k : Fun} {l : List Env} {A : Around} {E : Value → Shared → Prop} {F : PMap} {X Y : XS} {G : GS} {env : Env} {s : Shared} {mg mb : Str → Option Value} {L0 : Addr} {α : Type}
theorem intsAre_get : ∀ {vs : List Value} {ns : List Int}, IntsAre vs ns → ∀ {i : Nat} {a : Int}, ns[i]? = some a → ∃ t, vs[i]? = some (.int a t)
  | _, _, .cons n t h, 0, a, e => by cases e; exact ⟨t, rfl⟩
  | _, _, .cons n t h, i + 1, a, e => intsAre_get h (by simpa using e)
theorem W_maxL {v : Value} {vs : List Value} {ns : List Int} {Φ : Cont Value} (hh : A.handled = none) (hl : LView F X v vs) (hi : IntsAre vs ns) (hne : 0 < ns.length) (h : ∀ M t, M ∈ ns → (∀ a ∈ ns, a ≤ M) → Φ (.int M t) F X G) : W g k A (call (.builtin "max") [v] []) Φ E F X G := ⟨fun s hs => by
  obtain ⟨a, o, rfl, ho, r⟩ := hs.list hl
  have hL := r.isList ho
  obtain ⟨xs, e⟩ := hi.allInts.items
  have hns : ns = xs.toList.map (·.1) := by
    rw [← hi.numsOf, ← nums_intItems, ← e]
  have hsz : 0 < xs.size := by
    have h3 := hne; rw [hns, List.length_map, Array.length_toList] at h3; exact h3
  rw [e] at hL
  refine max_intList hh hL hsz fun v h' tk hv hk => ?_
  obtain ⟨t, rfl⟩ := intItems_at hv
  obtain ⟨h1, h2⟩ := argBest_gt (numAt xs) (xs.size - 1)
  refine (hs.grow hk tk).done (h _ t ?_ fun a ha => ?_)
  · rw [hns, numAt_eq]; exact getD_mem (by rw [List.length_map, Array.length_toList]; exact Nat.lt_of_le_of_lt h1 (sbC (Nat.zero_lt_of_lt hsz)))
  · rw [hns] at ha
    obtain ⟨j, hj, rfl⟩ := mem_getD ha
    rw [List.length_map, Array.length_toList] at hj
    rw [← numAt_eq]; exact h2 j (by exact far 1 [_, _, _] [.var 0, .var 1, .add (.var 0) (.num 1), .var 2, .var 2, .add (.var 1) (.num 1)] rfl hj (sbA _ _))⟩
noncomputable def gBody (w : World) : List Stmt := match ((bodyAt w 109)[2]? : Option Stmt) with
  | some (.For _ _ body _ _) => body
  | _ => []
noncomputable def gSize (w : World) : Expr := match ((bodyAt w 109)[2]? : Option Stmt) with
  | some (.For _ (.Call _ [e] _ _) _ _ _) => e
  | _ => default
noncomputable def gNum (w : World) : Expr := match ((gBody w)[0]? : Option Stmt) with
  | some (.Assign _ e _) => e
  | _ => default
noncomputable def gIf (w : World) : Stmt := ((gBody w)[2]?).getD default
set_option maxHeartbeats 4000000
theorem W_gSize {L : Addr} {m : Str → Option Value} {Z : XS} {sv : Value} {vs : List Value} {ns : List Int} {Φ : Cont Value} (T : Top0 g (KK g.w) mg mb) (hm : m (Str.ofString "script") = some sv) (hl : FList F sv vs) (hi : IntsAre vs ns) (h63 : ns.length ≤ 63)
    (h : ∀ t, Φ (.int (scrSize ns : Nat) t) F ((L, .ns m) :: Z) G) : W g k A (eval (gSize g.w) (eAtC g.w 109 L)) Φ E F ((L, .ns m) :: Z) G := by
  have hlen := hi.length
  have hz : vs.length ≤ sizeLine := by show _ ≤ 16777216; exact far 1 [_, _] [.var 0, .num 16777216, .var 1, .num 63, .var 0, .var 1] rfl h63 (Nat.le_of_eq hlen)
  refine W_BinOp ?_
  walk_at "w"
  walk_at "w"
  walk_at "w"
  walk_at "w"
  walk_at "w"
  refine W_tL (.inl hl) hz ?_
  cases hi with
  | nil =>
    rw [if_neg (by decide)]
    walk_at "ws"
    exact h _
  | cons n t hr =>
    rw [if_pos (by simp)]
    walk_at "ws"
    refine W_item (.inl hl) (by exact Int.natCast_nonneg _) (by exact Int.ofNat_lt.mpr (show 0 < 9223372036854775808 from far 1 [] [.add (.num 0) (.num 1), .num 9223372036854775808] rfl)) (x := .int n t) rfl ?_
    walk_at "ws"
    rw [natAbsIf, show Int.fmod ((n.natAbs : Nat) : Int) 9 = ((n.natAbs % 9 : Nat) : Int) from natMod _ 9]
    have := h
    unfold scrSize at this
    simpa using this _
theorem W_gNum {L : Addr} {m : Str → Option Value} {Z : XS} {sv : Value} {vs : List Value} {ns : List Int} {i : Nat} {ti : Tok} {Φ : Cont Value} (T : Top0 g (KK g.w) mg mb) (hm : m (Str.ofString "script") = some sv) (hk : m (Str.ofString "k") = some (.int i ti)) (hl : FList F sv vs) (hi : IntsAre vs ns) (h63 : ns.length ≤ 63)
    (h : ∀ t, Φ (.int (scrNum ns i : Nat) t) F ((L, .ns m) :: Z) G) : W g k A (eval (gNum g.w) (eAtC g.w 109 L)) Φ E F ((L, .ns m) :: Z) G := by
  have hlen := hi.length
  have hz : vs.length ≤ sizeLine := by show _ ≤ 16777216; exact far 1 [_, _] [.var 0, .num 16777216, .var 1, .num 63, .var 0, .var 1] rfl h63 (Nat.le_of_eq hlen)
  refine W_IfExp ?_
  walk_at "ws"
  by_cases hlt : 1 + i < ns.length
  · obtain ⟨a, ha⟩ : ∃ a, ns[1 + i]? = some a := ⟨_, List.getElem?_eq_getElem hlt⟩
    obtain ⟨t, ht⟩ := intsAre_get hi ha
    rw [if_pos (by simp; exact Int.ofNat_lt.mpr (show 1 + i < vs.length from Nat.le_trans hlt (Nat.le_of_eq hlen.symm)))]
    walk_at "ws"
    refine W_item (.inl hl) (by exact Int.natCast_nonneg _) (by exact Int.ofNat_lt.mpr (show 1 + i < 9223372036854775808 from far 1 [_, _] [.add (.add (.num 1) (.var 0)) (.num 1), .num 9223372036854775808, .var 1, .num 63, .add (.add (.num 1) (.var 0)) (.num 1), .var 1] rfl h63 hlt)) (x := .int a t) (by rw [show (1 + (i : Int)).toNat = 1 + i by exact rfl]; exact ht) ?_
    walk_at "ws"
    rw [natAbsIf]
    have := h
    unfold scrNum at this
    rw [ha] at this
    exact this _
  · have ha : ns[1 + i]? = none := List.getElem?_eq_none (by exact Nat.le_of_not_lt hlt)
    rw [if_neg (by simp; exact Int.ofNat_le.mpr (show vs.length ≤ 1 + i from Nat.le_trans (Nat.le_of_eq hlen) (Nat.le_of_not_lt hlt)))]
    have hmul : IntMulOk 3 (i : Int) := IntMulOk.of_left (by decide)
    walk_at "ws"
    have := h
    unfold scrNum at this
    rw [ha] at this
    simpa using this _
end
end
section
section
variable {g : Glo} {k : Fun} {l : List Env} {A : Around} {E : Value → Shared → Prop} {F : PMap} {X Y : XS} {G : GS} {env : Env} {s : Shared} {mg mb : Str → Option Value} {L0 : Addr} {α : Type}
noncomputable abbrev X109 (L pa sa : Addr) (m : Str → Option Value) (pvs svs : List Value) (Z : XS) : XS := (L, .ns m) :: (L + 1, .ce (some (.ref sa))) :: (pa, .li pvs) :: (sa, .li svs) :: Z
theorem foldl_range_succ {α : Type} (f : α → Nat → α) (a : α) (n : Nat) : (List.range (n + 1)).foldl f a = f ((List.range n).foldl f a) n := by rw [List.range_succ, List.foldl_append]; rfl
set_option maxHeartbeats 4000000
theorem W_gIf {L pa sa I ra : Addr} {r : Res} {m : Str → Option Value} {pvs svs : List Value} {i num : Nat} {ti tn : Tok} {Φ : Cont Flow} (T : Top0 g (KK g.w) mg mb) (hh : A.handled = none) (hi : i < 100)
    (hk : m (Str.ofString "k") = some (.int i ti)) (hn : m (Str.ofString "number") = some (.int num tn)) (hr : m (Str.ofString "row") = some (.ref ra)) (hp : m (Str.ofString "parents") = some (.ref pa))
    (h : ∀ F' G' m' rvs, PLe F F' → m' (Str.ofString "number") = some (.int num tn) → m' (Str.ofString "row") = some (.ref ra) → m' (Str.ofString "parents") = some (.ref pa) → m' (Str.ofString "script") = m (Str.ofString "script") → Paired isNat rvs (rowOf i num) → Φ .next F' (X109 L pa sa m' pvs svs [(I, r), (ra, .li rvs)]) G') :
    W g k A (exec (gIf g.w) (eAtC g.w 109 L)) Φ E F (X109 L pa sa m pvs svs [(I, r), (ra, .li [])]) G := by
  refine W_If ?_
  walk_at "w"
  walk_at "w"
  walk_at "w"
  walk_at "ws"
  by_cases hik : ¬ 0 < i
  · rw [if_neg (by simp; exact Nat.le_antisymm ((Nat.le_of_not_lt hik)) (Nat.zero_le _))]
    rw [if_neg (by decide)]
    walk_at "ws"
    exact h _ _ _ _ .rfl hn hr hp rfl (by unfold rowOf; rw [if_neg (by exact fun hs9 => Nat.not_succ_le_zero 0 (far 0 [_] [.num 1, .num 0, .var 0, .num 0, .add (.num 0) (.num 1), .var 0] rfl (Nat.le_of_not_lt hik) hs9.1))]; exact .nil)
  have hik := Decidable.not_not.mp hik
  rw [if_pos (by simp; exact hik)]
  walk_at "ws"
  rw [show Int.fmod ((num : Nat) : Int) 5 = ((num % 5 : Nat) : Int) from natMod _ 5]
  by_cases hn5 : ¬ 0 < num % 5
  · rw [if_neg (by simp; omega)]
    rw [if_neg (by decide)]
    walk_at "ws"
    exact h _ _ _ _ .rfl hn hr hp rfl (by unfold rowOf; rw [if_neg (by omega)]; exact .nil)
  have hn5 := Decidable.not_not.mp hn5
  rw [if_pos (by simp; omega)]
  walk_at "ws"
  rw [if_pos rfl]
  walk_at "w"
  refine W_For ?_
  walk_at "ws"
  rw [show Int.fmod (Int.fdiv ((num : Nat) : Int) 5) 3 = ((num / 5 % 3 : Nat) : Int) from by rw [show Int.fdiv ((num : Nat) : Int) 5 = ((num / 5 : Nat) : Int) from natDiv _ 5]; exact natMod _ 3]
  have hrow : rowOf i num = (List.range (1 + num / 5 % 3)).foldl (rowStep i num) [] := by unfold rowOf; rw [if_pos ⟨hik, hn5⟩]
  refine W_range (by exact Int.ofNat_lt.mpr (show 1 + num / 5 % 3 < 1000000 from far 1 [_] [.add (.add (.num 1) (.var 0)) (.num 1), .num 1000000, .add (.var 0) (.num 1), .num 3] rfl (Nat.mod_lt _ (by decide : 3 > 0)))) (by exact Int.lt_of_lt_of_le (by decide : (-1000000 : Int) < 0) (show (0 : Int) ≤ ((1 + num / 5 % 3 : Nat) : Int) from Int.natCast_nonneg _)) hh fun v X' hit => hit fun I2 r2 hI2 => ?_
  have hto : (1 + ((num / 5 % 3 : Nat) : Int)).toNat = 1 + num / 5 % 3 := by exact rfl
  rw [hto] at hI2
  refine ⟨I2, r2, _, _, _, fun j F' Y' G' => ∃ m' rvs, Y' = X109 L pa sa m' pvs svs [(I, r), (ra, .li rvs)] ∧ m' (Str.ofString "k") = some (.int i ti) ∧ m' (Str.ofString "number") = some (.int num tn) ∧ m' (Str.ofString "row") = some (.ref ra) ∧ m' (Str.ofString "parents") = some (.ref pa) ∧ m' (Str.ofString "script") = m (Str.ofString "script") ∧ Paired isNat rvs ((List.range j).foldl (rowStep i num) []),
    rfl, rfl, hI2, ⟨m, [], rfl, hk, hn, hr, hp, rfl, .nil⟩, ?_, ?_⟩
  · rintro j x F1 Y1 G1 E1 hj ⟨tj, rfl⟩ le1 ⟨m1, rvs, rfl, hk1, hn1, hr1, hp1, hs1, hpr⟩
    have hj3 : j < 3 := by exact far 1 [_, _] [.add (.var 0) (.num 1), .num 3, .add (.var 0) (.num 1), .add (.num 1) (.var 1), .add (.var 1) (.num 1), .num 3] rfl hj (Nat.mod_lt _ (by decide : 3 > 0))
    have hlen := hpr.length
    have hl2 := rowFold_len (k := i) (num := num) (List.range j) []
    simp at hl2
    walk_at "w"
    walk_at "w"
    walk_at "x"
    have hk2 : upd m1 (Str.ofString "j") (.int j tj) (Str.ofString "k") = some (.int i ti) := upd_ne hk1 (by kernel_rfl)
    have hn2 : upd m1 (Str.ofString "j") (.int j tj) (Str.ofString "number") = some (.int num tn) := upd_ne hn1 (by kernel_rfl)
    have hr2 : upd m1 (Str.ofString "j") (.int j tj) (Str.ofString "row") = some (.ref ra) := upd_ne hr1 (by kernel_rfl)
    have hp2 : upd m1 (Str.ofString "j") (.int j tj) (Str.ofString "parents") = some (.ref pa) := upd_ne hp1 (by kernel_rfl)
    have hj2 : upd m1 (Str.ofString "j") (.int j tj) (Str.ofString "j") = some (.int j tj) := upd_self
    have hs2 : upd m1 (Str.ofString "j") (.int j tj) (Str.ofString "script") = m (Str.ofString "script") := by unfold upd; rw [if_neg (by decide)]; exact hs1
    generalize upd m1 (Str.ofString "j") (.int j tj) = m2 at hk2 hn2 hr2 hp2 hj2 hs2 ⊢
    walk_at "ws"
    have h5 : 5 ^ j ≤ 25 ∧ 0 < 5 ^ j := by
      have : j = 0 ∨ j = 1 ∨ j = 2 := by omega
      rcases this with rfl | rfl | rfl <;> decide
    rw [show (5 : Int) ^ ((j : Int)).toNat = ((5 ^ j : Nat) : Int) from by rw [Int.toNat_natCast, Int.natCast_pow]; rfl, show Int.fdiv ((num : Nat) : Int) 15 = ((num / 15 : Nat) : Int) from natDiv _ 15]
    refine W_fdivI (by omega) (by exact far 1 [_] [.add (.var 0) (.num 1), .num 1073741824, .var 0, .num 25] rfl h5.1) fun t1 => ?_
    rw [natDiv]
    walk_at "ws"
    refine W_min hh fun t2 => ?_
    rw [show (if (5 : Int) < (i : Int) then (5 : Int) else (i : Int)) = ((min i 5 : Nat) : Int) from by split <;> omega]
    refine W_modI (by omega) fun t3 => ?_
    rw [natMod]
    have hpar : (i : Int) - 1 - ((num / 15 / 5 ^ j % min i 5 : Nat) : Int) = ((rowPar i num j : Nat) : Int) := by
      have hlt : num / 15 / 5 ^ j % min i 5 < min i 5 := Nat.mod_lt _ (by omega)
      unfold rowPar
      generalize num / 15 / 5 ^ j % min i 5 = q at hlt
      omega
    walk_at "w"
    rw [hpar]
    rename_i t4
    walk_at "w"
    walk_at "x"
    have hk3 : upd m2 (Str.ofString "parent") (.int (rowPar i num j : Nat) t4) (Str.ofString "k") = some (.int i ti) := upd_ne hk2 (by kernel_rfl)
    have hn3 : upd m2 (Str.ofString "parent") (.int (rowPar i num j : Nat) t4) (Str.ofString "number") = some (.int num tn) := upd_ne hn2 (by kernel_rfl)
    have hr3 : upd m2 (Str.ofString "parent") (.int (rowPar i num j : Nat) t4) (Str.ofString "row") = some (.ref ra) := upd_ne hr2 (by kernel_rfl)
    have hp3 : upd m2 (Str.ofString "parent") (.int (rowPar i num j : Nat) t4) (Str.ofString "parents") = some (.ref pa) := upd_ne hp2 (by kernel_rfl)
    have hq3 : upd m2 (Str.ofString "parent") (.int (rowPar i num j : Nat) t4) (Str.ofString "parent") = some (.int (rowPar i num j : Nat) t4) := upd_self
    have hs3 : upd m2 (Str.ofString "parent") (.int (rowPar i num j : Nat) t4) (Str.ofString "script") = m (Str.ofString "script") := by unfold upd; rw [if_neg (by decide)]; exact hs2
    generalize upd m2 (Str.ofString "parent") (.int (rowPar i num j : Nat) t4) = m3 at hk3 hn3 hr3 hp3 hq3 hs3 ⊢
    walk_at "ws"
    refine W_notIn eqBy_nat (a := rowPar i num j) (vs := rvs) ⟨t4, rfl⟩ (.own (i := 5) rfl) hpr ?_
    walk_at "w"
    have hstep : (List.range (j + 1)).foldl (rowStep i num) [] = rowStep i num ((List.range j).foldl (rowStep i num) []) j := foldl_range_succ _ _ _
    by_cases hin : rowPar i num j ∈ (List.range j).foldl (rowStep i num) []
    · rw [if_neg (by simp [hin])]
      walk_at "ws"
      refine ⟨le1, _, List.Sublist.refl _, m3, rvs, rfl, hk3, hn3, hr3, hp3, hs3, ?_⟩
      rw [hstep, show rowStep i num ((List.range j).foldl (rowStep i num) []) j = _ from if_pos hin]; exact hpr
    · rw [if_pos (by simp [hin])]
      walk_at "w"
      walk_at "w"
      refine W_CallAppend ?_
      walk_at "w"
      walk_at "w"
      refine ⟨⟨rvs, .own (i := 5) rfl⟩, ?_⟩
      have hcz : rvs.length ≤ sizeLine := by show _ ≤ 16777216; exact far 1 [_, _, _] [.var 0, .num 16777216, .add (.var 1) (.num 1), .num 3, .var 0, .var 2, .var 2, .var 1] rfl hj3 (Nat.le_of_eq hlen) hl2
      walk_at "w"
      walk_at "w"
      walk_at "w"
      walk_at "w"
      walk_at "w"
      walk_at "w"
      walk_at "w"
      walk_at "w"
      walk_at "x"
      walk_at "ws"
      refine ⟨le1, _, List.Sublist.refl _, m3, _, rfl, hk3, hn3, hr3, hp3, hs3, ?_⟩
      rw [hstep, show rowStep i num ((List.range j).foldl (rowStep i num) []) j = _ from if_neg hin]; exact hpr.snoc ⟨t4, rfl⟩
  · rintro F1 Y1 G1 le1 ⟨m1, rvs, rfl, hk1, hn1, hr1, hp1, hs1, hpr⟩
    walk_at "ws"
    exact h _ _ _ _ le1 hn1 hr1 hp1 hs1 (hrow ▸ hpr)
end
end
section
section
variable {g : Glo} {k : Fun} {l : List Env} {A : Around} {E : Value → Shared → Prop} {F : PMap} {X Y : XS} {G : GS} {env : Env} {s : Shared} {mg mb : Str → Option Value} {L0 : Addr} {α : Type}
theorem nats_ints : ∀ {vs : List Value} {xs : List Nat}, Paired isNat vs xs → IntsAre vs (xs.map fun n : Nat => (n : Int))
  | _, _, .nil => .nil
  | _, _, .cons ⟨t, e⟩ h => by subst e; exact .cons _ t (nats_ints h)
theorem isNat_of {i : Int} {n : Nat} {t : Tok} (h : i = (n : Int)) : isNat (.int i t) n := ⟨t, by rw [h]⟩
set_option maxHeartbeats 4000000
theorem calls_graph (T : Top0 g (KK g.w) mg mb) (hF : PLe g.base.get? F) {n : Nat} (hr : Room A (n + 2)) (hh : A.handled = none) {sv : Value} {vs : List Value} {ns : List Int} (hl : FList F sv vs) (hi : IntsAre vs ns) (h63 : ns.length ≤ 63) :
    Calls g A (.call (.ref 109) ⟨[sv], []⟩) F (fun r F' => ∃ pv tv, FTup F' r [pv, tv] ∧ NLL F' pv (graphN ns (scrSize ns)).1 ∧ NL F' tv (graphN ns (scrSize ns)).2) := by
  refine calls_topC' T hF [(Str.ofString "script", sv)] hr (by kernel_rfl) (by kernel_rfl) (by kernel_rfl) (by kernel_rfl) (by kernel_rfl) (by kernel_rfl) (by kernel_rfl) (XC := fun L => [(L + 1, .ce none)]) (lb := [(Str.ofString "script", sv)]) (fun L => by kernel_rfl) (by kernel_rfl) (by kernel_rfl) (by kernel_rfl) (by kernel_rfl) (fun L l m hm k G H => ?_)
  simp only [BindsAre] at hm
  obtain ⟨b1, -⟩ := hm
  have hsz := scrSize_le ns
  walk_at "w"
  walk_at "w"
  refine W_ListO ?_
  walk_at "w"
  refine ⟨by show 0 ≤ 16777216; exact Nat.zero_le _, fun pa => ?_⟩
  walk_at "w"
  walk_at "x"
  walk_at "w"
  walk_at "w"
  refine W_ListO ?_
  walk_at "w"
  refine ⟨by show 0 ≤ 16777216; exact Nat.zero_le _, fun sa => ?_⟩
  walk_at "w"
  walk_at "x"
  have c1 : upd m (Str.ofString "parents") (.ref pa) (Str.ofString "script") = some sv := upd_ne b1 (by kernel_rfl)
  have c2 : upd m (Str.ofString "parents") (.ref pa) (Str.ofString "parents") = some (.ref pa) := upd_self
  generalize upd m (Str.ofString "parents") (.ref pa) = m1 at c1 c2 ⊢
  walk_at "w"
  refine W_For ?_
  walk_at "w"
  walk_at "w"
  walk_at "w"
  walk_at "w"
  walk_at "w"
  refine W_gSize (vs := vs) T c1 hl hi h63 fun ts => ?_
  walk_at "w"
  walk_at "w"
  refine W_range (by exact Int.ofNat_lt.mpr (show scrSize ns < 1000000 from far 1 [_] [.add (.var 0) (.num 1), .num 1000000, .var 0, .num 10] rfl hsz.1)) (by exact Int.lt_of_lt_of_le (by decide : (-1000000 : Int) < 0) (show (0 : Int) ≤ ((scrSize ns : Nat) : Int) from Int.natCast_nonneg _)) hh fun v X' hit => hit fun I r hI => ?_
  rw [show (((scrSize ns : Nat) : Int)).toNat = scrSize ns from by exact rfl] at hI
  refine ⟨I, r, _, _, _, fun i F' Y' G' => ∃ m pvs svs, Y' = X109 L pa sa m pvs svs [] ∧ m (Str.ofString "script") = some sv ∧ m (Str.ofString "parents") = some (.ref pa) ∧ Paired (NL F') pvs (graphN ns i).1 ∧ Paired isNat svs (graphN ns i).2, rfl, rfl, hI, ⟨m1, [], [], rfl, c1, c2, .nil, .nil⟩, ?_, ?_⟩
  · rintro i x F1 Y1 G1 E1 hii ⟨ti, rfl⟩ le1 ⟨m2, pvs, svs, rfl, d1, d2, hpp, hsp⟩
    obtain ⟨gl1, gl2⟩ := graphN_len ns i
    have pl := hpp.length
    have sl := hsp.length
    walk_at "w"
    walk_at "w"
    walk_at "x"
    have e1 : upd m2 (Str.ofString "k") (.int i ti) (Str.ofString "script") = some sv := upd_ne d1 (by kernel_rfl)
    have e2 : upd m2 (Str.ofString "k") (.int i ti) (Str.ofString "parents") = some (.ref pa) := upd_ne d2 (by kernel_rfl)
    have e3 : upd m2 (Str.ofString "k") (.int i ti) (Str.ofString "k") = some (.int i ti) := upd_self
    generalize upd m2 (Str.ofString "k") (.int i ti) = m3 at e1 e2 e3 ⊢
    walk_at "w"
    walk_at "w"
    refine W_gNum (vs := vs) (i := i) T e1 e3 (hl.mono le1) hi h63 fun tn => ?_
    generalize hnum : scrNum ns i = num
    walk_at "w"
    walk_at "x"
    walk_at "w"
    walk_at "w"
    refine W_ListO ?_
    walk_at "w"
    refine ⟨by show 0 ≤ 16777216; exact Nat.zero_le _, fun ra => ?_⟩
    walk_at "w"
    walk_at "x"
    walk_at "w"
    refine W_gIf (i := i) (num := num) (ti := ti) (tn := tn) T hh (by exact far 1 [_, _] [.add (.var 0) (.num 1), .num 100, .var 1, .num 10, .add (.var 0) (.num 1), .var 1] rfl hsz.1 hii) (upd_ne (upd_ne e3 (by kernel_rfl)) (by kernel_rfl)) (upd_ne upd_self (by kernel_rfl)) upd_self (upd_ne (upd_ne e2 (by kernel_rfl)) (by kernel_rfl)) fun F2 G2 m4 rvs le2 f1 f2 f3 f4 hrp => ?_
    have f4 : m4 (Str.ofString "script") = some sv := by rw [f4]; exact upd_ne (upd_ne e1 (by kernel_rfl)) (by kernel_rfl)
    have rl := hrp.length
    have rl3 := rowOf_len (k := i) (num := num)
    walk_at "w"
    refine W_freezeLi (i := 5) rfl fun F3 le3 hra => ?_
    walk_at "x"
    walk_at "w"
    refine W_CallAppend ?_
    walk_at "w"
    walk_at "w"
    refine ⟨⟨pvs, .own (i := 2) rfl⟩, ?_⟩
    have hcz : pvs.length ≤ sizeLine := by show _ ≤ 16777216; exact far 1 [_, _, _, _] [.var 0, .num 16777216, .var 1, .num 10, .add (.var 2) (.num 1), .var 1, .var 3, .var 2, .var 0, .var 3] rfl hsz.1 hii (Nat.le_of_eq gl1) (Nat.le_of_eq pl)
    walk_at "w"
    walk_at "w"
    walk_at "w"
    walk_at "w"
    walk_at "w"
    walk_at "w"
    walk_at "w"
    walk_at "w"
    walk_at "x"
    walk_at "w"
    walk_at "w"
    refine W_CallAppend ?_
    walk_at "w"
    walk_at "w"
    refine ⟨⟨svs, .own (i := 3) rfl⟩, ?_⟩
    walk_at "ws"
    refine W_ListF ?_
    walk_at "ws"
    refine ⟨by show 1 ≤ 16777216; exact far 1 [] [.num 1, .num 16777216] rfl, fun F4 zv le4 hzv => ?_⟩
    refine W_ListComp none _ ?_ (hclos := closureFor_list (by kernel_rfl))
    walk_at "ws"
    refine W_iterL hh (hra.mono le4) fun I2 r2 hI2 => ?_
    refine ⟨I2, r2, _, _, _, fun q ys _ => Paired isNat ys (((rowOf i num).take q).map fun p => (graphN ns i).2.getD p 0), rfl, rfl, (by show _ ≤ 16777216; exact far 1 [_, _] [.var 0, .num 16777216, .var 0, .var 1, .var 1, .num 3] rfl (Nat.le_of_eq rl) rl3), hI2, ⟨.nil, ?_⟩, ?_⟩
    · rintro q x ys F5 G5 m5 cv C Dc E5 hq hx le5 hJ hy
      obtain ⟨p, hp, tp, rfl⟩ := paired_get' hrp hx
      have hpi := rowOf_lt p (List.mem_of_getElem? hp)
      obtain ⟨st, hst⟩ : ∃ st, (graphN ns i).2[p]? = some st := ⟨_, List.getElem?_eq_getElem (by exact Nat.le_trans hpi (Nat.le_of_eq gl2.symm))⟩
      obtain ⟨stv, hstv, tst, rfl⟩ := paired_get hsp hst
      walk_at "w"
      walk_at "w"
      walk_at "x"
      refine W_tests0 ?_
      rw [if_pos rfl]
      walk_at "ws"
      refine W_item (vs := svs) (by walk_at "lv") (by exact Int.natCast_nonneg _) (by exact Int.ofNat_lt.mpr (show p < 9223372036854775808 from far 1 [_, _, _] [.add (.var 0) (.num 1), .num 9223372036854775808, .var 1, .num 10, .add (.var 2) (.num 1), .var 1, .add (.var 0) (.num 1), .var 2] rfl hsz.1 hii hpi)) hstv ?_
      refine ⟨by walk_at "sub", le5, ?_⟩
      rw [take_snoc hp, List.map_append]
      refine hJ.snoc ?_
      have hg : (graphN ns i).2.getD p 0 = st := by simp [List.getD, hst]
      show isNat _ ((graphN ns i).2.getD p 0)
      rw [hg]
      exact ⟨tst, rfl⟩
    · rintro ys F5 F6 G6 yv le5 hys le6 hyl hyv
      rw [List.take_of_length_le (by exact Nat.le_of_eq rl.symm)] at hys
      have yl := hys.length
      rw [List.length_map] at yl
      refine W_addL (.inl (hzv.mono (le5.trans le6))) (.inl hyv) (by show 1 + _ ≤ 16777216; exact far 1 [_, _] [.add (.num 1) (.var 0), .num 16777216, .var 1, .num 3, .var 0, .var 1] rfl rl3 (Nat.le_of_eq yl)) fun F7 av le7 hav => ?_
      walk_at "w"
      walk_at "w"
      refine W_maxL hh (.inl hav) (ns := 0 :: ((rowOf i num).map fun p => (graphN ns i).2.getD p 0).map fun n : Nat => (n : Int)) (.cons 0 _ (nats_ints hys)) (by simp) fun M tM hM1 hM2 => ?_
      rw [maxL_eq hM1 hM2]
      have hsz2 : svs.length ≤ sizeLine := by show _ ≤ 16777216; exact far 1 [_, _, _, _] [.var 0, .num 16777216, .var 1, .num 10, .add (.var 2) (.num 1), .var 1, .var 3, .var 2, .var 0, .var 3] rfl hsz.1 hii (Nat.le_of_eq gl2) (Nat.le_of_eq sl)
      walk_at "w"
      rw [show Int.fmod (Int.fdiv ((num : Nat) : Int) 1875) 3 = ((num / 1875 % 3 : Nat) : Int) from by rw [show Int.fdiv ((num : Nat) : Int) 1875 = ((num / 1875 : Nat) : Int) from natDiv _ 1875]; exact natMod _ 3]
      walk_at "w"
      walk_at "w"
      walk_at "w"
      walk_at "w"
      walk_at "x"
      walk_at "ws"
      have le37 := ((le4.trans le5).trans le6).trans le7
      have le17 := (le2.trans le3).trans le37
      refine ⟨le1.trans le17, _, List.Sublist.refl _, m4, _, _, rfl, f4, f3, ?_, ?_⟩
      · show Paired _ _ ((graphN ns i).1 ++ [rowOf i (scrNum ns i)])
        rw [hnum]
        exact (paired_mono hpp fun _ _ r => r.mono le17).snoc ⟨rvs, hra.mono le37, hrp⟩
      · show Paired _ _ ((graphN ns i).2 ++ [stampOf (graphN ns i).2 (scrNum ns i) (rowOf i (scrNum ns i))])
        rw [hnum]
        refine hsp.snoc (isNat_of ?_)
        unfold stampOf
        simp only [Int.natCast_add]
        rfl
  · rintro F1 Y1 G1 le1 ⟨m2, pvs, svs, rfl, d1, d2, hpp, hsp⟩
    show W _ _ _ _ _ _ _ _ _
    refine W_freezeLi (i := 2) rfl fun F2 le2 hpa => ?_
    walk_at "x"
    refine W_freezeLi (i := 2) rfl fun F3 le3 hsa => ?_
    walk_at "x"
    walk_at "ws"
    refine ⟨by show 2 ≤ 16777216; exact far 1 [] [.num 2, .num 16777216] rfl, fun F4 rv le4 hrv => ?_⟩
    exact ⟨((le1.trans le2).trans le3).trans le4, _, _, hrv, ⟨pvs, hpa.mono (le3.trans le4), paired_mono hpp fun _ _ r => r.mono ((le2.trans le3).trans le4)⟩, svs, hsa.mono le4, hsp⟩
end
end
section
/-! law: cells that are frozen, and what it reckons -/
noncomputable def CellAt (F : PMap) (c : Addr) (v : Value) : Prop := ∃ o, F c = some o ∧ o.data = .cell (some v)
theorem CellAt.mono {F F' : PMap} {c : Addr} {v : Value} (h : CellAt F c v) (le : PLe F F') : CellAt F' c v := let ⟨o, a, b⟩ := h; ⟨o, le _ _ a, b⟩
noncomputable def lawPick (ns : List Int) : Nat := match ns[scrSize ns + 1]? with
  | some a => a.natAbs
  | none => 0
noncomputable abbrev LP (ns : List Int) : List (List Nat) := (graphN ns (scrSize ns)).1
noncomputable abbrev LT (ns : List Int) : List Nat := (graphN ns (scrSize ns)).2
noncomputable def isGone (pick k : Nat) : Bool := decide (pick / 7 ^ 6 % 4 = 1) && decide (pick / 7 ^ 7 / 5 ^ k % 5 = 0)
noncomputable def LG (ns : List Int) : List Nat := (List.range (scrSize ns)).filter (isGone (lawPick ns))
section
variable {g : Glo} {k : Fun} {l : List Env} {A : Around} {E : Value → Shared → Prop} {F : PMap} {X Y : XS} {G : GS} {env : Env} {s : Shared} {mg mb : Str → Option Value} {L0 : Addr} {α : Type}
theorem W_cL {x : Str} {v : Value} {c : Addr} {Φ : Cont Value} (h : CellAt F c v) (hq : Φ v F X G) (hl : env.kindOf x = some .cell := by kernel_rfl) (hc : env.cells.lookup x = some c := by kernel_rfl)
    (hk : env.scope.kind = .function := by kernel_rfl) (hd : (x == ("__classdict__" : Str)) = false := by kernel_rfl) : W g k A (loadName env x) Φ E F X G := let ⟨_, a, b⟩ := h; W_cellF (.inl hl) hc a b hq hk hd
theorem W_cR {x : Str} {v : Value} {c : Addr} {Φ : Cont Value} (h : CellAt F c v) (hq : Φ v F X G) (hl : env.kindOf x = some .free := by kernel_rfl) (hc : env.cells.lookup x = some c := by kernel_rfl)
    (hk : env.scope.kind = .function := by kernel_rfl) (hd : (x == ("__classdict__" : Str)) = false := by kernel_rfl) : W g k A (loadName env x) Φ E F X G := let ⟨_, a, b⟩ := h; W_cellF (.inr hl) hc a b hq hk hd
theorem W_fzCell {t : Sem α} {Φ : Cont α} {a : Addr} {v : Value} (i : Nat) (hx : X[i]? = some (a, .ce (some v))) (h : ∀ F', PLe F F' → CellAt F' a v → W g k A t Φ E F' (X.eraseIdx i) G) : W g k A t Φ E F X G := W_freezeCe hx fun F' oc le h1 h2 => h F' le ⟨oc, h1, h2⟩
noncomputable def tl126 (w : World) (i : Nat) : List Stmt := (bodyAt w 126).drop i
noncomputable abbrev E126 (w : World) (L : Addr) : Env := eAtC w 126 L
set_option maxHeartbeats 4000000
/-- statements 0 to 2 -/
theorem W_law0 {L : Addr} {m : Str → Option Value} {sv : Value} {vs : List Value} {ns : List Int} {Φ : Cont Flow} (T : Top0 g (KK g.w) mg mb) (hF : PLe g.base.get? F) (hh : A.handled = none) (hr : Room A 12) (H : Here k (E126 g.w L :: l) A L)
    (hm : m (Str.ofString "script") = some sv) (hl : FList F sv vs) (hi : IntsAre vs ns) (h63 : ns.length ≤ 63)
    (h : ∀ F' G' pv tv tz tk, PLe F F' → CellAt F' (L + 1) pv → NLL F' pv (LP ns) → CellAt F' (L + 2) tv → NL F' tv (LT ns) → CellAt F' (L + 3) (.int (scrSize ns : Nat) tz) → CellAt F' (L + 4) (.int (lawPick ns : Nat) tk) →
      W g k A (execs (tl126 g.w 3) (E126 g.w L)) Φ E F' [(L, .ns m), (L + 10, .ce none), (L + 9, .ce none), (L + 8, .ce none), (L + 7, .ce none), (L + 6, .ce none), (L + 5, .ce none)] G') :
    W g k A (execs (tl126 g.w 0) (E126 g.w L)) Φ E F [(L, .ns m), (L + 10, .ce none), (L + 9, .ce none), (L + 8, .ce none), (L + 7, .ce none), (L + 6, .ce none), (L + 5, .ce none), (L + 4, .ce none), (L + 3, .ce none), (L + 2, .ce none), (L + 1, .ce none)] G := by
  have hlen := hi.length
  have hz : vs.length ≤ sizeLine := by show _ ≤ 16777216; exact far 1 [_, _] [.var 0, .num 16777216, .var 1, .num 63, .var 0, .var 1] rfl h63 (Nat.le_of_eq hlen)
  have hsz := scrSize_le ns
  walk_at "w"
  walk_at "w"
  walk_at "ws"
  refine ⟨keeps_top T hF (by kernel_rfl) (by kernel_rfl), ?_⟩
  refine W_calls (i := 0) H rfl (calls_graph (n := 10) T hF hr hh hl hi h63) fun rv F1 G1 le1 hrv => ?_
  obtain ⟨pv, tv, hrv, hpv, htv⟩ := hrv
  refine W_unpack2 (.inl hh) hrv ?_
  walk_at "w"
  walk_at "w"
  walk_at "x"
  refine W_fzCell 10 rfl fun F2 le2 hcP => ?_
  walk_at "x"
  walk_at "w"
  walk_at "w"
  walk_at "x"
  refine W_fzCell 9 rfl fun F3 le3 hcS => ?_
  walk_at "x"
  obtain ⟨pvs, hpl, hpp⟩ := id hpv
  have pl := hpp.length
  rw [(graphN_len ns _).1] at pl
  have hpz : pvs.length ≤ sizeLine := by show _ ≤ 16777216; exact far 1 [_, _] [.var 0, .num 16777216, .var 1, .num 10, .var 0, .var 1] rfl hsz.1 (Nat.le_of_eq pl)
  walk_at "w"
  walk_at "w"
  walk_at "ws"
  refine W_cL (hcP.mono le3) ?_
  walk_at "w"
  walk_at "w"
  refine W_len (.inl (hpl.mono (le2.trans le3))) hpz fun tz => ?_
  rw [pl]
  walk_at "w"
  walk_at "x"
  refine W_fzCell 8 rfl fun F4 le4 hcZ => ?_
  walk_at "x"
  have le34 := le3.trans le4
  have le24 := le2.trans le34
  have le14 := le1.trans le24
  walk_at "w"
  walk_at "w"
  walk_at "w"
  walk_at "w"
  walk_at "w"
  walk_at "w"
  refine W_cL hcZ ?_
  walk_at "w"
  walk_at "w"
  walk_at "w"
  walk_at "w"
  walk_at "w"
  walk_at "w"
  walk_at "w"
  walk_at "w"
  walk_at "w"
  walk_at "w"
  walk_at "w"
  refine W_len (.inl (hl.mono le14)) hz fun t9 => ?_
  walk_at "w"
  walk_at "w"
  by_cases hlt : scrSize ns + 1 < ns.length
  · obtain ⟨a, ha⟩ : ∃ a, ns[scrSize ns + 1]? = some a := ⟨_, List.getElem?_eq_getElem hlt⟩
    obtain ⟨t, ht⟩ := intsAre_get hi ha
    have hpk : lawPick ns = a.natAbs := by unfold lawPick; rw [ha]
    rw [if_pos (by simp; exact Int.ofNat_lt.mpr (show scrSize ns + 1 < vs.length from Nat.le_trans hlt (Nat.le_of_eq hlen.symm)))]
    walk_at "ws"
    refine W_cL hcZ ?_
    walk_at "ws"
    refine W_item (.inl (hl.mono le14)) (by exact Int.natCast_nonneg _) (by exact Int.ofNat_lt.mpr (show scrSize ns + 1 < 9223372036854775808 from far 1 [_] [.add (.add (.var 0) (.num 1)) (.num 1), .num 9223372036854775808, .var 0, .num 10] rfl hsz.1)) (x := .int a t) (by rw [show (((scrSize ns : Nat) : Int) + 1).toNat = scrSize ns + 1 by exact rfl]; exact ht) ?_
    walk_at "w"
    walk_at "w"
    walk_at "w"
    rw [natAbsIf, ← hpk]
    walk_at "w"
    walk_at "x"
    refine W_fzCell 7 rfl fun F5 le5 hcK => ?_
    walk_at "x"
    exact h _ _ _ _ _ _ (le14.trans le5) (hcP.mono (le34.trans le5)) (hpv.mono (le24.trans le5)) (hcS.mono (le4.trans le5)) (htv.mono (le24.trans le5)) (hcZ.mono le5) hcK
  · have ha : ns[scrSize ns + 1]? = none := List.getElem?_eq_none (by exact Nat.le_of_not_lt hlt)
    have hpk : lawPick ns = 0 := by unfold lawPick; rw [ha]
    rw [if_neg (by simp; exact Int.ofNat_le.mpr (show vs.length ≤ scrSize ns + 1 from Nat.le_trans (Nat.le_of_eq hlen) (Nat.le_of_not_lt hlt)))]
    walk_at "w"
    walk_at "w"
    walk_at "x"
    refine W_fzCell 7 rfl fun F5 le5 hcK => ?_
    walk_at "x"
    rename_i t7
    refine h _ _ _ _ _ t7 (le14.trans le5) (hcP.mono (le34.trans le5)) (hpv.mono (le24.trans le5)) (hcS.mono (le4.trans le5)) (htv.mono (le24.trans le5)) (hcZ.mono le5) ?_
    rw [hpk]
    exact hcK
end
end
section
section
variable {g : Glo} {k : Fun} {l : List Env} {A : Around} {E : Value → Shared → Prop} {F : PMap} {X Y : XS} {G : GS} {env : Env} {s : Shared} {mg mb : Str → Option Value} {L0 : Addr} {α : Type}
theorem filter_range_yes {p : Nat → Bool} {i : Nat} (hp : p i = true) : (List.range (i + 1)).filter p = (List.range i).filter p ++ [i] := by
  rw [List.range_succ, List.filter_append]
  simp [hp]
theorem pow7 (j : Nat) : (7 : Int) ^ ((j : Int)).toNat = ((7 ^ j : Nat) : Int) := by rw [Int.toNat_natCast, Int.natCast_pow]; rfl
theorem pow5 (j : Nat) : (5 : Int) ^ ((j : Int)).toNat = ((5 ^ j : Nat) : Int) := by rw [Int.toNat_natCast, Int.natCast_pow]; rfl
set_option maxHeartbeats 4000000
theorem W_law3 {L : Addr} {m : Str → Option Value} {ns : List Int} {tz tk : Tok} {Z : XS} {Φ : Cont Flow} (T : Top0 g (KK g.w) mg mb) (hF : PLe g.base.get? F) (hh : A.handled = none)
    (hcZ : CellAt F (L + 3) (.int (scrSize ns : Nat) tz)) (hcK : CellAt F (L + 4) (.int (lawPick ns : Nat) tk))
    (h : ∀ F' G' gv, PLe F F' → CellAt F' (L + 5) gv → NL F' gv (LG ns) →
      W g k A (execs (tl126 g.w 4) (E126 g.w L)) Φ E F' [(L, .ns m), (L + 10, .ce none), (L + 9, .ce none), (L + 8, .ce none), (L + 7, .ce none), (L + 6, .ce none)] G') :
    W g k A (execs (tl126 g.w 3) (E126 g.w L)) Φ E F [(L, .ns m), (L + 10, .ce none), (L + 9, .ce none), (L + 8, .ce none), (L + 7, .ce none), (L + 6, .ce none), (L + 5, .ce none)] G := by
  have hsz := scrSize_le ns
  walk_at "w"
  refine W_AssignName ?_
  refine W_ListComp none _ ?_ (hclos := closureFor_list (by kernel_rfl))
  walk_at "ws"
  refine W_cL hcZ ?_
  walk_at "ws"
  refine W_range (by exact Int.ofNat_lt.mpr (show scrSize ns < 1000000 from far 1 [_] [.add (.var 0) (.num 1), .num 1000000, .var 0, .num 10] rfl hsz.1)) (by exact Int.lt_of_lt_of_le (by decide : (-1000000 : Int) < 0) (show (0 : Int) ≤ ((scrSize ns : Nat) : Int) from Int.natCast_nonneg _)) hh fun v X' hit => hit fun I r hI => ?_
  rw [show (((scrSize ns : Nat) : Int)).toNat = scrSize ns from by exact rfl] at hI
  refine ⟨I, r, _, _, _, fun q ys _ => Paired isNat ys ((List.range q).filter (isGone (lawPick ns))), rfl, rfl, (by show _ ≤ 16777216; exact far 1 [_] [.var 0, .num 16777216, .var 0, .num 10] rfl hsz.1), hI, ⟨.nil, ?_⟩, ?_⟩
  · rintro q x ys F5 G5 m5 cv C Dc E5 hq ⟨tq, rfl⟩ le5 hJ hy
    walk_at "w"
    walk_at "w"
    walk_at "x"
    refine W_tests1 ?_
    walk_at "ws"
    refine W_cL (hcK.mono le5) ?_
    walk_at "ws"
    rw [show (7 : Int) ^ Int.toNat 6 = ((7 ^ 6 : Nat) : Int) from pow7 6, natDiv, show Int.fmod ((lawPick ns / 7 ^ 6 : Nat) : Int) 4 = ((lawPick ns / 7 ^ 6 % 4 : Nat) : Int) from natMod _ 4, show (((lawPick ns / 7 ^ 6 % 4 : Nat) : Int) == 1) = decide (lawPick ns / 7 ^ 6 % 4 = 1) from natBeq _ 1]
    by_cases h1 : lawPick ns / 7 ^ 6 % 4 = 1
    · rw [if_pos (decide_eq_true h1)]
      walk_at "ws"
      refine W_cL (hcK.mono le5) ?_
      walk_at "ws"
      have h5 : 5 ^ q < 1073741824 ∧ 0 < 5 ^ q := by
        have hq2 : q ≤ 9 := by exact far 1 [_, _] [.var 0, .num 9, .var 1, .num 10, .add (.var 0) (.num 1), .var 1] rfl hsz.1 hq
        exact ⟨Nat.lt_of_le_of_lt (Nat.pow_le_pow_right (by decide) hq2) (by decide), Nat.pow_pos (by decide)⟩
      rw [pow5, show (7 : Int) ^ Int.toNat 7 = ((7 ^ 7 : Nat) : Int) from pow7 7, natDiv]
      refine W_fdivI (by omega) (by exact h5.1) fun t1 => ?_
      rw [natDiv]
      walk_at "ws"
      rw [show Int.fmod ((lawPick ns / 7 ^ 7 / 5 ^ q : Nat) : Int) 5 = ((lawPick ns / 7 ^ 7 / 5 ^ q % 5 : Nat) : Int) from natMod _ 5, show (((lawPick ns / 7 ^ 7 / 5 ^ q % 5 : Nat) : Int) == 0) = decide (lawPick ns / 7 ^ 7 / 5 ^ q % 5 = 0) from natBeq _ 0]
      by_cases h2 : lawPick ns / 7 ^ 7 / 5 ^ q % 5 = 0
      · have hg : isGone (lawPick ns) q = true := by unfold isGone; rw [decide_eq_true h1, decide_eq_true h2]; rfl
        rw [if_pos (decide_eq_true h2)]
        walk_at "w"
        rw [if_pos rfl]
        walk_at "ws"
        refine ⟨by walk_at "sub", le5, ?_⟩
        rw [filter_range_yes hg]
        exact hJ.snoc ⟨_, rfl⟩
      · have hg : isGone (lawPick ns) q = false := by unfold isGone; rw [decide_eq_false h2, Bool.and_false]
        rw [if_neg (by simpa using h2)]
        rw [if_neg (by decide)]
        refine ⟨by walk_at "sub", le5, ?_⟩
        rw [filter_range_no hg]
        exact hJ
    · have hg : isGone (lawPick ns) q = false := by unfold isGone; rw [decide_eq_false h1, Bool.false_and]
      rw [if_neg (by simpa using h1)]
      rw [if_neg (by decide)]
      refine ⟨by walk_at "sub", le5, ?_⟩
      rw [filter_range_no hg]
      exact hJ
  · rintro ys F5 F6 G6 yv le5 hys le6 hyl hyv
    walk_at "w"
    walk_at "x"
    refine W_fzCell 6 rfl fun F7 le7 hcG => ?_
    walk_at "x"
    exact h _ _ _ ((le5.trans le6).trans le7) hcG ⟨ys, hyv.mono le7, hys⟩
end
end
section
noncomputable def tabIdx (gone : List Nat) (i : Nat) (b : Name) : Option Nat := (List.range i).find? fun k => decide (lawName k = b) && !decide (k ∈ gone)
theorem tabIdx_succ (gone : List Nat) (i : Nat) (b : Name) : tabIdx gone (i + 1) b = (tabIdx gone i b).or (if lawName i = b ∧ i ∉ gone then some i else none) := by
  unfold tabIdx
  rw [List.range_succ, List.find?_append]
  congr 1
  rw [List.find?_cons]
  by_cases h1 : lawName i = b <;> by_cases h2 : i ∈ gone <;> simp [h1, h2]
theorem lawName_inj {i j : Nat} (hi : i < 11) (hj : j < 11) (h : lawName i = lawName j) : i = j := by
  have key : ∀ i j : Fin 11, lawName i = lawName j → i = j := by decide +kernel
  have := key ⟨i, hi⟩ ⟨j, hj⟩ h
  injection this
theorem tabIdx_lt {gone : List Nat} {i : Nat} {b : Name} {k : Nat} (h : tabIdx gone i b = some k) : k < i ∧ lawName k = b ∧ k ∉ gone := by
  have h1 := List.find?_some h
  have h2 := List.mem_of_find?_eq_some h
  simp at h1 h2
  exact ⟨h2, h1⟩
theorem tabIdx_self {gone : List Nat} {i : Nat} (hi : i < 11) : tabIdx gone i (lawName i) = none := by
  cases h : tabIdx gone i (lawName i) with
  | none => rfl
  | some k =>
    obtain ⟨h1, h2, _⟩ := tabIdx_lt h
    have := lawName_inj (by exact Nat.le_trans h1 (Nat.le_of_lt hi)) hi h2
    exact False.elim (Nat.not_succ_le_zero 0 (far 0 [_, _] [.num 1, .num 0, .add (.var 0) (.num 1), .var 1, .var 1, .var 0] rfl h1 (Nat.le_of_eq this.symm)))
noncomputable def TabOk (R : Value → Nat → Prop) (gone : List Nat) (i : Nat) (kv : KV) : Prop := ∀ b, (valueAt kv b = none ∧ tabIdx gone i b = none) ∨ ∃ v k, valueAt kv b = some v ∧ tabIdx gone i b = some k ∧ R v k
theorem TabOk.mono {R R' : Value → Nat → Prop} {gone : List Nat} {i : Nat} {kv : KV} (h : TabOk R gone i kv) (hr : ∀ v k, R v k → R' v k) : TabOk R' gone i kv := fun b => (h b).imp id fun ⟨v, k, a, b, c⟩ => ⟨v, k, a, b, hr _ _ c⟩
theorem TabOk.skip {R : Value → Nat → Prop} {gone : List Nat} {i : Nat} {kv : KV} (h : TabOk R gone i kv) (hg : i ∈ gone) : TabOk R gone (i + 1) kv := fun b => by
  rw [tabIdx_succ, if_neg (fun x => x.2 hg), Option.or_none]
  exact h b
theorem TabOk.step {R : Value → Nat → Prop} {gone : List Nat} {i : Nat} {kv : KV} (h : TabOk R gone i kv) (hg : i ∉ gone) (hi : i < 11) {v : Value} (hv : R v i) : TabOk R gone (i + 1) (stored kv (lawName i) v) := fun b => by
  rw [valueAt_stored, tabIdx_succ]
  by_cases hb : b = lawName i
  · subst hb
    rw [if_pos rfl, if_pos ⟨rfl, hg⟩, tabIdx_self hi]
    exact .inr ⟨v, i, rfl, rfl, hv⟩
  · rw [if_neg hb, if_neg (fun x => hb x.1.symm), Option.or_none]
    exact h b
noncomputable abbrev RowR (F : PMap) (P : List (List Nat)) (v : Value) (k : Nat) : Prop := BL F v ((P.getD k []).map lawName)
noncomputable abbrev TimR (T : List Nat) (v : Value) (k : Nat) : Prop := isNat v (T.getD k 0)
theorem graphN_row (ns : List Int) : ∀ (n k : Nat) (row : List Nat), (graphN ns n).1[k]? = some row → row = rowOf k (scrNum ns k)
  | 0, k, row, h => by simp [graphN] at h
  | n + 1, k, row, h => by
    have hl := (graphN_len ns n).1
    simp only [graphN] at h
    by_cases hk : k < n
    · rw [List.getElem?_append_left (by exact Nat.le_trans hk (Nat.le_of_eq hl.symm))] at h
      exact graphN_row ns n k row h
    · rw [List.getElem?_append_right (by exact Nat.le_trans (Nat.le_of_eq hl) (Nat.le_of_not_lt hk)), hl] at h
      by_cases hk2 : k = n
      · subst hk2
        simp at h
        exact h.symm
      · rw [List.getElem?_eq_none (by simp; exact far 1 [_, _, _] [.num 1, .var 0, .var 1, .add (.var 0) (.var 2), .add (.var 2) (.num 1), .var 1] rfl (sbA _ _) (Nat.lt_of_le_of_ne ((Nat.le_of_not_lt hk)) (Ne.symm hk2)))] at h
        cases h
section
variable {g : Glo} {k : Fun} {l : List Env} {A : Around} {E : Value → Shared → Prop} {F : PMap} {X Y : XS} {G : GS} {env : Env} {s : Shared} {mg mb : Str → Option Value} {L0 : Addr} {α : Type}
theorem W_lawName {v : Value} {i j : Nat} {m : Str → Option Value} {Φ : Cont Value} (T : Top0 g (KK g.w) mg mb) (hF : PLe g.base.get? F) (H : Here k l A L0) (hx : X[j]? = some (L0, .ns m)) (hr : Room A 5) (hh : A.handled = none) (hv : isInt v i) (hi : i < 100)
    (h : ∀ r F' G', PLe F F' → isBy r (lawName i) → Φ r F' X G') : W g k A (call (.ref 121) [v] []) Φ E F X G :=
  W_calls H hx (calls_law_name (n := 4) T hF hr hh hv hi) fun r F' G' le hr => h r F' G' le hr
set_option maxHeartbeats 4000000
theorem W_law4 {L : Addr} {m : Str → Option Value} {ns : List Int} {tz : Tok} {pv tv gv : Value} {Φ : Cont Flow} (T : Top0 g (KK g.w) mg mb) (hF : PLe g.base.get? F) (hh : A.handled = none) (hr : Room A 12) (H : Here k (E126 g.w L :: l) A L)
    (hcP : CellAt F (L + 1) pv) (hpv : NLL F pv (LP ns)) (hcS : CellAt F (L + 2) tv) (htv : NL F tv (LT ns)) (hcZ : CellAt F (L + 3) (.int (scrSize ns : Nat) tz)) (hcG : CellAt F (L + 5) gv) (hgv : NL F gv (LG ns))
    (h : ∀ F' G' m' td sd kv1 kv2, PLe F F' → CellAt F' (L + 9) (.ref td) → CellAt F' (L + 10) (.ref sd) → (td == sysModules) = false → (sd == sysModules) = false → FHolds g F' td (.di kv1) → FHolds g F' sd (.di kv2) →
      TabOk (RowR F' (LP ns)) (LG ns) (scrSize ns) kv1 → TabOk (TimR (LT ns)) (LG ns) (scrSize ns) kv2 →
      W g k A (execs (tl126 g.w 7) (E126 g.w L)) Φ E F' [(L, .ns m'), (L + 8, .ce none), (L + 7, .ce none), (L + 6, .ce none)] G') :
    W g k A (execs (tl126 g.w 4) (E126 g.w L)) Φ E F [(L, .ns m), (L + 10, .ce none), (L + 9, .ce none), (L + 8, .ce none), (L + 7, .ce none), (L + 6, .ce none)] G := by
  have hsz := scrSize_le ns
  walk_at "w"
  walk_at "w"
  refine W_DictN T fun td htd => ?_
  walk_at "w"
  walk_at "x"
  refine W_fzCell 2 rfl fun F1 le1 hcT => ?_
  walk_at "x"
  walk_at "w"
  walk_at "w"
  refine W_DictN T fun sd hsd => ?_
  walk_at "w"
  walk_at "x"
  refine W_fzCell 1 rfl fun F2 le2 hcM => ?_
  walk_at "x"
  have le12 := le1.trans le2
  walk_at "w"
  refine W_For ?_
  walk_at "ws"
  refine W_cL (hcZ.mono le12) ?_
  walk_at "ws"
  refine W_range (by exact Int.ofNat_lt.mpr (show scrSize ns < 1000000 from far 1 [_] [.add (.var 0) (.num 1), .num 1000000, .var 0, .num 10] rfl hsz.1)) (by exact Int.lt_of_lt_of_le (by decide : (-1000000 : Int) < 0) (show (0 : Int) ≤ ((scrSize ns : Nat) : Int) from Int.natCast_nonneg _)) hh fun v X' hit => hit fun I r hI => ?_
  rw [show (((scrSize ns : Nat) : Int)).toNat = scrSize ns from by exact rfl] at hI
  refine ⟨I, r, _, _, _, fun i F' Y' G' => ∃ m' kv1 kv2, Y' = [(L, .ns m'), (L + 8, .ce none), (L + 7, .ce none), (L + 6, .ce none), (td, .di kv1), (sd, .di kv2)] ∧ TabOk (RowR F' (LP ns)) (LG ns) i kv1 ∧ TabOk (TimR (LT ns)) (LG ns) i kv2 ∧ kv1.length ≤ i ∧ kv2.length ≤ i, rfl, rfl, hI,
    ⟨m, [], [], rfl, fun b => .inl ⟨rfl, rfl⟩, fun b => .inl ⟨rfl, rfl⟩, Nat.le_refl _, Nat.le_refl _⟩, ?_, ?_⟩
  · rintro i x F3 Y3 G3 E3 hi ⟨ti, rfl⟩ le3 ⟨m3, kv1, kv2, rfl, ht1, ht2, hl1, hl2⟩
    have le23 := le2.trans le3
    have le13 := le12.trans le3
    walk_at "w"
    walk_at "w"
    walk_at "x"
    have hk : upd m3 (Str.ofString "k") (.int i ti) (Str.ofString "k") = some (.int i ti) := upd_self
    generalize upd m3 (Str.ofString "k") (.int i ti) = m4 at hk ⊢
    obtain ⟨gvs, hgl, hgp⟩ := hgv.mono le13
    walk_at "w"
    walk_at "w"
    walk_at "ws"
    refine W_cL (hcG.mono le13) ?_
    refine W_notIn eqBy_nat (a := i) ⟨ti, rfl⟩ (.inl hgl) hgp ?_
    walk_at "w"
    by_cases hg : i ∈ LG ns
    · rw [if_neg (by simp [hg])]
      walk_at "ws"
      exact ⟨le3, _, List.Sublist.refl _, m4, kv1, kv2, rfl, ht1.skip hg, ht2.skip hg, by exact far 1 [_, _] [.var 0, .add (.var 1) (.num 1), .var 0, .var 1] rfl hl1, by exact far 1 [_, _] [.var 0, .add (.var 1) (.num 1), .var 0, .var 1] rfl hl2⟩
    · rw [if_pos (by simp [hg])]
      obtain ⟨pvs, hpl, hpp⟩ := hpv.mono le13
      have pl := hpp.length
      rw [(graphN_len ns _).1] at pl
      obtain ⟨row, hrow⟩ : ∃ row, (LP ns)[i]? = some row := ⟨_, List.getElem?_eq_getElem (by rw [(graphN_len ns _).1]; exact hi)⟩
      obtain ⟨rv, hrv, rvs, hrl, hrp⟩ := paired_get hpp hrow
      have hrow2 : row = rowOf i (scrNum ns i) := graphN_row ns _ _ _ hrow
      have hrl3 : row.length ≤ 3 := by rw [hrow2]; exact rowOf_len
      have hgetP : (LP ns).getD i [] = row := by simp [List.getD, hrow]
      obtain ⟨tvs, htl, htp⟩ := htv.mono le13
      obtain ⟨st, hst⟩ : ∃ st, (LT ns)[i]? = some st := ⟨_, List.getElem?_eq_getElem (by rw [(graphN_len ns _).2]; exact hi)⟩
      obtain ⟨stv, hstv, hstn⟩ := paired_get htp hst
      have hgetT : (LT ns).getD i 0 = st := by simp [List.getD, hst]
      walk_at "w"
      walk_at "w"
      refine W_ListComp none _ ?_ (hclos := closureFor_list (by kernel_rfl))
      walk_at "ws"
      refine W_cL (hcP.mono le13) ?_
      walk_at "ws"
      refine W_item (.inl hpl) (by exact Int.natCast_nonneg _) (by exact Int.ofNat_lt.mpr (show i < 9223372036854775808 from far 1 [_, _] [.add (.var 0) (.num 1), .num 9223372036854775808, .var 1, .num 10, .add (.var 0) (.num 1), .var 1] rfl hsz.1 hi)) hrv ?_
      refine W_iterL hh hrl fun I2 r2 hI2 => ?_
      have rl := hrp.length
      refine ⟨I2, r2, _, _, _, fun q ys _ => Paired isBy ys ((row.take q).map lawName), rfl, rfl, (by show _ ≤ 16777216; exact far 1 [_, _] [.var 0, .num 16777216, .var 1, .num 3, .var 0, .var 1] rfl hrl3 (Nat.le_of_eq rl)), hI2, ⟨.nil, ?_⟩, ?_⟩
      · rintro q x ys F5 G5 m5 cv C Dc E5 hq hx le5 hJ hy
        obtain ⟨p, hp, tp, rfl⟩ := paired_get' hrp hx
        have hpi : p < i := by have := List.mem_of_getElem? hp; rw [hrow2] at this; exact rowOf_lt p this
        walk_at "w"
        walk_at "w"
        walk_at "x"
        refine W_tests0 ?_
        rw [if_pos rfl]
        walk_at "ws"
        refine ⟨keeps_top T (hF.trans (le13.trans le5)) (by kernel_rfl) (by kernel_rfl), ?_⟩
        refine W_lawName (j := 2) (i := p) T (hF.trans (le13.trans le5)) H rfl (hr.le (by exact far 1 [] [.num 5, .num 12] rfl)) hh ⟨_, rfl⟩ (by exact far 1 [_, _, _] [.add (.var 0) (.num 1), .num 100, .var 1, .num 10, .add (.var 2) (.num 1), .var 1, .add (.var 0) (.num 1), .var 2] rfl hsz.1 hi hpi) fun r F6 G6 le6 hr6 => ?_
        refine ⟨by walk_at "sub", le5.trans le6, ?_⟩
        rw [take_snoc hp, List.map_append]
        exact hJ.snoc hr6
      · rintro ys F5 F6 G6 yv le5 hys le6 hyl hyv
        rw [List.take_of_length_le (by exact Nat.le_of_eq rl.symm)] at hys
        have le36 := le5.trans le6
        have le16 := le13.trans le36
        walk_at "w"
        refine W_cL ((hcT.mono le23).mono le36) ?_
        walk_at "ws"
        refine ⟨keeps_top T (hF.trans le16) (by kernel_rfl) (by kernel_rfl), ?_⟩
        refine W_lawName (j := 0) (i := i) T (hF.trans le16) H rfl (hr.le (by exact far 1 [] [.num 5, .num 12] rfl)) hh ⟨_, rfl⟩ (by exact far 1 [_, _] [.add (.var 0) (.num 1), .num 100, .var 1, .num 10, .add (.var 0) (.num 1), .var 1] rfl hsz.1 hi) fun r F7 G7 le7 hr7 => ?_
        refine W_setItem (i := 4) rfl hr7 (by exact far 1 [_, _, _] [.var 0, .num 1000000, .var 1, .num 10, .add (.var 2) (.num 1), .var 1, .var 0, .var 2] rfl hsz.1 hi hl1) ?_
        walk_at "x"
        have le17 := le16.trans le7
        walk_at "w"
        walk_at "w"
        walk_at "ws"
        refine W_cL (hcS.mono le17) ?_
        walk_at "ws"
        refine W_item (.inl (htl.mono (le36.trans le7))) (by exact Int.natCast_nonneg _) (by exact Int.ofNat_lt.mpr (show i < 9223372036854775808 from far 1 [_, _] [.add (.var 0) (.num 1), .num 9223372036854775808, .var 1, .num 10, .add (.var 0) (.num 1), .var 1] rfl hsz.1 hi)) hstv ?_
        walk_at "w"
        refine W_cL ((hcM.mono le3).mono (le36.trans le7)) ?_
        walk_at "ws"
        refine ⟨keeps_top T (hF.trans le17) (by kernel_rfl) (by kernel_rfl), ?_⟩
        refine W_lawName (j := 0) (i := i) T (hF.trans le17) H rfl (hr.le (by exact far 1 [] [.num 5, .num 12] rfl)) hh ⟨_, rfl⟩ (by exact far 1 [_, _] [.add (.var 0) (.num 1), .num 100, .var 1, .num 10, .add (.var 0) (.num 1), .var 1] rfl hsz.1 hi) fun r F8 G8 le8 hr8 => ?_
        refine W_setItem (i := 5) rfl hr8 (by exact far 1 [_, _, _] [.var 0, .num 1000000, .var 1, .num 10, .add (.var 2) (.num 1), .var 1, .var 0, .var 2] rfl hsz.1 hi hl2) ?_
        walk_at "x"
        walk_at "ws"
        have le38 := (le36.trans le7).trans le8
        refine ⟨le3.trans le38, _, List.Sublist.refl _, m4, _, _, rfl, ?_, ?_, Nat.le_trans (stored_len _ _ _) (by exact Nat.succ_le_succ hl1), Nat.le_trans (stored_len _ _ _) (by exact Nat.succ_le_succ hl2)⟩
        · refine (ht1.mono fun v k r => r.mono le38).step hg (by exact far 1 [_, _] [.add (.var 0) (.num 1), .num 11, .var 1, .num 10, .add (.var 0) (.num 1), .var 1] rfl hsz.1 hi) ?_
          show BL F8 yv (((LP ns).getD i []).map lawName)
          rw [hgetP]
          exact ⟨ys, hyv.mono (le7.trans le8), hys⟩
        · refine ht2.step hg (by exact far 1 [_, _] [.add (.var 0) (.num 1), .num 11, .var 1, .num 10, .add (.var 0) (.num 1), .var 1] rfl hsz.1 hi) ?_
          show isNat stv ((LT ns).getD i 0)
          rw [hgetT]
          exact hstn
  · rintro F3 Y3 G3 le3 ⟨m3, kv1, kv2, rfl, ht1, ht2, hl1, hl2⟩
    show W _ _ _ _ _ _ _ _ _
    refine W_freeze 4 rfl fun F4 le4 hd1 => ?_
    walk_at "x"
    refine W_freeze 4 rfl fun F5 le5 hd2 => ?_
    walk_at "x"
    have le35 := (le3.trans le4).trans le5
    exact h _ _ _ td sd kv1 kv2 (le12.trans le35) ((hcT.mono le2).mono le35) (hcM.mono le35) htd hsd (hd1.mono le5) hd2 (ht1.mono fun v k r => r.mono (le4.trans le5)) ht2
end
end
section
noncomputable def LLeft (ns : List Int) : List (List Nat) := (List.range (scrSize ns)).map fun k => ((LP ns).getD k []).filter fun p => !decide (k ∈ LG ns) && !decide (p ∈ LG ns)
noncomputable def LFb (ns : List Int) : List (List Nat) := fbN (LLeft ns) (scrSize ns)
noncomputable def LA (ns : List Int) : Nat := scrSize ns - 1 - lawPick ns % min (scrSize ns) 7
noncomputable def otherAt (ns : List Int) (j : Nat) : Nat := (Int.fmod ((scrSize ns : Int) - 1 - ((lawPick ns / 7 ^ (1 + j) : Nat) : Int)) (scrSize ns : Int)).toNat
noncomputable def LO (ns : List Int) : List Nat := (List.range (lawPick ns / 7 ^ 4 % 4)).map (otherAt ns)
theorem otherAt_int (ns : List Int) (j : Nat) : Int.fmod ((scrSize ns : Int) - 1 - ((lawPick ns / 7 ^ (1 + j) : Nat) : Int)) (scrSize ns : Int) = ((otherAt ns j : Nat) : Int) := by
  have h := scrSize_le ns
  have := Int.fmod_nonneg_of_pos ((scrSize ns : Int) - 1 - ((lawPick ns / 7 ^ (1 + j) : Nat) : Int)) (b := (scrSize ns : Int)) (by exact Int.ofNat_lt.mpr (show 0 < scrSize ns from far 1 [_] [.add (.num 0) (.num 1), .var 0, .num 2, .var 0] rfl h.2))
  unfold otherAt
  omega
theorem otherAt_lt (ns : List Int) (j : Nat) : otherAt ns j < scrSize ns := by
  have h := scrSize_le ns
  have h1 := otherAt_int ns j
  have := Int.fmod_lt_of_pos ((scrSize ns : Int) - 1 - ((lawPick ns / 7 ^ (1 + j) : Nat) : Int)) (b := (scrSize ns : Int)) (by exact Int.ofNat_lt.mpr (show 0 < scrSize ns from far 1 [_] [.add (.num 0) (.num 1), .var 0, .num 2, .var 0] rfl h.2))
  omega
theorem LP_row (ns : List Int) {k : Nat} (hk : k < scrSize ns) : (LP ns)[k]? = some (rowOf k (scrNum ns k)) := by
  obtain ⟨row, hrow⟩ : ∃ row, (LP ns)[k]? = some row := ⟨_, List.getElem?_eq_getElem (by rw [(graphN_len ns _).1]; exact hk)⟩
  rw [hrow, graphN_row ns _ _ _ hrow]
theorem LP_getD (ns : List Int) {k : Nat} (hk : k < scrSize ns) : (LP ns).getD k [] = rowOf k (scrNum ns k) := by simp [List.getD, LP_row ns hk]
theorem LLeft_ok (ns : List Int) (k : Nat) (row : List Nat) (h : (LLeft ns)[k]? = some row) : row.length ≤ 1000 ∧ ∀ p ∈ row, p < k := by
  unfold LLeft at h
  rw [List.getElem?_map] at h
  by_cases hk : k < scrSize ns
  · rw [List.getElem?_range hk] at h
    simp only [Option.map_some, Option.some.injEq] at h
    subst h
    rw [LP_getD ns hk]
    refine ⟨Nat.le_trans (List.length_filter_le _ _) (Nat.le_trans rowOf_len (by exact far 1 [] [.num 3, .num 1000] rfl)), fun p hp => ?_⟩
    exact rowOf_lt p (List.mem_filter.mp hp).1
  · rw [List.getElem?_eq_none (by simp; exact Nat.le_of_not_lt hk)] at h
    cases h
section
variable {g : Glo} {k : Fun} {l : List Env} {A : Around} {E : Value → Shared → Prop} {F : PMap} {X Y : XS} {G : GS} {env : Env} {s : Shared} {mg mb : Str → Option Value} {L0 : Addr} {α : Type}
set_option maxHeartbeats 4000000
theorem W_law7 {L : Addr} {m : Str → Option Value} {ns : List Int} {tz tk : Tok} {pv gv : Value} {Φ : Cont Flow} (T : Top0 g (KK g.w) mg mb) (hF : PLe g.base.get? F) (hh : A.handled = none) (hr : Room A 12) (H : Here k (E126 g.w L :: l) A L)
    (hcP : CellAt F (L + 1) pv) (hpv : NLL F pv (LP ns)) (hcZ : CellAt F (L + 3) (.int (scrSize ns : Nat) tz)) (hcK : CellAt F (L + 4) (.int (lawPick ns : Nat) tk)) (hcG : CellAt F (L + 5) gv) (hgv : NL F gv (LG ns))
    (h : ∀ F' G' m' fv ov ta, PLe F F' → CellAt F' (L + 6) fv → NLL F' fv (LFb ns) → CellAt F' (L + 7) ov → NL F' ov (LO ns) → m' (Str.ofString "first") = some (.int (LA ns : Nat) ta) →
      W g k A (execs (tl126 g.w 11) (E126 g.w L)) Φ E F' [(L, .ns m'), (L + 8, .ce none)] G') :
    W g k A (execs (tl126 g.w 7) (E126 g.w L)) Φ E F [(L, .ns m), (L + 8, .ce none), (L + 7, .ce none), (L + 6, .ce none)] G := by
  have hsz := scrSize_le ns
  obtain ⟨pvs, hpl, hpp⟩ := id hpv
  obtain ⟨gvs, hgl, hgp⟩ := id hgv
  have pl := hpp.length
  rw [(graphN_len ns _).1] at pl
  walk_at "w"
  refine W_AssignComp (i := 0) (some (Str.ofString "k")) _ ?_ (hclos := closureFor_list (by kernel_rfl))
  walk_at "ws"
  refine W_cL hcZ ?_
  walk_at "ws"
  refine W_range (by exact Int.ofNat_lt.mpr (show scrSize ns < 1000000 from far 1 [_] [.add (.var 0) (.num 1), .num 1000000, .var 0, .num 10] rfl hsz.1)) (by exact Int.lt_of_lt_of_le (by decide : (-1000000 : Int) < 0) (show (0 : Int) ≤ ((scrSize ns : Nat) : Int) from Int.natCast_nonneg _)) hh fun v X' hit => hit fun I r hI => ?_
  rw [show (((scrSize ns : Nat) : Int)).toNat = scrSize ns from by exact rfl] at hI
  refine ⟨I, r, _, _, _, fun q ys F' => Paired (NL F') ys ((List.range q).map fun k => ((LP ns).getD k []).filter fun p => !decide (k ∈ LG ns) && !decide (p ∈ LG ns)), _, rfl, rfl, (by show _ ≤ 16777216; exact far 1 [_] [.var 0, .num 16777216, .var 0, .num 10] rfl hsz.1), hI, ⟨.nil, ?_⟩, rfl, ?_⟩
  · rintro q x ys F1 G1 m1 cv C Dc E1 hq ⟨tq, rfl⟩ le1 hJ hy
    walk_at "w"
    walk_at "w"
    walk_at "x"
    refine W_tests0 ?_
    rw [if_pos rfl]
    refine W_ListComp none _ ?_ (hclos := closureFor_list (by kernel_rfl))
    have hrow := LP_row ns hq
    obtain ⟨rv, hrv, rvs, hrl, hrp⟩ := paired_get hpp hrow
    have rl := hrp.length
    have rl3 := rowOf_len (k := q) (num := scrNum ns q)
    walk_at "ws"
    refine W_cL (hcP.mono le1) ?_
    walk_at "ws"
    refine W_item (.inl (hpl.mono le1)) (by exact Int.natCast_nonneg _) (by exact Int.ofNat_lt.mpr (show q < 9223372036854775808 from far 1 [_, _] [.add (.var 0) (.num 1), .num 9223372036854775808, .var 1, .num 10, .add (.var 0) (.num 1), .var 1] rfl hsz.1 hq)) hrv ?_
    refine W_iterL hh (hrl.mono le1) fun I2 r2 hI2 => ?_
    refine ⟨I2, r2, _, _, _, fun i zs _ => Paired isNat zs (((rowOf q (scrNum ns q)).take i).filter fun p => !decide (q ∈ LG ns) && !decide (p ∈ LG ns)), rfl, rfl, (by show _ ≤ 16777216; exact far 1 [_, _] [.var 0, .num 16777216, .var 0, .var 1, .var 1, .num 3] rfl (Nat.le_of_eq rl) rl3), hI2, ⟨.nil, ?_⟩, ?_⟩
    · rintro i x zs F2 G2 m2 cv2 C2 D2 E2 hi hx le2 hJ2 hz2
      obtain ⟨p, hp, tp, rfl⟩ := paired_get' hrp hx
      have le12 := le1.trans le2
      walk_at "w"
      walk_at "w"
      walk_at "x"
      refine W_tests1 ?_
      walk_at "ws"
      refine W_cL (hcG.mono le12) ?_
      refine W_notIn eqBy_nat (a := q) ⟨tq, rfl⟩ (.inl (hgl.mono le12)) hgp ?_
      walk_at "w"
      have htake := take_succ_filter (fun p => !decide (q ∈ LG ns) && !decide (p ∈ LG ns)) (rowOf q (scrNum ns q)) i p hp
      by_cases hqg : q ∈ LG ns
      · rw [if_neg (by simp [hqg])]
        rw [if_neg (by decide)]
        refine ⟨by walk_at "sub", le2, ?_⟩
        rw [htake, if_neg (by simp [hqg]), List.append_nil]
        exact hJ2
      · rw [if_pos (by simp [hqg])]
        walk_at "ws"
        refine W_cL (hcG.mono le12) ?_
        refine W_notIn eqBy_nat (a := p) ⟨tp, rfl⟩ (.inl (hgl.mono le12)) hgp ?_
        walk_at "w"
        by_cases hpg : p ∈ LG ns
        · rw [if_neg (by simp [hpg])]
          rw [if_neg (by decide)]
          refine ⟨by walk_at "sub", le2, ?_⟩
          rw [htake, if_neg (by simp [hpg]), List.append_nil]
          exact hJ2
        · rw [if_pos (by simp [hpg])]
          walk_at "w"
          rw [if_pos rfl]
          walk_at "ws"
          refine ⟨by walk_at "sub", le2, ?_⟩
          rw [htake, if_pos (by simp [hpg, hqg])]
          exact hJ2.snoc ⟨tp, rfl⟩
    · rintro zs F2 F3 G3 zv le2 hzs le3 hzl hzv
      rw [List.take_of_length_le (by exact Nat.le_of_eq rl.symm)] at hzs
      refine ⟨by walk_at "sub", (le1.trans le2).trans le3, ?_⟩
      rw [List.range_succ, List.map_append]
      refine (paired_mono hJ fun _ _ r => r.mono (le2.trans le3)).snoc ⟨zs, hzv, ?_⟩
      show Paired isNat zs (((LP ns).getD q []).filter _)
      rw [LP_getD ns hq]
      exact hzs
  · rintro ys F1 F2 G2 lv le1 hys le2 hyl hlv
    have hys : Paired (NL F1) ys (LLeft ns) := hys
    have le12 := le1.trans le2
    have hll : (LLeft ns).length = scrSize ns := by unfold LLeft; simp
    walk_at "x"
    walk_at "w"
    walk_at "w"
    walk_at "w"
    walk_at "ws"
    refine ⟨keeps_top T (hF.trans le12) (by kernel_rfl) (by kernel_rfl), ?_⟩
    refine W_calls (i := 0) H rfl (calls_fb (n := 9) T (hF.trans le12) (hr.le (by exact far 1 [] [.add (.num 9) (.num 2), .num 12] rfl)) hh (P := LLeft ns) ⟨ys, hlv, paired_mono hys fun _ _ r => r.mono le2⟩ (by exact far 1 [_, _] [.add (.var 0) (.num 1), .num 1000, .var 1, .num 10, .var 0, .var 1] rfl hsz.1 (Nat.le_of_eq hll)) (LLeft_ok ns)) fun fv F3 G3 le3 hfv => ?_
    rw [hll] at hfv
    walk_at "w"
    walk_at "x"
    refine W_fzCell 3 rfl fun F4 le4 hcF => ?_
    walk_at "x"
    have le34 := le3.trans le4
    have le14 := le12.trans le34
    walk_at "w"
    walk_at "w"
    walk_at "ws"
    refine W_cL (hcZ.mono le14) ?_
    walk_at "ws"
    refine W_cL (hcK.mono le14) ?_
    walk_at "ws"
    refine W_cL (hcZ.mono le14) ?_
    walk_at "ws"
    refine W_min hh fun t2 => ?_
    rw [show (if (7 : Int) < ((scrSize ns : Nat) : Int) then (7 : Int) else ((scrSize ns : Nat) : Int)) = ((min (scrSize ns) 7 : Nat) : Int) from by split <;> omega]
    refine W_modI (by omega) fun t3 => ?_
    rw [natMod]
    walk_at "w"
    rw [show ((scrSize ns : Nat) : Int) - 1 - ((lawPick ns % min (scrSize ns) 7 : Nat) : Int) = ((LA ns : Nat) : Int) from by
      have hlt : lawPick ns % min (scrSize ns) 7 < min (scrSize ns) 7 := Nat.mod_lt _ (by omega)
      unfold LA
      generalize lawPick ns % min (scrSize ns) 7 = z at hlt
      omega]
    rename_i t4
    walk_at "w"
    walk_at "x"
    have hfirst : upd (upd m (Str.ofString "left") lv) (Str.ofString "first") (.int (LA ns : Nat) t4) (Str.ofString "first") = some (.int (LA ns : Nat) t4) := upd_self
    generalize upd (upd m (Str.ofString "left") lv) (Str.ofString "first") (.int (LA ns : Nat) t4) = m4 at hfirst ⊢
    walk_at "w"
    refine W_AssignName ?_
    refine W_ListComp none _ ?_ (hclos := closureFor_list (by kernel_rfl))
    walk_at "ws"
    refine W_cL (hcK.mono le14) ?_
    walk_at "ws"
    rw [show (7 : Int) ^ Int.toNat 4 = ((7 ^ 4 : Nat) : Int) from pow7 4, natDiv, show Int.fmod ((lawPick ns / 7 ^ 4 : Nat) : Int) 4 = ((lawPick ns / 7 ^ 4 % 4 : Nat) : Int) from natMod _ 4]
    refine W_range (by exact Int.ofNat_lt.mpr (show lawPick ns / 7 ^ 4 % 4 < 1000000 from far 1 [_] [.add (.var 0) (.num 1), .num 1000000, .add (.var 0) (.num 1), .num 4] rfl (Nat.mod_lt _ (by decide : 4 > 0)))) (by exact Int.lt_of_lt_of_le (by decide : (-1000000 : Int) < 0) (show (0 : Int) ≤ ((lawPick ns / 7 ^ 4 % 4 : Nat) : Int) from Int.natCast_nonneg _)) hh fun v X' hit => hit fun I r hI => ?_
    rw [show (((lawPick ns / 7 ^ 4 % 4 : Nat) : Int)).toNat = lawPick ns / 7 ^ 4 % 4 from by exact rfl] at hI
    refine ⟨I, r, _, _, _, fun q ys _ => Paired isNat ys ((List.range q).map (otherAt ns)), rfl, rfl, (by show _ ≤ 16777216; exact far 1 [_] [.var 0, .num 16777216, .add (.var 0) (.num 1), .num 4] rfl (Nat.mod_lt _ (by decide : 4 > 0))), hI, ⟨.nil, ?_⟩, ?_⟩
    · rintro q x ys F5 G5 m5 cv C Dc E5 hq ⟨tq, rfl⟩ le5 hJ hy
      walk_at "w"
      walk_at "w"
      walk_at "x"
      refine W_tests0 ?_
      rw [if_pos rfl]
      walk_at "ws"
      refine W_cL (hcZ.mono (le14.trans le5)) ?_
      walk_at "ws"
      refine W_cL (hcK.mono (le14.trans le5)) ?_
      walk_at "ws"
      have h7 : 7 ^ (1 + q) < 1073741824 ∧ 0 < 7 ^ (1 + q) := by
        have hq2 : 1 + q ≤ 4 := by exact far 1 [_, _] [.add (.num 1) (.var 0), .num 4, .add (.var 0) (.num 1), .var 1, .add (.var 1) (.num 1), .num 4] rfl hq (Nat.mod_lt _ (by decide : 4 > 0))
        exact ⟨Nat.lt_of_le_of_lt (Nat.pow_le_pow_right (by decide) hq2) (by decide), Nat.pow_pos (by decide)⟩
      rw [show (1 : Int) + (q : Int) = ((1 + q : Nat) : Int) from by exact rfl, pow7]
      refine W_fdivI (by omega) (by exact h7.1) fun t6 => ?_
      rw [natDiv]
      walk_at "ws"
      refine W_cL (hcZ.mono (le14.trans le5)) ?_
      refine W_modI (by omega) fun t7 => ?_
      rw [otherAt_int]
      refine ⟨by walk_at "sub", le5, ?_⟩
      rw [List.range_succ, List.map_append]
      exact hJ.snoc ⟨_, rfl⟩
    · rintro ys F5 F6 G6 yv le5 hys le6 hyl hyv
      walk_at "w"
      walk_at "x"
      refine W_fzCell 2 rfl fun F7 le7 hcO => ?_
      walk_at "x"
      have le57 := (le5.trans le6).trans le7
      exact h _ _ _ fv yv t4 (le14.trans le57) (hcF.mono le57) (hfv.mono (le4.trans le57)) hcO ⟨ys, hyv.mono le7, hys⟩ hfirst
end
end
section
/-! the two lambdas of law -/
noncomputable def lamArgs (pa : Pos) : Arguments := { posonlyargs := [], args := [{ arg := Str.ofString "name", annotation := none, pos := pa }], vararg := none, kwonlyargs := [], kw_defaults := [], kwarg := none, defaults := [] }
noncomputable def lamBody (nm : Str) (p1 p2 p3 : Pos) : Expr := .Subscript (.Name nm p1) (.Name (Str.ofString "name") p2) p3
noncomputable def lamScope (nm : Str) : Scope := { kind := .function, names := [(Str.ofString "name", .local), (nm, .free)], isGenerator := false, isCoroutine := false, more := [] }
noncomputable def lawD (ns : List Int) (sh : Bool) (mn : Int) : LD := ⟨fun b => (tabIdx (LG ns) (scrSize ns) b).map fun k => ((LP ns).getD k []).map lawName, fun b => (tabIdx (LG ns) (scrSize ns) b).map fun k => (((LT ns).getD k 0 : Nat) : Int), sh, mn⟩
section
variable {g : Glo} {k : Fun} {l : List Env} {A : Around} {E : Value → Shared → Prop} {F : PMap} {X Y : XS} {G : GS} {env : Env} {s : Shared} {mg mb : Str → Option Value} {L0 : Addr} {α : Type}
set_option maxHeartbeats 4000000
theorem look_dict (T : Top0 g (KK g.w) mg mb) (hF : PLe g.base.get? F) (nm : Str) (hnm : nm = Str.ofString "table" ∨ nm = Str.ofString "times") {f c td : Addr} {q : Str} {nv cd ct : Value} {pa p1 p2 p3 : Pos} {R : Value → Nat → Prop} {gone : List Nat} {n : Nat} {kv : KV} {P : Name → Value → PMap → Prop}
    (ho : F f = some { cls := .type "function", data := .func (kla_fn "<lambda>" q (lamArgs pa) (lamBody nm p1 p2 p3) (lamScope nm) [(nm, c)] nv cd ct) }) (hcd : CodeAtF F cd q) (hc : CellAt F c (.ref td)) (htd : (td == sysModules) = false) (hd : FHolds g F td (.di kv)) (hok : TabOk R gone n kv)
    (hP : ∀ b v k F', PLe F F' → tabIdx gone n b = some k → R v k → P b v F') : LookOk g F (.ref f) (fun b => (tabIdx gone n b).isSome) P := by
  refine ⟨⟨_, _, _, rfl, ho, rfl⟩, fun A F1 v b hr hh le hv => ?_⟩
  have hv0 := hv
  obtain ⟨t, rfl⟩ := hv
  have hloc : (lamScope nm).names.lookup (Str.ofString "name") = some .local := by rcases hnm with rfl | rfl <;> kernel_rfl
  have hcel : ((lamScope nm).names.all fun x => decide (x.2 ≠ .cell)) = true := by rcases hnm with rfl | rfl <;> kernel_rfl
  refine calls_lam (binds := [(Str.ofString "name", .bytes b.toArray t)]) (body := lamBody nm p1 p2 p3) T hr (le _ _ ho) rfl (hcd.mono le) (by kernel_rfl) (by kernel_rfl) (fun x hx => ?_) (fun x hx => ?_) (fun L l k G H => ?_) (by kernel_rfl) (by kernel_rfl) (by kernel_rfl)
  · rw [List.mem_singleton.mp hx]; exact hloc
  · simpa using List.all_eq_true.mp hcel x hx
  · refine W_Sub ?_
    have hm : (fun x => ([(Str.ofString "name", Value.bytes b.toArray t)] : List (Str × Value)).reverse.lookup x) (Str.ofString "name") = some (.bytes b.toArray t) := by rfl
    refine W_Name ?_ (by rcases hnm with rfl | rfl <;> kernel_rfl)
    refine W_cR (hc.mono le) ?_ (by rcases hnm with rfl | rfl <;> kernel_rfl) (by rcases hnm with rfl | rfl <;> kernel_rfl) (by kernel_rfl) (by rcases hnm with rfl | rfl <;> kernel_rfl)
    walk_at "w"
    refine W_local (i := 0) rfl (by rcases hnm with rfl | rfl <;> kernel_rfl) hm ?_ (by kernel_rfl)
    have hview : DView g F1 [(L, .ns fun x => ([(Str.ofString "name", Value.bytes b.toArray t)] : List (Str × Value)).reverse.lookup x)] (.ref td) kv := ⟨td, rfl, htd, .inl (hd.mono le)⟩
    rcases hok b with ⟨h1, h2⟩ | ⟨v, j, h1, h2, h3⟩
    · refine W_dMiss hh hview ⟨t, rfl⟩ h1 fun s' e eo st he => ?_
      exact ⟨e, eo, F1, _, _, rfl, st, he, .rfl, by show (tabIdx gone n b).isSome = false; rw [h2]; rfl, 0, _, rfl⟩
    · refine W_dItem hview ⟨t, rfl⟩ h1 ?_
      exact ⟨.rfl, by show (tabIdx gone n b).isSome = true; rw [h2]; rfl, hP b v j F1 le h2 h3⟩
theorem W_lamT (T : Top0 g (KK g.w) mg mb) (GO : GOk g) (hF : PLe g.base.get? F) {L td : Addr} {ns : List Int} {kv : KV} {pa p1 p2 p3 p4 : Pos} {Φ : Cont Value} {sh : Bool} {mn : Int}
    (hc : CellAt F (L + 9) (.ref td)) (htd : (td == sysModules) = false) (hd : FHolds g F td (.di kv)) (hok : TabOk (RowR F (LP ns)) (LG ns) (scrSize ns) kv)
    (h : ∀ F' f, PLe F F' → LookP g F' f (lawD ns sh mn).par → Φ f F' X G) : W g k A (eval (.Lambda (lamArgs pa) (lamBody (Str.ofString "table") p1 p2 p3) (lamScope (Str.ofString "table")) p4) (E126 g.w L)) Φ E F X G := by
  refine W_Lambda (clos := [(Str.ofString "table", L + 9)]) T GO.t126 (by kernel_rfl) ((GO.q3 _ _).trans (by kernel_rfl)) (by kernel_rfl) fun F' f cd ct le hf hcd => ?_
  refine h F' (.ref f) le ?_
  have := look_dict (P := fun b r F' => ∃ ps, (lawD ns sh mn).par b = some ps ∧ BL F' r ps) T (hF.trans le) _ (.inl rfl) hf hcd (hc.mono le) htd (hd.mono le) hok (fun b v j F2 le2 h1 h2 => ⟨_, by show Option.map _ _ = _; rw [h1]; rfl, LOf.mono h2 (le.trans le2)⟩)
  have e : (fun b => ((lawD ns sh mn).par b).isSome) = fun b => (tabIdx (LG ns) (scrSize ns) b).isSome := by funext b; show (Option.map _ _).isSome = _; rw [Option.isSome_map]
  show LookOk g F' (.ref f) (fun b => ((lawD ns sh mn).par b).isSome) _
  rw [e]
  exact this
theorem W_lamS (T : Top0 g (KK g.w) mg mb) (GO : GOk g) (hF : PLe g.base.get? F) {L td : Addr} {ns : List Int} {kv : KV} {pa p1 p2 p3 p4 : Pos} {Φ : Cont Value} {sh : Bool} {mn : Int}
    (hc : CellAt F (L + 10) (.ref td)) (htd : (td == sysModules) = false) (hd : FHolds g F td (.di kv)) (hok : TabOk (TimR (LT ns)) (LG ns) (scrSize ns) kv)
    (h : ∀ F' f, PLe F F' → LookS g F' f (lawD ns sh mn).st → Φ f F' X G) : W g k A (eval (.Lambda (lamArgs pa) (lamBody (Str.ofString "times") p1 p2 p3) (lamScope (Str.ofString "times")) p4) (E126 g.w L)) Φ E F X G := by
  refine W_Lambda (clos := [(Str.ofString "times", L + 10)]) T GO.t126 (by kernel_rfl) ((GO.q3 _ _).trans (by kernel_rfl)) (by kernel_rfl) fun F' f cd ct le hf hcd => ?_
  refine h F' (.ref f) le ?_
  have := look_dict (P := fun b r _ => ∃ i, (lawD ns sh mn).st b = some i ∧ isInt r i) T (hF.trans le) _ (.inr rfl) hf hcd (hc.mono le) htd (hd.mono le) hok (fun b v j F2 le2 h1 h2 => ⟨_, by show Option.map _ _ = _; rw [h1]; rfl, h2⟩)
  have e : (fun b => ((lawD ns sh mn).st b).isSome) = fun b => (tabIdx (LG ns) (scrSize ns) b).isSome := by funext b; show (Option.map _ _).isSome = _; rw [Option.isSome_map]
  show LookOk g F' (.ref f) (fun b => ((lawD ns sh mn).st b).isSome) _
  rw [e]
  exact this
end
end
section
noncomputable def idsScope : Scope := { kind := .function, names := [(Str.ofString ".0", .local), (Str.ofString "k", .local), (Str.ofString "_law_name", .globalImplicit)], isGenerator := false, isCoroutine := false, more := [] }
noncomputable def idsComp (p1 p2 p3 p4 p5 p6 p7 p8 p9 : Pos) : Expr := .ListComp (.Call (.Name (Str.ofString "_law_name") p1) [.Name (Str.ofString "k") p2] [] p3) [⟨.Name (Str.ofString "k") p4, .BinOp (.List [.Name (Str.ofString "first") p5] p6) .Add (.Name (Str.ofString "others") p7) p8, [], 0⟩] idsScope p9
noncomputable def idsOf (ns : List Int) : List Name := (LA ns :: LO ns).map lawName
theorem LA_lt (ns : List Int) : LA ns < scrSize ns := by
  have := scrSize_le ns
  unfold LA
  exact Nat.lt_of_le_of_lt (Nat.sub_le _ _) (sbC (far 1 [_] [.num 1, .var 0, .num 2, .var 0] rfl this.2))
theorem LO_lt (ns : List Int) : ∀ k ∈ LO ns, k < scrSize ns := fun k hk => by
  unfold LO at hk
  obtain ⟨j, _, rfl⟩ := List.mem_map.mp hk
  exact otherAt_lt ns j
theorem LO_len (ns : List Int) : (LO ns).length ≤ 3 := by unfold LO; simp; exact far 1 [_] [.var 0, .num 3, .add (.var 0) (.num 1), .num 4] rfl (Nat.mod_lt _ (by decide : 4 > 0))
section
variable {g : Glo} {k : Fun} {l : List Env} {A : Around} {E : Value → Shared → Prop} {F : PMap} {X Y : XS} {G : GS} {env : Env} {s : Shared} {mg mb : Str → Option Value} {L0 : Addr} {α : Type}
set_option maxHeartbeats 4000000
theorem W_ids (T : Top0 g (KK g.w) mg mb) (hF : PLe g.base.get? F) (hh : A.handled = none) (hr : Room A 12) {L : Addr} (H : Here k (E126 g.w L :: l) A L) {m : Str → Option Value} {Z : XS} {ns : List Int} {ov : Value} {ta : Tok} {p1 p2 p3 p4 p5 p6 p7 p8 p9 : Pos} {Φ : Cont Value}
    (hm : m (Str.ofString "first") = some (.int (LA ns : Nat) ta)) (hc : CellAt F (L + 7) ov) (hov : NL F ov (LO ns))
    (h : ∀ F' v G', PLe F F' → BL F' v (idsOf ns) → Φ v F' ((L, .ns m) :: Z) G') : W g k A (eval (idsComp p1 p2 p3 p4 p5 p6 p7 p8 p9) (E126 g.w L)) Φ E F ((L, .ns m) :: Z) G := by
  obtain ⟨ovs, hol, hop⟩ := id hov
  have ol := hop.length
  have hl3 := LO_len ns
  have hsz := scrSize_le ns
  refine W_ListComp none _ ?_ (hclos := closureFor_list (by kernel_rfl))
  walk_at "w"
  refine W_ListF ?_
  walk_at "ws"
  refine ⟨by show 1 ≤ 16777216; exact far 1 [] [.num 1, .num 16777216] rfl, fun F1 fv le1 hfv => ?_⟩
  walk_at "w"
  refine W_cL (hc.mono le1) ?_
  refine W_addL (.inl hfv) (.inl (hol.mono le1)) (by show 1 + _ ≤ 16777216; exact far 1 [_, _] [.add (.num 1) (.var 0), .num 16777216, .var 0, .var 1, .var 1, .num 3] rfl (Nat.le_of_eq ol) hl3) fun F2 av le2 hav => ?_
  refine W_iterL hh hav fun I r hI => ?_
  have hpr : Paired isNat ([Value.int (LA ns : Nat) ta] ++ ovs) (LA ns :: LO ns) := .cons ⟨ta, rfl⟩ hop
  have pl := hpr.length
  have le12 := le1.trans le2
  refine ⟨I, r, _, _, _, fun q ys _ => Paired isBy ys (((LA ns :: LO ns).take q).map lawName), rfl, rfl, (by rw [pl]; show _ + 1 ≤ 16777216; exact far 1 [_] [.add (.var 0) (.num 1), .num 16777216, .var 0, .num 3] rfl hl3), hI, ⟨.nil, ?_⟩, ?_⟩
  · rintro q x ys F5 G5 m5 cv C Dc E5 hq hx le5 hJ hy
    obtain ⟨p, hp, tp, rfl⟩ := paired_get' hpr hx
    have hpi : p < scrSize ns := by
      rcases List.mem_cons.mp (List.mem_of_getElem? hp) with h | h
      · rw [h]; exact LA_lt ns
      · exact LO_lt ns p h
    walk_at "w"
    walk_at "w"
    walk_at "x"
    refine W_tests0 ?_
    rw [if_pos rfl]
    walk_at "ws"
    refine ⟨keeps_top T (hF.trans (le12.trans le5)) (by kernel_rfl) (by kernel_rfl), ?_⟩
    refine W_lawName (j := 2) (i := p) T (hF.trans (le12.trans le5)) H rfl (hr.le (by exact far 1 [] [.num 5, .num 12] rfl)) hh ⟨_, rfl⟩ (by exact far 1 [_, _] [.add (.var 0) (.num 1), .num 100, .var 1, .num 10, .add (.var 0) (.num 1), .var 1] rfl hsz.1 hpi) fun r F6 G6 le6 hr6 => ?_
    refine ⟨by walk_at "sub", le5.trans le6, ?_⟩
    rw [take_snoc hp, List.map_append]
    exact hJ.snoc hr6
  · rintro ys F5 F6 G6 yv le5 hys le6 hyl hyv
    rw [List.take_of_length_le (by exact Nat.le_of_eq pl.symm)] at hys
    exact h _ _ _ ((le12.trans le5).trans le6) ⟨ys, hyv, hys⟩
/-- what find_merge_base is called with -/
structure LawZ (g : Glo) (F : PMap) (L : Addr) (ns : List Int) (td sd : Addr) (kv1 kv2 : KV) (ov : Value) : Prop where
  cT : CellAt F (L + 9) (.ref td)
  cM : CellAt F (L + 10) (.ref sd)
  tn : (td == sysModules) = false
  sn : (sd == sysModules) = false
  d1 : FHolds g F td (.di kv1)
  d2 : FHolds g F sd (.di kv2)
  t1 : TabOk (RowR F (LP ns)) (LG ns) (scrSize ns) kv1
  t2 : TabOk (TimR (LT ns)) (LG ns) (scrSize ns) kv2
  cO : CellAt F (L + 7) ov
  oL : NL F ov (LO ns)
theorem LawZ.mono {g : Glo} {F F' : PMap} {L : Addr} {ns : List Int} {td sd : Addr} {kv1 kv2 : KV} {ov : Value} (h : LawZ g F L ns td sd kv1 kv2 ov) (le : PLe F F') : LawZ g F' L ns td sd kv1 kv2 ov :=
  ⟨h.cT.mono le, h.cM.mono le, h.tn, h.sn, h.d1.mono le, h.d2.mono le, h.t1.mono fun _ _ r => r.mono le, h.t2, h.cO.mono le, h.oL.mono le⟩
noncomputable def fmbCall (mk : Expr) (p0 q1 q2 q3 q4 q5 r1 r2 r3 r4 r5 p1 p2 p3 p4 p5 p6 p7 p8 p9 pz : Pos) : Expr := .Call (.Name (Str.ofString "find_merge_base") p0)
  [.Lambda (lamArgs q1) (lamBody (Str.ofString "table") q2 q3 q4) (lamScope (Str.ofString "table")) q5, .Lambda (lamArgs r1) (lamBody (Str.ofString "times") r2 r3 r4) (lamScope (Str.ofString "times")) r5, mk, idsComp p1 p2 p3 p4 p5 p6 p7 p8 p9] [] pz
theorem W_fmb (T : Top0 g (KK g.w) mg mb) (GO : GOk g) (hF : PLe g.base.get? F) (hh : A.handled = none) (hr : Room A 12) {L : Addr} (H : Here k (E126 g.w L :: l) A L) {m : Str → Option Value} {Z : XS} {ns : List Int} {td sd : Addr} {kv1 kv2 : KV} {ov : Value} {ta : Tok} {mk : Expr} {p0 q1 q2 q3 q4 q5 r1 r2 r3 r4 r5 p1 p2 p3 p4 p5 p6 p7 p8 p9 pz : Pos} {Φ : Cont Value} {EΦ : PMap → XS → GS → Prop} {sh : Bool} {N : Nat} {res : Option LS}
    (hmk : ∀ F' (Φ' : Cont Value), PLe F F' → (∀ F'' v, PLe F' F'' → ShOk F'' v sh → Φ' v F'' ((L, .ns m) :: Z) G) → W g k A (eval mk (E126 g.w L)) Φ' (EW g k L EΦ) F' ((L, .ns m) :: Z) G)
    (hm : m (Str.ofString "first") = some (.int (LA ns : Nat) ta)) (hz : LawZ g F L ns td sd kv1 kv2 ov)
    (hrun : (LO ns).map lawName ≠ [] → lawName (LA ns) ∉ (LO ns).map lawName → RunOk (lawD ns sh 0) N (lawName (LA ns)) ((LO ns).map lawName) res)
    (h : ∀ F' v out G', PLe F F' → BL F' v out → (if (LO ns).map lawName = [] ∨ lawName (LA ns) ∈ (LO ns).map lawName then out = [lawName (LA ns)] else LcaOut res out) → Φ v F' ((L, .ns m) :: Z) G')
    (hE : ∀ F' G', PLe F F' → (LO ns).map lawName ≠ [] → lawName (LA ns) ∉ (LO ns).map lawName → res = none → EΦ F' ((L, .ns m) :: Z) G')
    (hst : starEach (mk :: [idsComp p1 p2 p3 p4 p5 p6 p7 p8 p9]) (E126 g.w L) = (false, eval mk (E126 g.w L)) :: starEach [idsComp p1 p2 p3 p4 p5 p6 p7 p8 p9] (E126 g.w L))
    (hpl : (backTo pz (starEach [.Lambda (lamArgs q1) (lamBody (Str.ofString "table") q2 q3 q4) (lamScope (Str.ofString "table")) q5, .Lambda (lamArgs r1) (lamBody (Str.ofString "times") r2 r3 r4) (lamScope (Str.ofString "times")) r5, mk, idsComp p1 p2 p3 p4 p5 p6 p7 p8 p9] (E126 g.w L))).any (·.1) = false) :
    W g k A (eval (fmbCall mk p0 q1 q2 q3 q4 q5 r1 r2 r3 r4 r5 p1 p2 p3 p4 p5 p6 p7 p8 p9 pz) (E126 g.w L)) Φ (EW g k L EΦ) F ((L, .ns m) :: Z) G := by
  refine W_CallName ?_
  walk_at "w"
  walk_at "w"
  refine W_callW hpl ?_
  walk_at "w"
  refine W_lamT (sh := sh) (mn := 0) T GO hF hz.cT hz.tn hz.d1 hz.t1 fun F1 f1 le1 hf1 => ?_
  walk_at "w"
  have hz1 := hz.mono le1
  refine W_lamS (sh := sh) (mn := 0) T GO (hF.trans le1) hz1.cM hz1.sn hz1.d2 hz1.t2 fun F2 f2 le2 hf2 => ?_
  have le12 := le1.trans le2
  refine W_items_cons ?_ hst
  refine hmk F2 _ le12 fun F3 v le3 hv => ?_
  have le13 := le12.trans le3
  have hz3 := hz.mono le13
  walk_at "w"
  refine W_ids T (hF.trans le13) hh hr H hm hz3.cO hz3.oL fun F4 iv G4 le4 hiv => ?_
  have le14 := le13.trans le4
  walk_at "w"
  refine ⟨keeps_top T (hF.trans le14) (by kernel_rfl) (by kernel_rfl), ?_⟩
  have hl3 := LO_len ns
  refine W_callsR (i := 0) H rfl (calls_fmb (D := lawD ns sh 0) (N := N) (res := res) (c := lawName (LA ns)) (cs := (LO ns).map lawName) T GO (hF.trans le14) (hr.le (by exact far 1 [] [.num 10, .num 12] rfl)) hh rfl (hf1.mono (((le2.trans le3).trans le4))) (hf2.mono (le3.trans le4)) (hv.mono le4) hiv hrun (by rw [List.length_map]; exact far 1 [_] [.var 0, .num 100, .var 0, .num 3] rfl hl3)) (fun rv F5 G5 le5 hrv => ?_) fun F5 G5 le5 he => hE _ _ (le14.trans le5) he.1 he.2.1 he.2.2
  obtain ⟨out, hb, hcond⟩ := hrv
  exact h _ _ out _ (le14.trans le5) hb hcond
end
end
section
/-! the sort's tree of questions, where each answer is a rank's -/
section
noncomputable def rkV (r : Nat → Nat) (p : Array Nat) (i : Nat) : Nat := r (p.getD i 0)
theorem rkV_congr {r : Nat → Nat} {p q : Array Nat} {i j : Nat} (h : p[i]? = q[j]?) : rkV r p i = rkV r q j := by
  unfold rkV
  rw [Array.getD_eq_getD_getElem?, Array.getD_eq_getD_getElem?, h]
structure RkOk (r : Nat → Nat) (n : Nat) (p : Array Nat) : Prop where
  size : p.size = n
  perm : p.toList.Perm (List.range n)
theorem RkOk.lt {r : Nat → Nat} {n : Nat} {p : Array Nat} (h : RkOk r n p) {i : Nat} (hi : i < n) : p.getD i 0 < n := by
  have hs : i < p.size := by rw [h.size]; exact hi
  have e : p.getD i 0 = p[i] := by simp [Array.getD, hs]
  rw [e]
  have : p[i] ∈ p.toList := by simp
  exact List.mem_range.mp (h.perm.mem_iff.mp this)
theorem RkOk.of_perm {r : Nat → Nat} {n : Nat} {p q : Array Nat} (h : RkOk r n p) (hq : q.Perm p) : RkOk r n q := ⟨hq.size_eq.trans h.size, (Array.perm_iff_toList_perm.mp hq).trans h.perm⟩
theorem RkOk.inj {r : Nat → Nat} {n : Nat} {p : Array Nat} (h : RkOk r n p) (hr : ∀ i j, i < n → j < n → r i = r j → i = j) {i j : Nat} (hi : i < n) (hj : j < n) (e : rkV r p i = rkV r p j) : i = j := by
  have h1 := hr _ _ (h.lt hi) (h.lt hj) e
  have hs : i < p.size := by rw [h.size]; exact hi
  have hs2 : j < p.size := by rw [h.size]; exact hj
  have hn : p.toList.Nodup := h.perm.nodup_iff.mpr List.nodup_range
  have e1 : p.getD i 0 = p.toList[i]'(by simpa using hs) := by simp [Array.getD, hs]
  have e2 : p.getD j 0 = p.toList[j]'(by simpa using hs2) := by simp [Array.getD, hs2]
  rw [e1, e2] at h1
  have hs' : i < p.toList.length := by simpa using hs
  have hs2' : j < p.toList.length := by simpa using hs2
  exact (List.getElem?_inj hs' hn).mp (by rw [List.getElem?_eq_getElem hs', List.getElem?_eq_getElem hs2', h1])
noncomputable def RkUp (r : Nat → Nat) (p : Array Nat) (m : Nat) : Prop := ∀ i j, i < j → j < m → rkV r p i < rkV r p j
noncomputable def RkDn (r : Nat → Nat) (p : Array Nat) (m : Nat) : Prop := ∀ i j, i < j → j < m → rkV r p j < rkV r p i
variable {cmp : Nat → Nat → (Bool → Shared → Prop) → Shared → Prop} {r : Nat → Nat} {n : Nat} {s : Shared}
noncomputable def AskOk (cmp : Nat → Nat → (Bool → Shared → Prop) → Shared → Prop) (r : Nat → Nat) (n : Nat) (s : Shared) : Prop := ∀ i j (C : Bool → Shared → Prop), i < n → j < n → C (decide (r i < r j)) s → cmp i j C s
theorem rk_asc (hc : AskOk cmp r n s) (hr : ∀ i j, i < n → j < n → r i = r j → i = j) {p : Array Nat} (hp : RkOk r n p) {Q : Nat → Shared → Prop} : ∀ (f m : Nat), 1 ≤ m → m + f ≤ n → RkUp r p m → (∀ m', m ≤ m' → m' ≤ m + f → RkUp r p m' → (m' = m + f ∨ (m' < n ∧ rkV r p m' < rkV r p (m' - 1))) → Q m' s) → (kas_asc p f m).kasWp cmp Q s
  | 0, m, h1, h2, hu, h => h m (Nat.le_refl _) (Nat.le_refl _) hu (.inl rfl)
  | f + 1, m, h1, h2, hu, h => by
    unfold kas_asc
    refine hc _ _ _ (hp.lt (by exact far 1 [_, _, _] [.add (.var 0) (.num 1), .var 1, .add (.var 0) (.add (.var 2) (.num 1)), .var 1] rfl h2)) (hp.lt (by exact far 1 [_, _, _, _] [.add (.var 0) (.num 1), .var 1, .add (.var 2) (.add (.var 3) (.num 1)), .var 1, .var 0, .var 2] rfl h2 (Nat.sub_le _ _))) ?_
    show KasT.kasWp cmp (if decide (rkV r p m < rkV r p (m - 1)) = true then _ else _) Q s
    by_cases hl : rkV r p m < rkV r p (m - 1)
    · rw [if_pos (decide_eq_true hl)]
      exact h m (Nat.le_refl _) (by exact far 1 [_, _] [.var 0, .add (.var 0) (.add (.var 1) (.num 1))] rfl) hu (.inr ⟨by exact far 1 [_, _, _] [.add (.var 0) (.num 1), .var 1, .add (.var 0) (.add (.var 2) (.num 1)), .var 1] rfl h2, hl⟩)
    · rw [if_neg (by simpa using hl)]
      have hne : rkV r p (m - 1) ≠ rkV r p m := fun e => by have := hp.inj hr (by exact far 1 [_, _, _, _] [.add (.var 0) (.num 1), .var 1, .add (.var 2) (.add (.var 3) (.num 1)), .var 1, .var 0, .var 2] rfl h2 (Nat.sub_le _ _)) (by exact far 1 [_, _, _] [.add (.var 0) (.num 1), .var 1, .add (.var 0) (.add (.var 2) (.num 1)), .var 1] rfl h2) e; exact Nat.not_succ_le_zero 0 (far 0 [_, _] [.num 1, .num 0, .var 0, .var 1, .add (.var 1) (.num 1), .var 0] rfl (Nat.le_of_eq this.symm) (sbC h1))
      refine rk_asc hc hr hp f (m + 1) (by exact far 1 [_] [.num 1, .add (.var 0) (.num 1)] rfl) (by exact far 1 [_, _, _] [.add (.add (.var 0) (.num 1)) (.var 1), .var 2, .add (.var 0) (.add (.var 1) (.num 1)), .var 2] rfl h2) (fun i j hij hj => ?_) fun m' a b c d => h m' (by exact Nat.le_of_lt a) (by exact far 1 [_, _, _] [.var 0, .add (.var 1) (.add (.var 2) (.num 1)), .var 0, .add (.add (.var 1) (.num 1)) (.var 2)] rfl b) c (d.imp (fun e => by exact Nat.le_antisymm (far 1 [_, _, _] [.var 0, .add (.var 1) (.add (.var 2) (.num 1)), .var 0, .add (.add (.var 1) (.num 1)) (.var 2)] rfl b) (far 1 [_, _, _] [.add (.var 0) (.add (.var 1) (.num 1)), .var 2, .add (.add (.var 0) (.num 1)) (.var 1), .var 2] rfl (Nat.le_of_eq e.symm))) id)
      by_cases hjm : j < m
      · exact hu i j hij hjm
      · obtain rfl : j = m := by exact Nat.le_antisymm (Nat.le_of_lt_succ hj) ((Nat.le_of_not_lt hjm))
        by_cases him : i = j - 1
        · subst him; exact Nat.lt_of_le_of_ne ((Nat.le_of_not_lt hl)) hne
        · have := hu i (j - 1) (by exact Nat.lt_of_le_of_ne (far 1 [_, _, _] [.var 0, .var 1, .add (.var 0) (.num 1), .var 2, .var 2, .add (.var 1) (.num 1)] rfl hij (sbA _ _)) him) (by exact sbC (Nat.zero_lt_of_lt hij))
          exact Nat.le_trans this (Nat.le_of_not_lt hl)
theorem rk_desc (hc : AskOk cmp r n s) (hr : ∀ i j, i < n → j < n → r i = r j → i = j) {p : Array Nat} (hp : RkOk r n p) {Q : Array Nat × Nat × Nat → Shared → Prop} : ∀ (f m : Nat), 1 ≤ m → m + f ≤ n → RkDn r p m → (∀ m', m ≤ m' → m' ≤ m + f → RkDn r p m' → Q (p, m', 0) s) → (kas_desc f p m 0).kasWp cmp Q s
  | 0, m, h1, h2, hu, h => h m (Nat.le_refl _) (Nat.le_refl _) hu
  | f + 1, m, h1, h2, hu, h => by
    unfold kas_desc
    refine hc _ _ _ (hp.lt (by exact far 1 [_, _, _] [.add (.var 0) (.num 1), .var 1, .add (.var 0) (.add (.var 2) (.num 1)), .var 1] rfl h2)) (hp.lt (by exact far 1 [_, _, _, _] [.add (.var 0) (.num 1), .var 1, .add (.var 2) (.add (.var 3) (.num 1)), .var 1, .var 0, .var 2] rfl h2 (Nat.sub_le _ _))) ?_
    show KasT.kasWp cmp (if decide (rkV r p m < rkV r p (m - 1)) = true then _ else _) Q s
    have hne : rkV r p (m - 1) ≠ rkV r p m := fun e => by have := hp.inj hr (by exact far 1 [_, _, _, _] [.add (.var 0) (.num 1), .var 1, .add (.var 2) (.add (.var 3) (.num 1)), .var 1, .var 0, .var 2] rfl h2 (Nat.sub_le _ _)) (by exact far 1 [_, _, _] [.add (.var 0) (.num 1), .var 1, .add (.var 0) (.add (.var 2) (.num 1)), .var 1] rfl h2) e; exact Nat.not_succ_le_zero 0 (far 0 [_, _] [.num 1, .num 0, .var 0, .var 1, .add (.var 1) (.num 1), .var 0] rfl (Nat.le_of_eq this.symm) (sbC h1))
    by_cases hl : rkV r p m < rkV r p (m - 1)
    · rw [if_pos (decide_eq_true hl), if_neg (by exact Nat.not_lt.mpr (Nat.le_refl _))]
      refine rk_desc hc hr hp f (m + 1) (by exact far 1 [_] [.num 1, .add (.var 0) (.num 1)] rfl) (by exact far 1 [_, _, _] [.add (.add (.var 0) (.num 1)) (.var 1), .var 2, .add (.var 0) (.add (.var 1) (.num 1)), .var 2] rfl h2) (fun i j hij hj => ?_) fun m' a b c => h m' (by exact Nat.le_of_lt a) (by exact far 1 [_, _, _] [.var 0, .add (.var 1) (.add (.var 2) (.num 1)), .var 0, .add (.add (.var 1) (.num 1)) (.var 2)] rfl b) c
      by_cases hjm : j < m
      · exact hu i j hij hjm
      · obtain rfl : j = m := by exact Nat.le_antisymm (Nat.le_of_lt_succ hj) ((Nat.le_of_not_lt hjm))
        by_cases him : i = j - 1
        · subst him; exact hl
        · have := hu i (j - 1) (by exact Nat.lt_of_le_of_ne (far 1 [_, _, _] [.var 0, .var 1, .add (.var 0) (.num 1), .var 2, .var 2, .add (.var 1) (.num 1)] rfl hij (sbA _ _)) him) (by exact sbC (Nat.zero_lt_of_lt hij))
          exact Nat.le_trans hl (Nat.le_of_lt this)
    · rw [if_neg (by simpa using hl)]
      refine hc _ _ _ (hp.lt (by exact far 1 [_, _, _, _] [.add (.var 0) (.num 1), .var 1, .add (.var 2) (.add (.var 3) (.num 1)), .var 1, .var 0, .var 2] rfl h2 (Nat.sub_le _ _))) (hp.lt (by exact far 1 [_, _, _] [.add (.var 0) (.num 1), .var 1, .add (.var 0) (.add (.var 2) (.num 1)), .var 1] rfl h2)) ?_
      show KasT.kasWp cmp (if decide (rkV r p (m - 1) < rkV r p m) = true then _ else _) Q s
      rw [if_pos (by simp; exact Nat.lt_of_le_of_ne ((Nat.le_of_not_lt hl)) hne)]
      exact h m (Nat.le_refl _) (by exact far 1 [_, _] [.var 0, .add (.var 0) (.add (.var 1) (.num 1))] rfl) hu
theorem rkV_rev {p : Array Nat} {m : Nat} (hm : m ≤ p.size) (i : Nat) : rkV r (kas_rev p 0 m) i = if i < m then rkV r p (m - 1 - i) else rkV r p i := by
  have e := getElem?_mirror_all (xs := p) (i := 0) hm i
  split
  · rename_i h
    rw [if_pos ⟨Nat.zero_le _, h⟩] at e
    rw [show m - 1 - i = 0 + m - 1 - i by exact Nat.le_antisymm (far 1 [_, _, _, _, _, _] [.var 0, .var 1, .add (.var 2) (.num 1), .var 3, .add (.var 0) (.var 4), .var 2, .add (.num 0) (.var 3), .add (.var 5) (.num 1), .var 5, .add (.var 1) (.var 4)] rfl (sbC (Nat.zero_lt_of_lt h)) (sbC (far 1 [_, _, _] [.var 0, .var 1, .add (.var 0) (.num 1), .var 2, .var 2, .add (.var 1) (.num 1)] rfl h (sbA _ _))) (sbA _ _) (sbA _ _)) (far 1 [_, _, _, _, _, _] [.var 0, .var 1, .var 2, .add (.var 3) (.num 1), .var 3, .add (.var 1) (.var 4), .add (.var 5) (.num 1), .add (.num 0) (.var 2), .add (.var 0) (.var 4), .var 5] rfl (sbA _ _) (sbA _ _) (sbC (far 1 [_, _] [.num 1, .add (.num 0) (.var 0), .add (.var 1) (.num 1), .var 0] rfl h)) (sbC (far 1 [_, _, _] [.var 0, .var 1, .add (.var 0) (.num 1), .var 2, .add (.num 0) (.var 2), .add (.var 1) (.num 1)] rfl h (sbA _ _))))]
    exact rkV_congr e
  · rename_i h
    rw [if_neg (fun x => h x.2)] at e
    exact rkV_congr e
theorem rk_tail3 (hc : AskOk cmp r n s) (hr : ∀ i j, i < n → j < n → r i = r j → i = j) {p : Array Nat} (hp : RkOk r n p) {Q : Nat × Array Nat → Shared → Prop} {m : Nat} (h1 : 1 ≤ m) (h2 : m ≤ n) (hd : RkDn r p m)
    (h : ∀ m' p', 1 ≤ m' → m' ≤ n → RkOk r n p' → RkUp r p' m' → Q (m', p') s) : (kas_tail3 m n p).kasWp cmp Q s := by
  unfold kas_tail3
  rw [KasT.kasWp_bind]
  have hp' : RkOk r n (kas_rev p 0 m) := hp.of_perm (mirror_perm _ _ _ _)
  have hms : m ≤ p.size := by rw [hp.size]; exact h2
  refine rk_asc hc hr hp' _ _ h1 (by exact far 1 [_, _, _] [.add (.var 0) (.var 1), .var 2, .add (.var 1) (.var 0), .var 2] rfl (sbC h2)) (fun i j hij hj => ?_) fun m' a b c _ => h m' _ (by exact Nat.le_trans h1 a) (by exact far 1 [_, _, _, _] [.var 0, .var 1, .var 0, .add (.var 2) (.var 3), .add (.var 3) (.var 2), .var 1] rfl b (sbC h2)) hp' c
  rw [rkV_rev hms, rkV_rev hms, if_pos (by exact Nat.le_trans hij (Nat.le_of_lt hj)), if_pos hj]
  exact hd _ _ (by exact far 1 [_, _, _, _, _] [.add (.var 0) (.num 1), .var 1, .add (.var 2) (.num 1), .var 3, .add (.var 0) (.var 3), .var 4, .var 4, .add (.var 1) (.var 2)] rfl hij (sbC (far 1 [_, _, _] [.var 0, .var 1, .add (.var 0) (.num 1), .var 2, .var 2, .add (.var 1) (.num 1)] rfl hj (sbA _ _))) (sbA _ _)) (by exact Nat.lt_of_le_of_lt (Nat.sub_le _ _) (sbC h1))
theorem rk_count (hc : AskOk cmp r n s) (hr : ∀ i j, i < n → j < n → r i = r j → i = j) (hn : 1 ≤ n) {p : Array Nat} (hp : RkOk r n p) {Q : Nat × Array Nat → Shared → Prop}
    (h : ∀ m' p', 1 ≤ m' → m' ≤ n → RkOk r n p' → RkUp r p' m' → Q (m', p') s) : (kas_count n p).kasWp cmp Q s := by
  unfold kas_count
  rw [KasT.kasWp_bind]
  refine rk_asc hc hr hp _ _ (Nat.le_refl 1) (by exact far 1 [_, _] [.add (.num 1) (.var 0), .var 1, .add (.var 0) (.num 1), .var 1] rfl (sbC hn)) (fun i j _ hj => by omega) fun m a b hu hor => ?_
  by_cases hmn : m = n
  · rw [if_pos (by simpa using hmn)]
    exact h m p a (by exact Nat.le_of_eq hmn) hp hu
  · rw [if_neg (by simpa using hmn)]
    by_cases hm1 : m > 1
    · rw [if_pos hm1]
      refine hc _ _ _ (hp.lt (by exact far 1 [_] [.add (.num 0) (.num 1), .var 0, .num 1, .var 0] rfl hn)) (hp.lt (by exact far 1 [_, _, _, _] [.add (.var 0) (.num 1), .var 1, .var 2, .add (.num 1) (.var 3), .add (.var 3) (.num 1), .var 1, .add (.var 0) (.num 1), .var 2] rfl b (sbC hn) (sbC a))) ?_
      show KasT.kasWp cmp (if decide (rkV r p 0 < rkV r p (m - 1)) = true then _ else _) Q s
      rw [if_pos (decide_eq_true (hu 0 (m - 1) (by exact far 1 [_, _] [.add (.num 0) (.num 1), .var 0, .add (.num 1) (.num 1), .var 1, .var 1, .add (.var 0) (.num 1)] rfl hm1 (sbA _ _)) (by exact sbC a)))]
      exact h m p a (by exact far 1 [_, _, _] [.var 0, .var 1, .var 0, .add (.num 1) (.var 2), .add (.var 2) (.num 1), .var 1] rfl b (sbC hn)) hp hu
    · rw [if_neg hm1]
      obtain rfl : m = 1 := by exact Nat.le_antisymm ((Nat.le_of_not_lt hm1)) a
      have hlt := (hor.resolve_left (by exact Nat.ne_of_lt (far 1 [_, _] [.add (.num 1) (.num 1), .add (.num 1) (.var 0), .var 1, .add (.var 0) (.num 1), .add (.num 1) (.num 1), .var 1] rfl (sbA _ _) (Nat.lt_of_le_of_ne hn hmn)))).2
      unfold kas_descPart
      rw [KasT.kasWp_bind]
      refine rk_desc hc hr hp _ _ (by exact far 1 [] [.num 1, .add (.num 1) (.num 1)] rfl) (by exact Or.elim hor (fun hs2 => far 0 [_, _, _] [.add (.add (.num 1) (.num 1)) (.var 0), .var 1, .add (.num 1) (.var 2), .num 1, .var 1, .add (.var 2) (.num 1), .add (.num 1) (.num 1), .var 1] rfl (Nat.le_of_eq hs2.symm) (sbA _ _) (Nat.lt_of_le_of_ne (hn) hmn)) (fun hs2 => far 1 [_, _] [.add (.add (.num 1) (.num 1)) (.var 0), .var 1, .add (.var 0) (.add (.num 1) (.num 1)), .var 1] rfl (sbC (hs2.1)))) (fun i j hij hj => ?_) fun m' a' b' hd => ?_
      · obtain rfl : j = 1 := by exact Nat.le_antisymm (Nat.le_of_lt_succ hj) (Nat.zero_lt_of_lt hij)
        obtain rfl : i = 0 := by exact Nat.le_antisymm (far 1 [_] [.var 0, .num 0, .add (.var 0) (.num 1), .num 1] rfl hij) (Nat.zero_le _)
        exact hlt
      · show KasT.kasWp cmp (if 0 > 0 then _ else _) Q s
        rw [if_neg (by exact Nat.not_lt.mpr (Nat.le_refl _))]
        show KasT.kasWp cmp (kas_tail3 m' n p) Q s
        exact rk_tail3 hc hr hp (by exact Nat.le_of_lt a') (by exact Or.elim hor (fun hs2 => far 0 [_, _, _] [.var 0, .var 1, .add (.num 1) (.var 2), .num 1, .var 1, .add (.var 2) (.num 1), .add (.num 1) (.num 1), .var 1] rfl (Nat.le_of_eq hs2.symm) (sbA _ _) (Nat.lt_of_le_of_ne (hn) hmn)) (fun hs2 => far 1 [_, _, _] [.var 0, .var 1, .var 0, .add (.add (.num 1) (.num 1)) (.var 2), .add (.var 2) (.add (.num 1) (.num 1)), .var 1] rfl b' (sbC (hs2.1)))) hd h
theorem rk_place (hc : AskOk cmp r n s) {p : Array Nat} (hp : RkOk r n p) {k : Nat} (hk : k < n) (hu : RkUp r p k) {Q : Nat → Shared → Prop} : ∀ (f l t : Nat), l ≤ t → t ≤ k → t - l ≤ f → (∀ i, i < l → rkV r p i ≤ rkV r p k) → (∀ i, t ≤ i → i < k → rkV r p k < rkV r p i) →
    (∀ l', l' ≤ k → (∀ i, i < l' → rkV r p i ≤ rkV r p k) → (∀ i, l' ≤ i → i < k → rkV r p k < rkV r p i) → Q l' s) → (kas_place p k f l t).kasWp cmp Q s
  | 0, l, t, h1, h2, h3, ha, hb, h => by
    obtain rfl : l = t := by exact Nat.le_antisymm h1 (far 1 [_, _, _] [.var 0, .var 1, .var 2, .num 0, .var 0, .add (.var 2) (.var 1)] rfl h3 (sbA _ _))
    exact h l h2 ha hb
  | f + 1, l, t, h1, h2, h3, ha, hb, h => by
    unfold kas_place
    by_cases hlt : l ≥ t
    · rw [if_pos hlt]
      obtain rfl : l = t := by exact Nat.le_antisymm h1 hlt
      exact h l h2 ha hb
    · rw [if_neg hlt]
      refine hc _ _ _ (hp.lt hk) (hp.lt (by exact far 2 [_, _, _, _, _] [.add (.var 0) (.num 1), .var 1, .add (.var 2) (.num 1), .var 1, .add (.var 2) (.num 1), .var 1, .var 3, .var 4, .var 4, .var 2, .var 4, .var 2, .mulR (.var 0) 2, .add (.var 3) (.var 4)] rfl hk hk h1 h2 h2 (dvA _))) ?_
      show KasT.kasWp cmp (if decide (rkV r p k < rkV r p ((l + t) / 2)) = true then _ else _) Q s
      by_cases hl : rkV r p k < rkV r p ((l + t) / 2)
      · rw [if_pos (decide_eq_true hl)]
        refine rk_place hc hp hk hu f l ((l + t) / 2) (by exact far 2 [_, _, _] [.var 0, .var 1, .var 0, .var 2, .add (.add (.var 0) (.var 2)) (.num 1), .mulR (.add (.var 1) (.num 1)) 2] rfl h1 (dvB _)) (by exact far 2 [_, _, _, _] [.var 0, .var 1, .var 2, .var 3, .var 3, .var 1, .var 3, .var 1, .mulR (.var 0) 2, .add (.var 2) (.var 3)] rfl h1 h2 h2 (dvA _)) (by exact far 2 [_, _, _, _, _, _] [.var 0, .var 1, .var 2, .add (.var 1) (.num 1), .var 2, .add (.var 1) (.num 1), .add (.var 3) (.num 1), .var 4, .mulR (.var 5) 2, .add (.var 3) (.var 4), .var 4, .add (.var 2) (.var 3), .var 4, .add (.var 2) (.var 3), .add (.var 0) (.var 3), .var 5, .add (.var 0) (.var 3), .var 5] rfl h3 h3 (Nat.lt_of_not_le hlt) (dvA _) (sbA _ _) (sbA _ _) (sbC (far 2 [_, _, _] [.var 0, .var 1, .var 0, .var 2, .add (.add (.var 0) (.var 2)) (.num 1), .mulR (.add (.var 1) (.num 1)) 2] rfl h1 (dvB _))) (sbC (far 2 [_, _, _] [.var 0, .var 1, .var 0, .var 2, .add (.add (.var 0) (.var 2)) (.num 1), .mulR (.add (.var 1) (.num 1)) 2] rfl h1 (dvB _)))) ha (fun i hi hik => ?_) h
        rcases Nat.eq_or_lt_of_le hi with e | e
        · rw [← e]; exact hl
        · have := hu _ _ e hik
          exact Nat.le_trans hl (Nat.le_of_lt this)
      · rw [if_neg (by simpa using hl)]
        refine rk_place hc hp hk hu f ((l + t) / 2 + 1) t (by exact far 2 [_, _, _] [.add (.var 0) (.num 1), .var 1, .add (.var 2) (.num 1), .var 1, .mulR (.var 0) 2, .add (.var 2) (.var 1)] rfl (Nat.lt_of_not_le hlt) (dvA _)) (by exact h2) (by exact far 2 [_, _, _, _, _, _] [.var 0, .var 1, .var 2, .var 3, .var 4, .add (.var 1) (.num 1), .var 4, .add (.var 1) (.num 1), .add (.add (.var 2) (.var 3)) (.num 1), .mulR (.add (.var 5) (.num 1)) 2, .var 3, .add (.var 4) (.var 2), .var 3, .add (.var 4) (.var 2), .add (.var 0) (.add (.var 5) (.num 1)), .var 3, .add (.var 0) (.add (.var 5) (.num 1)), .var 3] rfl h1 h3 h3 (dvB _) (sbA _ _) (sbA _ _) (sbC (far 2 [_, _, _] [.add (.var 0) (.num 1), .var 1, .add (.var 2) (.num 1), .var 1, .mulR (.var 0) 2, .add (.var 2) (.var 1)] rfl (Nat.lt_of_not_le hlt) (dvA _))) (sbC (far 2 [_, _, _] [.add (.var 0) (.num 1), .var 1, .add (.var 2) (.num 1), .var 1, .mulR (.var 0) 2, .add (.var 2) (.var 1)] rfl (Nat.lt_of_not_le hlt) (dvA _)))) (fun i hi => ?_) hb h
        rcases Nat.eq_or_lt_of_le (Nat.le_of_lt_succ hi) with e | e
        · rw [e]; exact Nat.le_of_not_lt hl
        · have := hu _ _ e (by exact far 2 [_, _, _, _] [.add (.var 0) (.num 1), .var 1, .var 2, .var 1, .var 2, .var 1, .add (.var 3) (.num 1), .var 2, .mulR (.var 0) 2, .add (.var 3) (.var 2)] rfl h2 h2 (Nat.lt_of_not_le hlt) (dvA _) : (l + t) / 2 < k)
          exact Nat.le_of_lt (Nat.le_trans this (Nat.le_of_not_lt hl))
theorem rkV_bubble {p : Array Nat} {k l : Nat} (hk : k < p.size) (hl : l ≤ k) (i : Nat) : rkV r (bubble p k (k - l)) i = if i = l then rkV r p k else if l < i ∧ i ≤ k then rkV r p (i - 1) else rkV r p i := by
  have e := getElem?_bubble hk (k - l) (by exact Nat.sub_le _ _) i
  rw [show k - (k - l) = l by exact Nat.le_antisymm (far 1 [_, _, _, _] [.var 0, .var 1, .var 2, .add (.var 3) (.var 1), .add (.var 0) (.var 3), .var 2] rfl (sbA _ _) (sbC ((Nat.sub_le _ _)))) (far 1 [_, _, _, _] [.var 0, .var 1, .add (.var 2) (.var 0), .var 3, .var 3, .add (.var 1) (.var 2)] rfl (sbC hl) (sbA _ _))] at e
  split
  · rename_i h; rw [if_pos h] at e; exact rkV_congr e
  · rename_i h
    rw [if_neg h] at e
    split
    · rename_i h2; rw [if_pos h2] at e; exact rkV_congr e
    · rename_i h2; rw [if_neg h2] at e; exact rkV_congr e
theorem rk_bin (hc : AskOk cmp r n s) (hr : ∀ i j, i < n → j < n → r i = r j → i = j) {Q : Array Nat → Shared → Prop} (h : ∀ p', RkOk r n p' → RkUp r p' n → Q p' s) : ∀ (f k : Nat) (p : Array Nat), k + f = n → RkOk r n p → RkUp r p k → (kas_bin f p k).kasWp cmp Q s
  | 0, k, p, e, hp, hu => by
    obtain rfl : k = n := by exact Nat.le_antisymm (far 1 [_, _] [.var 0, .var 1, .add (.var 0) (.num 0), .var 1] rfl (Nat.le_of_eq e)) (far 1 [_, _] [.var 0, .var 1, .var 0, .add (.var 1) (.num 0)] rfl (Nat.le_of_eq e.symm))
    exact h p hp hu
  | f + 1, k, p, e, hp, hu => by
    unfold kas_bin
    rw [KasT.kasWp_bind]
    refine rk_place hc hp (by exact far 1 [_, _, _] [.add (.var 0) (.num 1), .var 1, .add (.var 0) (.add (.var 2) (.num 1)), .var 1] rfl (Nat.le_of_eq e)) hu k 0 k (Nat.zero_le _) (Nat.le_refl _) (by exact Nat.sub_le _ _) (fun i hi => by omega) (fun i hi hik => by omega) fun l hl ha hb => ?_
    refine rk_bin hc hr h f (k + 1) _ (by exact Nat.le_antisymm (far 1 [_, _, _] [.add (.add (.var 0) (.num 1)) (.var 1), .var 2, .add (.var 0) (.add (.var 1) (.num 1)), .var 2] rfl (Nat.le_of_eq e)) (far 1 [_, _, _] [.var 0, .add (.add (.var 1) (.num 1)) (.var 2), .var 0, .add (.var 1) (.add (.var 2) (.num 1))] rfl (Nat.le_of_eq e.symm))) (hp.of_perm (bubble_perm _ _ _)) fun i j hij hj => ?_
    have hks : k < p.size := by rw [hp.size]; exact far 1 [_, _, _] [.add (.var 0) (.num 1), .var 1, .add (.var 0) (.add (.var 2) (.num 1)), .var 1] rfl (Nat.le_of_eq e)
    have ha' : ∀ i, i < l → rkV r p i < rkV r p k := fun i hi => by
      have := ha i hi
      have hne : rkV r p i ≠ rkV r p k := fun e => by have := hp.inj hr (by exact far 1 [_, _, _, _, _] [.add (.var 0) (.num 1), .var 1, .add (.var 2) (.add (.var 3) (.num 1)), .var 1, .var 4, .var 2, .add (.var 0) (.num 1), .var 4] rfl (Nat.le_of_eq (by assumption)) hl hi) (by exact far 1 [_, _, _] [.add (.var 0) (.num 1), .var 1, .add (.var 0) (.add (.var 2) (.num 1)), .var 1] rfl (Nat.le_of_eq (by assumption))) e; exact Nat.not_succ_le_zero 0 (far 0 [_, _, _] [.num 1, .num 0, .var 0, .var 1, .add (.var 2) (.num 1), .var 0, .var 1, .var 2] rfl hl hi (Nat.le_of_eq this.symm))
      exact Nat.lt_of_le_of_ne this hne
    rw [rkV_bubble hks hl, rkV_bubble hks hl]
    by_cases h1 : i = l
    · subst h1
      rw [if_pos rfl, if_neg (by exact Nat.ne_of_gt hij), if_pos (by exact ⟨hij, Nat.le_of_lt_succ hj⟩)]
      exact hb _ (by exact far 1 [_, _, _] [.var 0, .var 1, .add (.var 0) (.num 1), .var 2, .var 2, .add (.var 1) (.num 1)] rfl hij (sbA _ _)) (by exact far 1 [_, _, _] [.add (.var 0) (.num 1), .var 1, .add (.var 2) (.num 1), .add (.var 1) (.num 1), .add (.var 0) (.num 1), .var 2] rfl hj (sbC (Nat.zero_lt_of_lt hij)))
    · rw [if_neg h1]
      by_cases h2 : l < i
      · rw [if_pos (by exact ⟨h2, far 1 [_, _, _] [.var 0, .var 1, .add (.var 0) (.num 1), .var 2, .add (.var 2) (.num 1), .add (.var 1) (.num 1)] rfl hij hj⟩), if_neg (by exact Nat.ne_of_gt (Nat.le_trans h2 (Nat.le_of_lt hij))), if_pos (by exact ⟨Nat.le_trans h2 (Nat.le_of_lt hij), Nat.le_of_lt_succ hj⟩)]
        exact hu _ _ (by exact far 1 [_, _, _, _] [.add (.var 0) (.num 1), .var 1, .add (.var 2) (.num 1), .var 3, .add (.var 0) (.num 1), .var 2, .var 3, .add (.var 1) (.num 1)] rfl hij (sbC (Nat.zero_lt_of_lt h2)) (sbA _ _)) (by exact far 1 [_, _, _] [.add (.var 0) (.num 1), .var 1, .add (.var 2) (.num 1), .add (.var 1) (.num 1), .add (.var 0) (.num 1), .var 2] rfl hj (sbC (Nat.zero_lt_of_lt hij)))
      · rw [if_neg (by exact fun hs9 => Nat.not_succ_le_zero 0 (far 0 [_, _] [.num 1, .num 0, .var 0, .var 1, .add (.var 1) (.num 1), .var 0] rfl (Nat.le_of_not_lt h2) hs9.1))]
        by_cases h3 : j = l
        · rw [if_pos h3]; exact ha' i (by exact Nat.le_trans hij (Nat.le_of_eq h3))
        · rw [if_neg h3]
          by_cases h4 : l < j
          · rw [if_pos (by exact ⟨h4, Nat.le_of_lt_succ hj⟩)]
            by_cases h5 : i = j - 1
            · omega
            · exact hu _ _ (by exact Nat.lt_of_le_of_ne (far 1 [_, _, _] [.var 0, .var 1, .add (.var 0) (.num 1), .var 2, .var 2, .add (.var 1) (.num 1)] rfl hij (sbA _ _)) h5) (by exact far 1 [_, _, _] [.add (.var 0) (.num 1), .var 1, .add (.var 2) (.num 1), .add (.var 1) (.num 1), .add (.var 0) (.num 1), .var 2] rfl hj (sbC (Nat.zero_lt_of_lt hij)))
          · rw [if_neg (by exact fun hs9 => Nat.not_succ_le_zero 0 (far 0 [_, _] [.num 1, .num 0, .var 0, .var 1, .add (.var 1) (.num 1), .var 0] rfl (Nat.le_of_not_lt h4) hs9.1))]
            exact hu _ _ hij (by exact Nat.le_trans (Nat.lt_of_le_of_ne ((Nat.le_of_not_lt h4)) h3) hl)
theorem rk_sort (hc : AskOk cmp r n s) (hr : ∀ i j, i < n → j < n → r i = r j → i = j) (hn : 1 ≤ n) {Q : Array Nat → Shared → Prop} (h : ∀ p', RkOk r n p' → RkUp r p' n → Q p' s) : (kas_sort n).kasWp cmp Q s := by
  unfold kas_sort
  rw [KasT.kasWp_bind]
  have hp0 : RkOk r n (List.toArray (List.range n)) := ⟨by simp, by simp⟩
  refine rk_count hc hr hn hp0 fun m p h1 h2 hp hu => ?_
  dsimp only
  by_cases hm : m < n
  · rw [if_pos hm, Nat.max_eq_left h1]
    exact rk_bin hc hr h _ _ p (by exact Nat.le_antisymm (far 1 [_, _, _] [.add (.var 0) (.var 1), .var 2, .add (.var 1) (.var 0), .var 2] rfl (sbC h2)) (far 1 [_, _, _] [.var 0, .add (.var 1) (.var 2), .var 0, .add (.var 2) (.var 1)] rfl (sbA _ _))) hp hu
  · rw [if_neg hm]
    obtain rfl : m = n := by exact Nat.le_antisymm h2 ((Nat.le_of_not_lt hm))
    exact h p hp hu
end
end
section
/-! the order of bytes and pairs -/
theorem bytesLt_irrefl (a : List UInt8) : bytesLt a a = false := by
  unfold bytesLt
  induction a with
  | nil => rfl
  | cons x r ih => simp only [Builtin.Bytes.order, UInt8.lt_irrefl, if_false]; exact ih
theorem bytesLt_cons {x y : UInt8} {xs ys : List UInt8} : bytesLt (x :: xs) (y :: ys) = true ↔ x < y ∨ (x = y ∧ bytesLt xs ys = true) := by
  unfold bytesLt
  simp only [Builtin.Bytes.order]
  by_cases h : x < y
  · simp [h]
  · by_cases h2 : x > y
    · have h3 : ¬ x = y := fun e => by subst e; exact UInt8.lt_irrefl _ h2
      simp [h, h2, h3]
    · have : x = y := by
        have h1' : ¬ x.toNat < y.toNat := h
        have h2' : ¬ y.toNat < x.toNat := h2
        exact UInt8.toNat_inj.mp (by exact Nat.le_antisymm ((Nat.le_of_not_lt h2')) ((Nat.le_of_not_lt h1')))
      simp [this]
theorem bytesLt_trans : ∀ {a b c : List UInt8}, bytesLt a b = true → bytesLt b c = true → bytesLt a c = true
  | [], [], _, h, _ => by simp [bytesLt, Builtin.Bytes.order] at h
  | [], _ :: _, [], _, h => by simp [bytesLt, Builtin.Bytes.order] at h
  | [], _ :: _, _ :: _, _, _ => by simp [bytesLt, Builtin.Bytes.order]
  | _ :: _, [], _, h, _ => by simp [bytesLt, Builtin.Bytes.order] at h
  | _ :: _, _ :: _, [], _, h => by simp [bytesLt, Builtin.Bytes.order] at h
  | x :: xs, y :: ys, z :: zs, h1, h2 => by
    rw [bytesLt_cons] at h1 h2 ⊢
    rcases h1 with h1 | ⟨rfl, h1⟩
    · rcases h2 with h2 | ⟨rfl, _⟩
      · left
        have h1' : x.toNat < y.toNat := h1
        have h2' : y.toNat < z.toNat := h2
        show x.toNat < z.toNat
        exact Nat.le_trans h1' (Nat.le_of_lt h2')
      · exact .inl h1
    · rcases h2 with h2 | ⟨rfl, h2⟩
      · exact .inl h2
      · exact .inr ⟨rfl, bytesLt_trans h1 h2⟩
theorem bytesLt_total : ∀ {a b : List UInt8}, a ≠ b → bytesLt a b = true ∨ bytesLt b a = true
  | [], [], h => absurd rfl h
  | [], _ :: _, _ => .inl (by simp [bytesLt, Builtin.Bytes.order])
  | _ :: _, [], _ => .inr (by simp [bytesLt, Builtin.Bytes.order])
  | x :: xs, y :: ys, h => by
    rw [bytesLt_cons, bytesLt_cons]
    by_cases h1 : x < y
    · exact .inl (.inl h1)
    · by_cases h2 : y < x
      · exact .inr (.inl h2)
      · have e : x = y := by
          have h1' : ¬ x.toNat < y.toNat := h1
          have h2' : ¬ y.toNat < x.toNat := h2
          exact UInt8.toNat_inj.mp (by exact Nat.le_antisymm ((Nat.le_of_not_lt h2')) ((Nat.le_of_not_lt h1')))
        subst e
        rcases bytesLt_total (a := xs) (b := ys) (fun e => h (by rw [e])) with h3 | h3
        · exact .inl (.inr ⟨rfl, h3⟩)
        · exact .inr (.inr ⟨rfl, h3⟩)
theorem itemLt_iff {a b : Item} : itemLt a b = true ↔ itemLe a b := by
  unfold itemLt itemLe
  by_cases h : a.1 = b.1
  · rw [if_pos h]
    constructor
    · exact fun x => .inr ⟨h, x⟩
    · rintro (x | ⟨_, x⟩)
      · omega
      · exact x
  · rw [if_neg h]
    simp [h]
theorem itemLe_irrefl (a : Item) : ¬ itemLe a a := by
  rintro (h | ⟨_, h⟩)
  · omega
  · rw [bytesLt_irrefl] at h; cases h
theorem itemLe_trans {a b c : Item} (h1 : itemLe a b) (h2 : itemLe b c) : itemLe a c := by
  rcases h1 with h1 | ⟨e1, h1⟩ <;> rcases h2 with h2 | ⟨e2, h2⟩
  · exact .inl (by omega)
  · exact .inl (by omega)
  · exact .inl (by omega)
  · exact .inr ⟨e1.trans e2, bytesLt_trans h1 h2⟩
theorem itemLe_total {a b : Item} (h : a ≠ b) : itemLe a b ∨ itemLe b a := by
  by_cases h1 : a.1 = b.1
  · have h2 : a.2 ≠ b.2 := fun e => h (Prod.ext h1 e)
    rcases bytesLt_total h2 with h3 | h3
    · exact .inl (.inr ⟨h1, h3⟩)
    · exact .inr (.inr ⟨h1.symm, h3⟩)
  · rcases Int.lt_or_gt_of_ne h1 with h2 | h2
    · exact .inl (.inl h2)
    · exact .inr (.inl h2)
/-- two sorted rows of the same things are one -/
theorem sorted_unique : ∀ {l₁ l₂ : List Item}, l₁.Perm l₂ → l₁.Pairwise itemLe → l₂.Pairwise itemLe → l₁ = l₂
  | [], l₂, hp, _, _ => by simpa using hp.symm
  | a :: r, [], hp, _, _ => by simp at hp
  | a :: r, b :: t, hp, h1, h2 => by
    have hab : a = b := by
      rcases List.mem_cons.mp (hp.mem_iff.mp (.head _)) with e | e
      · exact e
      · rcases List.mem_cons.mp (hp.symm.mem_iff.mp (List.mem_cons_self (a := b) (l := t))) with e2 | e2
        · exact e2.symm
        · have k1 := (List.pairwise_cons.mp h1).1 b e2
          have k2 := (List.pairwise_cons.mp h2).1 a e
          exact absurd (itemLe_trans k1 k2) (itemLe_irrefl a)
    subst hab
    rw [sorted_unique (List.Perm.cons_inv hp) (List.pairwise_cons.mp h1).2 (List.pairwise_cons.mp h2).2]
/-- the rank of a place: how many are less -/
noncomputable def rankAt (items : List Item) (i : Nat) : Nat := (List.range items.length).countP fun j => itemLt (items.getD j (0, [])) (items.getD i (0, []))
theorem countP_lt {p q : Nat → Bool} : ∀ {l : List Nat} {x : Nat}, x ∈ l → (∀ y ∈ l, p y = true → q y = true) → p x = false → q x = true → l.countP p < l.countP q
  | y :: r, x, hx, h, hp, hq => by
    have hr : ∀ z ∈ r, p z = true → q z = true := fun z hz => h z (.tail _ hz)
    have hle : r.countP p ≤ r.countP q := List.countP_mono_left hr
    rcases List.mem_cons.mp hx with rfl | hx
    · rw [List.countP_cons, List.countP_cons, hp, hq]
      simp; exact Nat.succ_le_succ hle
    · have ih := countP_lt hx hr hp hq
      rw [List.countP_cons, List.countP_cons]
      by_cases hy : p y = true
      · rw [hy, h y (.head _) hy]; simp; exact ih
      · rw [Bool.not_eq_true] at hy
        rw [hy, if_neg (show ¬ false = true by decide)]; split <;> omega
theorem rank_lt {items : List Item} {i j : Nat} (hi : i < items.length) (hj : j < items.length) (h : itemLe (items.getD i (0, [])) (items.getD j (0, []))) : rankAt items i < rankAt items j := by
  refine countP_lt (x := i) (List.mem_range.mpr hi) (fun y _ hy => ?_) ?_ (itemLt_iff.mpr h)
  · exact itemLt_iff.mpr (itemLe_trans (itemLt_iff.mp hy) h)
  · rw [Bool.eq_false_iff]
    exact fun x => itemLe_irrefl _ (itemLt_iff.mp x)
theorem rank_dec {items : List Item} (hn : items.Nodup) {i j : Nat} (hi : i < items.length) (hj : j < items.length) : itemLt (items.getD i (0, [])) (items.getD j (0, [])) = decide (rankAt items i < rankAt items j) := by
  by_cases hij : i = j
  · subst hij
    rw [decide_eq_false (by exact Nat.not_lt.mpr (Nat.le_refl _)), Bool.eq_false_iff]
    exact fun x => itemLe_irrefl _ (itemLt_iff.mp x)
  · have hne : items.getD i (0, []) ≠ items.getD j (0, []) := fun e => hij ((List.getElem?_inj hi hn).mp (by
      rw [List.getD_eq_getElem?_getD, List.getD_eq_getElem?_getD, List.getElem?_eq_getElem hi, List.getElem?_eq_getElem hj] at e
      rw [List.getElem?_eq_getElem hi, List.getElem?_eq_getElem hj]
      exact congrArg some e))
    rcases itemLe_total hne with h | h
    · rw [itemLt_iff.mpr h, decide_eq_true (rank_lt hi hj h)]
    · have := rank_lt hj hi h
      rw [decide_eq_false (by exact Nat.not_lt.mpr (Nat.le_of_lt this)), Bool.eq_false_iff]
      exact fun x => itemLe_irrefl _ (itemLe_trans (itemLt_iff.mp x) h)
theorem rank_inj {items : List Item} (hn : items.Nodup) {i j : Nat} (hi : i < items.length) (hj : j < items.length) (h : rankAt items i = rankAt items j) : i = j := by
  apply Classical.byContradiction
  intro hij
  have hne : items.getD i (0, []) ≠ items.getD j (0, []) := fun e => hij ((List.getElem?_inj hi hn).mp (by
    rw [List.getD_eq_getElem?_getD, List.getD_eq_getElem?_getD, List.getElem?_eq_getElem hi, List.getElem?_eq_getElem hj] at e
    rw [List.getElem?_eq_getElem hi, List.getElem?_eq_getElem hj]
    exact congrArg some e))
  rcases itemLe_total hne with h2 | h2
  · have := rank_lt hi hj h2; omega
  · have := rank_lt hj hi h2; omega
end
section
section
variable {g : Glo} {k : Fun} {A : Around} {E : Value → Shared → Prop} {F : PMap} {X Y : XS} {G : GS} {env : Env} {s : Shared}
theorem pair_ask {x y : Value} {a b : Item} {Q : Bool → Shared → Prop} (hu : A.units < cLine) (hF : PLe F s.heap.get?) (hx : isPair F x a) (hy : isPair F y b) (h : Q (itemLt a b) s) : wpAny (model g.prog g.w) A (keyLt' (tuples' true) x y) Q (fun _ _ => False) s := by
  obtain ⟨p, n, t, u, rfl, f⟩ := hx
  obtain ⟨q, n2, t2, u2, rfl, f2⟩ := hy
  refine kat_lt (hF _ _ f) rfl (hF _ _ f2) rfl ?_
  show KatLex g.prog g.w A true _ Q [(.int a.1 t, .int b.1 t2), (.bytes a.2.toArray u, .bytes b.2.toArray u2)] 0 s
  refine kat_cons (MeetsSeq.EqGives.int a.1 b.1 t t2 _ _ _ _ _ _ (kat_go (fun e => kat_yes ?_) (fun e => kat_no ?_)))
  · have e : a.1 = b.1 := by simpa using e
    refine kat_cons (eqBy_by.eq _ _ a.2 b.2 ⟨u, rfl⟩ ⟨u2, rfl⟩ _ _ _ _ _ _ (kat_go (fun e2 => kat_yes (kat_nil ?_)) (fun e2 => kat_no ?_)))
    · have e2 : a.2 = b.2 := by simpa using e2
      have : itemLt a b = false := by unfold itemLt; rw [if_pos e, e2, bytesLt_irrefl]
      rw [this] at h
      exact h
    · refine kat_one _ _ (lt_bytes ?_)
      have : itemLt a b = bytesLt a.2 b.2 := by unfold itemLt; rw [if_pos e]
      rw [this] at h
      exact h
  · have e : ¬ a.1 = b.1 := by simpa using e
    refine oneLt_int ?_
    have : itemLt a b = decide (a.1 < b.1) := by unfold itemLt; rw [if_neg e]
    rw [this] at h
    exact h
theorem pair_tups {h : Heap} (hF : PLe F h.get?) : ∀ {vs : List Value} {items : List Item}, Paired (isPair F) vs items → ∃ fs, fs.length = vs.length ∧ KatTups h vs fs ∧ ∀ v ∈ fs, ∃ i t, v = .int i t
  | _, _, .nil => ⟨[], rfl, KatTups.nil, by simp⟩
  | _, _, .cons ⟨a, n, t, u, e, f⟩ r => by
    subst e
    obtain ⟨fs, h1, h2, h3⟩ := pair_tups hF r
    exact ⟨_ :: fs, by simp [h1], KatTups.cons (hF _ _ f) rfl rfl (by rfl) h2, fun v hv => by
      rcases List.mem_cons.mp hv with rfl | hv
      · exact ⟨_, t, rfl⟩
      · exact h3 v hv⟩
set_option maxHeartbeats 1000000
theorem W_sorted {v : Value} {vs : List Value} {items : List Item} {Φ : Cont Value} (hu : A.units + 2 < cLine) (hl : LView F X v vs) (hp : Paired (isPair F) vs items) (hn : items.Nodup) (h64 : vs.length < 64)
    (h : ∀ F' r vs' items', PLe F F' → FList F' r vs' → Paired (isPair F') vs' items' → items'.Perm items → items'.Pairwise itemLe → Φ r F' X G) : W g k A (call (.builtin "sorted") [v] []) Φ E F X G := ⟨fun s hs => by
  obtain ⟨l, o, rfl, ho, r⟩ := hs.list hl
  have hil := hp.length
  refine Calls.call_function_entry kind_sorted plain_sorted entry_sorted (args_sorted1 _) ?_
  unfold Builtin.«sorted»
  refine wpAny_bind (m := checkCount "sorted" 1 1 _) (wpAny_pure ?_)
  refine wpAny_bind (collect_list (r.isList ho) ?_ (by rw [sizeLine_eq]; exact far 1 [_] [.var 0, .num 16777216, .add (.var 0) (.num 1), .num 64] rfl h64))
  refine wpAny_bind (wpAny_newList ?_ (by rw [sizeLine_eq]; exact far 1 [_] [.var 0, .num 16777216, .add (.var 0) (.num 1), .num 64] rfl h64))
  have keep : ∀ b o, s.heap.get? b = some o → ((s.heap.push (seqObj "list" #[] 0)).update s.heap.objs.size (Obj.mapSeq (· ++ vs.toArray))).get? b = some o := fun b o q => by
    have hlt : b < s.heap.objs.size := Heap.lt_size q
    rw [Heap.get?_update_ne _ _ _ _ (Nat.ne_of_lt hlt), Heap.get?_push_ne _ _ _ (Nat.ne_of_lt hlt)]
    exact q
  have st1 := hs.grow keep s.toks
  have st2 := st1.ownL (r := .ob (seqObj "list" vs.toArray 0)) (h' := Heap.push _ (seqObj "list" vs.toArray 0)) (fun b o e => Heap.get?_push_of_some _ e) s.toks (size_none _) (Heap.get?_push_size _ rfl)
  show wpAny _ _ _ _ _ { s with heap := ((s.heap.push (seqObj "list" #[] 0)).update s.heap.objs.size (Obj.mapSeq (· ++ vs.toArray))).push (seqObj "list" vs.toArray 0) }
  have main : ∀ D s3, St g k F (X ++ [(D, .ob (seqObj "list" vs.toArray 0))]) G s3 → wpAny (model g.prog g.w) A.in1.in1 (Builtin.«list.sort» ⟨[.ref D], []⟩) (fun fin s' => ∃ v, fin = .done (.ret v) ∧ ∃ F' X' G', St g k F' X' G' s' ∧ Φ (.ref D) F' X' G') E s3 := by
    intro D s3 st
    have ho := ob_there st last_get
    rw [list_sort_plain]
    refine wpAny_bind (listItems_at ho rfl ?_)
    refine wpAny_bind (listUpdate_at ho rfl ?_ (by rw [List.size_toArray, sizeLine_eq]; exact far 1 [_] [.var 0, .num 16777216, .add (.var 0) (.num 1), .num 64] rfl h64) (Nat.zero_le _))
    generalize hh1 : s3.heap.update D (Obj.mapSeq fun _ => (#[] : Array Value)) = h1
    have sb1 : Heap.SameBut D s3.heap h1 := hh1 ▸ Heap.SameBut.update ..
    obtain ⟨e1, ho1⟩ : ∃ e1, h1.get? D = some (seqObj "list" #[] e1) := ⟨_, hh1 ▸ get?_update_seq ho fun _ => #[]⟩
    have st1 := st.set (r' := .ob (seqObj "list" #[] e1)) last_get s3.toks (h' := h1) (fun b o hb e => (sb1.2 b hb).trans e) ho1
    rw [last_set] at st1
    refine wpAny_bind (seqEpoch_at ho1 rfl ?_)
    refine wpAny_bind (wpAny_newTuple ?_ (by show vs.length ≤ _; rw [sizeLine_eq]; exact far 1 [_] [.var 0, .num 16777216, .add (.var 0) (.num 1), .num 64] rfl h64))
    refine wpAny_bind (wpAny_newList ?_ (Nat.zero_le _))
    refine wpAny_holding ?_
    have st2 := st1.grow (h' := (h1.push { cls := .type "tuple", data := .seq vs.toArray.toList.toArray }).push { cls := .type "list", data := .seq ([] : List Value).toArray }) (fun b o e => Heap.get?_push_of_some _ (Heap.get?_push_of_some _ e)) s3.toks
    generalize (h1.push { cls := .type "tuple", data := .seq vs.toArray.toList.toArray }).push { cls := .type "list", data := .seq ([] : List Value).toArray } = h2 at st2
    have tail : ∀ out : List Value, Paired (isPair F) out (out.map (itOf F)) → out.length = vs.length → (out.map (itOf F)).Perm items → (out.map (itOf F)).Pairwise itemLe → ∀ st' : SortSt, (arrOf st').map (·.2) = List.toArray out → failedOf st' = none →
        wpAny (model g.prog g.w) A.in1.in1 (do
          let touched := (← seqEpoch D) != e1
          Builtin.List.listUpdate (.ref D) fun _ => (arrOf st').map (·.2)
          if let some e := failedOf st' then rule "list.sort.comparison-raised"; throw e
          if touched then rule "list.sort.modified"; raiseError "ValueError" "list modified during sort"
          ret .none) (fun fin s' => ∃ v, fin = .done (.ret v) ∧ ∃ F' X' G', St g k F' X' G' s' ∧ Φ (.ref D) F' X' G') E { s3 with heap := h2 } := by
      intro out hpo hol hpm hpw st' har hf
      have na := ob_there st2 last_get
      have na : h2.get? D = some (seqObj "list" #[] e1) := na
      rw [har, hf]
      generalize hh3 : h2.update D (Obj.mapSeq fun _ => List.toArray out) = h3
      have sb3 : Heap.SameBut D h2 h3 := hh3 ▸ Heap.SameBut.update ..
      obtain ⟨c3, hc3⟩ : ∃ c3, h3.get? D = some (seqObj "list" (List.toArray out) c3) := ⟨_, hh3 ▸ get?_update_seq na fun _ => List.toArray out⟩
      have st3 := st2.set (r' := .ob (seqObj "list" (List.toArray out) c3)) last_get s3.toks (h' := h3) (fun b o hb e => (sb3.2 b hb).trans e) hc3
      rw [last_set] at st3
      refine wpAny_bind (seqEpoch_at na rfl ?_)
      refine wpAny_bind (listUpdate_at na rfl ?_ (Nat.zero_le _) (by rw [List.size_toArray, hol, sizeLine_eq]; exact far 1 [_] [.var 0, .add (.num 16777216) (.num 1), .add (.var 0) (.num 1), .num 64] rfl h64))
      simp only [bne_self_eq_false, Bool.false_eq_true, if_false]
      rw [hh3]
      have hap := (st3.apart _ (List.mem_of_getElem? last_get)).1
      have st4 := st3.freeze last_get (ob_there st3 last_get)
      rw [last_erase] at st4
      have le := fset_le hap (o := seqObj "list" (List.toArray out) c3)
      exact wpAny_pure ⟨_, rfl, st4.done (h _ _ out _ le ⟨D, _, rfl, fset_self, rfl, rfl, rfl, c3, rfl⟩ (paired_mono hpo fun _ _ r => r.mono le) hpm hpw)⟩
    have hitems : items = vs.map (itOf F) := pairs_map hp
    by_cases h2' : vs.toArray.size < 2
    · rw [if_pos h2', if_pos h2']
      refine wpAny_bind (wpAny_pure ?_)
      dsimp only
      rw [StateT.run_pure]
      refine wpAny_bind (wpAny_pure ?_)
      dsimp only
      rw [List.size_toArray] at h2'
      refine tail vs (hitems ▸ hp) rfl (hitems ▸ List.Perm.refl _) ?_ _ ?_ rfl
      · rw [List.pairwise_iff_getElem]
        intro i j hi hj hij
        rw [List.length_map] at hi hj
        omega
      · show (vs.toArray.zip vs.toArray).map (·.2) = _
        apply Array.toList_inj.mp
        rw [Array.toList_map, Array.toList_zip]
        exact map_snd_zip _ _ (Nat.le_refl _)
    · rw [if_neg h2', if_neg h2']
      rw [List.size_toArray] at h2'
      obtain ⟨fs, hf1, hf2, hf3⟩ := pair_tups st2.fro hp
      refine wpAny_bind (kat_kind (T := .type "int") hf2 (by exact far 1 [_, _] [.add (.num 0) (.num 1), .var 0, .num 2, .var 1, .var 1, .var 0] rfl (Nat.le_of_not_lt h2') (Nat.le_of_eq hf1.symm)) (fun v hv => by obtain ⟨i, t, rfl⟩ := hf3 v hv; exact .now) (by rfl) ?_)
      dsimp only
      have hux : A.in1.in1.units < cLine := hu
      have hask : AskOk (kas_ask g.prog g.w A.in1.in1 (tuples' true) vs) (rankAt items) vs.length { s3 with heap := h2 } := fun i j C hi hj hC => by
        obtain ⟨x, hx, px⟩ := paired_get' hp (List.getElem?_eq_getElem hi)
        obtain ⟨y, hy, py⟩ := paired_get' hp (List.getElem?_eq_getElem hj)
        have ex : vs.getD i Value.none = vs[i] := by simp [List.getD, hi]
        have ey : vs.getD j Value.none = vs[j] := by simp [List.getD, hj]
        have fx : items.getD i (0, []) = x := by simp [List.getD, hx]
        have fy : items.getD j (0, []) = y := by simp [List.getD, hy]
        unfold kas_ask
        rw [ex, ey]
        refine pair_ask hux st2.fro px py ?_
        rw [← fx, ← fy, rank_dec hn (by exact Nat.le_trans hi (Nat.le_of_eq hil)) (by exact Nat.le_trans hj (Nat.le_of_eq hil))]
        exact hC
      refine wpAny_bind (wpAny_mono (kat_run (Q := fun st' s' => s' = { s3 with heap := h2 } ∧ ∃ p : Array Nat, arrOf st' = p.map (kas_item (vs.toArray.zip vs.toArray)) ∧ failedOf st' = none ∧ RkOk (rankAt items) vs.length p ∧ RkUp (rankAt items) p vs.length)
        rfl (by exact Nat.le_of_not_lt h2') h64 (G := fun p s' => s' = { s3 with heap := h2 } ∧ RkOk (rankAt items) vs.length p ∧ RkUp (rankAt items) p vs.length) (fun p' st' s' a1 a2 a3 a4 => ⟨a4.1, p', a2, a3, a4.2⟩)
        (rk_sort hask (fun i j hi hj e => rank_inj hn (by exact Nat.le_trans hi (Nat.le_of_eq hil)) (by exact Nat.le_trans hj (Nat.le_of_eq hil)) e) (by exact far 1 [_] [.num 1, .var 0, .num 2, .var 0] rfl (Nat.le_of_not_lt h2')) fun p hp1 hp2 => ⟨rfl, hp1, hp2⟩)) ?_ fun _ _ e => e)
      rintro ⟨⟨⟩, st'⟩ s' ⟨rfl, p, har, hf, hp1, hp2⟩
      have hout := kat_snds (ks := vs) (vs := vs) rfl har
      have hmem : ∀ i ∈ p.toList, i < vs.length := fun i hi => List.mem_range.mp (hp1.perm.mem_iff.mp hi)
      have hvs : (List.range vs.length).map (fun i => vs.getD i Value.none) = vs := by
        apply List.ext_getElem?
        intro i
        rw [List.getElem?_map]
        by_cases hi : i < vs.length
        · rw [List.getElem?_range hi, List.getElem?_eq_getElem hi]; simp [List.getD, hi]
        · rw [List.getElem?_eq_none (by simpa using Nat.le_of_not_lt hi), List.getElem?_eq_none (Nat.le_of_not_lt hi)]; rfl
      have hperm : (p.toList.map fun i => vs.getD i Value.none).Perm vs := by
        have := hp1.perm.map (fun i => vs.getD i Value.none)
        rwa [hvs] at this
      have hex : ∀ v ∈ vs, ∃ x, isPair F v x := fun v hv => by
        obtain ⟨i, hi⟩ := List.getElem?_of_mem hv
        obtain ⟨b, _, pb⟩ := paired_get' hp hi
        exact ⟨b, pb⟩
      refine tail _ (pairs_of_map fun v hv => hex v (hperm.mem_iff.mp hv)) hperm.length_eq ?_ ?_ st' hout hf
      · rw [hitems]; exact hperm.map _
      · rw [List.map_map, List.pairwise_map, List.pairwise_iff_getElem]
        intro i j hi hj hij
        have hi' : i < p.size := by simpa using hi
        have hj' : j < p.size := by simpa using hj
        have hr := hp2 i j hij (by rw [← hp1.size]; exact hj')
        unfold rkV at hr
        have ei : p.getD i 0 = p.toList[i] := by simp [Array.getD, hi']
        have ej : p.getD j 0 = p.toList[j] := by simp [Array.getD, hj']
        rw [ei, ej] at hr
        have l1 := hmem _ (List.getElem_mem hi)
        have l2 := hmem _ (List.getElem_mem hj)
        have hd := rank_dec hn (i := p.toList[i]) (j := p.toList[j]) (by omega) (by omega)
        rw [decide_eq_true hr] at hd
        have e3 : ∀ q, q < vs.length → itOf F (vs.getD q Value.none) = items.getD q (0, []) := fun q hq => by
          rw [hitems]
          simp [List.getD, hq]
        show itemLe (itOf F (vs.getD p.toList[i] Value.none)) (itOf F (vs.getD p.toList[j] Value.none))
        rw [e3 _ l1, e3 _ l2]
        exact itemLt_iff.mp hd
  refine wpAny_bind (wpAny_holding (wpAny_call_entry PyProof.Rows.slot_list_sort ⟨_, ob_there st2 last_get, rfl⟩ PyProof.Rows.entry_list_sort ?_ (args_list_sort _)))
  refine wpAny_mono (main _ _ st2) (fun fin s' hq => ?_) fun _ _ e => e
  obtain ⟨v, rfl, F', X', G', st', hΦ⟩ := hq
  exact ⟨_, rfl, wpAny_pure ⟨_, rfl, st'.done hΦ⟩⟩⟩
end
end
section
noncomputable def fbAt (ns : List Int) (k : Nat) : List Nat := (LFb ns).getD k []
noncomputable def hasOther (ns : List Int) (k : Nat) : Bool := !decide (((LO ns).filter fun j => decide (k ∈ fbAt ns j)) = [])
noncomputable def commonN (ns : List Int) : List Nat := if LO ns ≠ [] then (fbAt ns (LA ns)).filter (hasOther ns) else [LA ns]
noncomputable def isGreat (ns : List Int) (k : Nat) : Bool := decide (((commonN ns).filter fun j => decide (j ≠ k) && decide (k ∈ fbAt ns j)) = [])
noncomputable def greatN (ns : List Int) : List Nat := (commonN ns).filter (isGreat ns)
theorem fbN_row (P : List (List Nat)) : ∀ (n k : Nat) (row : List Nat), (fbN P n)[k]? = some row → k < n ∧ row = fbRow P (fbN P k) k
  | 0, k, row, h => by simp [fbN] at h
  | n + 1, k, row, h => by
    have hl := fbN_len P n
    simp only [fbN] at h
    by_cases hk : k < n
    · rw [List.getElem?_append_left (by exact Nat.le_trans hk (Nat.le_of_eq hl.symm))] at h
      obtain ⟨h1, h2⟩ := fbN_row P n k row h
      exact ⟨by exact far 1 [_, _] [.add (.var 0) (.num 1), .add (.var 1) (.num 1), .add (.var 0) (.num 1), .var 1] rfl hk, h2⟩
    · rw [List.getElem?_append_right (by exact Nat.le_trans (Nat.le_of_eq hl) (Nat.le_of_not_lt hk)), hl] at h
      by_cases hk2 : k = n
      · subst hk2
        simp at h
        exact ⟨by exact Nat.le_refl _, h.symm⟩
      · rw [List.getElem?_eq_none (by simp; exact far 1 [_, _, _] [.num 1, .var 0, .var 1, .add (.var 0) (.var 2), .add (.var 2) (.num 1), .var 1] rfl (sbA _ _) (Nat.lt_of_le_of_ne ((Nat.le_of_not_lt hk)) (Ne.symm hk2)))] at h
        cases h
theorem fbAt_some (ns : List Int) {k : Nat} (hk : k < scrSize ns) : (LFb ns)[k]? = some (fbAt ns k) := by
  obtain ⟨row, hrow⟩ : ∃ row, (LFb ns)[k]? = some row := ⟨_, List.getElem?_eq_getElem (by unfold LFb; rw [fbN_len]; exact hk)⟩
  unfold fbAt
  rw [hrow, List.getD_eq_getElem?_getD, hrow]
  rfl
theorem fbAt_le (ns : List Int) {k p : Nat} (h : p ∈ fbAt ns k) : p ≤ k ∧ k < scrSize ns := by
  unfold fbAt at h
  rw [List.getD_eq_getElem?_getD] at h
  cases e : (LFb ns)[k]? with
  | none => rw [e] at h; cases h
  | some row =>
    rw [e] at h
    obtain ⟨h1, h2⟩ := fbN_row _ _ _ _ e
    have h : p ∈ row := h
    rw [h2] at h
    unfold fbRow at h
    have := List.mem_range.mp (List.mem_filter.mp h).1
    exact ⟨by exact Nat.le_of_lt_succ this, h1⟩
theorem fbAt_len (ns : List Int) (k : Nat) : (fbAt ns k).length ≤ k + 1 := by
  unfold fbAt
  rw [List.getD_eq_getElem?_getD]
  cases e : (LFb ns)[k]? with
  | none => simp
  | some row =>
    obtain ⟨h1, h2⟩ := fbN_row _ _ _ _ e
    show row.length ≤ _
    rw [h2]
    unfold fbRow
    exact Nat.le_trans (List.length_filter_le _ _) (by simp)
theorem commonN_lt (ns : List Int) : ∀ k ∈ commonN ns, k < scrSize ns := fun k hk => by
  unfold commonN at hk
  split at hk
  · have := fbAt_le ns (List.mem_filter.mp hk).1
    have := LA_lt ns
    omega
  · rw [List.mem_singleton.mp hk]; exact LA_lt ns
theorem commonN_len (ns : List Int) : (commonN ns).length ≤ 10 := by
  have := LA_lt ns
  have := scrSize_le ns
  unfold commonN
  split
  · have := fbAt_len ns (LA ns)
    exact Nat.le_trans (List.length_filter_le _ _) (by omega)
  · simp
section
variable {g : Glo} {k : Fun} {l : List Env} {A : Around} {E : Value → Shared → Prop} {F : PMap} {X Y : XS} {G : GS} {env : Env} {s : Shared} {mg mb : Str → Option Value} {L0 : Addr} {α : Type}
set_option maxHeartbeats 4000000
theorem W_law12 {L : Addr} {m : Str → Option Value} {ns : List Int} {ta : Tok} {fv ov : Value} {Φ : Cont Flow} (hh : A.handled = none) (hr : Room A 12)
    (hm : m (Str.ofString "first") = some (.int (LA ns : Nat) ta)) (hcF : CellAt F (L + 6) fv) (hfv : NLL F fv (LFb ns)) (hcO : CellAt F (L + 7) ov) (hov : NL F ov (LO ns))
    (h : ∀ F' G' m' cv gv, PLe F F' → CellAt F' (L + 8) cv → NL F' cv (commonN ns) → m' (Str.ofString "first") = some (.int (LA ns : Nat) ta) → m' (Str.ofString "told") = m (Str.ofString "told") → m' (Str.ofString "greatest") = some gv → NL F' gv (greatN ns) →
      W g k A (execs (tl126 g.w 14) (E126 g.w L)) Φ E F' [(L, .ns m')] G') :
    W g k A (execs (tl126 g.w 12) (E126 g.w L)) Φ E F [(L, .ns m), (L + 8, .ce none)] G := by
  have hsz := scrSize_le ns
  have hA := LA_lt ns
  obtain ⟨fvs, hfl, hfp⟩ := id hfv
  obtain ⟨ovs, hol, hop⟩ := id hov
  have ol := hop.length
  have hl3 := LO_len ns
  -- statement 13, wherever 12 came from
  have tail : ∀ F' G' cv, PLe F F' → CellAt F' (L + 8) cv → NL F' cv (commonN ns) → W g k A (execs (tl126 g.w 13) (E126 g.w L)) Φ E F' [(L, .ns m)] G' := by
    intro F1 G1 cv le1 hcC hcv
    obtain ⟨cvs, hcl, hcp⟩ := id hcv
    have cl := hcp.length
    have c10 := commonN_len ns
    walk_at "w"
    refine W_AssignComp (i := 0) (some (Str.ofString "k")) _ ?_ (hclos := closureFor_list (by kernel_rfl))
    walk_at "ws"
    refine W_cL hcC ?_
    refine W_iterL hh hcl fun I r hI => ?_
    refine ⟨I, r, _, _, _, fun q ys _ => Paired isNat ys (((commonN ns).take q).filter (isGreat ns)), _, rfl, rfl, (by show _ ≤ 16777216; exact far 1 [_, _] [.var 0, .num 16777216, .var 0, .var 1, .var 1, .num 10] rfl (Nat.le_of_eq cl) c10), hI, ⟨.nil, ?_⟩, rfl, ?_⟩
    · rintro q x ys F2 G2 m2 cv2 C D E2 hq hx le2 hJ hy
      obtain ⟨kk, hk, tk, rfl⟩ := paired_get' hcp hx
      have le12 := le1.trans le2
      walk_at "w"
      walk_at "w"
      walk_at "x"
      refine W_tests1 ?_
      walk_at "w"
      refine W_ListComp none _ ?_ (hclos := closureFor_list (by kernel_rfl))
      walk_at "ws"
      refine W_cL (hcC.mono le2) ?_
      refine W_iterL hh (hcl.mono le2) fun I2 r2 hI2 => ?_
      refine ⟨I2, r2, _, _, _, fun i zs _ => Paired isNat zs (((commonN ns).take i).filter fun j => decide (j ≠ kk) && decide (kk ∈ fbAt ns j)), rfl, rfl, (by show _ ≤ 16777216; exact far 1 [_, _] [.var 0, .num 16777216, .var 0, .var 1, .var 1, .num 10] rfl (Nat.le_of_eq cl) c10), hI2, ⟨.nil, ?_⟩, ?_⟩
      · rintro i x zs F3 G3 m3 cv3 C3 D3 E3 hi hx le3 hJ3 hz3
        obtain ⟨j, hj, tj, rfl⟩ := paired_get' hcp hx
        have hjn := commonN_lt ns j (List.mem_of_getElem? hj)
        have htake := take_succ_filter (fun j => decide (j ≠ kk) && decide (kk ∈ fbAt ns j)) (commonN ns) i j hj
        walk_at "w"
        walk_at "w"
        walk_at "x"
        refine W_tests1 ?_
        walk_at "ws"
        rw [show (((j : Nat) : Int) != ((kk : Nat) : Int)) = decide (j ≠ kk) from by show (!(((j : Nat) : Int) == ((kk : Nat) : Int))) = _; rw [natBeq]; by_cases e : j = kk <;> simp [e]]
        by_cases hjk : j = kk
        · rw [if_neg (by simp [hjk])]
          rw [if_neg (by decide)]
          refine ⟨by walk_at "sub", le3, ?_⟩
          rw [htake, if_neg (by simp [hjk]), List.append_nil]
          exact hJ3
        · rw [if_pos (by simp [hjk])]
          walk_at "ws"
          refine W_cL (hcF.mono (le12.trans le3)) ?_
          walk_at "ws"
          obtain ⟨rv, hrv, rvs, hrl, hrp⟩ := paired_get hfp (fbAt_some ns hjn)
          refine W_item (.inl (hfl.mono (le12.trans le3))) (by exact Int.natCast_nonneg _) (by exact Int.ofNat_lt.mpr (show j < 9223372036854775808 from far 1 [_, _] [.add (.var 0) (.num 1), .num 9223372036854775808, .var 1, .num 10, .add (.var 0) (.num 1), .var 1] rfl hsz.1 hjn)) hrv ?_
          refine W_in eqBy_nat (a := kk) ⟨tk, rfl⟩ (.inl (hrl.mono (le12.trans le3))) hrp ?_
          walk_at "w"
          by_cases hin : kk ∈ fbAt ns j
          · rw [if_pos (by simpa using hin)]
            walk_at "w"
            rw [if_pos rfl]
            walk_at "ws"
            refine ⟨by walk_at "sub", le3, ?_⟩
            rw [htake, if_pos (by simp [hjk, hin])]
            exact hJ3.snoc ⟨tj, rfl⟩
          · rw [if_neg (by simpa using hin)]
            rw [if_neg (by decide)]
            refine ⟨by walk_at "sub", le3, ?_⟩
            rw [htake, if_neg (by simp [hin]), List.append_nil]
            exact hJ3
      · rintro zs F3 F4 G4 zv le3 hzs le4 hzl hzv
        rw [List.take_of_length_le (by exact Nat.le_of_eq cl.symm)] at hzs
        refine W_ListF ?_
        walk_at "ws"
        refine ⟨by show 0 ≤ 16777216; exact Nat.zero_le _, fun F5 v5 le5 hv5 => ?_⟩
        refine W_eqL eqBy_nat (.inl (hzv.mono le5)) (.inl hv5) hzs .nil hr.u ?_
        walk_at "w"
        have htake := take_succ_filter (isGreat ns) (commonN ns) q kk hk
        have hg : decide (((commonN ns).filter fun j => decide (j ≠ kk) && decide (kk ∈ fbAt ns j)) = []) = isGreat ns kk := rfl
        rw [hg]
        cases hgr : isGreat ns kk with
        | true =>
          rw [if_pos rfl]
          walk_at "ws"
          refine ⟨by walk_at "sub", ((le2.trans le3).trans le4).trans le5, ?_⟩
          rw [htake, if_pos hgr]
          exact hJ.snoc ⟨tk, rfl⟩
        | false =>
          rw [if_neg (by decide)]
          refine ⟨by walk_at "sub", ((le2.trans le3).trans le4).trans le5, ?_⟩
          rw [htake, if_neg (by simp [hgr]), List.append_nil]
          exact hJ
    · rintro ys F2 F3 G3 gv le2 hys le3 _ hgv
      rw [List.take_of_length_le (by exact Nat.le_of_eq cl.symm)] at hys
      walk_at "x"
      have le23 := le2.trans le3
      exact h _ _ _ cv gv (le1.trans le23) (hcC.mono le23) (hcv.mono le23) (upd_ne hm (by kernel_rfl)) (by unfold upd; rw [if_neg (by decide)]) upd_self ⟨ys, hgv, hys⟩
  walk_at "w"
  walk_at "w"
  walk_at "w"
  walk_at "w"
  walk_at "w"
  refine W_cL hcO ?_
  refine W_ListF ?_
  walk_at "ws"
  refine ⟨by show 0 ≤ 16777216; exact Nat.zero_le _, fun F1 v1 le1 hv1 => ?_⟩
  refine W_neL eqBy_nat (.inl (hol.mono le1)) (.inl hv1) hop .nil hr.u ?_
  walk_at "w"
  by_cases hO : LO ns = []
  · rw [if_neg (by simp [hO])]
    refine W_ListF ?_
    walk_at "ws"
    refine ⟨by show 1 ≤ 16777216; exact far 1 [] [.num 1, .num 16777216] rfl, fun F2 v2 le2 hv2 => ?_⟩
    walk_at "w"
    walk_at "x"
    refine W_fzCell 1 rfl fun F3 le3 hcC => ?_
    walk_at "x"
    refine tail _ _ _ ((le1.trans le2).trans le3) hcC ?_
    unfold commonN
    rw [if_neg (by simp [hO])]
    exact ⟨_, hv2.mono le3, .cons ⟨ta, rfl⟩ .nil⟩
  · rw [if_pos (by simp [hO])]
    refine W_ListComp (some (Str.ofString "k")) _ ?_ (hclos := closureFor_list (by kernel_rfl))
    walk_at "ws"
    refine W_cL (hcF.mono le1) ?_
    walk_at "ws"
    obtain ⟨rv, hrv, rvs, hrl, hrp⟩ := paired_get hfp (fbAt_some ns hA)
    have rl := hrp.length
    have fl := fbAt_len ns (LA ns)
    refine W_item (.inl (hfl.mono le1)) (by exact Int.natCast_nonneg _) (by exact Int.ofNat_lt.mpr (show LA ns < 9223372036854775808 from far 1 [_, _] [.add (.var 0) (.num 1), .num 9223372036854775808, .var 1, .num 10, .add (.var 0) (.num 1), .var 1] rfl hsz.1 hA)) hrv ?_
    refine W_iterL hh (hrl.mono le1) fun I r hI => ?_
    refine ⟨I, r, _, _, _, fun q ys _ => Paired isNat ys (((fbAt ns (LA ns)).take q).filter (hasOther ns)), rfl, rfl, (by show _ ≤ 16777216; exact far 1 [_, _, _, _] [.var 0, .num 16777216, .var 1, .num 10, .add (.var 2) (.num 1), .var 1, .var 0, .var 3, .var 3, .add (.var 2) (.num 1)] rfl hsz.1 hA (Nat.le_of_eq rl) fl), hI, ⟨.nil, ?_⟩, ?_⟩
    · rintro q x ys F2 G2 m2 cv2 C D E2 hq hx le2 hJ hy
      obtain ⟨kk, hk, tk, rfl⟩ := paired_get' hrp hx
      have le12 := le1.trans le2
      walk_at "w"
      walk_at "w"
      walk_at "x"
      refine W_tests1 ?_
      walk_at "w"
      refine W_ListComp none _ ?_ (hclos := closureFor_list (by kernel_rfl))
      walk_at "ws"
      refine W_cL (hcO.mono le12) ?_
      refine W_iterL hh (hol.mono le12) fun I2 r2 hI2 => ?_
      refine ⟨I2, r2, _, _, _, fun i zs _ => Paired isNat zs (((LO ns).take i).filter fun j => decide (kk ∈ fbAt ns j)), rfl, rfl, (by show _ ≤ 16777216; exact far 1 [_, _] [.var 0, .num 16777216, .var 0, .var 1, .var 1, .num 3] rfl (Nat.le_of_eq ol) hl3), hI2, ⟨.nil, ?_⟩, ?_⟩
      · rintro i x zs F3 G3 m3 cv3 C3 D3 E3 hi hx le3 hJ3 hz3
        obtain ⟨j, hj, tj, rfl⟩ := paired_get' hop hx
        have hjn := LO_lt ns j (List.mem_of_getElem? hj)
        have htake := take_succ_filter (fun j => decide (kk ∈ fbAt ns j)) (LO ns) i j hj
        walk_at "w"
        walk_at "w"
        walk_at "x"
        refine W_tests1 ?_
        walk_at "ws"
        refine W_cL (hcF.mono (le12.trans le3)) ?_
        walk_at "ws"
        obtain ⟨rv2, hrv2, rvs2, hrl2, hrp2⟩ := paired_get hfp (fbAt_some ns hjn)
        refine W_item (.inl (hfl.mono (le12.trans le3))) (by exact Int.natCast_nonneg _) (by exact Int.ofNat_lt.mpr (show j < 9223372036854775808 from far 1 [_, _] [.add (.var 0) (.num 1), .num 9223372036854775808, .var 1, .num 10, .add (.var 0) (.num 1), .var 1] rfl hsz.1 hjn)) hrv2 ?_
        refine W_in eqBy_nat (a := kk) ⟨tk, rfl⟩ (.inl (hrl2.mono (le12.trans le3))) hrp2 ?_
        walk_at "w"
        by_cases hin : kk ∈ fbAt ns j
        · rw [if_pos (by simpa using hin)]
          walk_at "ws"
          refine ⟨by walk_at "sub", le3, ?_⟩
          rw [htake, if_pos (by simp [hin])]
          exact hJ3.snoc ⟨tj, rfl⟩
        · rw [if_neg (by simpa using hin)]
          refine ⟨by walk_at "sub", le3, ?_⟩
          rw [htake, if_neg (by simp [hin]), List.append_nil]
          exact hJ3
      · rintro zs F3 F4 G4 zv le3 hzs le4 hzl hzv
        rw [List.take_of_length_le (by exact Nat.le_of_eq ol.symm)] at hzs
        refine W_ListF ?_
        walk_at "ws"
        refine ⟨by show 0 ≤ 16777216; exact Nat.zero_le _, fun F5 v5 le5 hv5 => ?_⟩
        refine W_neL eqBy_nat (.inl (hzv.mono le5)) (.inl hv5) hzs .nil hr.u ?_
        walk_at "w"
        have htake := take_succ_filter (hasOther ns) (fbAt ns (LA ns)) q kk hk
        have hg : (!decide (((LO ns).filter fun j => decide (kk ∈ fbAt ns j)) = [])) = hasOther ns kk := rfl
        rw [hg]
        cases hgr : hasOther ns kk with
        | true =>
          rw [if_pos rfl]
          walk_at "ws"
          refine ⟨by walk_at "sub", ((le2.trans le3).trans le4).trans le5, ?_⟩
          rw [htake, if_pos hgr]
          exact hJ.snoc ⟨tk, rfl⟩
        | false =>
          rw [if_neg (by decide)]
          refine ⟨by walk_at "sub", ((le2.trans le3).trans le4).trans le5, ?_⟩
          rw [htake, if_neg (by simp [hgr]), List.append_nil]
          exact hJ
    · rintro ys F2 F3 G3 cv le2 hys le3 _ hcv
      rw [List.take_of_length_le (by exact Nat.le_of_eq rl.symm)] at hys
      walk_at "w"
      walk_at "x"
      refine W_fzCell 1 rfl fun F4 le4 hcC => ?_
      walk_at "x"
      refine tail _ _ _ (((le1.trans le2).trans le3).trans le4) hcC ?_
      unfold commonN
      rw [if_pos hO]
      exact ⟨ys, hcv.mono le4, hys⟩
end
end
section
noncomputable def pairN (ns : List Int) (k : Nat) : Item := (((if k ∈ LG ns then 0 else (LT ns).getD k 0 : Nat) : Int), lawName k)
theorem fbAt_nodup (ns : List Int) (k : Nat) : (fbAt ns k).Nodup := by
  unfold fbAt
  rw [List.getD_eq_getElem?_getD]
  cases e : (LFb ns)[k]? with
  | none => exact List.nodup_nil
  | some row =>
    obtain ⟨h1, h2⟩ := fbN_row _ _ _ _ e
    show row.Nodup
    rw [h2]
    unfold fbRow
    exact List.Nodup.sublist List.filter_sublist List.nodup_range
theorem commonN_nodup (ns : List Int) : (commonN ns).Nodup := by
  unfold commonN
  split
  · exact List.Nodup.sublist List.filter_sublist (fbAt_nodup _ _)
  · simp
theorem greatN_nodup (ns : List Int) : (greatN ns).Nodup := List.Nodup.sublist List.filter_sublist (commonN_nodup ns)
theorem greatN_lt (ns : List Int) : ∀ k ∈ greatN ns, k < scrSize ns := fun k hk => commonN_lt ns k (List.mem_filter.mp hk).1
theorem greatN_len (ns : List Int) : (greatN ns).length ≤ 10 := Nat.le_trans (List.length_filter_le _ _) (commonN_len ns)
theorem nodup_map_of {α β : Type} {f : α → β} : ∀ {l : List α}, l.Nodup → (∀ a ∈ l, ∀ b ∈ l, f a = f b → a = b) → (l.map f).Nodup
  | [], _, _ => List.nodup_nil
  | x :: r, hn, h => by
    obtain ⟨h1, h2⟩ := List.nodup_cons.mp hn
    rw [List.map_cons]
    refine List.nodup_cons.mpr ⟨fun hm => ?_, nodup_map_of h2 fun a ha b hb => h a (.tail _ ha) b (.tail _ hb)⟩
    obtain ⟨y, hy, e⟩ := List.mem_map.mp hm
    have := h y (.tail _ hy) x (.head _) e
    exact h1 (this ▸ hy)
theorem pairs_nodup (ns : List Int) : ((greatN ns).map (pairN ns)).Nodup := by
  have hsz := scrSize_le ns
  refine nodup_map_of (greatN_nodup ns) fun a ha b hb e => ?_
  have h1 := greatN_lt ns a ha
  have h2 := greatN_lt ns b hb
  exact lawName_inj (by exact far 1 [_, _] [.add (.var 0) (.num 1), .num 11, .var 1, .num 10, .add (.var 0) (.num 1), .var 1] rfl hsz.1 h1) (by exact far 1 [_, _] [.add (.var 0) (.num 1), .num 11, .var 1, .num 10, .add (.var 0) (.num 1), .var 1] rfl hsz.1 h2) (congrArg Prod.snd e)
/-- the names that are due -/
noncomputable def DueOk (ns : List Int) (out : List Name) : Prop := ∃ items' : List Item, items'.Perm ((greatN ns).map (pairN ns)) ∧ items'.Pairwise itemLe ∧ out = items'.map (·.2)
theorem DueOk.unique {ns : List Int} {a b : List Name} (ha : DueOk ns a) (hb : DueOk ns b) : a = b := by
  obtain ⟨i, h1, h2, rfl⟩ := ha
  obtain ⟨j, h3, h4, rfl⟩ := hb
  rw [sorted_unique (h1.trans h3.symm) h2 h4]
section
variable {g : Glo} {k : Fun} {l : List Env} {A : Around} {E : Value → Shared → Prop} {F : PMap} {X Y : XS} {G : GS} {env : Env} {s : Shared} {mg mb : Str → Option Value} {L0 : Addr} {α : Type}
theorem W_itemTup1 {value slice : Expr} {v x y : Value} {t : Tok} {Φ : Cont Value} (hv : FTup F v [x, y]) (h : Φ y F X G)
    (hs : ∀ a, subscripted slice false (.ref a) (.int 1 t) = operate [.ref a, .int 1 t] (getItem (.ref a) (.int 1 t)) := by intro _; kernel_rfl) : W g k A (subscriptTail value slice v (.int 1 t)) Φ E F X G := ⟨fun s st => by
  obtain ⟨a, n, rfl, f⟩ := hv
  exact item_tupleT (j := 1) ⟨_, st.fro _ _ f, rfl, n, rfl⟩ (by decide) (by decide) (by rfl) (by rfl) (st.done h) (hs a)⟩
set_option maxHeartbeats 4000000
theorem W_law14 {L : Addr} {m : Str → Option Value} {ns : List Int} {ta : Tok} {gv tv grv tov : Value} {told : List Name} {Φ : Cont Flow} (T : Top0 g (KK g.w) mg mb) (hF : PLe g.base.get? F) (hh : A.handled = none) (hr : Room A 12) (H : Here k (E126 g.w L :: l) A L)
    (hm : m (Str.ofString "first") = some (.int (LA ns : Nat) ta)) (hcG : CellAt F (L + 5) gv) (hgv : NL F gv (LG ns)) (hcS : CellAt F (L + 2) tv) (htv : NL F tv (LT ns)) (hmg : m (Str.ofString "greatest") = some grv) (hgr : NL F grv (greatN ns))
    (hmt : m (Str.ofString "told") = some tov) (hto : BL F tov told) (hdue : DueOk ns told)
    (h : ∀ F' G' m' dv, PLe F F' → m' (Str.ofString "first") = some (.int (LA ns : Nat) ta) → m' (Str.ofString "due") = some dv → BL F' dv told →
      W g k A (execs (tl126 g.w 16) (E126 g.w L)) Φ E F' [(L, .ns m')] G') :
    W g k A (execs (tl126 g.w 14) (E126 g.w L)) Φ E F [(L, .ns m)] G := by
  have hsz := scrSize_le ns
  obtain ⟨gvs, hgl, hgp⟩ := id hgv
  obtain ⟨tvs, htl, htp⟩ := id htv
  obtain ⟨rvs, hrl, hrp⟩ := id hgr
  have rl := hrp.length
  have g10 := greatN_len ns
  walk_at "w"
  refine W_AssignComp (i := 0) none [] ?_
  walk_at "w"
  walk_at "w"
  walk_at "w"
  walk_at "w"
  walk_at "w"
  refine W_ListComp none _ ?_ (hclos := closureFor_list (by kernel_rfl))
  walk_at "ws"
  refine W_iterL hh hrl fun I r hI => ?_
  refine ⟨I, r, _, _, _, fun q ys F' => Paired (isPair F') ys (((greatN ns).take q).map (pairN ns)), rfl, rfl, (by show _ ≤ 16777216; exact far 1 [_, _] [.var 0, .num 16777216, .var 0, .var 1, .var 1, .num 10] rfl (Nat.le_of_eq rl) g10), hI, ⟨.nil, ?_⟩, ?_⟩
  · rintro q x ys F2 G2 m2 cv C D E2 hq hx le2 hJ hy
    obtain ⟨kk, hk, tk, rfl⟩ := paired_get' hrp hx
    have hkn := greatN_lt ns kk (List.mem_of_getElem? hk)
    walk_at "w"
    walk_at "w"
    walk_at "x"
    refine W_tests0 ?_
    rw [if_pos rfl]
    walk_at "ws"
    refine W_cL (hcG.mono le2) ?_
    refine W_in eqBy_nat (a := kk) ⟨tk, rfl⟩ (.inl (hgl.mono le2)) hgp ?_
    walk_at "w"
    by_cases hg : kk ∈ LG ns
    · rw [if_pos (by simpa using hg)]
      walk_at "ws"
      refine ⟨keeps_top T (hF.trans le2) (by kernel_rfl) (by kernel_rfl), ?_⟩
      refine W_lawName (j := 2) (i := kk) T (hF.trans le2) H rfl (hr.le (by exact far 1 [] [.num 5, .num 12] rfl)) hh ⟨_, rfl⟩ (by exact far 1 [_, _] [.add (.var 0) (.num 1), .num 100, .var 1, .num 10, .add (.var 0) (.num 1), .var 1] rfl hsz.1 hkn) fun r F4 G4 le4 hr4 => ?_
      obtain ⟨u, rfl⟩ := hr4
      walk_at "w"
      refine ⟨by show 2 ≤ 16777216; exact far 1 [] [.num 2, .num 16777216] rfl, fun F5 pv le5 hpv => ?_⟩
      refine ⟨by walk_at "sub", (le2.trans le4).trans le5, ?_⟩
      rw [take_snoc hk, List.map_append]
      refine (paired_mono hJ fun _ _ r => r.mono (le4.trans le5)).snoc ?_
      have e : pairN ns kk = (0, lawName kk) := by unfold pairN; rw [if_pos hg]; rfl
      rw [e]
      exact hpv.pair
    · rw [if_neg (by simpa using hg)]
      obtain ⟨st, hst⟩ : ∃ st, (LT ns)[kk]? = some st := ⟨_, List.getElem?_eq_getElem (by rw [(graphN_len ns _).2]; exact hkn)⟩
      obtain ⟨stv, hstv, tst, rfl⟩ := paired_get htp hst
      walk_at "ws"
      refine W_cL (hcS.mono le2) ?_
      walk_at "ws"
      refine W_item (.inl (htl.mono le2)) (by exact Int.natCast_nonneg _) (by exact Int.ofNat_lt.mpr (show kk < 9223372036854775808 from far 1 [_, _] [.add (.var 0) (.num 1), .num 9223372036854775808, .var 1, .num 10, .add (.var 0) (.num 1), .var 1] rfl hsz.1 hkn)) hstv ?_
      walk_at "ws"
      refine ⟨keeps_top T (hF.trans le2) (by kernel_rfl) (by kernel_rfl), ?_⟩
      refine W_lawName (j := 2) (i := kk) T (hF.trans le2) H rfl (hr.le (by exact far 1 [] [.num 5, .num 12] rfl)) hh ⟨_, rfl⟩ (by exact far 1 [_, _] [.add (.var 0) (.num 1), .num 100, .var 1, .num 10, .add (.var 0) (.num 1), .var 1] rfl hsz.1 hkn) fun r F4 G4 le4 hr4 => ?_
      obtain ⟨u, rfl⟩ := hr4
      walk_at "w"
      refine ⟨by show 2 ≤ 16777216; exact far 1 [] [.num 2, .num 16777216] rfl, fun F5 pv le5 hpv => ?_⟩
      refine ⟨by walk_at "sub", (le2.trans le4).trans le5, ?_⟩
      rw [take_snoc hk, List.map_append]
      refine (paired_mono hJ fun _ _ r => r.mono (le4.trans le5)).snoc ?_
      have e : pairN ns kk = (((st : Nat) : Int), lawName kk) := by unfold pairN; rw [if_neg hg]; simp [List.getD, hst]
      rw [e]
      exact hpv.pair
  · rintro ys F2 F3 G3 lv le2 hys le3 hyl hlv
    rw [List.take_of_length_le (by exact Nat.le_of_eq rl.symm)] at hys
    have yl := hys.length
    rw [List.length_map] at yl
    have hys := paired_mono hys fun _ _ r => r.mono le3
    walk_at "w"
    walk_at "w"
    refine W_sorted ?_ (.inl hlv) hys (pairs_nodup ns) (by exact far 1 [_, _] [.add (.var 0) (.num 1), .num 64, .var 1, .num 10, .var 0, .var 1] rfl g10 (Nat.le_of_eq yl)) fun F4 sv vs' items' le4 hsv hp4 hperm hpw => ?_
    · have h1 := hr.2
      have e2 : cLine = 9900 := rfl
      exact far 1 [_, _] [.add (.add (.var 0) (.num 2)) (.num 1), .var 1, .add (.var 0) (.mulL 10 (.num 12)), .num 9000, .num 9900, .var 1] rfl h1 (Nat.le_of_eq e2.symm)
    refine W_iterL hh hsv fun I2 r2 hI2 => ?_
    have hl4 := hp4.length
    have hpl := hperm.length_eq
    rw [List.length_map] at hpl
    refine ⟨I2, r2, _, _, _, fun j zs F' => Paired isBy zs ((items'.take j).map (·.2)), _, rfl, rfl, ?_, hI2, ⟨.nil, ?_⟩, rfl, ?_⟩
    · show _ ≤ 16777216; exact far 1 [_, _, _] [.var 0, .num 16777216, .var 1, .num 10, .var 0, .var 2, .var 2, .var 1] rfl g10 (Nat.le_of_eq hl4) (Nat.le_of_eq hpl)
    · rintro j x zs F6 G6 m6 cv C Dc E6 hj hx le6 hJ hy
      obtain ⟨it, hit, hxi⟩ := paired_get' hp4 hx
      obtain ⟨t, u, htv⟩ := (hxi.mono le6).tup
      walk_at "w"
      walk_at "w"
      walk_at "x"
      refine W_tests0 ?_
      rw [if_pos rfl]
      walk_at "ws"
      refine W_itemTup1 htv ?_
      refine ⟨by walk_at "sub", le6, ?_⟩
      rw [take_snoc hit, List.map_append]
      exact hJ.snoc ⟨_, rfl⟩
    · rintro zs F6 F7 G7 dv le6 hzs le7 _ hdv
      rw [List.take_of_length_le (by exact Nat.le_of_eq hl4.symm)] at hzs
      have hdd : DueOk ns (items'.map (·.2)) := ⟨items', hperm, hpw, rfl⟩
      have htold : told = items'.map (·.2) := hdue.unique hdd
      rw [← htold] at hzs
      have le17 := (((le2.trans le3).trans le4).trans le6).trans le7
      walk_at "x"
      have hd : upd m (Str.ofString "due") dv (Str.ofString "due") = some dv := upd_self
      have hf : upd m (Str.ofString "due") dv (Str.ofString "first") = some (.int (LA ns : Nat) ta) := upd_ne hm (by kernel_rfl)
      have ht : upd m (Str.ofString "due") dv (Str.ofString "told") = some tov := upd_ne hmt (by kernel_rfl)
      generalize upd m (Str.ofString "due") dv = m5 at hd hf ht ⊢
      obtain ⟨tos, htol, htop⟩ := hto.mono le17
      walk_at "w"
      walk_at "w"
      walk_at "w"
      walk_at "ws"
      refine W_neL eqBy_by (.inl htol) (.inl hdv) htop hzs hr.u ?_
      walk_at "w"
      rw [if_neg (by simp)]
      walk_at "w"
      exact h _ _ _ dv le17 hf hd ⟨zs, hdv, hzs⟩
end
end
section
/-! iterating over a tuple -/
noncomputable abbrev tiObj (t : Addr) (i : Nat) : Obj := { cls := .type "tuple_iterator", data := .fields #[.ref t, .int i 0] }
section
variable {prog : Program} {w : World} {A : Around} {E : Value → Shared → Prop} {s : Shared}
theorem tup_next {it t : Addr} {i : Nat} {items : Array Value} {x : Value} {Q : Option Value → Shared → Prop} (ho : s.heap.get? it = some (tiObj t i)) (ht : IsTup s.heap t items) (hx : items[i]? = some x)
    (hQ : ∀ h', h'.get? it = some (tiObj t (i + 1)) → Heap.SameBut it s.heap h' → Q (some x) { s with heap := h' }) : wpAny (model prog w) A (pyNext (.ref it)) Q E s := by
  obtain ⟨ol, hol, _, nl, hdl⟩ := ht
  have hT : s.TypeIs (.ref it) "tuple_iterator" := ⟨_, ho, rfl⟩
  unfold pyNext
  refine wpAny_bind (wpAny_attempt (wpAny_callSpecial?_slot (name := Str.ofString "__next__") hT slot_tupleiter_next
    (wpAny_call_entry slot_tupleiter_next hT entry_tupleiter_next ?_ (args_tupleiter_next _))))
  refine wpAny_bind (m := field (.ref it) 0) (wpAny_field ho rfl (x := .ref t) rfl ?_)
  refine wpAny_ite_split (fun q => by cases q) (fun _ => ?_)
  refine wpAny_bind (m := field (.ref it) 1) (wpAny_field ho rfl (x := .int i 0) rfl ?_)
  refine wpAny_bind (m := seqItems? (.ref t)) (wpAny_seqItems hol hdl ?_)
  simp only [Int.toNat_natCast, hx]
  refine wpAny_bind (wpAny_setField_rec ho (by simp) fun h' e sb => wpAny_pure ⟨x, rfl, wpAny_pure (hQ h' ?_ sb)⟩)
  rw [e]
  simp [rawInt]
end
section
variable {g : Glo} {k : Fun} {l : List Env} {A : Around} {E : Value → Shared → Prop} {F : PMap} {X Y : XS} {G : GS} {env : Env} {s : Shared} {mg mb : Str → Option Value} {L0 : Addr} {α : Type}
theorem W_iterT {v : Value} {vs : List Value} {Φ : Cont Value} (hh : A.handled = none) (hl : FTup F v vs)
    (h : ∀ I r, Iter g A F I r vs.length (fun i x => vs[i]? = some x) → Φ (.ref I) F (X ++ [(I, r 0)]) G) : W g k A (pyIter v) Φ E F X G := ⟨fun s hs => by
  obtain ⟨t, n, rfl, f⟩ := hl
  have hL : ∀ h : Heap, PLe F h.get? → IsTup h t vs.toArray := fun h kk => ⟨_, kk _ _ f, rfl, n, rfl⟩
  refine iter_tuple (hL _ hs.fro) ?_
  have st := hs.ownL (r := .ob (tiObj t 0)) (fun b o e => Heap.get?_push_of_some (tiObj t 0) e) s.toks (size_none _) (Heap.get?_push_size _ rfl)
  refine st.done (h _ (fun i => .ob (tiObj t i)) ⟨fun {k F' X G E Φ} i hi le hq => ⟨fun s hs => ?_⟩, fun {k F' X G E Φ} le hq => ⟨fun s hs => ?_⟩, fun {k F' X G E Φ tt x} i hq => ⟨fun s hs => ?_⟩, fun {k F' X G E Φ} i hq => ⟨fun s hs => ?_⟩⟩)
  · refine tup_next (x := vs[i]) (ob_there hs last_get) (hL _ (le.trans hs.fro)) (by simp [hi]) fun h' h1 h2 => ?_
    have := hs.set (r' := .ob (tiObj t (i + 1))) last_get s.toks (fun b o hb e => (h2.2 b hb).trans e) h1
    rw [last_set] at this
    exact this.done (hq _ (by simp))
  · refine next_tuple_end hh ⟨_, ob_there hs last_get, rfl, rfl⟩ (hL _ (le.trans hs.fro)) (by simp) fun h' h1 => ?_
    have := hs.lose last_get s.toks h1
    rw [last_erase] at this
    exact this.done hq
  · exact letGo_none (ob_there hs last_get) rfl rfl (by decide) (hs.done hq)
  · exact wpAny_pyIter_tupleiter ⟨_, ob_there hs last_get, rfl, rfl⟩ (hs.done hq)⟩
theorem W_markSet (T : Top0 g (KK g.w) mg mb) {L : Addr} {n kk : Nat} {p pos : Pos} {Φ : Cont Value} {b : List UInt8} (hroad : (displayRoad kk [.Constant (.bytes b) n p] == .constants) = false) (hroad2 : (displayRoad kk [.Constant (.bytes b) n p] == .unsure) = false)
    (h : ∀ F' v, PLe F F' → ShOk F' v true → Φ v F' X G) : W g k A (eval (.Set [.Constant (.bytes b) n p] kk pos) (E126 g.w L)) Φ E F X G :=
  W_SetB trivial (fun F' v le hv => h F' v le (.inr hv)) (fun s Q st hq => kds_main (T.K.keeps st.toOk.stays) (by kernel_rfl) hq) hroad hroad2
set_option maxHeartbeats 4000000
theorem W_law11 (T : Top0 g (KK g.w) mg mb) (GO : GOk g) (hF : PLe g.base.get? F) (hh : A.handled = none) (hr : Room A 12) {L : Addr} (H : Here k (E126 g.w L :: l) A L) {m : Str → Option Value} {ns : List Int} {td sd : Addr} {kv1 kv2 : KV} {ov : Value} {ta : Tok} {Φ : Cont Flow} {N : Nat} {S : LS} {told : List Name}
    (hm : m (Str.ofString "first") = some (.int (LA ns : Nat) ta)) (hz : LawZ g F L ns td sd kv1 kv2 ov)
    (hrun : (LO ns).map lawName ≠ [] → lawName (LA ns) ∉ (LO ns).map lawName → RunOk (lawD ns true 0) N (lawName (LA ns)) ((LO ns).map lawName) (some S))
    (htold : ∀ out, (if (LO ns).map lawName = [] ∨ lawName (LA ns) ∈ (LO ns).map lawName then out = [lawName (LA ns)] else LcaOut (some S) out) → out = told)
    (h : ∀ F' G' m' tv, PLe F F' → m' (Str.ofString "first") = some (.int (LA ns : Nat) ta) → m' (Str.ofString "told") = some tv → BL F' tv told →
      W g k A (execs (tl126 g.w 12) (E126 g.w L)) Φ (EW g k L fun _ _ _ => False) F' [(L, .ns m'), (L + 8, .ce none)] G') :
    W g k A (execs (tl126 g.w 11) (E126 g.w L)) Φ (EW g k L fun _ _ _ => False) F [(L, .ns m), (L + 8, .ce none)] G := by
  walk_at "w"
  refine W_AssignName ?_
  refine W_fmb (sh := true) (N := N) (res := some S) T GO hF hh hr H (fun F1 Φ1 le1 hq => ?_) hm hz hrun (fun F1 v out G1 le1 hb hc => ?_) (fun F1 G1 le1 _ _ hn => by cases hn) (by kernel_rfl) (by kernel_rfl)
  · exact W_markSet T (by kernel_rfl) (by kernel_rfl) hq
  · walk_at "w"
    walk_at "x"
    refine h _ _ _ v le1 (upd_ne hm (by kernel_rfl)) upd_self ?_
    rw [← htold out hc]
    exact hb
end
end
section
section
variable {g : Glo} {k : Fun} {l : List Env} {A : Around} {E : Value → Shared → Prop} {F : PMap} {X Y : XS} {G : GS} {env : Env} {s : Shared} {mg mb : Str → Option Value} {L0 : Addr} {α : Type}
theorem W_setCall (T : Top0 g (KK g.w) mg mb) {L : Addr} {p q : Pos} {Φ : Cont Value} (h : ∀ F' v, PLe F F' → FSet F' v false → Φ v F' X G) : W g k A (eval (.Call (.Name (Str.ofString "set") p) [] [] q) (E126 g.w L)) Φ E F X G := by
  refine W_CallName ?_
  walk_at "w"
  walk_at "w"
  refine W_callW0 Keeps.type ?_
  exact W_set0 h
set_option maxHeartbeats 4000000
theorem W_law16 (T : Top0 g (KK g.w) mg mb) (GO : GOk g) (hF : PLe g.base.get? F) (hh : A.handled = none) (hr : Room A 12) {L : Addr} (H : Here k (E126 g.w L :: l) A L) {m : Str → Option Value} {ns : List Int} {td sd : Addr} {kv1 kv2 : KV} {gv ov dv : Value} {ta : Tok} {Φ : Cont Flow} {N N3 : Nat} {S : LS} {told : List Name}
    (hm : m (Str.ofString "first") = some (.int (LA ns : Nat) ta)) (hmd : m (Str.ofString "due") = some dv) (hdv : BL F dv told) (hz : LawZ g F L ns td sd kv1 kv2 ov) (hcG : CellAt F (L + 5) gv) (hgv : NL F gv (LG ns))
    (hrun : LG ns = [] → (LO ns).map lawName ≠ [] → lawName (LA ns) ∉ (LO ns).map lawName → RunOk (lawD ns false 0) N (lawName (LA ns)) ((LO ns).map lawName) (some S))
    (htold : LG ns = [] → ∀ out, (if (LO ns).map lawName = [] ∨ lawName (LA ns) ∈ (LO ns).map lawName then out = [lawName (LA ns)] else LcaOut (some S) out) → out = told)
    (hrun3 : LA ns ∈ LG ns → (LO ns).map lawName ≠ [] → lawName (LA ns) ∉ (LO ns).map lawName → RunOk (lawD ns false 0) N3 (lawName (LA ns)) ((LO ns).map lawName) none)
    (h : ∀ F' G' m', PLe F F' → W g k A (execs (tl126 g.w 17) (E126 g.w L)) Φ (EW g k L fun _ _ _ => False) F' [(L, .ns m')] G') :
    W g k A (execs (tl126 g.w 16) (E126 g.w L)) Φ (EW g k L fun _ _ _ => False) F [(L, .ns m)] G := by
  have hsz := scrSize_le ns
  have hA := LA_lt ns
  obtain ⟨gvs, hgl, hgp⟩ := id hgv
  obtain ⟨ovs, hol, hop⟩ := id hz.oL
  walk_at "w"
  walk_at "w"
  walk_at "w"
  walk_at "w"
  refine W_cL hcG ?_
  refine W_ListF ?_
  walk_at "ws"
  refine ⟨by show 0 ≤ 16777216; exact Nat.zero_le _, fun F1 v1 le1 hv1 => ?_⟩
  refine W_eqL eqBy_nat (.inl (hgl.mono le1)) (.inl hv1) hgp .nil hr.u ?_
  walk_at "w"
  by_cases hg : LG ns = []
  · rw [if_pos (by simpa using hg)]
    walk_at "w"
    refine W_ForE (EΦ := fun _ _ _ => False) H rfl (fun _ _ _ h => h.elim) ?_
    walk_at "w"
    walk_at "w"
    walk_at "w"
    walk_at "w"
    refine W_setCall T fun F2 sv le2 hsv => ?_
    walk_at "w"
    refine ⟨by show 2 ≤ 16777216; exact far 1 [] [.num 2, .num 16777216] rfl, fun F3 tv le3 htv => ?_⟩
    refine W_iterT hh htv fun I r hI => ?_
    refine ⟨I, r, _, _, _, fun i F' Y' _ => ∃ m', Y' = [(L, .ns m')] ∧ m' (Str.ofString "first") = some (.int (LA ns : Nat) ta) ∧ m' (Str.ofString "due") = some dv, rfl, rfl, hI, ⟨m, rfl, hm, hmd⟩, ?_, ?_⟩
    · rintro i x F4 Y4 G4 hi hx le4 ⟨m4, rfl, a1, a2⟩
      have le14 := ((le1.trans le2).trans le3).trans le4
      have hsh : ShOk F4 x false := by
        match i, hi, hx with
        | 0, _, hx => cases hx; exact .inl ⟨rfl, rfl⟩
        | 1, _, hx => cases hx; exact .inr (hsv.mono (le3.trans le4))
      walk_at "w"
      walk_at "w"
      walk_at "x"
      have c1 : upd m4 (Str.ofString "marks") x (Str.ofString "first") = some (.int (LA ns : Nat) ta) := upd_ne a1 (by kernel_rfl)
      have c2 : upd m4 (Str.ofString "marks") x (Str.ofString "due") = some dv := upd_ne a2 (by kernel_rfl)
      have c3 : upd m4 (Str.ofString "marks") x (Str.ofString "marks") = some x := upd_self
      generalize upd m4 (Str.ofString "marks") x = m5 at c1 c2 c3 ⊢
      walk_at "w"
      walk_at "w"
      walk_at "w"
      refine W_fmb (sh := false) (N := N) (res := some S) T GO (hF.trans le14) hh hr H (fun F5 Φ5 le5 hq => ?_) c1 (hz.mono le14) (hrun hg) (fun F5 v out G5 le5 hb hc => ?_) (fun F5 G5 le5 _ _ hn => by cases hn) (by kernel_rfl) (by kernel_rfl)
      · walk_at "w"
        walk_at "w"
        exact hq _ _ .rfl (hsh.mono le5)
      · have ho := htold hg out hc
        subst ho
        obtain ⟨bvs, hbl, hbp⟩ := hb
        obtain ⟨dvs, hdl, hdp⟩ := (hdv.mono le14).mono le5
        walk_at "w"
        walk_at "w"
        refine W_neL eqBy_by (.inl hbl) (.inl hdl) hbp hdp hr.u ?_
        walk_at "w"
        rw [if_neg (by simp)]
        walk_at "ws"
        exact ⟨le4.trans le5, _, List.Sublist.refl _, m5, rfl, c1, c2⟩
    · rintro F4 Y4 G4 le4 ⟨m4, rfl, a1, a2⟩
      walk_at "w"
      exact h _ _ _ (((le1.trans le2).trans le3).trans le4)
  · rw [if_neg (by simpa using hg)]
    walk_at "w"
    walk_at "w"
    walk_at "w"
    walk_at "w"
    walk_at "w"
    walk_at "w"
    refine W_cL (hz.cO.mono le1) ?_
    refine W_ListF ?_
    walk_at "ws"
    refine ⟨by show 0 ≤ 16777216; exact Nat.zero_le _, fun F2 v2 le2 hv2 => ?_⟩
    have le12 := le1.trans le2
    refine W_neL eqBy_nat (.inl (hol.mono le12)) (.inl hv2) hop .nil hr.u ?_
    walk_at "w"
    by_cases hO : LO ns = []
    · rw [if_neg (by simp [hO])]
      rw [if_neg (by decide)]
      walk_at "w"
      walk_at "w"
      exact h _ _ _ le12
    rw [if_pos (by simp [hO])]
    walk_at "ws"
    refine W_cL (hcG.mono le12) ?_
    refine W_in eqBy_nat (a := LA ns) ⟨ta, rfl⟩ (.inl (hgl.mono le12)) hgp ?_
    walk_at "w"
    by_cases hAg : LA ns ∈ LG ns
    case neg =>
      rw [if_neg (by simpa using hAg)]
      rw [if_neg (by decide)]
      walk_at "w"
      walk_at "w"
      exact h _ _ _ le12
    rw [if_pos (by simpa using hAg)]
    walk_at "ws"
    refine W_cL (hz.cO.mono le12) ?_
    refine W_notIn eqBy_nat (a := LA ns) ⟨ta, rfl⟩ (.inl (hol.mono le12)) hop ?_
    walk_at "w"
    by_cases hAo : LA ns ∈ LO ns
    · rw [if_neg (by simp [hAo])]
      rw [if_neg (by decide)]
      walk_at "w"
      walk_at "w"
      exact h _ _ _ le12
    rw [if_pos (by simp [hAo])]
    walk_at "w"
    rw [if_pos rfl]
    walk_at "w"
    have hcs : (LO ns).map lawName ≠ [] := by simpa using hO
    have hnin : lawName (LA ns) ∉ (LO ns).map lawName := fun hmem => by
      obtain ⟨j, hj, e⟩ := List.mem_map.mp hmem
      have := lawName_inj (by have := LO_lt ns j hj; exact far 1 [_, _] [.add (.var 0) (.num 1), .num 11, .var 1, .num 10, .add (.var 0) (.num 1), .var 1] rfl hsz.1 this) (by exact far 1 [_, _] [.add (.var 0) (.num 1), .num 11, .var 1, .num 10, .add (.var 0) (.num 1), .var 1] rfl hsz.1 hA) e
      exact hAo (this ▸ hj)
    refine W_TryKE (EΦ := fun F' Y G' => PLe F2 F' ∧ Y = [(L, .ns m)]) T H rfl (by kernel_rfl) (by kernel_rfl) (by kernel_rfl) (by kernel_rfl) (by kernel_rfl) (fun _ _ _ h => h.elim) ?_ (fun F' Y G' ⟨_, e⟩ => ⟨0, m, by rw [e]; rfl⟩) ?_
    · walk_at "w"
      walk_at "w"
      refine W_fmb (sh := false) (N := N3) (res := none) T GO (hF.trans le12) hh hr H (fun F5 Φ5 le5 hq => ?_) hm (hz.mono le12) (hrun3 hAg) (fun F5 v out G5 le5 hb hc => ?_) (fun F5 G5 le5 _ _ hn => ⟨le5, rfl⟩) (by kernel_rfl) (by kernel_rfl)
      · exact W_setCall T fun F6 v le6 hv => hq _ _ le6 (.inr hv)
      · rw [if_neg (by rintro (x | x); exact hcs x; exact hnin x)] at hc
        obtain ⟨S', _, e, _⟩ := hc
        cases e
    · rintro e T2 eo oT F5 Y5 G5 ⟨le5, rfl⟩ hex htb
      walk_at "w"
      walk_at "w"
      walk_at "w"
      refine W.drop (Y := [(L, .ns m)]) (List.sublist_append_left _ _) ?_
      walk_at "w"
      walk_at "w"
      exact h _ _ _ (le12.trans le5)
end
end
section
noncomputable def LOne (ns : List Int) : Nat := lawPick ns % scrSize ns
section
variable {g : Glo} {k : Fun} {l : List Env} {A : Around} {E : Value → Shared → Prop} {F : PMap} {X Y : XS} {G : GS} {env : Env} {s : Shared} {mg mb : Str → Option Value} {L0 : Addr} {α : Type}
theorem W_neB {c d : Bool} {Φ : Cont Value} (h : Φ (.bool (c != d)) F X G) : W g k A (compareOp .NotEq (.bool c) (.bool d)) Φ E F X G := ⟨fun s hs => PyProof.Rows.ne_bool (hs.done h)⟩
/-- what is asked of can_fast_forward -/
noncomputable def CffOk (ns : List Int) : Prop := ∀ (sh : Bool) (k : Nat), (LG ns ≠ [] → sh = true) → LOne ns ∉ LG ns → k ∉ LG ns → k < scrSize ns → LOne ns ≠ k →
  ∃ N S, RunOk (lawD ns sh (((LT ns).getD (LOne ns) 0 : Nat) : Int)) N (lawName (LOne ns)) [lawName k] (some S) ∧ ∀ out, LcaOut (some S) out → (out = [lawName (LOne ns)] ↔ LOne ns ∈ fbAt ns k)
theorem tabIdx_name {gone : List Nat} {n k : Nat} (hn : n < 11) (hk : k < n) (hg : k ∉ gone) : tabIdx gone n (lawName k) = some k := by
  cases h : tabIdx gone n (lawName k) with
  | none =>
    unfold tabIdx at h
    rw [List.find?_eq_none] at h
    have := h k (List.mem_range.mpr hk)
    simp [hg] at this
  | some j =>
    obtain ⟨h1, h2, _⟩ := tabIdx_lt h
    rw [lawName_inj (by exact Nat.le_trans h1 (Nat.le_of_lt hn)) (by exact Nat.le_trans hk (Nat.le_of_lt hn)) h2]
set_option maxHeartbeats 4000000
theorem W_law17 (T : Top0 g (KK g.w) mg mb) (GO : GOk g) (hF : PLe g.base.get? F) (hh : A.handled = none) (hr : Room A 12) {L : Addr} (H : Here k (E126 g.w L :: l) A L) {m : Str → Option Value} {ns : List Int} {td sd : Addr} {kv1 kv2 : KV} {gv ov fv : Value} {tz tk : Tok} {Φ : Cont Flow}
    (hcZ : CellAt F (L + 3) (.int (scrSize ns : Nat) tz)) (hcK : CellAt F (L + 4) (.int (lawPick ns : Nat) tk)) (hz : LawZ g F L ns td sd kv1 kv2 ov) (hcG : CellAt F (L + 5) gv) (hgv : NL F gv (LG ns)) (hcF : CellAt F (L + 6) fv) (hfv : NLL F fv (LFb ns))
    (hcff : CffOk ns) (hself : ∀ k, k < scrSize ns → k ∈ fbAt ns k)
    (h : ∀ F' X' G', PLe F F' → Φ (.ret (.bool true)) F' X' G') :
    W g k A (execs (tl126 g.w 17) (E126 g.w L)) Φ E F [(L, .ns m)] G := by
  have hsz := scrSize_le ns
  obtain ⟨gvs, hgl, hgp⟩ := id hgv
  obtain ⟨fvs, hfl, hfp⟩ := id hfv
  have hone : LOne ns < scrSize ns := Nat.mod_lt _ (by exact far 1 [_] [.add (.num 0) (.num 1), .var 0, .num 2, .var 0] rfl hsz.2)
  walk_at "w"
  refine W_For ?_
  walk_at "ws"
  refine W_cL hcZ ?_
  walk_at "ws"
  refine W_range (by exact Int.ofNat_lt.mpr (show scrSize ns < 1000000 from far 1 [_] [.add (.var 0) (.num 1), .num 1000000, .var 0, .num 10] rfl hsz.1)) (by exact Int.lt_of_lt_of_le (by decide : (-1000000 : Int) < 0) (show (0 : Int) ≤ ((scrSize ns : Nat) : Int) from Int.natCast_nonneg _)) hh fun v X' hit => hit fun I r hI => ?_
  rw [show (((scrSize ns : Nat) : Int)).toNat = scrSize ns from by exact rfl] at hI
  refine ⟨I, r, _, _, _, fun i F' Y' G' => ∃ m', Y' = [(L, .ns m')], rfl, rfl, hI, ⟨m, rfl⟩, ?_, ?_⟩
  · rintro i x F1 Y1 G1 E1 hi ⟨ti, rfl⟩ le1 ⟨m1, rfl⟩
    have hz1 := hz.mono le1
    walk_at "w"
    walk_at "w"
    walk_at "x"
    have a1 : upd m1 (Str.ofString "k") (.int i ti) (Str.ofString "k") = some (.int i ti) := upd_self
    generalize upd m1 (Str.ofString "k") (.int i ti) = m2 at a1 ⊢
    walk_at "w"
    walk_at "w"
    walk_at "ws"
    refine W_cL (hcK.mono le1) ?_
    walk_at "ws"
    refine W_cL (hcZ.mono le1) ?_
    refine W_modI (by omega) fun t1 => ?_
    rw [show Int.fmod ((lawPick ns : Nat) : Int) ((scrSize ns : Nat) : Int) = ((LOne ns : Nat) : Int) from natMod _ _]
    walk_at "w"
    walk_at "x"
    have b1 : upd m2 (Str.ofString "one") (.int (LOne ns : Nat) t1) (Str.ofString "k") = some (.int i ti) := upd_ne a1 (by kernel_rfl)
    have b2 : upd m2 (Str.ofString "one") (.int (LOne ns : Nat) t1) (Str.ofString "one") = some (.int (LOne ns : Nat) t1) := upd_self
    generalize upd m2 (Str.ofString "one") (.int (LOne ns : Nat) t1) = m3 at b1 b2 ⊢
    walk_at "w"
    walk_at "w"
    walk_at "ws"
    refine W_cL (hcG.mono le1) ?_
    refine W_notIn eqBy_nat (a := LOne ns) ⟨t1, rfl⟩ (.inl (hgl.mono le1)) hgp ?_
    walk_at "w"
    by_cases hog : LOne ns ∈ LG ns
    · rw [if_neg (by simp [hog])]
      rw [if_neg (by decide)]
      walk_at "ws"
      exact ⟨le1, _, List.Sublist.refl _, m3, rfl⟩
    rw [if_pos (by simp [hog])]
    walk_at "ws"
    refine W_cL (hcG.mono le1) ?_
    refine W_notIn eqBy_nat (a := i) ⟨ti, rfl⟩ (.inl (hgl.mono le1)) hgp ?_
    walk_at "w"
    by_cases hig : i ∈ LG ns
    · rw [if_neg (by simp [hig])]
      rw [if_neg (by decide)]
      walk_at "ws"
      exact ⟨le1, _, List.Sublist.refl _, m3, rfl⟩
    rw [if_pos (by simp [hig])]
    walk_at "w"
    rw [if_pos rfl]
    -- the turn's rest, once the marks stand
    have tail : ∀ (Ψ : Cont Flow) F2 mv sh G2, PLe F F2 → ShOk F2 mv sh → (LG ns ≠ [] → sh = true) → (∀ F' G' m', PLe F F' → Ψ .next F' [(L, .ns m'), (I, r (i + 1))] G') → W g k A (storeName (E126 g.w L) (Str.ofString "marks") mv) (fun _ => W g k A (execs (((tl126 g.w 17)[0]?.elim [] fun st => match st with | .For _ _ body _ _ => (match (body[1]? : Option Stmt) with | some (.If _ b _ _) => b.drop 1 | _ => []) | _ => [])) (E126 g.w L))
        Ψ E1) E1 F2 ([(L, .ns m3)] ++ [(I, r (i + 1))]) G2 := by
      intro Ψ F2 mv sh G2 le2 hmv hshg hΨ
      have hz2 := hz.mono le2
      walk_at "w"
      walk_at "x"
      have c1 : upd m3 (Str.ofString "marks") mv (Str.ofString "k") = some (.int i ti) := upd_ne b1 (by kernel_rfl)
      have c2 : upd m3 (Str.ofString "marks") mv (Str.ofString "one") = some (.int (LOne ns : Nat) t1) := upd_ne b2 (by kernel_rfl)
      have c3 : upd m3 (Str.ofString "marks") mv (Str.ofString "marks") = some mv := upd_self
      generalize upd m3 (Str.ofString "marks") mv = m4 at c1 c2 c3 ⊢
      walk_at "w"
      walk_at "w"
      walk_at "w"
      walk_at "w"
      walk_at "w"
      walk_at "w"
      walk_at "w"
      walk_at "w"
      refine W_lamT (sh := sh) (mn := (((LT ns).getD (LOne ns) 0 : Nat) : Int)) T GO (hF.trans le2) hz2.cT hz2.tn hz2.d1 hz2.t1 fun F3 f1 le3 hf1 => ?_
      have hz3 := hz2.mono le3
      walk_at "w"
      refine W_lamS (sh := sh) (mn := (((LT ns).getD (LOne ns) 0 : Nat) : Int)) T GO (hF.trans (le2.trans le3)) hz3.cM hz3.sn hz3.d2 hz3.t2 fun F4 f2 le4 hf2 => ?_
      have le24 := (le2.trans le3).trans le4
      walk_at "ws"
      refine ⟨keeps_top T (hF.trans le24) (by kernel_rfl) (by kernel_rfl), ?_⟩
      refine W_lawName (j := 0) (i := LOne ns) T (hF.trans le24) H rfl (hr.le (by exact far 1 [] [.num 5, .num 12] rfl)) hh ⟨_, rfl⟩ (by exact far 1 [_, _] [.add (.var 0) (.num 1), .num 100, .var 1, .num 10, .add (.var 0) (.num 1), .var 1] rfl hsz.1 hone) fun r1 F5 G5 le5 hr1 => ?_
      walk_at "ws"
      have le25 := le24.trans le5
      refine ⟨keeps_top T (hF.trans le25) (by kernel_rfl) (by kernel_rfl), ?_⟩
      refine W_lawName (j := 0) (i := i) T (hF.trans le25) H rfl (hr.le (by exact far 1 [] [.num 5, .num 12] rfl)) hh ⟨_, rfl⟩ (by exact far 1 [_, _] [.add (.var 0) (.num 1), .num 100, .var 1, .num 10, .add (.var 0) (.num 1), .var 1] rfl hsz.1 hi) fun r2 F6 G6 le6 hr2 => ?_
      have le26 := le25.trans le6
      walk_at "w"
      refine ⟨keeps_top T (hF.trans le26) (by kernel_rfl) (by kernel_rfl), ?_⟩
      have hst : (lawD ns sh (((LT ns).getD (LOne ns) 0 : Nat) : Int)).st (lawName (LOne ns)) = some (((LT ns).getD (LOne ns) 0 : Nat) : Int) := by
        show Option.map _ _ = _
        rw [tabIdx_name (by exact far 1 [_] [.add (.var 0) (.num 1), .num 11, .var 0, .num 10] rfl hsz.1) hone hog]
        rfl
      have hname : lawName (LOne ns) = lawName i ↔ LOne ns = i := ⟨lawName_inj (by exact far 1 [_, _] [.add (.var 0) (.num 1), .num 11, .var 1, .num 10, .add (.var 0) (.num 1), .var 1] rfl hsz.1 hone) (by exact far 1 [_, _] [.add (.var 0) (.num 1), .num 11, .var 1, .num 10, .add (.var 0) (.num 1), .var 1] rfl hsz.1 hi), fun e => by rw [e]⟩
      obtain ⟨N, S, hrun, hout⟩ : ∃ N S, (lawName (LOne ns) ≠ lawName i → RunOk (lawD ns sh (((LT ns).getD (LOne ns) 0 : Nat) : Int)) N (lawName (LOne ns)) [lawName i] (some S)) ∧ (LOne ns ≠ i → ∀ out, LcaOut (some S) out → (out = [lawName (LOne ns)] ↔ LOne ns ∈ fbAt ns i)) := by
        by_cases e : LOne ns = i
        · exact ⟨0, LS.empty, fun x => absurd (hname.mpr e) x, fun x => absurd e x⟩
        · obtain ⟨N, S, h1, h2⟩ := hcff sh i hshg hog hig hi e
          exact ⟨N, S, fun _ => h1, fun _ => h2⟩
      refine W_calls (i := 0) H rfl (calls_cff (D := lawD ns sh (((LT ns).getD (LOne ns) 0 : Nat) : Int)) (N := N) (S := S) (a := lawName (LOne ns)) (b := lawName i) T GO (hF.trans le26) (hr.le (by exact far 1 [] [.num 10, .num 12] rfl)) hh hst (hf1.mono ((le4.trans le5).trans le6)) (hf2.mono (le5.trans le6)) (hmv.mono (((le3.trans le4).trans le5).trans le6)) (let ⟨t, e⟩ := hr1; ⟨t, e⟩) hr2 hrun) fun rv F7 G7 le7 hrv => ?_
      have hrv2 : rv = .bool (decide (LOne ns ∈ fbAt ns i)) := by
        by_cases e : LOne ns = i
        · rw [if_pos (hname.mpr e)] at hrv
          rw [hrv, decide_eq_true (e ▸ hself _ hone)]
        · rw [if_neg (fun x => e (hname.mp x))] at hrv
          obtain ⟨out, ho, hv⟩ := hrv
          rw [hv, decide_eq_decide.mpr (hout e out ho)]
      subst hrv2
      have le27 := le26.trans le7
      walk_at "ws"
      refine W_cL (hcF.mono le27) ?_
      walk_at "ws"
      obtain ⟨rv2, hrv2, rvs2, hrl2, hrp2⟩ := paired_get hfp (fbAt_some ns hi)
      refine W_item (.inl (hfl.mono le27)) (by exact Int.natCast_nonneg _) (by exact Int.ofNat_lt.mpr (show i < 9223372036854775808 from far 1 [_, _] [.add (.var 0) (.num 1), .num 9223372036854775808, .var 1, .num 10, .add (.var 0) (.num 1), .var 1] rfl hsz.1 hi)) hrv2 ?_
      refine W_in eqBy_nat (a := LOne ns) ⟨t1, rfl⟩ (.inl (hrl2.mono le27)) hrp2 ?_
      refine W_neB ?_
      walk_at "w"
      rw [if_neg (by simp)]
      walk_at "w"
      walk_at "w"
      exact hΨ _ _ m4 le27
    walk_at "w"
    walk_at "w"
    walk_at "w"
    walk_at "w"
    walk_at "w"
    refine W_cL (hcG.mono le1) ?_
    refine W_ListF ?_
    walk_at "ws"
    refine ⟨by show 0 ≤ 16777216; exact Nat.zero_le _, fun F2 v2 le2 hv2 => ?_⟩
    have le12 := le1.trans le2
    refine W_neL eqBy_nat (.inl (hgl.mono le12)) (.inl hv2) hgp .nil hr.u ?_
    walk_at "w"
    by_cases hg : LG ns = []
    · rw [if_neg (by simp [hg])]
      walk_at "w"
      refine W_ListF ?_
      walk_at "w"
      walk_at "w"
      walk_at "w"
      refine W_setCall T fun F3 sv le3 hsv => ?_
      walk_at "w"
      refine W_markSet T (by kernel_rfl) (by kernel_rfl) fun F4 mv le4 hmv => ?_
      walk_at "w"
      refine ⟨by show 3 ≤ 16777216; exact far 1 [] [.num 3, .num 16777216] rfl, fun F5 lv le5 hlv => ?_⟩
      have le15 := ((le12.trans le3).trans le4).trans le5
      walk_at "ws"
      refine W_cL ((hcK.mono le15)) ?_
      walk_at "ws"
      rw [show Int.fdiv ((lawPick ns : Nat) : Int) 3 = ((lawPick ns / 3 : Nat) : Int) from natDiv _ 3, ← Int.natCast_add, show Int.fmod ((i + lawPick ns / 3 : Nat) : Int) 3 = (((i + lawPick ns / 3) % 3 : Nat) : Int) from natMod _ 3]
      have h3 : (i + lawPick ns / 3) % 3 < 3 := Nat.mod_lt _ (by decide)
      generalize (i + lawPick ns / 3) % 3 = q at h3 ⊢
      obtain ⟨v, sh, hv, hsh⟩ : ∃ v sh, [Value.none, sv, mv][q]? = some v ∧ ShOk F5 v sh := by
        have : q = 0 ∨ q = 1 ∨ q = 2 := by omega
        rcases this with rfl | rfl | rfl
        · exact ⟨_, false, rfl, .inl ⟨rfl, rfl⟩⟩
        · exact ⟨_, false, rfl, .inr ((hsv.mono le4).mono le5)⟩
        · exact ⟨_, true, rfl, hmv.mono le5⟩
      refine W_item (.inl hlv) (by exact Int.natCast_nonneg _) (by exact Int.ofNat_lt.mpr (show q < 9223372036854775808 from far 1 [_] [.add (.var 0) (.num 1), .num 9223372036854775808, .add (.var 0) (.num 1), .num 3] rfl h3)) (by rw [show ((q : Nat) : Int).toNat = q by exact rfl]; exact hv) ?_
      refine (tail _ F5 v sh _ le15 hsh (fun x => absurd hg x) ?_)
      intro F6 G6 m6 le6
      walk_at "w"
      exact ⟨le6, _, List.Sublist.refl _, m6, rfl⟩
    · rw [if_pos (by simp [hg])]
      refine W_markSet T (by kernel_rfl) (by kernel_rfl) fun F3 mv le3 hmv => ?_
      refine (tail _ F3 mv true _ (le12.trans le3) hmv (fun _ => rfl) ?_)
      intro F6 G6 m6 le6
      walk_at "w"
      exact ⟨le6, _, List.Sublist.refl _, m6, rfl⟩
  · rintro F1 Y1 G1 le1 ⟨m1, rfl⟩
    walk_at "ws"
    exact h _ _ _ le1
end
end
section
noncomputable abbrev lawC (ns : List Int) : Name := lawName (LA ns)
noncomputable abbrev lawCs (ns : List Int) : List Name := (LO ns).map lawName
noncomputable def FmbOut (ns : List Int) (S : LS) (told : List Name) : Prop := ∀ out, (if lawCs ns = [] ∨ lawC ns ∈ lawCs ns then out = [lawC ns] else LcaOut (some S) out) → out = told
structure LawPure (ns : List Int) (told : List Name) : Prop where
  due : DueOk ns told
  run : ∀ sh, (LG ns ≠ [] → sh = true) → ∃ N S, (lawCs ns ≠ [] → lawC ns ∉ lawCs ns → RunOk (lawD ns sh 0) N (lawC ns) (lawCs ns) (some S)) ∧ FmbOut ns S told
  cff : CffOk ns
  self : ∀ k, k < scrSize ns → k ∈ fbAt ns k
section
variable {g : Glo} {k : Fun} {l : List Env} {A : Around} {E : Value → Shared → Prop} {F : PMap} {X Y : XS} {G : GS} {env : Env} {s : Shared} {mg mb : Str → Option Value} {L0 : Addr} {α : Type}
theorem run3_ok (ns : List Int) (hA : LA ns ∈ LG ns) : RunOk (lawD ns false 0) 0 (lawC ns) (lawCs ns) none where
  fuel := Nat.zero_le _
  len := by have := LO_len ns; unfold lawCs; rw [List.length_map]; exact far 1 [_] [.var 0, .num 100, .var 0, .num 3] rfl this
  par := fun c ps h => by
    have h : Option.map _ _ = some ps := h
    cases e : tabIdx (LG ns) (scrSize ns) c with
    | none => rw [e] at h; cases h
    | some k =>
      rw [e] at h
      have := tabIdx_lt e
      simp only [Option.map_some, Option.some.injEq] at h
      subst h
      rw [List.length_map, LP_getD ns this.1]
      have := rowOf_len (k := k) (num := scrNum ns k)
      exact far 1 [_] [.var 0, .num 10, .var 0, .num 3] rfl this
  run := by
    have hsz := scrSize_le ns
    have hst : (lawD ns false 0).st (lawC ns) = none := by
      show Option.map _ _ = none
      cases e : tabIdx (LG ns) (scrSize ns) (lawC ns) with
      | none => rfl
      | some k =>
        obtain ⟨h1, h2, h3⟩ := tabIdx_lt e
        have := lawName_inj (by exact far 1 [_, _] [.add (.var 0) (.num 1), .num 11, .var 1, .num 10, .add (.var 0) (.num 1), .var 1] rfl hsz.1 h1) (by have := LA_lt ns; exact far 1 [_, _] [.add (.var 0) (.num 1), .num 11, .var 1, .num 10, .add (.var 0) (.num 1), .var 1] rfl hsz.1 this) h2
        exact absurd (this ▸ hA) h3
    unfold lcaRun startStep
    rw [hst]
    rfl
  ok := fun S h => by cases h
set_option maxHeartbeats 4000000
theorem calls_law (T : Top0 g (KK g.w) mg mb) (GO : GOk g) (hF : PLe g.base.get? F) (hr : Room A 13) (hh : A.handled = none) {sv : Value} {vs : List Value} {ns : List Int} {told : List Name} (hl : FList F sv vs) (hi : IntsAre vs ns) (h63 : ns.length ≤ 63) (hp : LawPure ns told) :
    Calls g A (.call (.ref 126) ⟨[sv], []⟩) F (fun r _ => r = .bool true) := by
  refine CallsR.toCalls ?_
  refine calls_topCR T hF [(Str.ofString "script", sv)] hr (by kernel_rfl) (by kernel_rfl) (by kernel_rfl) (by kernel_rfl) (by kernel_rfl) (fun s _ => BindsTo.of_eq (by kernel_rfl)) (by kernel_rfl)
    (XC := fun L => [(L + 10, .ce none), (L + 9, .ce none), (L + 8, .ce none), (L + 7, .ce none), (L + 6, .ce none), (L + 5, .ce none), (L + 4, .ce none), (L + 3, .ce none), (L + 2, .ce none), (L + 1, .ce none)]) (lb := [(Str.ofString "script", sv)]) (fun L => by kernel_rfl) (by kernel_rfl) (by kernel_rfl) (by kernel_rfl) (by kernel_rfl) (fun L l m hm k G H => ?_)
  simp only [BindsAre] at hm
  obtain ⟨b1, -⟩ := hm
  have hroom : Room (A.deeper (E126 g.w L)) 12 := hr.deeper
  have hh : (A.deeper (E126 g.w L)).handled = none := hh
  have start : ∀ (Φ : Cont Flow), (∀ F' X' G', PLe F F' → Φ (.ret (.bool true)) F' X' G') → W g k (A.deeper (E126 g.w L)) (execs (tl126 g.w 0) (E126 g.w L)) Φ (EW g k L fun _ _ _ => False) F [(L, .ns m), (L + 10, .ce none), (L + 9, .ce none), (L + 8, .ce none), (L + 7, .ce none), (L + 6, .ce none), (L + 5, .ce none), (L + 4, .ce none), (L + 3, .ce none), (L + 2, .ce none), (L + 1, .ce none)] G := by
    intro Φ hΦ
    refine W_law0 T hF hh hroom H b1 hl hi h63 fun F1 G1 pv tv tz tk le1 hcP hpv hcS htv hcZ hcK => ?_
    refine W_law3 (Z := []) T (hF.trans le1) hh hcZ hcK fun F2 G2 gv le2 hcG hgv => ?_
    have le12 := le1.trans le2
    refine W_law4 T (hF.trans le12) hh hroom H (hcP.mono le2) (hpv.mono le2) (hcS.mono le2) (htv.mono le2) (hcZ.mono le2) hcG hgv fun F3 G3 m3 td sd kv1 kv2 le3 hcT hcM htd hsd hd1 hd2 ht1 ht2 => ?_
    have le23 := le2.trans le3
    have le13 := le1.trans le23
    refine W_law7 T (hF.trans le13) hh hroom H (hcP.mono le23) (hpv.mono le23) (hcZ.mono le23) (hcK.mono le23) (hcG.mono le3) (hgv.mono le3) fun F4 G4 m4 fv ov ta le4 hcF hfv hcO hov hfirst => ?_
    have le24 := le23.trans le4
    have le14 := le1.trans le24
    have hz4 : LawZ g F4 L ns td sd kv1 kv2 ov := ⟨hcT.mono le4, hcM.mono le4, htd, hsd, hd1.mono le4, hd2.mono le4, ht1.mono fun _ _ r => r.mono le4, ht2, hcO, hov⟩
    obtain ⟨N1, S1, hrun1, hout1⟩ := hp.run true fun _ => rfl
    refine W_law11 (told := told) T GO (hF.trans le14) hh hroom H hfirst hz4 hrun1 hout1 fun F5 G5 m5 tov le5 hf5 ht5 htoldv => ?_
    have le25 := le24.trans le5
    have le15 := le1.trans le25
    refine W_law12 hh hroom hf5 (hcF.mono le5) (hfv.mono le5) (hcO.mono le5) (hov.mono le5) fun F6 G6 m6 cv grv le6 hcC hcv hf6 ht6 hg6 hgr6 => ?_
    have le26 := le25.trans le6
    have le16 := le1.trans le26
    refine W_law14 (told := told) T (hF.trans le16) hh hroom H hf6 (hcG.mono ((le3.trans le4).trans (le5.trans le6))) (hgv.mono ((le3.trans le4).trans (le5.trans le6))) (hcS.mono le26) (htv.mono le26) hg6 hgr6 (ht6.trans ht5) (htoldv.mono le6) hp.due fun F7 G7 m7 dv le7 hf7 hd7 hdv7 => ?_
    have le27 := le26.trans le7
    have le17 := le1.trans le27
    have le37 := (le3.trans le4).trans ((le5.trans le6).trans le7)
    have le47 := (le5.trans le6).trans le7
    obtain ⟨N2, S2, hrun2, hout2⟩ : ∃ N S, (LG ns = [] → lawCs ns ≠ [] → lawC ns ∉ lawCs ns → RunOk (lawD ns false 0) N (lawC ns) (lawCs ns) (some S)) ∧ (LG ns = [] → FmbOut ns S told) := by
      by_cases hg : LG ns = []
      · obtain ⟨N, S, h1, h2⟩ := hp.run false fun x => absurd hg x
        exact ⟨N, S, fun _ => h1, fun _ => h2⟩
      · exact ⟨0, LS.empty, fun x => absurd x hg, fun x => absurd x hg⟩
    refine W_law16 (N := N2) (N3 := 0) (S := S2) (told := told) T GO (hF.trans le17) hh hroom H hf7 hd7 hdv7 (hz4.mono le47) (hcG.mono le37) (hgv.mono le37) hrun2 hout2 (fun hA _ _ => run3_ok ns hA) fun F8 G8 m8 le8 => ?_
    have le28 := le27.trans le8
    have le18 := le1.trans le28
    refine W_law17 T GO (hF.trans le18) hh hroom H (hcZ.mono le28) (hcK.mono le28) ((hz4.mono le47).mono le8) (hcG.mono (le37.trans le8)) (hgv.mono (le37.trans le8)) ((hcF.mono le47).mono le8) ((hfv.mono le47).mono le8) hp.cff hp.self fun F9 X9 G9 le9 => ?_
    exact hΦ _ _ _ (le18.trans le9)
  refine (start _ fun F' X' G' le => ⟨le, rfl⟩).monoE ?_
  rintro v s ⟨_, _, _, _, _, _, _, _, _, _, _, _, _, hx⟩
  exact hx.elim
end
end
section
/-! the run of the law, from the top's heap -/
noncomputable abbrev tabs0 : List (Addr × Addr) := [(89, 87), (125, 123)]
noncomputable def qa0 : Addr → Nat → Nat → Str := fun P l _ => if P = 123 then Str.ofString "law.<locals>.<lambda>" else if l = 30 then Str.ofString "_find_lcas.<locals>._has_candidates" else Str.ofString "_find_lcas.<locals>.<lambda>"
noncomputable abbrev glo0 (prog : Program) (w : World) (s : Shared) : Glo := ⟨prog, w, ghostOf s.heap tabs0, s.os, tabs0, qa0⟩
theorem gok0 (prog : Program) (w : World) (s : Shared) : GOk (glo0 prog w s) := ⟨.head _, .tail _ (.head _), rfl, rfl, fun _ _ => rfl⟩
theorem codeAll_get {h : Heap} : ∀ {tabs : List (Addr × Addr)}, CodeAll tabs h → ∀ q ∈ tabs, CodeHd h q.1 q.2
  | _ :: _, k, _, .head _ => k.1
  | _ :: _, k, q, .tail _ hq => codeAll_get k.2 q hq
section
variable {prog : Program} {w : World} {s : Shared} {mg mb : Str → Option Value} {p : Program} {loose : List Str} {mean : ExcName → Option Value}
theorem top0_of (X : (KK w).In s.heap) (hT : TabsAt tabs0 s.heap) (T : Top p loose mean mg mb s.heap) : Top0 (glo0 prog w s) (KK w) mg mb := by
  have T' := ghost_top hT T
  exact ⟨ghost_K hT X (by kernel_rfl), T'.g, T'.b, T'.nolimit, T'.builtins, T'.bmain, codeAll_get (ghost_code hT)⟩
theorem ok0_of (hT : TabsAt tabs0 s.heap) (hg : AllBare s.gens) : Ok (glo0 prog w s) (ghostOf s.heap tabs0).get? s where
  base := .rfl
  fro := fun _ _ e => of_hideAll _ e
  tab := fun q hq => ⟨#[], (hT q hq).2, trivial, fun _ _ e => by simp [codeAmong] at e⟩
  tabF := fun q hq => hideAll_none _ (List.mem_map_of_mem hq)
  os := rfl
  bare := hg
theorem law_run (X : (KK w).In s.heap) (hT : TabsAt tabs0 s.heap) (T : Top p loose mean mg mb s.heap) (hg : AllBare s.gens) {a : Addr} {vs : List Value} {ns : List Int} {told : List Name} (hl : s.heap.get? a = some { cls := .type "list", data := .seq vs.toArray }) (hi : IntsAre vs ns) (h63 : ns.length ≤ 63) (hp : LawPure ns told) :
    codeAny (model prog w) callerA (.call (.ref 126) ⟨[.ref a], []⟩) (fun r s' => r = .ok (.ret (.bool true)) ∧ OldK s.heap s'.heap ∧ s'.os = s.os ∧ AllBare s'.gens) s := by
  have T0 := top0_of (prog := prog) X hT T
  have hF : FList (ghostOf s.heap tabs0).get? (.ref a) vs := ⟨a, _, rfl, ghost_get hT hl (fun q => by cases q), isLi.new⟩
  refine codeAny_mono (calls_law (g := glo0 prog w s) (A := callerA) T0 (gok0 prog w s) .rfl ⟨by decide, by decide⟩ rfl hF hi h63 hp [] s (ok0_of hT hg) ⟨rfl, fun _ h => by cases h⟩) fun r s' hb => ?_
  obtain ⟨v, F', rfl, ok, le, fresh, kept, rfl⟩ := hb
  have keep : ∀ b o, b ∉ tabs0.map (·.2) → s.heap.get? b = some o → s'.heap.get? b = some o := fun b o hb e =>
    (kept b o e fun q hq e2 => hb (e2 ▸ List.mem_map_of_mem hq)).1 (by simp [frsOf])
  have grown : ∀ b o, b ∈ tabs0.map (·.2) → s.heap.get? b = some o → isCodeTable s.heap b ∧ o = tabObj #[] ∧ ∃ ps, s'.heap.get? b = some (tabObj ps) := fun b o hb e => by
    obtain ⟨q, hq, rfl⟩ := List.mem_map.mp hb
    have e2 := (hT q hq).2
    rw [e] at e2
    obtain ⟨ps, hps, _⟩ := ok.tab q hq
    exact ⟨((hT q hq).1.tab (hT q hq).2).isCodeTable, Option.some.inj e2, ps, hps⟩
  refine ⟨rfl, ⟨fun b o e => ?_, fun b o e => ?_⟩, ok.os, ok.bare⟩
  · by_cases hb : b ∈ tabs0.map (·.2)
    · obtain ⟨ht, rfl, ps, hP⟩ := grown b o hb e
      exact .inr (.inl ⟨ht, rfl, #[], ps, rfl, by rw [Array.empty_append]; exact hP⟩)
    · exact .inl (keep b o hb e)
  · by_cases hb : b ∈ tabs0.map (·.2)
    · obtain ⟨_, _, ps, hP⟩ := grown b o hb e
      exact ⟨_, hP⟩
    · exact ⟨o, keep b o hb e⟩
end
end
section
theorem post_true (args : List WData) : PySem.Challenge.rw_jq0006_01.row.claim.post args (.bool true) args = true := by
  show (WShape.has PySem.Challenge.rw_jq0006_01.row.records (.bool true) .bool && WTm.holds PySem.Challenge.rw_jq0006_01.row.records (.eq .res (.lit (.bool true))) { args := args, res := some (.bool true), after := args }) = true
  simp only [WShape.has, WTm.holds, WTm.value, Bool.and_eq_true, List.any_eq_true]
  refine ⟨⟨.bool, by simp [WShape.arms], by rfl⟩, ?_⟩
  have h : same (.bool true) (.bool true) = true := by first | rfl | decide | simp [same]
  simp [h]
theorem law_end (hp : ∀ ns : List Int, ∃ told, LawPure ns told) {w : World} {s : Shared} {mg mb : Str → Option Value} {p : Program} {loose : List Str} {mean : ExcName → Option Value} {P : Params} (X : (KK w).In s.heap) (hT : TabsAt tabs0 s.heap) (T : Top p loose mean mg mb s.heap) (hg : s.gens = #[])
    {a : Addr} {vs : List Value} {ns : List Int} {xs : List WData} {args : List WData} {cl : Str → Option Addr} {mean' : ExcName → Option Value} (hL : s.heap.IsList a vs.toArray) (hw : Well P s.heap (.ref a) (.list xs)) (hi : IntsAre vs ns) (h63 : ns.length ≤ 63) :
    codeAny (model PySem.Challenge.rw_jq0006_01.row.prog w) callerA (.call (.ref 126) ⟨[.ref a], []⟩) (GoodWG PySem.Challenge.rw_jq0006_01.row.claim cl mean' args s) s := by
  cases hw with
  | list hget hall =>
    rename_i ws
    have hvs : ws.toArray = vs.toArray := by
      obtain ⟨o, ho, _, n, hd⟩ := hL
      rw [hget] at ho
      cases ho
      injection hd
    obtain ⟨told, hpu⟩ := hp ns
    rw [hvs] at hget
    refine codeAny_mono (law_run X hT T (.of_eq hg) hget hi h63 hpu) fun r s' ⟨hr, hold, hos, hb⟩ => ?_
    subst hr
    exact ⟨.inl ⟨.bool true, .bool true, [], rfl, fun _ => by rfl, .bool true, post_true args, fun _ => ⟨List.nodup_nil, by simp⟩⟩, hold, hos, hb⟩
theorem join_law (hp : ∀ ns : List Int, ∃ told, LawPure ns told) : PySem.Challenge.rw_jq0006_01.Holds := Mine.hd (by
  k_fill
  intro w s₀ s₁ mg mb G Y fa o pm cd doc dV kV ho hd hcd hD hmg hg args vals as hpre hlay hrd hwl hlo
  have KX := km_in_of Y
  km_tabs Y
  have X := (Ground.X G).1
  have V := (Ground.X G).2
  refine Ground.open G ?_
  intro T B D TE TW
  try (refine guard_noD D (by decide +kernel) ?_; clear D)
  km_lay T hmg ho hd cd
  have hfa : fa = 126 := by
    have h1 := mg_of (n := Str.ofString "law") (v := .ref 126) KX (Top.g T) (by kernel_rfl)
    rw [show mg (Str.ofString "law") = some (.ref fa) from hmg] at h1
    cases h1
    rfl
  subst hfa
  clear ho hd hcd hD hmg
  wrow_args hpre hlay hrd hwl hlo
  all_goals (
    first | refine callC_kw (enter_call ?_) | refine enter_call ?_
    w_top on
    rename Top _ _ _ _ _ _ => T
    rename IntsAre _ _ => hI
    rename Well _ _ _ _ => w1
    rename ¬ _ < _ => hlen
    rename Heap.IsList _ _ _ => hL
    exact law_end hp KX hT9 T hg hL w1 hI (by omega)))
end
section
/-! the heap keeps its order: the head is least -/
noncomputable def hle (a b : Item) : Prop := itemLt b a = false
theorem hle_iff {a b : Item} : hle a b ↔ ¬ itemLe b a := by
  unfold hle
  rw [← itemLt_iff]
  simp
theorem hle_of_lt {a b : Item} (h : itemLt a b = true) : hle a b := by
  rw [hle_iff]
  intro h2
  exact itemLe_irrefl _ (itemLe_trans (itemLt_iff.mp h) h2)
theorem hle_refl (a : Item) : hle a a := hle_iff.mpr (itemLe_irrefl a)
theorem hle_trans {a b c : Item} (h1 : hle a b) (h2 : hle b c) : hle a c := by
  rw [hle_iff] at h1 h2 ⊢
  intro h3
  by_cases hab : a = b
  · subst hab; exact h2 h3
  · rcases itemLe_total hab with h | h
    · exact h2 (itemLe_trans h3 h)
    · exact h1 h
noncomputable def HRel (l : List Item) (a b : Nat) : Prop := ∀ p x, l[a]? = some p → l[b]? = some x → hle p x
noncomputable def HeapOk (l : List Item) : Prop := ∀ i, 0 < i → HRel l ((i - 1) / 2) i
structure UpOk (l : List Item) (pos : Nat) : Prop where
  a : ∀ i, 0 < i → i ≠ pos → HRel l ((i - 1) / 2) i
  b : ∀ i, 0 < i → 0 < pos → (i - 1) / 2 = pos → HRel l ((pos - 1) / 2) i
structure DnOk (l : List Item) (pos : Nat) : Prop where
  a : ∀ i, 0 < i → i ≠ pos → (i - 1) / 2 ≠ pos → HRel l ((i - 1) / 2) i
  b : ∀ i, 0 < i → 0 < pos → (i - 1) / 2 = pos → HRel l ((pos - 1) / 2) i
theorem swap_get {l : List Item} {i j : Nat} {x p : Item} (hi : l[i]? = some x) (hj : l[j]? = some p) (k : Nat) : ((l.set j x).set i p)[k]? = if k = i then some p else if k = j then some x else l[k]? := by
  have h1 := (List.getElem?_eq_some_iff.mp hi).1
  have h2 := (List.getElem?_eq_some_iff.mp hj).1
  rw [List.getElem?_set, List.getElem?_set, List.length_set]
  by_cases e1 : k = i
  · subst e1; simp [h1]
  · by_cases e2 : k = j
    · subst e2; simp [h2, e1, Ne.symm e1]
    · simp [e1, e2, Ne.symm e1, Ne.symm e2]
theorem upL_heap : ∀ (n pos : Nat) (l : List Item), pos < n → UpOk l pos → HeapOk (upL itemLt n pos l)
  | 0, _, _, h, _ => absurd h (Nat.not_lt_zero _)
  | n + 1, pos, l, hn, h => by
    unfold upL
    by_cases h0 : 0 < pos
    · rw [if_pos h0]
      cases hx : l[pos]? with
      | none =>
        intro i hi
        by_cases e : i = pos
        · subst e; intro p x _ h2; rw [hx] at h2; cases h2
        · exact h.a i hi e
      | some x =>
        cases hp : l[(pos - 1) / 2]? with
        | none =>
          intro i hi
          by_cases e : i = pos
          · subst e; intro p x h2 _; rw [hp] at h2; cases h2
          · exact h.a i hi e
        | some p =>
          dsimp only
          have sw := swap_get hx hp
          generalize hl' : (l.set ((pos - 1) / 2) x).set pos p = l' at sw
          generalize hq : (pos - 1) / 2 = q at sw hp hl'
          split
          · rename_i hlt
            have hlt := hle_of_lt hlt
            refine upL_heap n _ _ (by exact far 2 [_, _, _, _, _] [.add (.var 0) (.num 1), .var 1, .add (.var 2) (.num 1), .add (.var 1) (.num 1), .add (.var 2) (.num 1), .add (.var 1) (.num 1), .var 0, .var 3, .var 0, .var 3, .mulR (.var 3) 2, .var 4, .add (.var 4) (.num 1), .var 2, .add (.var 4) (.num 1), .var 2] rfl hn hn (Nat.le_of_eq hq.symm) (Nat.le_of_eq hq.symm) (dvA _) (sbC (Nat.zero_lt_of_lt h0)) (sbC (Nat.zero_lt_of_lt h0))) ⟨fun i hi hne => ?_, fun i hi hq0 he => ?_⟩
            · intro u v hu hv
              rw [sw] at hu hv
              by_cases e1 : i = pos
              · subst e1
                rw [hq, if_neg (by exact Nat.ne_of_lt (far 2 [_, _, _, _] [.add (.var 0) (.num 1), .var 1, .var 0, .var 2, .var 0, .var 2, .mulR (.var 2) 2, .var 3, .add (.var 3) (.num 1), .var 1, .add (.var 3) (.num 1), .var 1] rfl (Nat.le_of_eq hq.symm) (Nat.le_of_eq hq.symm) (dvA _) (sbC (Nat.zero_lt_of_lt hi)) (sbC (Nat.zero_lt_of_lt hi)))), if_pos rfl] at hu
                rw [if_pos rfl] at hv
                cases hu; cases hv
                exact hlt
              · rw [if_neg e1, if_neg hne] at hv
                by_cases e2 : (i - 1) / 2 = pos
                · rw [if_pos e2] at hu
                  cases hu
                  exact h.b i hi h0 e2 _ _ (by rw [hq]; exact hp) hv
                · rw [if_neg e2] at hu
                  by_cases e3 : (i - 1) / 2 = q
                  · rw [if_pos e3] at hu
                    cases hu
                    exact hle_trans hlt (h.a i hi e1 _ _ (by rw [e3]; exact hp) hv)
                  · rw [if_neg e3] at hu
                    exact h.a i hi e1 _ _ hu hv
            · intro u v hu hv
              rw [sw] at hu hv
              rw [if_neg (by exact Nat.ne_of_lt (far 2 [_, _, _, _, _, _] [.add (.var 0) (.num 1), .var 1, .var 2, .var 3, .var 2, .var 3, .var 2, .var 3, .var 2, .var 3, .mulR (.var 3) 2, .var 4, .mulR (.var 3) 2, .var 4, .mulR (.var 0) 2, .var 5, .var 4, .var 1, .var 4, .var 1, .add (.var 5) (.num 1), .var 2] rfl (Nat.le_of_eq hq.symm) (Nat.le_of_eq hq.symm) (Nat.le_of_eq hq.symm) (Nat.le_of_eq hq.symm) (dvA _) (dvA _) (dvA _) (Nat.sub_le _ _) (Nat.sub_le _ _) (sbC (Nat.zero_lt_of_lt hq0)))), if_neg (by exact Nat.ne_of_lt (far 2 [_, _, _] [.add (.var 0) (.num 1), .var 1, .add (.num 0) (.num 1), .var 1, .mulR (.var 0) 2, .var 2, .var 2, .var 1] rfl hq0 (dvA _) (Nat.sub_le _ _)))] at hu
              have hgp := h.a q hq0 (by exact Nat.ne_of_lt (far 1 [_, _, _, _] [.add (.var 0) (.num 1), .var 1, .var 0, .var 2, .var 0, .var 2, .add (.num 0) (.num 1), .var 0, .mulR (.var 2) 2, .var 3, .var 3, .var 1] rfl (Nat.le_of_eq hq.symm) (Nat.le_of_eq hq.symm) hq0 (dvA _) (Nat.sub_le _ _))) _ _ hu hp
              by_cases e1 : i = pos
              · rw [if_pos e1] at hv
                cases hv
                exact hgp
              · rw [if_neg e1, if_neg (by exact Nat.ne_of_gt (far 1 [_, _, _, _] [.add (.var 0) (.num 1), .var 1, .add (.num 0) (.num 1), .var 0, .var 0, .var 2, .var 0, .var 2, .mulR (.var 2) 2, .var 3, .var 3, .var 1] rfl hq0 (Nat.le_of_eq he.symm) (Nat.le_of_eq he.symm) (dvA _) (Nat.sub_le _ _)))] at hv
                exact hle_trans hgp (h.a i hi e1 _ _ (by rw [he]; exact hp) hv)
          · rename_i hlt
            intro i hi
            by_cases e : i = pos
            · subst e
              intro u v hu hv
              rw [hq, hp] at hu
              rw [hx] at hv
              cases hu; cases hv
              simpa [hle] using hlt
            · exact h.a i hi e
    · rw [if_neg h0]
      exact fun i hi => h.a i hi (by exact Nat.ne_of_gt (Nat.lt_of_le_of_lt (Nat.le_of_not_lt h0) hi))
theorem childL_spec {l : List Item} {pos : Nat} (h : pos < l.length / 2) : ∃ c, l[childL itemLt pos l]? = some c ∧ (childL itemLt pos l = 2 * pos + 1 ∨ childL itemLt pos l = 2 * pos + 2) ∧ ∀ i, 0 < i → (i - 1) / 2 = pos → ∀ y, l[i]? = some y → hle c y := by
  have h1 : 2 * pos + 1 < l.length := by exact far 1 [_, _, _] [.add (.add (.mulL 2 (.var 0)) (.num 1)) (.num 1), .var 1, .add (.var 0) (.num 1), .var 2, .add (.var 0) (.num 1), .var 2, .mulR (.var 2) 2, .var 1] rfl h h (dvA _)
  obtain ⟨a, ha⟩ : ∃ a, l[2 * pos + 1]? = some a := ⟨_, List.getElem?_eq_getElem h1⟩
  unfold childL
  rw [ha]
  cases hb : l[2 * pos + 1 + 1]? with
  | none =>
    refine ⟨a, ha, .inl rfl, fun i hi he y hy => ?_⟩
    rcases (show i = 2 * pos + 1 ∨ i = 2 * pos + 1 + 1 by omega) with e | e
    · subst e; rw [ha] at hy; cases hy; exact hle_refl _
    · subst e; rw [hb] at hy; cases hy
  | some b =>
    dsimp only
    split
    · rename_i hlt
      refine ⟨a, ha, .inl rfl, fun i hi he y hy => ?_⟩
      rcases (show i = 2 * pos + 1 ∨ i = 2 * pos + 1 + 1 by omega) with e | e
      · subst e; rw [ha] at hy; cases hy; exact hle_refl _
      · subst e; rw [hb] at hy; cases hy; exact hle_of_lt hlt
    · rename_i hlt
      refine ⟨b, hb, .inr rfl, fun i hi he y hy => ?_⟩
      rcases (show i = 2 * pos + 1 ∨ i = 2 * pos + 1 + 1 by omega) with e | e
      · subst e; rw [ha] at hy; cases hy; simpa [hle] using hlt
      · subst e; rw [hb] at hy; cases hy; exact hle_refl _
theorem downL_heap : ∀ (n pos : Nat) (l : List Item), l.length ≤ pos + n → 0 < n → DnOk l pos → HeapOk (downL itemLt n pos l)
  | 0, _, _, _, h0, _ => absurd h0 (Nat.lt_irrefl _)
  | n + 1, pos, l, hn, _, h => by
    unfold downL
    by_cases h0 : pos < l.length / 2
    · rw [if_pos h0]
      obtain ⟨c, hc, hch, hmin⟩ := childL_spec h0
      obtain ⟨p, hp⟩ : ∃ p, l[pos]? = some p := ⟨_, List.getElem?_eq_getElem (by exact far 1 [_, _, _] [.add (.var 0) (.num 1), .var 1, .add (.var 0) (.num 1), .var 2, .mulR (.var 2) 2, .var 1] rfl h0 (dvA _))⟩
      rw [hc, hp]
      dsimp only
      have sw := swap_get hp hc
      generalize hl' : (l.set (childL itemLt pos l) p).set pos c = l' at sw
      have hlen : l'.length = l.length := by rw [← hl']; simp
      generalize childL itemLt pos l = ch at hc hch sw
      have hpc : (ch - 1) / 2 = pos := by exact Nat.le_antisymm (Or.elim hch (fun hs2 => far 2 [_, _, _, _] [.var 0, .var 1, .var 2, .add (.mulL 2 (.var 1)) (.num 1), .mulR (.var 0) 2, .var 3, .var 3, .var 2] rfl (Nat.le_of_eq hs2) (dvA _) (Nat.sub_le _ _)) (fun hs2 => far 2 [_, _, _, _] [.var 0, .var 1, .var 2, .add (.mulL 2 (.var 1)) (.num 2), .mulR (.var 0) 2, .var 3, .add (.var 3) (.num 1), .var 2] rfl (Nat.le_of_eq hs2) (dvA _) (sbC (far 1 [_, _] [.num 1, .var 0, .add (.mulL 2 (.var 1)) (.num 2), .var 0] rfl (Nat.le_of_eq hs2.symm))))) (Or.elim hch (fun hs2 => far 2 [_, _, _, _] [.var 0, .var 1, .add (.mulL 2 (.var 0)) (.num 1), .var 2, .add (.var 3) (.num 1), .mulR (.add (.var 1) (.num 1)) 2, .var 2, .add (.var 3) (.num 1)] rfl (Nat.le_of_eq hs2.symm) (dvB _) (sbA _ _)) (fun hs2 => far 2 [_, _, _, _] [.var 0, .var 1, .add (.mulL 2 (.var 0)) (.num 2), .var 2, .add (.var 3) (.num 1), .mulR (.add (.var 1) (.num 1)) 2, .var 2, .add (.var 3) (.num 1)] rfl (Nat.le_of_eq hs2.symm) (dvB _) (sbA _ _)))
      refine downL_heap n _ _ (by exact Or.elim hch (fun hs2 => far 2 [_, _, _, _, _] [.var 0, .add (.var 1) (.var 2), .var 3, .add (.var 4) (.add (.var 2) (.num 1)), .var 3, .add (.var 4) (.add (.var 2) (.num 1)), .var 0, .var 3, .var 0, .var 3, .add (.mulL 2 (.var 4)) (.num 1), .var 1] rfl hn hn (Nat.le_of_eq hlen) (Nat.le_of_eq hlen) (Nat.le_of_eq hs2.symm)) (fun hs2 => far 2 [_, _, _, _, _] [.var 0, .add (.var 1) (.var 2), .var 3, .add (.var 4) (.add (.var 2) (.num 1)), .var 3, .add (.var 4) (.add (.var 2) (.num 1)), .var 0, .var 3, .var 0, .var 3, .add (.mulL 2 (.var 4)) (.num 2), .var 1] rfl hn hn (Nat.le_of_eq hlen) (Nat.le_of_eq hlen) (Nat.le_of_eq hs2.symm))) (by exact far 1 [_, _, _, _] [.add (.num 0) (.num 1), .var 0, .var 1, .add (.var 2) (.add (.var 0) (.num 1)), .add (.var 2) (.num 1), .var 3, .add (.var 2) (.num 1), .var 3, .mulR (.var 3) 2, .var 1] rfl hn h0 h0 (dvA _)) ⟨fun i hi hne hpa => ?_, fun i hi hc0 he => ?_⟩
      · intro u v hu hv
        rw [sw] at hu hv
        by_cases e1 : i = pos
        · subst e1
          rw [if_pos rfl] at hv
          cases hv
          rw [if_neg (by exact Nat.ne_of_lt (far 2 [_, _, _] [.add (.var 0) (.num 1), .var 1, .add (.num 0) (.num 1), .var 1, .mulR (.var 0) 2, .var 2, .var 2, .var 1] rfl hi (dvA _) (Nat.sub_le _ _))), if_neg (by exact Nat.ne_of_lt (far 2 [_, _, _, _] [.add (.var 0) (.num 1), .var 1, .mulR (.var 0) 2, .var 2, .var 2, .var 3, .add (.var 3) (.num 1), .var 1, .add (.var 3) (.num 1), .var 1] rfl (dvA _) (Nat.sub_le _ _) (Nat.lt_of_le_of_ne (far 1 [_, _, _, _] [.var 0, .var 1, .var 0, .var 2, .var 0, .var 2, .mulR (.var 2) 2, .var 3, .var 3, .var 1] rfl (Nat.le_of_eq hpc.symm) (Nat.le_of_eq hpc.symm) (dvA _) (Nat.sub_le _ _)) hne) (Nat.lt_of_le_of_ne (far 1 [_, _, _, _] [.var 0, .var 1, .var 0, .var 2, .var 0, .var 2, .mulR (.var 2) 2, .var 3, .var 3, .var 1] rfl (Nat.le_of_eq hpc.symm) (Nat.le_of_eq hpc.symm) (dvA _) (Nat.sub_le _ _)) hne)))] at hu
          exact h.b ch (by exact far 1 [_, _] [.add (.num 0) (.num 1), .var 0, .add (.var 1) (.num 1), .var 0] rfl (sbC (far 1 [_, _, _, _] [.num 1, .var 0, .add (.num 0) (.num 1), .var 1, .add (.num 0) (.num 1), .var 1, .var 1, .var 2, .var 1, .var 2, .mulR (.var 2) 2, .var 3, .var 3, .var 0] rfl hi hi (Nat.le_of_eq hpc.symm) (Nat.le_of_eq hpc.symm) (dvA _) (Nat.sub_le _ _)))) hi hpc _ _ hu hc
        · rw [if_neg e1, if_neg hne] at hv
          by_cases e2 : (i - 1) / 2 = pos
          · rw [if_pos e2] at hu
            cases hu
            exact hmin i hi e2 _ hv
          · rw [if_neg e2, if_neg hpa] at hu
            exact h.a i hi e1 e2 _ _ hu hv
      · intro u v hu hv
        rw [sw] at hu hv
        rw [hpc, if_pos rfl] at hu
        cases hu
        rw [if_neg (by exact Nat.ne_of_gt (Or.elim hch (fun hs2 => far 2 [_, _, _, _, _] [.add (.var 0) (.num 1), .var 1, .var 2, .var 3, .var 2, .var 3, .var 2, .var 3, .var 2, .var 3, .add (.mulL 2 (.var 0)) (.num 1), .var 2, .mulR (.var 3) 2, .var 4, .mulR (.var 3) 2, .var 4, .var 4, .var 1, .var 4, .var 1] rfl (Nat.le_of_eq he.symm) (Nat.le_of_eq he.symm) (Nat.le_of_eq he.symm) (Nat.le_of_eq he.symm) (Nat.le_of_eq hs2.symm) (dvA _) (dvA _) (Nat.sub_le _ _) (Nat.sub_le _ _)) (fun hs2 => far 2 [_, _, _, _, _] [.add (.var 0) (.num 1), .var 1, .var 2, .var 3, .var 2, .var 3, .var 2, .var 3, .var 2, .var 3, .add (.mulL 2 (.var 0)) (.num 2), .var 2, .mulR (.var 3) 2, .var 4, .mulR (.var 3) 2, .var 4, .var 4, .var 1, .var 4, .var 1] rfl (Nat.le_of_eq he.symm) (Nat.le_of_eq he.symm) (Nat.le_of_eq he.symm) (Nat.le_of_eq he.symm) (Nat.le_of_eq hs2.symm) (dvA _) (dvA _) (Nat.sub_le _ _) (Nat.sub_le _ _)))), if_neg (by exact Nat.ne_of_gt (far 1 [_, _, _, _] [.add (.var 0) (.num 1), .var 1, .add (.num 0) (.num 1), .var 0, .var 0, .var 2, .var 0, .var 2, .mulR (.var 2) 2, .var 3, .var 3, .var 1] rfl hc0 (Nat.le_of_eq he.symm) (Nat.le_of_eq he.symm) (dvA _) (Nat.sub_le _ _)))] at hv
        exact h.a i hi (by exact Nat.ne_of_gt (Or.elim hch (fun hs2 => far 2 [_, _, _, _, _] [.add (.var 0) (.num 1), .var 1, .var 2, .var 3, .var 2, .var 3, .var 2, .var 3, .var 2, .var 3, .add (.mulL 2 (.var 0)) (.num 1), .var 2, .mulR (.var 3) 2, .var 4, .mulR (.var 3) 2, .var 4, .var 4, .var 1, .var 4, .var 1] rfl (Nat.le_of_eq he.symm) (Nat.le_of_eq he.symm) (Nat.le_of_eq he.symm) (Nat.le_of_eq he.symm) (Nat.le_of_eq hs2.symm) (dvA _) (dvA _) (Nat.sub_le _ _) (Nat.sub_le _ _)) (fun hs2 => far 2 [_, _, _, _, _] [.add (.var 0) (.num 1), .var 1, .var 2, .var 3, .var 2, .var 3, .var 2, .var 3, .var 2, .var 3, .add (.mulL 2 (.var 0)) (.num 2), .var 2, .mulR (.var 3) 2, .var 4, .mulR (.var 3) 2, .var 4, .var 4, .var 1, .var 4, .var 1] rfl (Nat.le_of_eq he.symm) (Nat.le_of_eq he.symm) (Nat.le_of_eq he.symm) (Nat.le_of_eq he.symm) (Nat.le_of_eq hs2.symm) (dvA _) (dvA _) (Nat.sub_le _ _) (Nat.sub_le _ _)))) (by exact Nat.ne_of_gt (far 2 [_, _, _, _, _] [.add (.var 0) (.num 1), .var 1, .var 0, .var 2, .var 0, .var 2, .var 3, .var 1, .var 3, .var 1, .mulR (.var 2) 2, .var 4, .add (.var 4) (.num 1), .var 3, .add (.var 4) (.num 1), .var 3] rfl (Nat.le_of_eq hpc.symm) (Nat.le_of_eq hpc.symm) (Nat.le_of_eq he.symm) (Nat.le_of_eq he.symm) (dvA _) (sbC (Nat.zero_lt_of_lt hc0)) (sbC (Nat.zero_lt_of_lt hc0)))) _ _ (by rw [he]; exact hc) hv
    · rw [if_neg h0]
      refine upL_heap _ _ _ (Nat.lt_succ_self _) ⟨fun i hi hne => ?_, fun i hi hp0 he => ?_⟩
      · by_cases e : (i - 1) / 2 = pos
        · intro u v _ hv
          rw [List.getElem?_eq_none (by exact far 1 [_, _, _, _, _, _] [.var 0, .var 1, .var 2, .var 3, .var 2, .var 3, .var 3, .var 4, .var 3, .var 4, .add (.var 0) (.num 1), .mulR (.add (.var 2) (.num 1)) 2, .mulR (.var 4) 2, .var 5, .add (.var 5) (.num 1), .var 1] rfl (Nat.le_of_not_lt h0) (Nat.le_of_not_lt h0) (Nat.le_of_eq e.symm) (Nat.le_of_eq e.symm) (dvB _) (dvA _) (sbC (Nat.zero_lt_of_lt hi)))] at hv
          cases hv
        · exact h.a i hi hne e
      · intro u v _ hv
        rw [List.getElem?_eq_none (by exact far 1 [_, _, _, _, _, _] [.var 0, .var 1, .var 2, .var 3, .var 2, .var 3, .var 3, .var 4, .var 3, .var 4, .add (.var 0) (.num 1), .mulR (.add (.var 2) (.num 1)) 2, .mulR (.var 4) 2, .var 5, .add (.var 5) (.num 1), .var 1] rfl (Nat.le_of_not_lt h0) (Nat.le_of_not_lt h0) (Nat.le_of_eq he.symm) (Nat.le_of_eq he.symm) (dvB _) (dvA _) (sbC (Nat.zero_lt_of_lt hi)))] at hv
        cases hv
theorem HeapOk.push {q : List Item} (h : HeapOk q) (x : Item) : HeapOk (pushI q x) := by
  refine upL_heap _ _ _ (Nat.lt_succ_self _) ⟨fun i hi hne => ?_, fun i hi _ he => ?_⟩
  · intro u v hu hv
    by_cases e : i < q.length
    · rw [List.getElem?_append_left (by omega)] at hu hv
      exact h i hi _ _ hu hv
    · rw [List.getElem?_eq_none (by simp; exact Nat.lt_of_le_of_ne ((Nat.le_of_not_lt e)) (Ne.symm hne))] at hv
      cases hv
  · intro u v _ hv
    rw [List.getElem?_eq_none (by simp; exact far 2 [_, _, _, _] [.add (.var 0) (.num 1), .var 1, .add (.num 0) (.num 1), .var 0, .add (.num 0) (.num 1), .var 0, .var 0, .var 2, .var 0, .var 2, .var 0, .var 2, .var 0, .var 2, .mulR (.var 2) 2, .var 3, .mulR (.var 2) 2, .var 3, .var 3, .var 1, .var 3, .var 1] rfl (by assumption) (by assumption) (Nat.le_of_eq he.symm) (Nat.le_of_eq he.symm) (Nat.le_of_eq he.symm) (Nat.le_of_eq he.symm) (dvA _) (dvA _) (Nat.sub_le _ _) (Nat.sub_le _ _))] at hv
    cases hv
theorem HeapOk.pop {q : List Item} (h : HeapOk q) : HeapOk (popI q) := by
  unfold popI
  cases hz : q.getLast? with
  | none => intro i _ u v hu _; simp at hu
  | some last =>
    cases hd : q.dropLast with
    | nil => intro i _ u v hu _; simp at hu
    | cons d r =>
      dsimp only
      have hg : ∀ i, 0 < i → ∀ v, (last :: r)[i]? = some v → q[i]? = some v := fun i hi v hv => by
        have e : (last :: r)[i]? = (d :: r)[i]? := by
          cases i with
          | zero => exact False.elim (Nat.not_succ_le_zero 0 (far 0 [] [.num 1, .num 0, .add (.num 0) (.num 1), .num 0] rfl hi))
          | succ i => rfl
        rw [e, ← hd, List.getElem?_dropLast] at hv
        split at hv
        · exact hv
        · cases hv
      refine downL_heap _ _ _ (by simp) (Nat.succ_pos _) ⟨fun i hi _ hp => ?_, fun i hi h0 _ => absurd h0 (Nat.lt_irrefl _)⟩
      intro u v hu hv
      exact h i hi _ _ (hg _ (by exact Nat.lt_of_le_of_ne (Nat.zero_le _) (Ne.symm hp)) _ hu) (hg _ hi _ hv)
theorem HeapOk.least {x : Item} {r : List Item} (h : HeapOk (x :: r)) : ∀ y ∈ x :: r, hle x y := by
  have key : ∀ (n i : Nat), i ≤ n → ∀ y, (x :: r)[i]? = some y → hle x y := by
    intro n
    induction n with
    | zero =>
      intro i hi y hy
      have : i = 0 := by exact Nat.le_antisymm hi (Nat.zero_le _)
      subst this
      cases hy
      exact hle_refl _
    | succ n ih =>
      intro i hi y hy
      by_cases h0 : i = 0
      · exact ih i (by exact far 1 [_, _] [.var 0, .var 1, .var 0, .num 0] rfl (Nat.le_of_eq h0)) y hy
      · have hlt := (List.getElem?_eq_some_iff.mp hy).1
        obtain ⟨p, hp⟩ : ∃ p, (x :: r)[(i - 1) / 2]? = some p := ⟨_, List.getElem?_eq_getElem (by exact far 2 [_, _, _, _] [.add (.var 0) (.num 1), .var 1, .add (.var 2) (.num 1), .var 1, .add (.var 2) (.num 1), .var 1, .mulR (.var 0) 2, .var 3, .var 3, .var 2, .var 3, .var 2] rfl hlt hlt (dvA _) (Nat.sub_le _ _) (Nat.sub_le _ _))⟩
        exact hle_trans (ih _ (by exact far 4 [_, _, _, _] [.var 0, .var 1, .var 2, .add (.var 1) (.num 1), .var 2, .add (.var 1) (.num 1), .mulR (.var 0) 2, .var 3, .mulR (.var 0) 2, .var 3, .var 3, .var 2, .var 3, .var 2] rfl hi hi (dvA _) (dvA _) (Nat.sub_le _ _) (Nat.sub_le _ _)) p hp) (h i (by exact Nat.lt_of_le_of_ne (Nat.zero_le _) (Ne.symm h0)) _ _ hp hy)
  intro y hy
  obtain ⟨i, hi⟩ := List.getElem?_of_mem hy
  exact key i i (Nat.le_refl _) y hi
end
section
/-! the mirror of _find_lcas tells the greatest common forebears -/
noncomputable abbrev LS.fl (S : LS) (x : Name) : Nat := (S.cs x).getD 0
noncomputable abbrev Has (n b : Nat) : Prop := n &&& b = b
noncomputable def fls : List Nat := [0, 1, 2, 3, 7, 11, 15]
noncomputable def cfs : List Nat := [1, 2, 7]
noncomputable def wt (n : Nat) : Nat := (1 - n % 2) + (1 - n / 2 % 2) + (1 - n / 4 % 2)
theorem fls_or : ∀ n ∈ fls, ∀ b ∈ cfs, n ||| b ∈ fls ∨ Has n 8 := by decide
theorem or_has : ∀ n ∈ fls, ∀ b ∈ cfs, ∀ i ∈ [1, 2, 4], Has (n ||| b) i → Has n i ∨ Has b i := by decide
theorem or_old : ∀ n ∈ fls, ∀ b ∈ cfs, ∀ i ∈ [0, 1, 2, 4, 7, 8], Has n i → Has (n ||| b) i := by decide
theorem or_new : ∀ n ∈ fls, ∀ b ∈ cfs, Has (n ||| b) b := by decide
theorem or_eight : ∀ n ∈ fls, ∀ b ∈ cfs, Has (n ||| b) 8 → Has n 8 := by decide
theorem or_low : ∀ n ∈ fls, ∀ b ∈ cfs, (n ||| b) &&& 7 ≠ 0 := by decide
theorem low_zero : ∀ n ∈ fls, n &&& 7 = 0 → n = 0 := by decide
theorem out_cf : ∀ n ∈ fls, n ≠ 0 → outFlags n ∈ cfs := by decide
theorem out_small : ∀ n ∈ fls, outFlags n ∈ [0, 1, 2, 4, 7, 8] := by decide
theorem out_has : ∀ n ∈ fls, ∀ i ∈ [1, 2, 4], Has n i → Has (outFlags n) i := by decide
theorem out_one : ∀ n ∈ fls, Has (outFlags n) 1 → Has n 1 := by decide
theorem out_two : ∀ n ∈ fls, Has (outFlags n) 2 → Has n 2 := by decide
theorem out_four : ∀ n ∈ fls, Has (outFlags n) 4 → Has n 1 ∧ Has n 2 := by decide
theorem out_both : ∀ n ∈ fls, Has n 1 → Has n 2 → Has (outFlags n) 4 := by decide
theorem has_zero : ∀ n ∈ fls, ∀ i ∈ [1, 2, 4, 8], Has n i → n ≠ 0 := by decide
theorem has_trans : ∀ n ∈ fls, ∀ b ∈ [0, 1, 2, 4, 7, 8], ∀ i ∈ [1, 2, 4], Has n b → Has b i → Has n i := by decide
theorem has_low : ∀ n ∈ fls, ∀ m ∈ fls, n &&& 7 = m &&& 7 → ∀ i ∈ [0, 1, 2, 4, 7], Has n i → Has m i := by decide
theorem out_low : ∀ n ∈ fls, outFlags n ∈ [0, 1, 2, 4, 7] := by decide
theorem has_three : ∀ n ∈ fls, Has n 1 → Has n 2 → ¬ Has n 4 → n &&& 7 = 3 := by decide
theorem eight_three : ∀ n ∈ fls, Has n 8 → Has n 1 ∧ Has n 2 := by decide
theorem three_cases : ∀ n ∈ fls, n &&& 7 = 3 → n = 3 ∨ Has n 8 := by decide
theorem wt_or : ∀ n ∈ fls, ∀ b ∈ cfs, ¬ Has n b → wt (n ||| b) + 1 ≤ wt n := by decide
theorem wt_or_le : ∀ n ∈ fls, ∀ b ∈ cfs, wt (n ||| b) ≤ wt n := by decide
theorem wt_le (n : Nat) : wt n ≤ 3 := by unfold wt; exact far 1 [_, _, _] [.add (.add (.var 0) (.var 1)) (.var 2), .num 3, .var 0, .num 1, .var 1, .num 1, .var 2, .num 1] rfl (Nat.sub_le _ _) (Nat.sub_le _ _) (Nat.sub_le _ _)
theorem wt_low : ∀ n ∈ fls, ∀ m ∈ fls, n &&& 7 = m &&& 7 → wt n = wt m := by decide
theorem mark_eq {S : LS} {x : Item} : ∀ n ∈ fls, markStep S x n = if n = 3 then { S with cs := updN S.cs x.2 11, cands := S.cands ++ [(-x.1, x.2)], cnt := S.cnt + 1 } else S := by
  intro n hn
  simp only [fls, List.mem_cons, List.not_mem_nil, or_false] at hn
  rcases hn with rfl | rfl | rfl | rfl | rfl | rfl | rfl <;> rfl
noncomputable def tau (D : LD) (b : Name) : Int := (D.st b).getD 0
noncomputable abbrev itT (D : LD) (b : Name) : Item := (-tau D b, b)
noncomputable def Ed (D : LD) (b p : Name) : Prop := ∃ ps t, D.par b = some ps ∧ p ∈ ps ∧ D.st p = some t ∧ ¬ t < D.min
inductive Rch (D : LD) : Name → Name → Prop
  | refl (a : Name) : Rch D a a
  | tail {a b c : Name} : Rch D a b → Ed D b c → Rch D a c
structure GD (D : LD) (Nd : List Name) : Prop where
  clo : ∀ b ∈ Nd, ∀ ps, D.par b = some ps → ∀ p ∈ ps, p ∈ Nd
  dec : ∀ b ∈ Nd, ∀ ps, D.par b = some ps → ∀ p ∈ ps, ∀ t, D.st p = some t → t < tau D b
  sh : D.sh = true ∨ ∀ b ∈ Nd, D.par b ≠ none ∧ D.st b ≠ none
theorem Rch.trans {D : LD} {a b : Name} (h1 : Rch D a b) : ∀ {c : Name}, Rch D b c → Rch D a c := by
  intro c h2
  induction h2 with
  | refl => exact h1
  | tail _ e ih => exact .tail ih e
theorem Rch.head {D : LD} {a b c : Name} (e : Ed D a b) (h : Rch D b c) : Rch D a c := (Rch.tail (.refl _) e).trans h
theorem Rch.cases_head {D : LD} {a c : Name} (h : Rch D a c) : a = c ∨ ∃ b, Ed D a b ∧ Rch D b c := by
  induction h with
  | refl => exact .inl rfl
  | tail h e ih =>
    rcases ih with rfl | ⟨d, e2, h2⟩
    · exact .inr ⟨_, e, .refl _⟩
    · exact .inr ⟨d, e2, h2.tail e⟩
section
variable {D : LD} {Nd : List Name}
theorem GD.edge (G : GD D Nd) {a b : Name} (ha : a ∈ Nd) (e : Ed D a b) : b ∈ Nd ∧ tau D b < tau D a := by
  obtain ⟨ps, t, h1, h2, h3, _⟩ := e
  refine ⟨G.clo a ha ps h1 b h2, ?_⟩
  have := G.dec a ha ps h1 b h2 t h3
  show (D.st b).getD 0 < _
  rw [h3]
  exact this
theorem GD.reach (G : GD D Nd) {a b : Name} (ha : a ∈ Nd) (h : Rch D a b) : b ∈ Nd ∧ tau D b ≤ tau D a := by
  induction h with
  | refl => exact ⟨ha, Int.le_refl _⟩
  | tail _ e ih =>
    have := G.edge ih.1 e
    exact ⟨this.1, by omega⟩
end
noncomputable def Cm (D : LD) (c : Name) (cs : List Name) (x : Name) : Prop := Rch D c x ∧ ∃ o ∈ cs, Rch D o x
noncomputable def Stale (D : LD) (c : Name) (cs : List Name) (x : Name) : Prop := ∃ y z, Cm D c cs y ∧ Ed D y z ∧ Rch D z x
structure LInv (D : LD) (Nd : List Name) (c : Name) (cs : List Name) (ds : List (Name × Nat)) (Z : List Name) (td : Name → Name → Prop) (S : LS) : Prop where
  heap : HeapOk S.q
  qi : ∀ y ∈ S.q, y = itT D y.2 ∧ y.2 ∈ Nd ∧ S.fl y.2 ≠ 0
  ok : ∀ x, S.fl x ∈ fls
  sn : ∀ x, S.fl x ≠ 0 → x ∈ Z ∨ itT D x ∈ S.q
  s1 : ∀ x, Has (S.fl x) 1 → Rch D c x
  s2 : ∀ x, Has (S.fl x) 2 → ∃ o ∈ cs, Rch D o x
  s4 : ∀ x, Has (S.fl x) 4 → Stale D c cs x
  clo : ∀ z ∈ Z, ∀ p, Ed D z p → td z p ∨ Has (S.fl p) (outFlags (S.fl z))
  t : ∀ d ∈ ds, Has (S.fl d.1) d.2
  db : ∀ d ∈ ds, d.2 ∈ [0, 1, 2, 4, 7]
  ord : ∀ z ∈ Z, ∀ y ∈ S.q, ¬ itemLe y (itT D z)
  zn : ∀ z ∈ Z, z ∈ Nd
  e1 : ∀ z ∈ Z, Rch D c z → Has (S.fl z) 1
  e2 : ∀ z ∈ Z, (∃ o ∈ cs, Rch D o z) → Has (S.fl z) 2
  e4 : ∀ z ∈ Z, Stale D c cs z → Has (S.fl z) 4
  m8 : ∀ z ∈ Z, S.fl z &&& 7 = 3 → Has (S.fl z) 8
  cd : ∀ x, Has (S.fl x) 8 ↔ (tau D x, x) ∈ S.cands
  cz : ∀ y ∈ S.cands, y.1 = tau D y.2 ∧ y.2 ∈ Z
  c4 : ∀ x, Has (S.fl x) 8 → ¬ Has (S.fl x) 4
  srt : S.cands.Pairwise itemDn
theorem put_fl (S : LS) (p : Name) (n : Nat) (t : Int) (x : Name) : (S.put p n t).fl x = if x = p then n else S.fl x := by
  show (updN S.cs p n x).getD 0 = _
  unfold updN
  split <;> rfl
section
variable {D : LD} {Nd : List Name} {c : Name} {cs : List Name} {ds : List (Name × Nat)} {Z : List Name} {td td' : Name → Name → Prop} {S S' : LS}
theorem LInv.tdm (I : LInv D Nd c cs ds Z td S) (h : ∀ z ∈ Z, ∀ p, Ed D z p → td z p → td' z p ∨ Has (S.fl p) (outFlags (S.fl z))) : LInv D Nd c cs ds Z td' S :=
  { I with clo := fun z hz p e => (I.clo z hz p e).elim (fun x => h z hz p e x) .inr }
theorem LInv.add (I : LInv D Nd c cs ds Z td S) {o : Name} {b : Nat} (hb : b ∈ [0, 1, 2, 4, 7]) (h : Has (S.fl o) b) : LInv D Nd c cs ((o, b) :: ds) Z td S :=
  { I with
    t := fun d hd => by
      rcases List.mem_cons.mp hd with rfl | hd
      · exact h
      · exact I.t d hd
    db := fun d hd => by
      rcases List.mem_cons.mp hd with rfl | hd
      · exact hb
      · exact I.db d hd }
theorem LInv.put (I : LInv D Nd c cs ds Z td S) {p : Name} {b : Nat} (hp : p ∈ Nd) (hb : b ∈ cfs) (hZ : p ∉ Z) (h1 : Has b 1 → Rch D c p) (h2 : Has b 2 → ∃ o ∈ cs, Rch D o p) (h4 : Has b 4 → Stale D c cs p)
    (ho : ∀ z ∈ Z, ¬ itemLe (itT D p) (itT D z)) : LInv D Nd c cs ds Z td (S.put p (S.fl p ||| b) (tau D p)) := by
  have F := put_fl S p (S.fl p ||| b) (tau D p)
  have hq : ∀ y, y ∈ (S.put p (S.fl p ||| b) (tau D p)).q ↔ y ∈ S.q ∨ y = itT D p := fun y => by
    show y ∈ pushI S.q (itT D p) ↔ _
    rw [(pushI_perm _ _).mem_iff, List.mem_append, List.mem_singleton]
  have h8 : ¬ Has (S.fl p) 8 := fun h => hZ (I.cz _ ((I.cd p).mp h)).2
  have old : ∀ x, ∀ i ∈ [0, 1, 2, 4, 7, 8], Has (S.fl x) i → Has ((S.put p (S.fl p ||| b) (tau D p)).fl x) i := fun x i hi h => by
    rw [F]
    split
    · rename_i e; subst e; exact or_old _ (I.ok _) _ hb _ hi h
    · exact h
  have new : ∀ x, ∀ i ∈ [1, 2, 4], Has ((S.put p (S.fl p ||| b) (tau D p)).fl x) i → Has (S.fl x) i ∨ (x = p ∧ Has b i) := fun x i hi h => by
    rw [F] at h
    split at h
    · rename_i e; subst e; exact (or_has _ (I.ok _) _ hb _ hi h).imp id fun y => ⟨rfl, y⟩
    · exact .inl h
  have zf : ∀ z ∈ Z, (S.put p (S.fl p ||| b) (tau D p)).fl z = S.fl z := fun z hz => by rw [F, if_neg (fun e : z = p => hZ (e ▸ hz))]
  have e8 : ∀ x, Has ((S.put p (S.fl p ||| b) (tau D p)).fl x) 8 ↔ Has (S.fl x) 8 := fun x => by
    rw [F]
    split
    · rename_i e; subst e; exact ⟨or_eight _ (I.ok _) _ hb, or_old _ (I.ok _) _ hb 8 (by decide)⟩
    · exact Iff.rfl
  refine { heap := I.heap.push _, qi := fun y hy => ?_, ok := fun x => ?_, sn := fun x hx => ?_, s1 := fun x h => ?_, s2 := fun x h => ?_, s4 := fun x h => ?_, clo := fun z hz q e => ?_, t := fun d hd => ?_, db := I.db, ord := fun z hz y hy => ?_, zn := I.zn, e1 := fun z hz h => ?_, e2 := fun z hz h => ?_, e4 := fun z hz h => ?_, m8 := fun z hz h => ?_, cd := fun x => ?_, cz := I.cz, c4 := fun x h => ?_, srt := I.srt }
  · rcases (hq y).mp hy with hy | rfl
    · obtain ⟨a, b1, c1⟩ := I.qi y hy
      refine ⟨a, b1, ?_⟩
      rw [F]
      split
      · intro e0
        have := or_low _ (I.ok p) _ hb
        rw [e0] at this
        exact this rfl
      · exact c1
    · refine ⟨rfl, hp, ?_⟩
      rw [F, if_pos rfl]
      intro e0
      have := or_low _ (I.ok p) _ hb
      rw [e0] at this
      exact this rfl
  · rw [F]
    split
    · exact (fls_or _ (I.ok _) _ hb).resolve_right h8
    · exact I.ok x
  · by_cases e : x = p
    · subst e; exact .inr ((hq _).mpr (.inr rfl))
    · rw [F, if_neg e] at hx
      exact (I.sn x hx).imp id fun y => (hq _).mpr (.inl y)
  · rcases new x 1 (by decide) h with h | ⟨rfl, h9⟩
    · exact I.s1 x h
    · exact h1 h9
  · rcases new x 2 (by decide) h with h | ⟨rfl, h9⟩
    · exact I.s2 x h
    · exact h2 h9
  · rcases new x 4 (by decide) h with h | ⟨rfl, h9⟩
    · exact I.s4 x h
    · exact h4 h9
  · rw [zf z hz]
    exact (I.clo z hz q e).imp id fun h => old _ _ (out_small _ (I.ok _)) h
  · have := I.db d hd
    refine old _ _ ?_ (I.t d hd)
    simp only [List.mem_cons, List.not_mem_nil, or_false] at this ⊢
    rcases this with h | h | h | h | h <;> simp [h]
  · rcases (hq y).mp hy with hy | rfl
    · exact I.ord z hz y hy
    · exact ho z hz
  · rw [zf z hz]; exact I.e1 z hz h
  · rw [zf z hz]; exact I.e2 z hz h
  · rw [zf z hz]; exact I.e4 z hz h
  · rw [zf z hz] at h ⊢; exact I.m8 z hz h
  · rw [e8]; exact I.cd x
  · rw [e8] at h
    intro h4'
    rcases new x 4 (by decide) h4' with h5 | ⟨rfl, _⟩
    · exact I.c4 x h h5
    · exact h8 h
/-- what is least, is told whole -/
theorem LInv.whole (I : LInv D Nd c cs ds Z (fun _ _ => False) S) (G : GD D Nd) {b : Name} (hl : ∀ y ∈ S.q, hle (itT D b) y) {i : Nat} (hi : i ∈ [1, 2, 4]) {a y : Name} (h : Has (S.fl a) i) (ha : Rch D a y) (hy : Rch D y b) : Has (S.fl y) i := by
  induction ha with
  | refl => exact h
  | @tail u v _ e ih =>
    have hu := ih (Rch.head e hy)
    have hnz : S.fl u ≠ 0 := has_zero _ (I.ok u) i (by simp only [List.mem_cons, List.not_mem_nil, or_false] at hi ⊢; rcases hi with h | h | h <;> simp [h]) hu
    rcases I.sn u hnz with hz | hq
    · have := (I.clo u hz v e).resolve_left id
      exact has_trans _ (I.ok v) _ (out_small _ (I.ok u)) i hi this (out_has _ (I.ok u) i hi hu)
    · obtain ⟨_, hn, _⟩ := I.qi _ hq
      have h1 := G.edge (show u ∈ Nd from hn) e
      have h2 := G.reach h1.1 hy
      have h3 := hle_iff.mp (hl _ hq)
      exact absurd (Or.inl (show -tau D u < -tau D b by have := h1.2; have := h2.2; omega)) h3
end
end
section
noncomputable def meas (Nd : List Name) (S : LS) : Nat := S.q.length + (Nd.map fun x => wt (S.fl x)).sum
theorem sum_le {f h : Name → Nat} : ∀ {l : List Name}, (∀ x ∈ l, f x ≤ h x) → (l.map f).sum ≤ (l.map h).sum
  | [], _ => Nat.le_refl _
  | a :: r, H => by
    simp only [List.map_cons, List.sum_cons]
    have := H a (.head _)
    have := sum_le (l := r) fun x hx => H x (.tail _ hx)
    exact far 1 [_, _, _, _] [.add (.var 0) (.var 1), .add (.var 2) (.var 3), .var 0, .var 2, .var 1, .var 3] rfl (by assumption) this
theorem sum_lt {f h : Name → Nat} : ∀ {l : List Name} {p : Name}, p ∈ l → (∀ x ∈ l, f x ≤ h x) → f p + 1 ≤ h p → (l.map f).sum + 1 ≤ (l.map h).sum
  | a :: r, p, hp, H, hs => by
    simp only [List.map_cons, List.sum_cons]
    have h1 := H a (.head _)
    have h2 := sum_le (l := r) fun x hx => H x (.tail _ hx)
    rcases List.mem_cons.mp hp with rfl | hp
    · exact far 1 [_, _, _, _] [.add (.add (.var 0) (.var 1)) (.num 1), .add (.var 2) (.var 3), .add (.var 0) (.num 1), .var 2, .var 1, .var 3] rfl hs h2
    · have := sum_lt hp (fun x hx => H x (.tail _ hx)) hs
      exact far 1 [_, _, _, _] [.add (.add (.var 0) (.var 1)) (.num 1), .add (.var 2) (.var 3), .var 0, .var 2, .add (.var 1) (.num 1), .var 3] rfl h1 this
theorem push_len (q : List Item) (x : Item) : (pushI q x).length = q.length + 1 := by rw [(pushI_perm q x).length_eq]; simp
section
variable {D : LD} {Nd : List Name} {c : Name} {cs : List Name} {ds : List (Name × Nat)} {Z : List Name} {td td' : Name → Name → Prop} {S S' : LS}
theorem meas_put (hok : ∀ x, S.fl x ∈ fls) {p : Name} {b : Nat} {t : Int} (hb : b ∈ cfs) : meas Nd (S.put p (S.fl p ||| b) t) ≤ meas Nd S + 1 ∧ (p ∈ Nd → ¬ Has (S.fl p) b → meas Nd (S.put p (S.fl p ||| b) t) ≤ meas Nd S) := by
  have F := put_fl S p (S.fl p ||| b) t
  have hq : (S.put p (S.fl p ||| b) t).q.length = S.q.length + 1 := push_len _ _
  have hle : ∀ x ∈ Nd, wt ((S.put p (S.fl p ||| b) t).fl x) ≤ wt (S.fl x) := fun x _ => by
    rw [F]
    split
    · rename_i e; subst e; exact wt_or_le _ (hok _) _ hb
    · exact Nat.le_refl _
  unfold meas
  refine ⟨?_, fun hp hn => ?_⟩
  · have := sum_le hle; exact far 1 [_, _, _, _] [.add (.var 0) (.var 1), .add (.add (.var 2) (.var 3)) (.num 1), .var 0, .add (.var 2) (.num 1), .var 1, .var 3] rfl (Nat.le_of_eq hq) this
  · have := sum_lt hp hle (by rw [F, if_pos rfl]; exact wt_or _ (hok _) _ hb hn)
    exact far 1 [_, _, _, _] [.add (.var 0) (.var 1), .add (.var 2) (.var 3), .var 0, .add (.var 2) (.num 1), .add (.var 1) (.num 1), .var 3] rfl (Nat.le_of_eq hq) this
theorem LInv.parent (G : GD D Nd) {b p0 : Name} {r ps : List Name} (I : LInv D Nd c cs ds Z (fun z p => z = b ∧ p ∈ p0 :: r) S) (hb : b ∈ Z) (hl : ∀ z ∈ Z, tau D b ≤ tau D z) (hps : D.par b = some ps) (hp0 : p0 ∈ ps) (hnz : S.fl b ≠ 0) :
    ∃ S', parentStep D (outFlags (S.fl b)) S p0 = some S' ∧ LInv D Nd c cs ds Z (fun z p => z = b ∧ p ∈ r) S' ∧ meas Nd S' ≤ meas Nd S ∧ S'.fl b = S.fl b := by
  have hbn := I.zn b hb
  have hpn := G.clo b hbn ps hps p0 hp0
  have hcf := out_cf _ (I.ok b) hnz
  have tod : ∀ {S' : LS}, (∀ z ∈ Z, S'.fl z = S.fl z) → (Ed D b p0 → Has (S'.fl p0) (outFlags (S.fl b))) → ∀ z ∈ Z, ∀ p, Ed D z p → (z = b ∧ p ∈ p0 :: r) → (z = b ∧ p ∈ r) ∨ Has (S'.fl p) (outFlags (S'.fl z)) := by
    rintro S' zf h z hz p e ⟨rfl, hp⟩
    rcases List.mem_cons.mp hp with rfl | hp
    · exact .inr (by rw [zf z hz]; exact h e)
    · exact .inl ⟨rfl, hp⟩
  unfold parentStep
  by_cases h1 : Has (S.fl p0) (outFlags (S.fl b))
  · rw [if_pos h1]
    exact ⟨S, rfl, I.tdm (tod (fun _ _ => rfl) fun _ => h1), Nat.le_refl _, rfl⟩
  · rw [if_neg h1]
    cases hst : D.st p0 with
    | none =>
      have hsh : D.sh = true := G.sh.resolve_right fun h => (h p0 hpn).2 hst
      dsimp only
      rw [hsh, if_pos rfl]
      refine ⟨S, rfl, I.tdm (tod (fun _ _ => rfl) fun e => ?_), Nat.le_refl _, rfl⟩
      obtain ⟨_, t, _, _, h3, _⟩ := e
      rw [hst] at h3; cases h3
    | some t =>
      dsimp only
      by_cases ht : t < D.min
      · rw [if_pos ht]
        refine ⟨S, rfl, I.tdm (tod (fun _ _ => rfl) fun e => ?_), Nat.le_refl _, rfl⟩
        obtain ⟨_, t', _, _, h3, h4⟩ := e
        rw [hst] at h3; cases h3
        exact absurd ht h4
      · rw [if_neg ht]
        have he : Ed D b p0 := ⟨ps, t, hps, hp0, hst, ht⟩
        have htau : tau D p0 = t := by unfold tau; rw [hst]; rfl
        have hlt := (G.edge hbn he).2
        have hZ : p0 ∉ Z := fun h => by have := hl p0 h; omega
        have hne : b ≠ p0 := fun e => hZ (e ▸ hb)
        have I' := I.put hpn hcf hZ (fun h => (I.s1 b (out_one _ (I.ok b) h)).tail he) (fun h => by
            obtain ⟨o, ho, h⟩ := I.s2 b (out_two _ (I.ok b) h)
            exact ⟨o, ho, h.tail he⟩) (fun h => by
            obtain ⟨h1, h2⟩ := out_four _ (I.ok b) h
            exact ⟨b, p0, ⟨I.s1 b h1, I.s2 b h2⟩, he, .refl _⟩) (fun z hz h => by
            have := hl z hz
            rcases h with h | ⟨h, _⟩
            · have h : -tau D p0 < -tau D z := h
              omega
            · have h : -tau D p0 = -tau D z := h
              omega)
        rw [htau] at I'
        have F := put_fl S p0 (S.fl p0 ||| outFlags (S.fl b)) t
        have zf : ∀ z ∈ Z, (S.put p0 (S.fl p0 ||| outFlags (S.fl b)) t).fl z = S.fl z := fun z hz => by rw [F, if_neg (fun e : z = p0 => hZ (e ▸ hz))]
        refine ⟨_, rfl, I'.tdm (tod zf fun _ => ?_), (meas_put I.ok hcf).2 hpn h1, zf b hb⟩
        rw [F, if_pos rfl]
        exact or_new _ (I.ok _) _ hcf
theorem LInv.parents (G : GD D Nd) {b : Name} {ps : List Name} (hb : b ∈ Z) (hl : ∀ z ∈ Z, tau D b ≤ tau D z) (hps : D.par b = some ps) {n : Nat} (hnz : n ≠ 0) : ∀ {r : List Name} {S : LS}, LInv D Nd c cs ds Z (fun z p => z = b ∧ p ∈ r) S → (∀ p ∈ r, p ∈ ps) → S.fl b = n →
    ∃ S', parentsStep D (outFlags n) S r = some S' ∧ LInv D Nd c cs ds Z (fun _ _ => False) S' ∧ meas Nd S' ≤ meas Nd S
  | [], S, I, _, _ => ⟨S, rfl, I.tdm fun z _ p _ h => absurd h.2 (by simp), Nat.le_refl _⟩
  | p0 :: r, S, I, hr, hn => by
    subst hn
    obtain ⟨S1, h1, I1, m1, f1⟩ := I.parent G hb hl hps (hr p0 (.head _)) hnz
    obtain ⟨S2, h2, I2, m2⟩ := LInv.parents G hb hl hps hnz I1 (fun p hp => hr p (.tail _ hp)) f1
    refine ⟨S2, ?_, I2, by exact Nat.le_trans m2 m1⟩
    unfold parentsStep
    rw [h1]
    exact h2
/-- the head is taken and marked -/
theorem LInv.pop (G : GD D Nd) (I : LInv D Nd c cs ds Z (fun _ _ => False) S) (hc : (c, 1) ∈ ds) (hcs : ∀ o ∈ cs, (o, 2) ∈ ds) {x : Item} {r : List Item} (hq : S.q = x :: r) :
    LInv D Nd c cs ds (x.2 :: Z) (fun z _ => z = x.2) (markStep { S with q := popI S.q } x (S.fl x.2)) ∧ meas Nd (markStep { S with q := popI S.q } x (S.fl x.2)) + 1 ≤ meas Nd S ∧
    (∀ z ∈ x.2 :: Z, tau D x.2 ≤ tau D z) ∧ outFlags ((markStep { S with q := popI S.q } x (S.fl x.2)).fl x.2) = outFlags (S.fl x.2) ∧ (markStep { S with q := popI S.q } x (S.fl x.2)).fl x.2 ≠ 0 := by
  obtain ⟨hx, hxn, hx0⟩ := I.qi x (by rw [hq]; exact .head _)
  generalize hb : x.2 = b at *
  have hle : ∀ y ∈ S.q, hle (itT D b) y := by
    have := I.heap
    rw [hq] at this ⊢
    rw [← hx]
    exact this.least
  have hpop : (popI S.q).Perm r := by rw [hq]; exact popI_perm
  have hsub : ∀ y ∈ popI S.q, y ∈ S.q := fun y hy => by rw [hq]; exact .tail _ (hpop.mem_iff.mp hy)
  have w1 : Rch D c b → Has (S.fl b) 1 := fun h => I.whole G hle (by decide) (I.t _ hc) h (.refl _)
  have w2 : (∃ o ∈ cs, Rch D o b) → Has (S.fl b) 2 := fun ⟨o, ho, h⟩ => I.whole G hle (by decide) (I.t _ (hcs o ho)) h (.refl _)
  have w4 : Stale D c cs b → Has (S.fl b) 4 := by
    rintro ⟨y, z, ⟨h1, o, ho, h2⟩, e, h⟩
    have hy := Rch.head e h
    have k1 := I.whole G hle (i := 1) (by decide) (I.t _ hc) h1 hy
    have k2 := I.whole G hle (i := 2) (by decide) (I.t _ (hcs o ho)) h2 hy
    have k4 := out_both _ (I.ok y) k1 k2
    rcases I.sn y (has_zero _ (I.ok y) 1 (by decide) k1) with hz | hyq
    · have := (I.clo y hz z e).resolve_left id
      exact I.whole G hle (i := 4) (by decide) (has_trans _ (I.ok z) _ (out_small _ (I.ok y)) 4 (by decide) this k4) h (.refl _)
    · obtain ⟨_, hn, _⟩ := I.qi _ hyq
      have e1 := G.edge (show y ∈ Nd from hn) e
      have e2 := G.reach e1.1 h
      have e3 := hle_iff.mp (hle _ hyq)
      exact absurd (Or.inl (show -tau D y < -tau D b by have := e1.2; have := e2.2; omega)) e3
  have htau : ∀ z ∈ Z, tau D b ≤ tau D z := fun z hz => by
    have := I.ord z hz x (by rw [hq]; exact .head _)
    have h1 : ¬ (x.1 < -tau D z) := fun h => this (.inl h)
    have h2 : x.1 = -tau D b := by rw [hx]
    omega
  -- the marked state
  have hm := mark_eq (S := { S with q := popI S.q }) (x := x) (S.fl b) (I.ok b)
  generalize hS1 : markStep { S with q := popI S.q } x (S.fl b) = S1 at hm
  have Q : S1.q = popI S.q := by rw [hm]; split <;> rfl
  have Fl : ∀ y, S1.fl y = if y = b ∧ S.fl b = 3 then 11 else S.fl y := fun y => by
    rw [hm]
    by_cases h3 : S.fl b = 3
    · rw [if_pos h3]
      show (updN S.cs x.2 11 y).getD 0 = _
      unfold updN
      rw [hb]
      by_cases e : y = b
      · rw [if_pos e, if_pos ⟨e, h3⟩]; rfl
      · rw [if_neg e, if_neg fun k => e k.1]
    · rw [if_neg h3, if_neg fun k => h3 k.2]
  have ok1 : ∀ y, S1.fl y ∈ fls := fun y => by
    rw [Fl]
    split
    · decide
    · exact I.ok y
  have low : ∀ y, S1.fl y &&& 7 = S.fl y &&& 7 := fun y => by
    rw [Fl]
    split
    · rename_i e; rw [e.1, e.2]; rfl
    · rfl
  have hout : ∀ y, outFlags (S1.fl y) = outFlags (S.fl y) := fun y => by unfold outFlags; rw [low]
  have hnz : ∀ y, S1.fl y ≠ 0 ↔ S.fl y ≠ 0 := fun y => by
    constructor <;> intro h h2
    · have := low y; rw [h2] at this; exact h (low_zero _ (ok1 y) this)
    · have := low y; rw [h2] at this; exact h (low_zero _ (I.ok y) this.symm)
  have up : ∀ y, ∀ i ∈ [0, 1, 2, 4, 7], Has (S1.fl y) i → Has (S.fl y) i := fun y => has_low _ (ok1 y) _ (I.ok y) (low y)
  have dn : ∀ y, ∀ i ∈ [0, 1, 2, 4, 7], Has (S.fl y) i → Has (S1.fl y) i := fun y => has_low _ (I.ok y) _ (ok1 y) (low y).symm
  have hcand : ∀ y, y ∈ S1.cands ↔ y ∈ S.cands ∨ (S.fl b = 3 ∧ y = (tau D b, b)) := fun y => by
    rw [hm]
    by_cases h3 : S.fl b = 3
    · rw [if_pos h3]
      have : ((-x.1, x.2) : Item) = (tau D b, b) := by
        rw [hx]; simp
      simp [this, h3]
    · simp [h3]
  refine ⟨{ heap := by rw [Q]; exact I.heap.pop, qi := fun y hy => ?_, ok := ok1, sn := fun y hy => ?_, s1 := fun y h => I.s1 y (up y 1 (by decide) h), s2 := fun y h => I.s2 y (up y 2 (by decide) h), s4 := fun y h => I.s4 y (up y 4 (by decide) h), clo := fun z hz p e => ?_, t := fun d hd => dn _ _ (I.db d hd) (I.t d hd), db := I.db, ord := fun z hz y hy => ?_, zn := fun z hz => ?_, e1 := fun z hz h => ?_, e2 := fun z hz h => ?_, e4 := fun z hz h => ?_, m8 := fun z hz h => ?_, cd := fun y => ?_, cz := fun y hy => ?_, c4 := fun y h => ?_, srt := ?_ }, ?_, fun z hz => ?_, hout b, (hnz b).mpr hx0⟩
  · rw [Q] at hy
    obtain ⟨a, b1, c1⟩ := I.qi y (hsub y hy)
    exact ⟨a, b1, (hnz _).mpr c1⟩
  · rcases I.sn y ((hnz y).mp hy) with h | h
    · exact .inl (.tail _ h)
    · rw [hq] at h
      rcases List.mem_cons.mp h with h | h
      · refine .inl ?_
        have : y = b := by rw [← hb, ← h]
        rw [this]; exact .head _
      · exact .inr (by rw [Q]; exact hpop.mem_iff.mpr h)
  · rcases List.mem_cons.mp hz with rfl | hz
    · exact .inl rfl
    · refine .inr ?_
      rw [hout]
      exact dn _ _ (out_low _ (I.ok z)) ((I.clo z hz p e).resolve_left id)
  · rw [Q] at hy
    rcases List.mem_cons.mp hz with rfl | hz
    · exact hle_iff.mp (hle y (hsub y hy))
    · exact I.ord z hz y (hsub y hy)
  · rcases List.mem_cons.mp hz with rfl | hz
    · exact hxn
    · exact I.zn z hz
  · refine dn _ _ (by decide) ?_
    rcases List.mem_cons.mp hz with rfl | hz
    · exact w1 h
    · exact I.e1 z hz h
  · refine dn _ _ (by decide) ?_
    rcases List.mem_cons.mp hz with rfl | hz
    · exact w2 h
    · exact I.e2 z hz h
  · refine dn _ _ (by decide) ?_
    rcases List.mem_cons.mp hz with rfl | hz
    · exact w4 h
    · exact I.e4 z hz h
  · rw [low] at h
    rw [Fl]
    split
    · decide
    · rename_i hne
      rcases List.mem_cons.mp hz with rfl | hz
      · exact (three_cases _ (I.ok _) h).resolve_left fun e => hne ⟨rfl, e⟩
      · exact I.m8 z hz h
  · rw [hcand, Fl]
    by_cases h3 : y = b ∧ S.fl b = 3
    · rw [if_pos h3]
      exact ⟨fun _ => .inr ⟨h3.2, by rw [h3.1]⟩, fun _ => by decide⟩
    · rw [if_neg h3, I.cd y]
      exact ⟨.inl, fun h => h.resolve_right fun k => h3 ⟨congrArg Prod.snd k.2, k.1⟩⟩
  · rcases (hcand y).mp hy with hy | ⟨_, rfl⟩
    · exact ⟨(I.cz y hy).1, .tail _ (I.cz y hy).2⟩
    · exact ⟨rfl, .head _⟩
  · intro h4
    have h4 := up y 4 (by decide) h4
    rw [Fl] at h
    split at h
    · rename_i e
      rw [e.1, e.2] at h4
      exact absurd h4 (by decide)
    · exact I.c4 y h h4
  · rw [hm]
    by_cases h3 : S.fl b = 3
    · rw [if_pos h3]
      refine List.pairwise_append.mpr ⟨I.srt, List.pairwise_singleton _ _, fun y hy w hw => ?_⟩
      rw [List.mem_singleton.mp hw]
      have hcz := I.cz y hy
      have hne : y.2 ≠ b := fun e => by
        have : y = (tau D b, b) := Prod.ext (by rw [hcz.1, e]) e
        rw [this] at hy
        have := (I.cd b).mpr hy
        rw [h3] at this
        exact absurd this (by decide)
      have ho := I.ord _ hcz.2 x (by rw [hq]; exact .head _)
      have hne2 : itT D y.2 ≠ x := fun e => hne (by rw [← hb, ← e])
      have := (itemLe_total hne2).resolve_right ho
      rw [hx] at this ⊢
      have hy1 := hcz.1
      rcases this with h | ⟨h, h2⟩
      · refine .inl ?_
        have h : -tau D y.2 < -tau D b := h
        show - -tau D b < y.1
        omega
      · refine .inr ⟨?_, h2⟩
        have h : -tau D y.2 = -tau D b := h
        show y.1 = - -tau D b
        omega
    · rw [if_neg h3]
      exact I.srt
  · unfold meas
    have e1 : (Nd.map fun y => wt (S1.fl y)).sum = (Nd.map fun y => wt (S.fl y)).sum := by
      congr 1
      exact List.map_congr_left fun y _ => wt_low _ (ok1 y) _ (I.ok y) (low y)
    have e2 : S1.q.length + 1 = S.q.length := by rw [Q, hpop.length_eq, hq]; rfl
    rw [e1]
    exact far 1 [_, _, _] [.add (.add (.var 0) (.var 1)) (.num 1), .add (.var 2) (.var 1), .add (.var 0) (.num 1), .var 2] rfl (Nat.le_of_eq e2)
  · rcases List.mem_cons.mp hz with rfl | hz
    · exact Int.le_refl _
    · exact htau z hz
end
end
section
section
variable {D : LD} {Nd : List Name} {c : Name} {cs : List Name} {ds : List (Name × Nat)} {Z : List Name} {td td' : Name → Name → Prop} {S S' : LS}
theorem LInv.step (G : GD D Nd) (I : LInv D Nd c cs ds Z (fun _ _ => False) S) (hc : (c, 1) ∈ ds) (hcs : ∀ o ∈ cs, (o, 2) ∈ ds) {x : Item} {r : List Item} (hq : S.q = x :: r) :
    ∃ S', lcaStep D S = some S' ∧ LInv D Nd c cs ds (x.2 :: Z) (fun _ _ => False) S' ∧ meas Nd S' + 1 ≤ meas Nd S := by
  obtain ⟨_, hxn, hx0⟩ := I.qi x (by rw [hq]; exact .head _)
  obtain ⟨I1, m1, ht, ho, hz⟩ := I.pop G hc hcs hq
  have hf : S.cs x.2 = some (S.fl x.2) := by
    cases e : S.cs x.2 with
    | none => exact absurd (show S.fl x.2 = 0 by show (S.cs x.2).getD 0 = 0; rw [e]; rfl) hx0
    | some n => show some n = some ((S.cs x.2).getD 0); rw [e]; rfl
  rw [lcaStep_eq hq hf]
  generalize markStep { S with q := popI S.q } x (S.fl x.2) = S1 at *
  unfold stepTail
  cases hp : D.par x.2 with
  | none =>
    have hsh : D.sh = true := G.sh.resolve_right fun h => (h _ hxn).1 hp
    dsimp only
    rw [hsh, if_pos rfl]
    refine ⟨S1, rfl, I1.tdm fun z _ p e h => ?_, m1⟩
    obtain ⟨ps, _, h1, _⟩ := e
    rw [h, hp] at h1
    cases h1
  | some ps =>
    dsimp only
    rw [← ho]
    obtain ⟨S2, h2, I2, m2⟩ := LInv.parents G (b := x.2) (ps := ps) (n := S1.fl x.2) (Z := x.2 :: Z) (.head _) ht hp hz (r := ps) (S := S1) (I1.tdm fun z hz p e h => .inl ⟨h, by
      obtain ⟨ps', _, h1, h2, _⟩ := e
      rw [h, hp] at h1
      cases h1
      exact h2⟩) (fun _ h => h) rfl
    exact ⟨S2, h2, I2, by exact Nat.lt_of_le_of_lt m2 m1⟩
theorem LInv.loop (G : GD D Nd) (hc : (c, 1) ∈ ds) (hcs : ∀ o ∈ cs, (o, 2) ∈ ds) : ∀ (n : Nat) {Z : List Name} {S : LS}, LInv D Nd c cs ds Z (fun _ _ => False) S → meas Nd S ≤ n →
    ∃ S' Z', lcaLoop D (n + 1) S = some (some S') ∧ LInv D Nd c cs ds Z' (fun _ _ => False) S' ∧ S'.live = false
  | n, Z, S, I, hm => by
    unfold lcaLoop
    by_cases hl : S.live = true
    · rw [if_pos hl]
      obtain ⟨x, r, hq⟩ : ∃ x r, S.q = x :: r := by
        cases e : S.q with
        | nil => unfold LS.live at hl; rw [e] at hl; cases hl
        | cons x r => exact ⟨x, r, rfl⟩
      obtain ⟨S1, h1, I1, m1⟩ := I.step G hc hcs hq
      rw [h1]
      dsimp only
      cases n with
      | zero => exact False.elim (Nat.not_succ_le_zero 0 (far 0 [_, _] [.num 1, .num 0, .add (.var 0) (.num 1), .var 1, .var 1, .num 0] rfl m1 hm))
      | succ n => exact LInv.loop G hc hcs n I1 (by exact far 1 [_, _, _] [.var 0, .var 1, .add (.var 0) (.num 1), .var 2, .var 2, .add (.var 1) (.num 1)] rfl m1 hm)
    · rw [if_neg hl]
      exact ⟨S, Z, rfl, I, by simpa using hl⟩
theorem LInv.empty : LInv D Nd c cs [] [] (fun _ _ => False) LS.empty where
  heap := fun i _ u v hu _ => by cases hu
  qi := fun y hy => by cases hy
  ok := fun x => by show 0 ∈ fls; decide
  sn := fun x h => absurd rfl h
  s1 := fun x h => absurd (show (0 : Nat) &&& 1 = 1 from h) (by decide)
  s2 := fun x h => absurd (show (0 : Nat) &&& 2 = 2 from h) (by decide)
  s4 := fun x h => absurd (show (0 : Nat) &&& 4 = 4 from h) (by decide)
  clo := fun z hz => by cases hz
  t := fun d hd => by cases hd
  db := fun d hd => by cases hd
  ord := fun z hz => by cases hz
  zn := fun z hz => by cases hz
  e1 := fun z hz => by cases hz
  e2 := fun z hz => by cases hz
  e4 := fun z hz => by cases hz
  m8 := fun z hz => by cases hz
  cd := fun x => ⟨fun h => absurd (show (0 : Nat) &&& 8 = 8 from h) (by decide), fun h => by cases h⟩
  cz := fun y hy => by cases hy
  c4 := fun x h => absurd (show (0 : Nat) &&& 8 = 8 from h) (by decide)
  srt := .nil
theorem LInv.start (G : GD D Nd) (I : LInv D Nd c cs ds [] (fun _ _ => False) S) {o : Name} {b : Nat} (hb : b = 1 ∨ b = 2) (ho : o ∈ Nd) (h1 : b = 1 → o = c) (h2 : b = 2 → o ∈ cs) :
    ∃ S', startStep D S o b = some S' ∧ LInv D Nd c cs ((o, b) :: ds) [] (fun _ _ => False) S' ∧ meas Nd S' ≤ meas Nd S + 1 := by
  have hbc : b ∈ cfs := by rcases hb with rfl | rfl <;> decide
  have I1 := I.put ho hbc (by simp) (fun h => by
    have : b = 1 := by
      rcases hb with rfl | rfl
      · rfl
      · exact absurd h (by decide)
    rw [h1 this]; exact .refl _) (fun h => by
    have : b = 2 := by
      rcases hb with rfl | rfl
      · exact absurd h (by decide)
      · rfl
    exact ⟨o, h2 this, .refl _⟩) (fun h => by
    rcases hb with rfl | rfl <;> exact absurd h (by decide)) (fun z hz => by cases hz)
  have I2 := I1.add (o := o) (b := b) (by rcases hb with rfl | rfl <;> decide) (by rw [put_fl, if_pos rfl]; exact or_new _ (I.ok _) _ hbc)
  refine ⟨_, ?_, I2, (meas_put I.ok hbc).1⟩
  unfold startStep
  cases hst : D.st o with
  | none =>
    have hsh : D.sh = true := G.sh.resolve_right fun h => (h o ho).2 hst
    dsimp only
    rw [hsh, if_pos rfl]
    unfold tau
    rw [hst]
    rfl
  | some t =>
    dsimp only
    unfold tau
    rw [hst]
    rfl
theorem LInv.starts (G : GD D Nd) : ∀ {rest : List Name} {ds : List (Name × Nat)} {S : LS}, LInv D Nd c cs ds [] (fun _ _ => False) S → (∀ o ∈ rest, o ∈ Nd ∧ o ∈ cs) →
    ∃ S' ds', startAll D S rest = some S' ∧ LInv D Nd c cs ds' [] (fun _ _ => False) S' ∧ meas Nd S' ≤ meas Nd S + rest.length ∧ (∀ d ∈ ds, d ∈ ds') ∧ ∀ o ∈ rest, (o, 2) ∈ ds'
  | [], ds, S, I, _ => ⟨S, ds, rfl, I, Nat.le_refl _, fun _ h => h, fun _ h => by cases h⟩
  | o :: r, ds, S, I, h => by
    obtain ⟨S1, h1, I1, m1⟩ := I.start G (.inr rfl) (h o (.head _)).1 (fun h => by cases h) fun _ => (h o (.head _)).2
    obtain ⟨S2, ds2, h2, I2, m2, k1, k2⟩ := LInv.starts G I1 fun o ho => h o (.tail _ ho)
    refine ⟨S2, ds2, ?_, I2, by simp only [List.length_cons]; exact far 1 [_, _, _, _] [.var 0, .add (.var 1) (.add (.var 2) (.num 1)), .var 3, .add (.var 1) (.num 1), .var 0, .add (.var 3) (.var 2)] rfl m1 m2, fun d hd => k1 d (.tail _ hd), fun o' ho => ?_⟩
    · unfold startAll
      rw [h1]
      exact h2
    · rcases List.mem_cons.mp ho with rfl | ho
      · exact k1 _ (.head _)
      · exact k2 o' ho
theorem results_all {cs : Name → Option Nat} : ∀ (cands acc : List Item), (∀ x ∈ cands, liveItem cs x = true) → (acc ++ cands).Nodup → cands.foldl (fun acc x => if liveItem cs x && !decide (x ∈ acc) then acc ++ [x] else acc) acc = acc ++ cands
  | [], acc, _, _ => by simp
  | x :: r, acc, hl, hn => by
    have hx : x ∉ acc := fun h => by
      have := (List.nodup_append.mp hn).2.2 x h x (.head _)
      exact this rfl
    rw [List.foldl_cons, hl x (.head _), show (true && !decide (x ∈ acc)) = true by simp [hx], if_pos rfl]
    rw [results_all r (acc ++ [x]) (fun y hy => hl y (.tail _ hy)) (by simpa using hn)]
    simp
theorem itemDn_ne {a b : Item} (h : itemDn a b) : a ≠ b := by
  rintro rfl
  rcases h with h | ⟨_, h⟩
  · omega
  · rw [bytesLt_irrefl] at h; cases h
/-- what _find_lcas tells -/
theorem lca_main (G : GD D Nd) (hc : c ∈ Nd) (hcs : ∀ o ∈ cs, o ∈ Nd) : ∃ S, lcaRun D (cs.length + 3 * Nd.length + 2) c cs = some (some S) ∧ (∀ x ∈ S.cands, S.cs x.2 ≠ none) ∧ S.cands.Pairwise itemDn ∧ resultsOf S.cs S.cands = S.cands ∧
    ∀ x : Item, x ∈ S.cands ↔ x.1 = tau D x.2 ∧ Cm D c cs x.2 ∧ ¬ Stale D c cs x.2 := by
  obtain ⟨S1, h1, I1, m1⟩ := LInv.empty.start (D := D) (Nd := Nd) (c := c) (cs := cs) G (o := c) (b := 1) (.inl rfl) hc (fun _ => rfl) (fun h => by cases h)
  obtain ⟨S2, ds, h2, I2, m2, k1, k2⟩ := LInv.starts G I1 (rest := cs) fun o ho => ⟨hcs o ho, ho⟩
  have m0 : meas Nd LS.empty ≤ 3 * Nd.length := by
    unfold meas
    have : ∀ l : List Name, (l.map fun x => wt (LS.empty.fl x)).sum ≤ 3 * l.length := by
      intro l
      induction l with
      | nil => exact Nat.le_refl _
      | cons a r ih =>
        rw [List.map_cons, List.sum_cons, List.length_cons]
        have := wt_le (LS.empty.fl a)
        exact far 1 [_, _, _] [.add (.var 0) (.var 1), .mulL 3 (.add (.var 2) (.num 1)), .var 1, .mulL 3 (.var 2), .var 0, .num 3] rfl ih this
    have h := this Nd
    show 0 + _ ≤ _
    exact far 1 [_, _] [.add (.num 0) (.var 0), .mulL 3 (.var 1), .var 0, .mulL 3 (.var 1)] rfl h
  obtain ⟨S, Z, h3, I, hl⟩ := I2.loop G (k1 _ (.head _)) k2 (cs.length + 3 * Nd.length + 1) (by exact far 1 [_, _, _, _, _] [.var 0, .add (.add (.var 1) (.mulL 3 (.var 2))) (.num 1), .var 3, .add (.var 4) (.num 1), .var 0, .add (.var 3) (.var 1), .var 4, .mulL 3 (.var 2)] rfl m1 m2 m0)
  have h8 : ∀ x ∈ S.cands, Has (S.fl x.2) 8 := fun x hx => (I.cd x.2).mpr (by rw [← (I.cz x hx).1]; exact hx)
  have hsome : ∀ x ∈ S.cands, S.cs x.2 = some (S.fl x.2) := fun x hx => by
    have := has_zero _ (I.ok _) 8 (by decide) (h8 x hx)
    cases e : S.cs x.2 with
    | none => exact absurd (show S.fl x.2 = 0 by show (S.cs x.2).getD 0 = 0; rw [e]; rfl) this
    | some n => show some n = some ((S.cs x.2).getD 0); rw [e]; rfl
  refine ⟨S, ?_, fun x hx e => ?_, I.srt, ?_, fun x => ⟨fun hx => ?_, fun ⟨hx, hcm, hst⟩ => ?_⟩⟩
  · unfold lcaRun
    rw [h1]
    dsimp only
    rw [h2]
    exact h3
  · rw [hsome x hx] at e; cases e
  · unfold resultsOf
    refine (results_all S.cands [] (fun x hx => ?_) ?_).trans (List.nil_append _)
    · unfold liveItem
      rw [hsome x hx]
      have := I.c4 x.2 (h8 x hx)
      simpa using this
    · rw [List.nil_append]
      exact I.srt.imp fun h => itemDn_ne h
  · have hz := I.cz x hx
    obtain ⟨q1, q2⟩ := eight_three _ (I.ok _) (h8 x hx)
    exact ⟨hz.1, ⟨I.s1 _ q1, I.s2 _ q2⟩, fun h => I.c4 _ (h8 x hx) (I.e4 _ hz.2 h)⟩
  · have hdead : ∀ y, Rch D y x.2 → itT D y ∉ S.q := fun y hy hq => by
      have : liveItem S.cs (itT D y) = false := by
        unfold LS.live at hl
        rw [List.any_eq_false] at hl
        simpa using hl _ hq
      have h4 : Has (S.fl y) 4 := by
        obtain ⟨_, _, hy0⟩ := I.qi _ hq
        have e : S.cs y = some (S.fl y) := by
          cases e : S.cs y with
          | none => exact absurd (show S.fl y = 0 by show (S.cs y).getD 0 = 0; rw [e]; rfl) hy0
          | some n => show some n = some ((S.cs y).getD 0); rw [e]; rfl
        unfold liveItem at this
        rw [show (itT D y).2 = y from rfl, e] at this
        simpa using this
      obtain ⟨u, z, h1, h2, h3⟩ := I.s4 y h4
      exact hst ⟨u, z, h1, h2, h3.trans hy⟩
    have key : ∀ y, Rch D c y → Rch D y x.2 → y ∈ Z ∧ Has (S.fl y) 1 := by
      intro y h
      induction h with
      | refl =>
        intro hy
        have h1 := I.t _ (k1 _ (.head _))
        exact ⟨(I.sn c (has_zero _ (I.ok c) 1 (by decide) h1)).resolve_right (hdead c hy), h1⟩
      | @tail u v hu e ih =>
        intro hy
        obtain ⟨i1, i2⟩ := ih (Rch.head e hy)
        have h1 := has_trans _ (I.ok v) _ (out_small _ (I.ok u)) 1 (by decide) ((I.clo u i1 v e).resolve_left id) (out_has _ (I.ok u) 1 (by decide) i2)
        exact ⟨(I.sn v (has_zero _ (I.ok v) 1 (by decide) h1)).resolve_right (hdead v hy), h1⟩
    obtain ⟨hz, q1⟩ := key x.2 hcm.1 (.refl _)
    have q2 := I.e2 _ hz hcm.2
    have q4 : ¬ Has (S.fl x.2) 4 := fun h => hst (I.s4 _ h)
    have := (I.cd x.2).mp (I.m8 _ hz (has_three _ (I.ok _) q1 q2 q4))
    rw [← hx] at this
    exact this
end
end
section
/-! the law's graph -/
theorem stamp_at (ns : List Int) : ∀ (n k : Nat), k < n → (graphN ns n).2[k]? = some (stampOf (graphN ns k).2 (scrNum ns k) (rowOf k (scrNum ns k)))
  | 0, k, h => absurd h (Nat.not_lt_zero _)
  | n + 1, k, h => by
    have hl := (graphN_len ns n).2
    simp only [graphN]
    by_cases hk : k < n
    · rw [List.getElem?_append_left (by exact Nat.le_trans hk (Nat.le_of_eq hl.symm))]
      exact stamp_at ns n k hk
    · rw [List.getElem?_append_right (by exact Nat.le_trans (Nat.le_of_eq hl) (Nat.le_of_not_lt hk)), hl]
      have : k = n := by exact Nat.le_antisymm (Nat.le_of_lt_succ h) ((Nat.le_of_not_lt hk))
      subst this
      simp
theorem stamp_getD (ns : List Int) {n k : Nat} (h : k < n) : (graphN ns n).2.getD k 0 = stampOf (graphN ns k).2 (scrNum ns k) (rowOf k (scrNum ns k)) := by
  rw [List.getD_eq_getElem?_getD, stamp_at ns n k h]
  rfl
theorem LT_lt (ns : List Int) {k p : Nat} (hk : k < scrSize ns) (hp : p ∈ rowOf k (scrNum ns k)) : (LT ns).getD p 0 < (LT ns).getD k 0 := by
  have hpk := rowOf_lt p hp
  rw [stamp_getD ns hk, stamp_getD ns (show p < scrSize ns by exact Nat.le_trans hpk (Nat.le_of_lt hk))]
  rw [← stamp_getD ns (show p < k from hpk)]
  unfold stampOf
  have := (maxL_fold ((rowOf k (scrNum ns k)).map fun p => (graphN ns k).2.getD p 0) 0).1.2 ((graphN ns k).2.getD p 0) (List.mem_map_of_mem (f := fun p => (graphN ns k).2.getD p 0) hp)
  have h2 : maxL ((rowOf k (scrNum ns k)).map fun p => (graphN ns k).2.getD p 0) = ((rowOf k (scrNum ns k)).map fun p => (graphN ns k).2.getD p 0).foldl max 0 := rfl
  have h3 : 0 < 1 + scrNum ns k / 1875 % 3 := by exact far 1 [_] [.add (.num 0) (.num 1), .add (.num 1) (.var 0)] rfl
  rw [← h2] at this
  exact far 1 [_, _, _] [.add (.var 0) (.num 1), .add (.add (.num 1) (.var 1)) (.var 2), .var 0, .var 2] rfl this
theorem fbN_get (P : List (List Nat)) {n p : Nat} (h : p < n) : (fbN P n).getD p [] = fbRow P (fbN P p) p := by
  obtain ⟨row, hrow⟩ : ∃ row, (fbN P n)[p]? = some row := ⟨_, List.getElem?_eq_getElem (by rw [fbN_len]; exact h)⟩
  rw [List.getD_eq_getElem?_getD, hrow]
  exact (fbN_row P n p row hrow).2
theorem LLeft_mem (ns : List Int) {k p : Nat} (hk : k < scrSize ns) : p ∈ (LLeft ns).getD k [] ↔ p ∈ rowOf k (scrNum ns k) ∧ k ∉ LG ns ∧ p ∉ LG ns := by
  unfold LLeft
  rw [List.getD_eq_getElem?_getD, List.getElem?_map, List.getElem?_range hk]
  show p ∈ List.filter _ _ ↔ _
  rw [LP_getD ns hk, List.mem_filter]
  simp
theorem fb_iff (ns : List Int) {k j : Nat} (hk : k < scrSize ns) : j ∈ fbAt ns k ↔ j = k ∨ ∃ p ∈ (LLeft ns).getD k [], j ∈ fbAt ns p := by
  have hlt : ∀ p ∈ (LLeft ns).getD k [], p < k := fun p hp => rowOf_lt p ((LLeft_mem ns hk).mp hp).1
  have hfb : ∀ p, p < k → (fbN (LLeft ns) k).getD p [] = fbAt ns p := fun p hp => by
    unfold fbAt LFb
    rw [fbN_get _ hp, fbN_get _ (show p < scrSize ns by exact Nat.le_trans hp (Nat.le_of_lt hk))]
  have e : fbAt ns k = fbRow (LLeft ns) (fbN (LLeft ns) k) k := by
    unfold fbAt LFb
    rw [fbN_get _ hk]
  constructor
  · intro h
    rw [e] at h
    unfold fbRow at h
    have h2 := (List.mem_filter.mp h).2
    rw [Bool.or_eq_true] at h2
    rcases h2 with h2 | h2
    · exact .inl (of_decide_eq_true h2)
    · have h3 : ¬ (((LLeft ns).getD k []).filter fun p => decide (j ∈ (fbN (LLeft ns) k).getD p [])) = [] := by
        have : decide ((((LLeft ns).getD k []).filter fun p => decide (j ∈ (fbN (LLeft ns) k).getD p [])) = []) = false := by simpa only [Bool.not_eq_true'] using h2
        exact of_decide_eq_false this
      obtain ⟨p, hp⟩ := List.exists_mem_of_ne_nil _ h3
      obtain ⟨hp1, hp2⟩ := List.mem_filter.mp hp
      have hp2 := of_decide_eq_true hp2
      rw [hfb p (hlt p hp1)] at hp2
      exact .inr ⟨p, hp1, hp2⟩
  · intro h
    rw [e]
    unfold fbRow
    refine List.mem_filter.mpr ?_
    rcases h with rfl | ⟨p, hp, hj⟩
    · exact ⟨List.mem_range.mpr (by exact Nat.le_refl _), by rw [decide_eq_true rfl]; rfl⟩
    · have h1 := hlt p hp
      have h2 := (fbAt_le ns hj).1
      refine ⟨List.mem_range.mpr (by exact far 1 [_, _, _] [.add (.var 0) (.num 1), .add (.var 1) (.num 1), .add (.var 2) (.num 1), .var 1, .var 0, .var 2] rfl h1 h2), ?_⟩
      rw [Bool.or_eq_true]
      refine .inr ?_
      rw [Bool.not_eq_true', decide_eq_false_iff_not]
      exact List.ne_nil_of_mem (List.mem_filter.mpr ⟨hp, decide_eq_true (by rw [hfb p h1]; exact hj)⟩)
theorem fb_self (ns : List Int) {k : Nat} (hk : k < scrSize ns) : k ∈ fbAt ns k := (fb_iff ns hk).mpr (.inl rfl)
section
variable {ns : List Int} {sh : Bool} {mn : Int}
theorem tabIdx_gone {k : Nat} (hk : k < scrSize ns) (hg : k ∈ LG ns) : tabIdx (LG ns) (scrSize ns) (lawName k) = none := by
  have := scrSize_le ns
  cases e : tabIdx (LG ns) (scrSize ns) (lawName k) with
  | none => rfl
  | some j =>
    obtain ⟨h1, h2, h3⟩ := tabIdx_lt e
    rw [lawName_inj (by exact far 1 [_, _] [.add (.var 0) (.num 1), .num 11, .var 1, .num 10, .add (.var 0) (.num 1), .var 1] rfl this.1 h1) (by exact far 1 [_, _] [.add (.var 0) (.num 1), .num 11, .add (.var 0) (.num 1), .var 1, .var 1, .num 10] rfl hk this.1) h2] at h3
    exact absurd hg h3
theorem par_in {k : Nat} (hk : k < scrSize ns) (hg : k ∉ LG ns) : (lawD ns sh mn).par (lawName k) = some ((rowOf k (scrNum ns k)).map lawName) := by
  have := scrSize_le ns
  show Option.map _ (tabIdx _ _ _) = _
  rw [tabIdx_name (by exact far 1 [_] [.add (.var 0) (.num 1), .num 11, .var 0, .num 10] rfl this.1) hk hg, Option.map_some, LP_getD ns hk]
theorem st_in {k : Nat} (hk : k < scrSize ns) (hg : k ∉ LG ns) : (lawD ns sh mn).st (lawName k) = some (((LT ns).getD k 0 : Nat) : Int) := by
  have := scrSize_le ns
  show Option.map _ (tabIdx _ _ _) = _
  rw [tabIdx_name (by exact far 1 [_] [.add (.var 0) (.num 1), .num 11, .var 0, .num 10] rfl this.1) hk hg, Option.map_some]
theorem par_out {k : Nat} (hk : k < scrSize ns) (hg : k ∈ LG ns) : (lawD ns sh mn).par (lawName k) = none := by
  show Option.map _ (tabIdx _ _ _) = _
  rw [tabIdx_gone hk hg]; rfl
theorem st_out {k : Nat} (hk : k < scrSize ns) (hg : k ∈ LG ns) : (lawD ns sh mn).st (lawName k) = none := by
  show Option.map _ (tabIdx _ _ _) = _
  rw [tabIdx_gone hk hg]; rfl
theorem tau_law {k : Nat} (hk : k < scrSize ns) : tau (lawD ns sh mn) (lawName k) = (pairN ns k).1 := by
  unfold tau pairN
  by_cases hg : k ∈ LG ns
  · rw [st_out hk hg, if_pos hg]; rfl
  · rw [st_in hk hg, if_neg hg]; rfl
noncomputable def lawNd (ns : List Int) : List Name := (List.range (scrSize ns)).map lawName
theorem mem_Nd {b : Name} : b ∈ lawNd ns ↔ ∃ k, k < scrSize ns ∧ b = lawName k := by
  unfold lawNd
  rw [List.mem_map]
  constructor
  · rintro ⟨k, h1, rfl⟩; exact ⟨k, List.mem_range.mp h1, rfl⟩
  · rintro ⟨k, h1, rfl⟩; exact ⟨k, List.mem_range.mpr h1, rfl⟩
theorem law_inj {i j : Nat} (hi : i < scrSize ns) (hj : j < scrSize ns) (h : lawName i = lawName j) : i = j := by
  have := scrSize_le ns
  exact lawName_inj (by exact far 1 [_, _] [.add (.var 0) (.num 1), .num 11, .add (.var 0) (.num 1), .var 1, .var 1, .num 10] rfl hi this.1) (by exact far 1 [_, _] [.add (.var 0) (.num 1), .num 11, .add (.var 0) (.num 1), .var 1, .var 1, .num 10] rfl hj this.1) h
theorem law_GD (hs : LG ns ≠ [] → sh = true) : GD (lawD ns sh mn) (lawNd ns) where
  clo := fun b hb ps hps p hp => by
    obtain ⟨k, hk, rfl⟩ := mem_Nd.mp hb
    by_cases hg : k ∈ LG ns
    · rw [par_out hk hg] at hps; cases hps
    · rw [par_in hk hg] at hps
      cases hps
      obtain ⟨j, hj, rfl⟩ := List.mem_map.mp hp
      have := rowOf_lt j hj
      exact mem_Nd.mpr ⟨j, by exact Nat.le_trans this (Nat.le_of_lt hk), rfl⟩
  dec := fun b hb ps hps p hp t ht => by
    obtain ⟨k, hk, rfl⟩ := mem_Nd.mp hb
    by_cases hg : k ∈ LG ns
    · rw [par_out hk hg] at hps; cases hps
    · rw [par_in hk hg] at hps
      cases hps
      obtain ⟨j, hj, rfl⟩ := List.mem_map.mp hp
      have hjk := rowOf_lt j hj
      have hjn : j < scrSize ns := by exact Nat.le_trans hjk (Nat.le_of_lt hk)
      by_cases hgj : j ∈ LG ns
      · rw [st_out hjn hgj] at ht; cases ht
      · rw [st_in hjn hgj] at ht
        cases ht
        rw [tau_law hk]
        have := LT_lt ns hk hj
        unfold pairN
        rw [if_neg hg]
        show (((LT ns).getD j 0 : Nat) : Int) < (((LT ns).getD k 0 : Nat) : Int)
        exact Int.ofNat_lt.mpr (show (LT ns).getD j 0 < (LT ns).getD k 0 from this)
  sh := by
    by_cases hg : LG ns = []
    · refine .inr fun b hb => ?_
      obtain ⟨k, hk, rfl⟩ := mem_Nd.mp hb
      have : k ∉ LG ns := by rw [hg]; simp
      rw [par_in hk this, st_in hk this]
      exact ⟨fun h => (by cases h), fun h => by cases h⟩
    · exact .inl (hs hg)
theorem law_Ed {k : Nat} {b : Name} (hk : k < scrSize ns) : Ed (lawD ns sh mn) (lawName k) b ↔ ∃ j, b = lawName j ∧ j ∈ (LLeft ns).getD k [] ∧ mn ≤ (pairN ns j).1 := by
  constructor
  · rintro ⟨ps, t, h1, h2, h3, h4⟩
    by_cases hg : k ∈ LG ns
    · rw [par_out hk hg] at h1; cases h1
    · rw [par_in hk hg] at h1
      cases h1
      obtain ⟨j, hj, rfl⟩ := List.mem_map.mp h2
      have hjk := rowOf_lt j hj
      have hjn : j < scrSize ns := by exact Nat.le_trans hjk (Nat.le_of_lt hk)
      by_cases hgj : j ∈ LG ns
      · rw [st_out hjn hgj] at h3; cases h3
      · rw [st_in hjn hgj] at h3
        cases h3
        refine ⟨j, rfl, (LLeft_mem ns hk).mpr ⟨hj, hg, hgj⟩, ?_⟩
        unfold pairN
        rw [if_neg hgj]
        exact Int.not_lt.mp h4
  · rintro ⟨j, rfl, hj, hm⟩
    obtain ⟨h1, hg, hgj⟩ := (LLeft_mem ns hk).mp hj
    have hjk := rowOf_lt j h1
    have hjn : j < scrSize ns := by exact Nat.le_trans hjk (Nat.le_of_lt hk)
    refine ⟨_, _, par_in hk hg, List.mem_map_of_mem h1, st_in hjn hgj, ?_⟩
    unfold pairN at hm
    rw [if_neg hgj] at hm
    exact Int.not_lt.mpr hm
theorem law_Rch : ∀ (k : Nat), k < scrSize ns → ∀ {b : Name}, Rch (lawD ns sh 0) (lawName k) b ↔ ∃ j, b = lawName j ∧ j ∈ fbAt ns k := by
  intro k
  induction k using Nat.strongRecOn with
  | ind k ih =>
    intro hk b
    constructor
    · intro h
      rcases h.cases_head with rfl | ⟨u, e, h⟩
      · exact ⟨k, rfl, fb_self ns hk⟩
      · obtain ⟨p, rfl, hp, _⟩ := (law_Ed hk).mp e
        have hpk := rowOf_lt p ((LLeft_mem ns hk).mp hp).1
        obtain ⟨j, rfl, hj⟩ := (ih p hpk (by exact Nat.le_trans hpk (Nat.le_of_lt hk))).mp h
        exact ⟨j, rfl, (fb_iff ns hk).mpr (.inr ⟨p, hp, hj⟩)⟩
    · rintro ⟨j, rfl, hj⟩
      rcases (fb_iff ns hk).mp hj with rfl | ⟨p, hp, hj⟩
      · exact .refl _
      · have hpk := rowOf_lt p ((LLeft_mem ns hk).mp hp).1
        refine Rch.head ((law_Ed hk).mpr ⟨p, rfl, hp, ?_⟩) ((ih p hpk (by exact Nat.le_trans hpk (Nat.le_of_lt hk))).mpr ⟨j, rfl, hj⟩)
        unfold pairN
        show (0 : Int) ≤ _
        split <;> omega
theorem law_Rch' {k j : Nat} (hk : k < scrSize ns) (hj : j < scrSize ns) : Rch (lawD ns sh 0) (lawName k) (lawName j) ↔ j ∈ fbAt ns k := by
  rw [law_Rch k hk]
  constructor
  · rintro ⟨i, h1, h2⟩
    have h3 := fbAt_le ns h2
    rw [law_inj hj (by exact Nat.lt_of_le_of_lt h3.1 hk) h1]
    exact h2
  · exact fun h => ⟨j, rfl, h⟩
theorem sort_ins {x : Item} : ∀ {l : List Item}, l.Pairwise itemLe → x ∉ l → ∃ l' : List Item, l'.Perm (x :: l) ∧ l'.Pairwise itemLe
  | [], _, _ => ⟨[x], .refl _, List.pairwise_singleton _ _⟩
  | y :: r, h, hx => by
    obtain ⟨h1, h2⟩ := List.pairwise_cons.mp h
    have hne : x ≠ y := fun e => hx (by rw [e]; exact .head _)
    rcases itemLe_total hne with hl | hl
    · refine ⟨x :: y :: r, .refl _, List.pairwise_cons.mpr ⟨fun z hz => ?_, h⟩⟩
      rcases List.mem_cons.mp hz with rfl | hz
      · exact hl
      · exact itemLe_trans hl (h1 z hz)
    · obtain ⟨l', hp, hs⟩ := sort_ins (x := x) h2 fun hm => hx (.tail _ hm)
      refine ⟨y :: l', ((List.Perm.cons y hp).trans (.swap x y r)), List.pairwise_cons.mpr ⟨fun z hz => ?_, hs⟩⟩
      rcases List.mem_cons.mp (hp.mem_iff.mp hz) with rfl | hz
      · exact hl
      · exact h1 z hz
theorem sort_ex : ∀ {l : List Item}, l.Nodup → ∃ l' : List Item, l'.Perm l ∧ l'.Pairwise itemLe
  | [], _ => ⟨[], .refl _, .nil⟩
  | x :: r, h => by
    obtain ⟨h1, h2⟩ := List.nodup_cons.mp h
    obtain ⟨l, hp, hs⟩ := sort_ex h2
    obtain ⟨l', hp', hs'⟩ := sort_ins (x := x) hs fun hm => h1 (hp.mem_iff.mp hm)
    exact ⟨l', hp'.trans (.cons x hp), hs'⟩
end
end
section
section
variable {ns : List Int} {sh : Bool}
theorem law_Cm {j : Nat} (hj : j < scrSize ns) (hO : LO ns ≠ []) : Cm (lawD ns sh 0) (lawC ns) (lawCs ns) (lawName j) ↔ j ∈ commonN ns := by
  unfold commonN
  rw [if_pos hO, List.mem_filter]
  unfold Cm hasOther
  rw [law_Rch' (LA_lt ns) hj]
  refine and_congr Iff.rfl ?_
  rw [Bool.not_eq_true', decide_eq_false_iff_not]
  constructor
  · rintro ⟨o, ho, h⟩
    obtain ⟨i, hi, rfl⟩ := List.mem_map.mp ho
    exact List.ne_nil_of_mem (List.mem_filter.mpr ⟨hi, decide_eq_true ((law_Rch' (LO_lt ns i hi) hj).mp h)⟩)
  · intro h
    obtain ⟨i, hi⟩ := List.exists_mem_of_ne_nil _ h
    obtain ⟨h1, h2⟩ := List.mem_filter.mp hi
    exact ⟨lawName i, List.mem_map_of_mem h1, (law_Rch' (LO_lt ns i h1) hj).mpr (of_decide_eq_true h2)⟩
theorem great_iff {j : Nat} : j ∈ greatN ns ↔ j ∈ commonN ns ∧ ∀ i ∈ commonN ns, i ≠ j → j ∉ fbAt ns i := by
  unfold greatN
  rw [List.mem_filter]
  refine and_congr Iff.rfl ?_
  unfold isGreat
  rw [decide_eq_true_eq, List.filter_eq_nil_iff]
  simp
theorem law_great (hs : LG ns ≠ [] → sh = true) {j : Nat} (hj : j < scrSize ns) (hO : LO ns ≠ []) : (Cm (lawD ns sh 0) (lawC ns) (lawCs ns) (lawName j) ∧ ¬ Stale (lawD ns sh 0) (lawC ns) (lawCs ns) (lawName j)) ↔ j ∈ greatN ns := by
  have G := law_GD (mn := 0) hs
  rw [law_Cm hj hO, great_iff]
  refine and_congr Iff.rfl ?_
  constructor
  · intro h i hi hne hm
    have hin := commonN_lt ns i hi
    have hr := (law_Rch' (sh := sh) hin hj).mpr hm
    rcases hr.cases_head with e | ⟨u, e, hu⟩
    · exact hne (law_inj hin hj e)
    · exact h ⟨lawName i, u, (law_Cm hin hO).mpr hi, e, hu⟩
  · rintro h ⟨y, z, hy, e, hz⟩
    have hyn := (G.reach (mem_Nd.mpr ⟨LA ns, LA_lt ns, rfl⟩) hy.1).1
    obtain ⟨i, hin, rfl⟩ := mem_Nd.mp hyn
    have hi := (law_Cm hin hO).mp hy
    have hne : i ≠ j := by
      rintro rfl
      have h1 := G.edge hyn e
      have h2 := G.reach h1.1 hz
      have := h1.2
      have := h2.2
      omega
    exact h i hi hne ((law_Rch' (sh := sh) hin hj).mp (Rch.head e hz))
theorem law_par {c : Name} {ps : List Name} {mn : Int} (h : (lawD ns sh mn).par c = some ps) : ps.length ≤ 10 := by
  have h : Option.map _ _ = some ps := h
  cases e : tabIdx (LG ns) (scrSize ns) c with
  | none => rw [e] at h; cases h
  | some k =>
    rw [e] at h
    have := tabIdx_lt e
    simp only [Option.map_some, Option.some.injEq] at h
    subst h
    rw [List.length_map, LP_getD ns this.1]
    have := rowOf_len (k := k) (num := scrNum ns k)
    exact far 1 [_] [.var 0, .num 10, .var 0, .num 3] rfl this
theorem lawNd_len : (lawNd ns).length ≤ 10 := by
  have := (scrSize_le ns).1
  unfold lawNd
  simpa using this
theorem dn_nodup {l : List Item} (h : l.Pairwise itemDn) : l.Nodup := h.imp fun x => itemDn_ne x
theorem law_cands (hs : LG ns ≠ [] → sh = true) (hO : LO ns ≠ []) {S : LS} (hd : S.cands.Pairwise itemDn) (h : ∀ x : Item, x ∈ S.cands ↔ x.1 = tau (lawD ns sh 0) x.2 ∧ Cm (lawD ns sh 0) (lawC ns) (lawCs ns) x.2 ∧ ¬ Stale (lawD ns sh 0) (lawC ns) (lawCs ns) x.2) : S.cands.Perm ((greatN ns).map (pairN ns)) := by
  have G := law_GD (mn := 0) hs
  refine (List.perm_ext_iff_of_nodup (dn_nodup hd) (pairs_nodup ns)).mpr fun x => ?_
  rw [h x, List.mem_map]
  constructor
  · rintro ⟨h1, h2, h3⟩
    obtain ⟨i, hin, e⟩ := mem_Nd.mp (G.reach (mem_Nd.mpr ⟨LA ns, LA_lt ns, rfl⟩) h2.1).1
    rw [e] at h1 h2 h3
    refine ⟨i, (law_great hs hin hO).mp ⟨h2, h3⟩, ?_⟩
    rw [tau_law hin] at h1
    exact Prod.ext h1.symm e.symm
  · rintro ⟨i, hi, rfl⟩
    have hin := greatN_lt ns i hi
    exact ⟨(tau_law hin).symm, (law_great hs hin hO).mpr hi⟩
theorem great_alone (h : lawCs ns = [] ∨ lawC ns ∈ lawCs ns) : greatN ns = [LA ns] := by
  have hA := LA_lt ns
  have key : ∀ j, j ∈ greatN ns ↔ j = LA ns := by
    intro j
    rw [great_iff]
    rcases h with h | h
    · have hO : LO ns = [] := by
        unfold lawCs at h
        exact List.map_eq_nil_iff.mp h
      have hc : commonN ns = [LA ns] := by
        unfold commonN
        rw [if_neg (fun x => x hO)]
      rw [hc]
      simp only [List.mem_singleton]
      exact ⟨fun x => x.1, fun x => ⟨x, fun i hi hne => absurd (hi.trans x.symm) hne⟩⟩
    · obtain ⟨o, ho, e⟩ := List.mem_map.mp h
      have hoA : o = LA ns := law_inj (LO_lt ns o ho) hA e
      subst o
      have hO : LO ns ≠ [] := List.ne_nil_of_mem ho
      have hcA : LA ns ∈ commonN ns := by
        unfold commonN
        rw [if_pos hO, List.mem_filter]
        refine ⟨fb_self ns hA, ?_⟩
        unfold hasOther
        rw [Bool.not_eq_true', decide_eq_false_iff_not]
        exact List.ne_nil_of_mem (List.mem_filter.mpr ⟨ho, decide_eq_true (fb_self ns hA)⟩)
      have hsub : ∀ i ∈ commonN ns, i ∈ fbAt ns (LA ns) := fun i hi => by
        unfold commonN at hi
        rw [if_pos hO] at hi
        exact (List.mem_filter.mp hi).1
      constructor
      · rintro ⟨h1, h2⟩
        by_cases hj : j = LA ns
        · exact hj
        · exact absurd (hsub j h1) (h2 _ hcA fun e => hj e.symm)
      · rintro rfl
        refine ⟨hcA, fun i hi hne hm => hne ?_⟩
        have h1 := (fbAt_le ns (hsub i hi)).1
        have h2 := (fbAt_le ns hm).1
        exact Nat.le_antisymm h1 h2
  have hp : (greatN ns).Perm [LA ns] := (List.perm_ext_iff_of_nodup (greatN_nodup ns) (by simp)).mpr fun j => by rw [key j, List.mem_singleton]
  exact List.perm_singleton.mp hp
theorem law_runs (told : List Name) (hdue : DueOk ns told) (sh : Bool) (hs : LG ns ≠ [] → sh = true) : ∃ N S, (lawCs ns ≠ [] → lawC ns ∉ lawCs ns → RunOk (lawD ns sh 0) N (lawC ns) (lawCs ns) (some S)) ∧ FmbOut ns S told := by
  have G := law_GD (mn := 0) hs
  have hln : (lawCs ns).length ≤ 3 := by unfold lawCs; rw [List.length_map]; exact LO_len ns
  have hnd := lawNd_len (ns := ns)
  obtain ⟨S, h1, h2, h3, h4, h5⟩ := lca_main (c := lawC ns) (cs := lawCs ns) G (mem_Nd.mpr ⟨_, LA_lt ns, rfl⟩) fun o ho => by
    obtain ⟨i, hi, rfl⟩ := List.mem_map.mp ho
    exact mem_Nd.mpr ⟨i, LO_lt ns i hi, rfl⟩
  refine ⟨_, S, fun hne hnot => ⟨?_, ?_, fun c ps h => law_par h, h1, fun S' e => ?_⟩, fun out ho => ?_⟩
  · exact far 1 [_, _] [.add (.add (.var 0) (.mulL 3 (.var 1))) (.num 2), .num 3000, .var 0, .num 3, .var 1, .num 10, .var 1, .num 10, .var 1, .num 10] rfl hln hnd hnd hnd
  · exact far 1 [_] [.var 0, .num 100, .var 0, .num 3] rfl hln
  · cases e
    have hO : LO ns ≠ [] := fun e => hne (by unfold lawCs; rw [e]; rfl)
    rw [h4]
    refine ⟨h2, h3, ?_⟩
    have := (law_cands hs hO h3 h5).length_eq
    rw [List.length_map] at this
    have := greatN_len ns
    exact far 1 [_, _] [.add (.var 0) (.num 1), .num 64, .var 0, .var 1, .var 1, .num 10] rfl (Nat.le_of_eq (by assumption)) this
  · by_cases hc : lawCs ns = [] ∨ lawC ns ∈ lawCs ns
    · rw [if_pos hc] at ho
      refine DueOk.unique (ns := ns) ⟨[pairN ns (LA ns)], ?_, List.pairwise_singleton _ _, ?_⟩ hdue
      · rw [great_alone hc]; exact .refl _
      · rw [ho]; rfl
    · rw [if_neg hc] at ho
      have hne : lawCs ns ≠ [] := fun e => hc (.inl e)
      have hO : LO ns ≠ [] := fun e => hne (by unfold lawCs; rw [e]; rfl)
      obtain ⟨S', items', e, hp, hw, rfl⟩ := ho
      cases e
      rw [h4] at hp
      exact DueOk.unique (ns := ns) ⟨items', hp.trans (law_cands hs hO h3 h5), hw, rfl⟩ hdue
theorem law_up {a b : Name} {mn : Int} (G : GD (lawD ns sh 0) (lawNd ns)) (ha : a ∈ lawNd ns) (h : Rch (lawD ns sh 0) a b) (hm : mn ≤ tau (lawD ns sh 0) b) : Rch (lawD ns sh mn) a b := by
  induction h with
  | refl => exact .refl _
  | @tail u v hu e ih =>
    have h1 := G.edge (G.reach ha hu).1 e
    have := h1.2
    refine (ih (by omega)).tail ?_
    obtain ⟨ps, t, e1, e2, e3, _⟩ := e
    refine ⟨ps, t, e1, e2, e3, ?_⟩
    have e4 : tau (lawD ns sh 0) v = t := by unfold tau; rw [e3]; rfl
    have e5 : mn ≤ t := by omega
    exact Int.not_lt.mpr e5
theorem law_down {a b : Name} {mn : Int} (hmn : 0 ≤ mn) (h : Rch (lawD ns sh mn) a b) : Rch (lawD ns sh 0) a b := by
  induction h with
  | refl => exact .refl _
  | tail _ e ih =>
    refine ih.tail ?_
    obtain ⟨ps, t, e1, e2, e3, e4⟩ := e
    refine ⟨ps, t, e1, e2, e3, fun h => e4 ?_⟩
    have h : t < 0 := h
    show t < mn
    omega
theorem law_cff (ns : List Int) : CffOk ns := by
  intro sh k hs ho hk hkn hne
  have hsz := scrSize_le ns
  have hon : LOne ns < scrSize ns := by unfold LOne; exact Nat.mod_lt _ (by exact far 1 [_, _] [.add (.num 0) (.num 1), .var 0, .add (.var 1) (.num 1), .var 0] rfl hkn)
  have G := law_GD (mn := (((LT ns).getD (LOne ns) 0 : Nat) : Int)) hs
  have G0 := law_GD (mn := 0) hs
  have hmn : (0 : Int) ≤ (((LT ns).getD (LOne ns) 0 : Nat) : Int) := by exact Int.natCast_nonneg _
  have htau : ∀ m, tau (lawD ns sh m) (lawName (LOne ns)) = (((LT ns).getD (LOne ns) 0 : Nat) : Int) := fun m => by
    rw [tau_law hon]
    unfold pairN
    rw [if_neg ho]
  generalize hmg : (((LT ns).getD (LOne ns) 0 : Nat) : Int) = mn at *
  have hnd := lawNd_len (ns := ns)
  obtain ⟨S, h1, h2, h3, h4, h5⟩ := lca_main (c := lawName (LOne ns)) (cs := [lawName k]) G (mem_Nd.mpr ⟨_, hon, rfl⟩) fun o ho => by
    rw [List.mem_singleton.mp ho]
    exact mem_Nd.mpr ⟨_, hkn, rfl⟩
  have hE : ∀ b, ¬ Ed (lawD ns sh mn) (lawName (LOne ns)) b := fun b e => by
    obtain ⟨j, rfl, hj, hm⟩ := (law_Ed hon).mp e
    have hjl := (LLeft_mem ns hon).mp hj
    have hjk := rowOf_lt j hjl.1
    have := (G.edge (mem_Nd.mpr ⟨_, hon, rfl⟩) e).2
    rw [tau_law (show j < scrSize ns by exact Nat.le_trans hjk (Nat.le_of_lt hon)), htau] at this
    omega
  have hR : ∀ b, Rch (lawD ns sh mn) (lawName (LOne ns)) b → b = lawName (LOne ns) := fun b h => by
    rcases h.cases_head with e | ⟨u, e, _⟩
    · exact e.symm
    · exact absurd e (hE u)
  have hK : Rch (lawD ns sh mn) (lawName k) (lawName (LOne ns)) ↔ LOne ns ∈ fbAt ns k := by
    rw [← law_Rch' (sh := sh) hkn hon]
    refine ⟨law_down hmn, fun h => law_up G0 (mem_Nd.mpr ⟨_, hkn, rfl⟩) h ?_⟩
    rw [htau]
    exact Int.le_refl _
  have hmem : ∀ x : Item, x ∈ S.cands ↔ x = (mn, lawName (LOne ns)) ∧ LOne ns ∈ fbAt ns k := fun x => by
    rw [h5 x]
    constructor
    · rintro ⟨e1, ⟨r1, o, ho, r2⟩, _⟩
      have e2 := hR _ r1
      rw [List.mem_singleton.mp ho, e2] at r2
      rw [e2, htau] at e1
      exact ⟨Prod.ext e1 e2, hK.mp r2⟩
    · rintro ⟨rfl, h⟩
      refine ⟨(htau _).symm, ⟨.refl _, _, List.mem_singleton.mpr rfl, hK.mpr h⟩, ?_⟩
      rintro ⟨y, z, hy, e, _⟩
      rw [hR y hy.1] at e
      exact hE z e
  have hcs : S.cands = if LOne ns ∈ fbAt ns k then [(mn, lawName (LOne ns))] else [] := by
    by_cases h : LOne ns ∈ fbAt ns k
    · rw [if_pos h]
      refine List.perm_singleton.mp ((List.perm_ext_iff_of_nodup (dn_nodup h3) (by simp)).mpr fun x => ?_)
      rw [hmem x, List.mem_singleton]
      exact ⟨fun y => y.1, fun y => ⟨y, h⟩⟩
    · rw [if_neg h]
      exact List.eq_nil_iff_forall_not_mem.mpr fun x hx => h ((hmem x).mp hx).2
  refine ⟨_, S, ⟨?_, ?_, fun c ps h => law_par h, h1, fun S' e => ?_⟩, fun out hout => ?_⟩
  · show [lawName k].length + _ + _ ≤ _
    rw [List.length_singleton]
    exact far 1 [_] [.add (.add (.num 1) (.mulL 3 (.var 0))) (.num 2), .num 3000, .var 0, .num 10, .var 0, .num 10, .var 0, .num 10] rfl hnd hnd hnd
  · show 1 ≤ 100
    exact far 1 [] [.num 1, .num 100] rfl
  · cases e
    rw [h4]
    refine ⟨h2, h3, ?_⟩
    rw [hcs]
    split <;> simp
  · obtain ⟨S', items', e, hp, _, rfl⟩ := hout
    cases e
    rw [h4, hcs] at hp
    by_cases h : LOne ns ∈ fbAt ns k
    · rw [if_pos h] at hp
      rw [List.perm_singleton.mp hp]
      exact ⟨fun _ => h, fun _ => rfl⟩
    · rw [if_neg h] at hp
      have e0 : items' = [] := List.perm_nil.mp hp
      rw [e0]
      exact ⟨fun x => (by cases x), fun x => absurd x h⟩
theorem law_pure (ns : List Int) : ∃ told, LawPure ns told := by
  obtain ⟨l, hp, hs⟩ := sort_ex (pairs_nodup ns)
  have hdue : DueOk ns (l.map (·.2)) := ⟨l, hp, hs, rfl⟩
  exact ⟨_, hdue, fun sh hsh => law_runs _ hdue sh hsh, law_cff ns, fun k hk => fb_self ns hk⟩
end
end
end Mine
theorem PySem.Challenge.cw_jq0006_01_holds : PySem.Challenge.rw_jq0006_01.Holds :=
  Mine.join_law Mine.law_pure
