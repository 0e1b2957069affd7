import PyProof.Rows.All
import Wide.All
import OpenK.AllK
import Wide.FinOn
import PySem.Challenge.RW_dn0169_08
set_option Elab.async false
section
open PySem PySem.W PyProof.Rows
namespace Mine

/- abstract values -/
inductive V where
  | none
  | bool (b : Bool)
  | int (i : Int)
  | flt (x : UInt64)
  | str (x : Str)
  | tup (vs : List V)
  | lst (vs : List V)
  | con (v : Value)
  | rng (a b c : Int)
  | exc (cls : Value) (m : Str)

noncomputable abbrev Hm := Addr → Option Obj

mutual
noncomputable def Rep (H : Hm) : V → Value → Prop
  | .none, v => v = .none
  | .bool b, v => v = .bool b
  | .int i, v => ∃ t, v = .int i t
  | .flt x, v => ∃ t, v = .float x t
  | .str x, v => ∃ t, v = .str x t
  | .con c, v => v = c
  | .exc c m, v => ∃ a o vs t ot n tk, v = .ref a ∧ H a = some o ∧ o.cls = c ∧ o.data = .fields vs ∧ vs[0]? = some (.ref t) ∧ H t = some ot ∧ ot.cls = .type "tuple" ∧ ot.data = .seq #[.str m tk] n
  | .rng i j k, v => ∃ r t u w, v = .ref r ∧ H r = some { cls := .type "range", dict := none, data := .fields #[.int i t, .int j u, .int k w], slots := #[] }
  | .tup As, v => ∃ a o xs n, v = .ref a ∧ H a = some o ∧ o.cls = .type "tuple" ∧ o.data = .seq xs n ∧ Reps H As xs.toList
  | .lst As, v => ∃ a o xs n, v = .ref a ∧ H a = some o ∧ o.cls = .type "list" ∧ o.data = .seq xs n ∧ Reps H As xs.toList
noncomputable def Reps (H : Hm) : List V → List Value → Prop
  | [], xs => xs = []
  | A :: As, xs => ∃ y ys, xs = y :: ys ∧ Rep H A y ∧ Reps H As ys
end

noncomputable def Hle (H H' : Hm) : Prop := ∀ b o, H b = some o → H' b = some o
theorem Hle.refl (H : Hm) : Hle H H := fun _ _ e => e
theorem Hle.trans {H H' H'' : Hm} (x : Hle H H') (y : Hle H' H'') : Hle H H'' := fun b o e => y b o (x b o e)

mutual
theorem Rep.mono {H H' : Hm} (hle : Hle H H') : ∀ (A : V) (v : Value), Rep H A v → Rep H' A v
  | .none, _, h => h
  | .bool _, _, h => h
  | .int _, _, h => h
  | .flt _, _, h => h
  | .str _, _, h => h
  | .con _, _, h => h
  | .exc _ _, _, h => by
    obtain ⟨a, o, vs, t, ot, n, tk, h1, h2, h3, h4, h5, h6, h7⟩ := h
    exact ⟨a, o, vs, t, ot, n, tk, h1, hle _ _ h2, h3, h4, h5, hle _ _ h6, h7⟩
  | .rng _ _ _, _, h => by
    obtain ⟨r, t, u, w, h1, h2⟩ := h
    exact ⟨r, t, u, w, h1, hle _ _ h2⟩
  | .tup As, v, h => by
    obtain ⟨a, o, xs, n, h1, h2, h3, h4, h5⟩ := h
    exact ⟨a, o, xs, n, h1, hle _ _ h2, h3, h4, Reps.mono hle As _ h5⟩
  | .lst As, v, h => by
    obtain ⟨a, o, xs, n, h1, h2, h3, h4, h5⟩ := h
    exact ⟨a, o, xs, n, h1, hle _ _ h2, h3, h4, Reps.mono hle As _ h5⟩
theorem Reps.mono {H H' : Hm} (hle : Hle H H') : ∀ (As : List V) (xs : List Value), Reps H As xs → Reps H' As xs
  | [], _, h => h
  | A :: As, xs, h => by
    obtain ⟨y, ys, h1, h2, h3⟩ := h
    exact ⟨y, ys, h1, Rep.mono hle A y h2, Reps.mono hle As ys h3⟩
end

/- what a local name holds: a value; a list of the frame's own; an iterator of the frame's own -/
inductive LV where
  | val (A : V)
  | own (b : Addr) (As : List V)
  | itr (b : Addr) (As : List V)
noncomputable def LV.mine : LV → Bool
  | .val _ => false
  | _ => true

noncomputable abbrev Loc := List (Str × LV)

structure Fix where
  prog : Program
  w : World
  h₁ : Heap
  os : OsState
  tab : Addr → Prop

structure Cx where
  F : Fix
  A : Around
  env : Env
  mine : Str → Bool

noncomputable abbrev Cx.M (Γ : Cx) : Model := model Γ.F.prog Γ.F.w

/- a plain object, neither a namespace nor one of the interpreter's tables -/
noncomputable def Solid (o : Obj) : Prop := (∀ es ep, o.data ≠ .dict es ep) ∧ o.cls ≠ .none
/- a table of code objects, grown -/
noncomputable def TabGrown (o o' : Obj) : Prop := ∃ vs more : Array Value, o = tabObj vs ∧ o' = tabObj (vs ++ more) ∧ TriplesOk (vs ++ more).toList
noncomputable def Same (F : Fix) (b : Addr) (o o' : Obj) : Prop :=
  o' = o ∨ (F.h₁.get? b = none ∧ (∃ es ep, o.data = .dict es ep) ∧ o'.cls = o.cls ∧ o'.data = o.data ∧ o'.dict = o.dict) ∨ (F.tab b ∧ F.h₁.get? b = none ∧ TabGrown o o')
theorem Same.refl (F : Fix) (b : Addr) (o : Obj) : Same F b o o := .inl rfl
theorem Same.cls {F : Fix} {b : Addr} {o o' : Obj} (h : Same F b o o') : o'.cls = o.cls := by
  rcases h with rfl | h | ⟨_, _, vs, more, rfl, rfl, _⟩
  · rfl
  · exact h.2.2.1
  · rfl
theorem Same.data {F : Fix} {b : Addr} {o o' : Obj} (h : Same F b o o') (hf : (∀ vs, o.data ≠ .fields vs) ∨ o.cls ≠ .none) : o'.data = o.data := by
  rcases h with rfl | h | ⟨_, _, vs, more, rfl, rfl, _⟩
  · rfl
  · exact h.2.2.2.1
  · rcases hf with hf | hf
    · exact absurd rfl (hf vs)
    · exact absurd rfl hf
theorem Same.dict {F : Fix} {b : Addr} {o o' : Obj} (h : Same F b o o') : o'.dict = o.dict := by
  rcases h with rfl | h | ⟨_, _, vs, more, rfl, rfl, _⟩
  · rfl
  · exact h.2.2.2.2
  · rfl
theorem Same.trans {F : Fix} {b : Addr} {o o' o'' : Obj} (x : Same F b o o') (y : Same F b o' o'') : Same F b o o'' := by
  rcases x with rfl | ⟨x1, x2, x3, x4, x5⟩ | ⟨x1, x2, vs, more, rfl, rfl, x6⟩
  · exact y
  · obtain ⟨es, ep, x2⟩ := x2
    have hnf : ∀ vs, o'.data ≠ .fields vs := fun vs e => by rw [x4, x2] at e; cases e
    exact .inr (.inl ⟨x1, ⟨es, ep, x2⟩, y.cls.trans x3, (y.data (.inl hnf)).trans x4, y.dict.trans x5⟩)
  · rcases y with rfl | ⟨_, ⟨es, ep, y⟩, _⟩ | ⟨_, _, vs', more', y3, rfl, y5⟩
    · exact .inr (.inr ⟨x1, x2, vs, more, rfl, rfl, x6⟩)
    · cases y
    · have e : vs' = vs ++ more := by injection y3 with _ _ e _; injection e with e; exact e.symm
      subst e
      exact .inr (.inr ⟨x1, x2, vs, more ++ more', rfl, by rw [Array.append_assoc], by rw [← Array.append_assoc]; exact y5⟩)
theorem Same.eq_of_data {F : Fix} {b : Addr} {o o' : Obj} (h : Same F b o o') (hc : Solid o) : o' = o := by
  rcases h with h | ⟨_, ⟨es, ep, h⟩, _⟩ | ⟨_, _, vs, more, rfl, _⟩
  · exact h
  · exact absurd h (hc.1 es ep)
  · exact absurd rfl hc.2
theorem Same.eq_of_notab {F : Fix} {b : Addr} {o o' : Obj} (h : Same F b o o') (hc : ∀ es ep, o.data ≠ .dict es ep) (ht : ¬ F.tab b) : o' = o := by
  rcases h with h | ⟨_, ⟨es, ep, h⟩, _⟩ | ⟨h, _⟩
  · exact h
  · exact absurd h (hc es ep)
  · exact absurd h ht
theorem Same.eq_of_base {F : Fix} {b : Addr} {o o' q : Obj} (h : Same F b o o') (hb : F.h₁.get? b = some q) : o' = o := by
  rcases h with h | h | h
  · exact h
  · rw [hb] at h; cases h.1
  · rw [hb] at h; cases h.2.1
/- a table is where it was, grown perhaps -/
noncomputable def TabAt (h : Heap) (b : Addr) : Prop := ∃ vs : Array Value, h.get? b = some (tabObj vs) ∧ TriplesOk vs.toList
theorem TabAt.same {F : Fix} {h h' : Heap} {b : Addr} (x : TabAt h b) (k : ∀ o, h.get? b = some o → ∃ o', h'.get? b = some o' ∧ Same F b o o') : TabAt h' b := by
  obtain ⟨vs, e, t⟩ := x
  obtain ⟨o', e', sm⟩ := k _ e
  rcases sm with rfl | ⟨_, ⟨es, ep, q⟩, _⟩ | ⟨_, _, vs', more, q, rfl, t'⟩
  · exact ⟨vs, e', t⟩
  · cases q
  · exact ⟨_, e', t'⟩

noncomputable abbrev OSet := Addr → Prop

/- the relation of two states of one activation -/
structure Nx (F : Fix) (H : Hm) (O : OSet) (h : Heap) (H' : Hm) (O' : OSet) (h' : Heap) : Prop where
  kp : ∀ b o, h.get? b = some o → ¬ O b → ∃ o', h'.get? b = some o' ∧ Same F b o o'
  there : ∀ b o, h.get? b = some o → ∃ o', h'.get? b = some o'
  hle : Hle H H'
  hnew : ∀ b o, H' b = some o → H b = some o ∨ O b ∨ h.get? b = none
  onew : ∀ b, O' b → O b ∨ h.get? b = none

theorem Nx.refl (F : Fix) (H : Hm) (O : OSet) (h : Heap) : Nx F H O h H O h :=
  ⟨fun _ o e _ => ⟨o, e, .refl ..⟩, fun _ o e => ⟨o, e⟩, .refl _, fun _ _ e => .inl e, fun _ e => .inl e⟩
theorem Nx.none_back {F H O h H' O' h'} (x : Nx F H O h H' O' h') {b : Addr} (e : h'.get? b = none) : h.get? b = none := by
  cases hb : h.get? b with
  | none => rfl
  | some o => obtain ⟨o', e'⟩ := x.there b o hb; rw [e] at e'; cases e'
theorem Nx.trans {F H O h H' O' h' H'' O'' h''} (x : Nx F H O h H' O' h') (y : Nx F H' O' h' H'' O'' h'') : Nx F H O h H'' O'' h'' where
  kp := fun b o e hb => by
    obtain ⟨o', e', s'⟩ := x.kp b o e hb
    have hb' : ¬ O' b := fun q => (x.onew b q).elim hb fun z => by rw [z] at e; cases e
    obtain ⟨o'', e'', s''⟩ := y.kp b o' e' hb'
    exact ⟨o'', e'', s'.trans s''⟩
  there := fun b o e => by
    obtain ⟨o', e'⟩ := x.there b o e
    exact y.there b o' e'
  hle := x.hle.trans y.hle
  hnew := fun b o e => by
    rcases y.hnew b o e with h1 | h1 | h1
    · exact x.hnew b o h1
    · exact .inr (x.onew b h1)
    · exact .inr (.inr (x.none_back h1))
  onew := fun b e => by
    rcases y.onew b e with h1 | h1
    · exact x.onew b h1
    · exact .inr (x.none_back h1)

/- the ghost name of an iterator -/
noncomputable def gh (a : Addr) : Str := ⟨#[0, a]⟩
noncomputable def isGh (x : Str) : Bool := x.cps[0]? == some 0
/- no name that a text can load -/
noncomputable def notPlain (x : Str) : Bool := (x == ("__classdict__" : Str)) || isGh x
theorem gh_not (a : Addr) : notPlain (gh a) = true := by unfold notPlain isGh gh; simp
theorem gh_inj {a b : Addr} (h : gh a = gh b) : a = b := by unfold gh at h; injection h with h; simpa using h
noncomputable def VarIs (env : Env) (h : Heap) (x : Str) (v : Value) : Prop :=
  (env.kindOf x = some .local ∧ ∃ m, h.Ns env.locals m ∧ m x = some v) ∨
  ((env.kindOf x = some .cell ∨ env.kindOf x = some .free) ∧ ∃ c o, env.cells.lookup x = some c ∧ h.get? c = some o ∧ o.data = .cell (some v)) ∨
  (env.kindOf x = none ∧ ∃ a, x = gh a ∧ v = .ref a)

theorem ns_fun {h : Heap} {a : Addr} {m m' : Str → Option Value} (x : h.Ns a m) (y : h.Ns a m') : m = m' := by
  obtain ⟨o, es, ep, e, d, _, f⟩ := x
  obtain ⟨o', es', ep', e', d', _, f'⟩ := y
  rw [e] at e'; cases e'
  rw [d] at d'; cases d'
  funext n
  rw [← f, ← f']

theorem VarIs.inj {env : Env} {h : Heap} {x : Str} {v v' : Value} (a : VarIs env h x v) (b : VarIs env h x v') : v = v' := by
  rcases a with ⟨k, m, n, e⟩ | ⟨k, c, o, l, g, d⟩ | ⟨k, a, e1, e2⟩ <;> rcases b with ⟨k', m', n', e'⟩ | ⟨k', c', o', l', g', d'⟩ | ⟨k', a', e1', e2'⟩
  · cases ns_fun n n'; rw [e] at e'; exact Option.some.inj e'
  · rw [k] at k'; rcases k' with k' | k' <;> cases k'
  · rw [k] at k'; cases k'
  · rw [k'] at k; rcases k with k | k <;> cases k
  · rw [l] at l'; cases l'
    rw [g] at g'; cases g'
    rw [d] at d'; cases d'; rfl
  · rw [k'] at k; rcases k with k | k <;> cases k
  · rw [k] at k'; cases k'
  · rw [k] at k'; rcases k' with k' | k' <;> cases k'
  · rw [e2, e2', gh_inj (e1.symm.trans e1')]

noncomputable def OwnL (H : Hm) (h : Heap) (a : Addr) (As : List V) : Prop :=
  ∃ o xs n, h.get? a = some o ∧ o.cls = .type "list" ∧ o.data = .seq xs n ∧ (o.dict = none ∧ o.slots = #[]) ∧ Reps H As xs.toList
/- a list's iterator that has come to its end -/
noncomputable def Dead (h : Heap) (a : Addr) : Prop := ∃ o i, h.get? a = some o ∧ o.cls = .type "list_iterator" ∧ o.data = .fields #[.none, .int i 0]
noncomputable def ItrLive (H : Hm) (h : Heap) (a : Addr) (As : List V) : Prop :=
  ∃ l i o xs n, h.IsListIter a l i ∧ H l = some o ∧ o.cls = .type "list" ∧ o.data = .seq xs n ∧ Reps H As (xs.toList.drop i)
noncomputable def ItrN (H : Hm) (h : Heap) (a : Addr) (As : List V) : Prop := ItrLive H h a As ∨ (As = [] ∧ Dead h a)
/- the mark of a table of code objects -/
noncomputable def tagV : V := .exc .none ⟨#[]⟩
/- the name that the code objects of the table carry -/
noncomputable def cQual : Str := "fmean.<locals>.count"
/- a table whose code objects are known -/
noncomputable def TabOk (H : Hm) (h : Heap) (a : Addr) : Prop := ∃ vs : Array Value, h.get? a = some (tabObj vs) ∧ TriplesOk vs.toList ∧ ∀ pos cv, codeAmong pos vs.toList = some cv → ∃ c o fs t, cv = .ref c ∧ H c = some o ∧ o.data = .fields fs ∧ fs[1]? = some (.str cQual t)
noncomputable def ItrL (H : Hm) (h : Heap) (a : Addr) (As : List V) : Prop := ItrN H h a As ∨ (As = [tagV] ∧ TabOk H h a)
theorem ItrN.obj {H : Hm} {h : Heap} {a : Addr} {As : List V} (x : ItrN H h a As) : ∃ o vs, h.get? a = some o ∧ o.cls = .type "list_iterator" ∧ o.data = .fields vs := by
  rcases x with ⟨l, i, o, xs, n, ⟨q, h4, h5, h6⟩, _⟩ | ⟨_, q, i, h4, h5, h6⟩
  · exact ⟨q, _, h4, h5, h6⟩
  · exact ⟨q, _, h4, h5, h6⟩
theorem ItrN.at {H : Hm} {h h' : Heap} {a : Addr} {As : List V} (x : ItrN H h a As) (k : ∀ o, h.get? a = some o → h'.get? a = some o) : ItrN H h' a As := by
  rcases x with ⟨l, i, o, xs, n, ⟨q, h4, h5, h6⟩, r⟩ | ⟨h0, q, i, h4, h5, h6⟩
  · exact .inl ⟨l, i, o, xs, n, ⟨q, k q h4, h5, h6⟩, r⟩
  · exact .inr ⟨h0, q, i, k q h4, h5, h6⟩
theorem ItrL.obj {H : Hm} {h : Heap} {a : Addr} {As : List V} (x : ItrL H h a As) : ∃ o vs, h.get? a = some o ∧ o.data = .fields vs := by
  rcases x with x | ⟨_, vs, e, _⟩
  · obtain ⟨o, vs, e, _, d⟩ := x.obj; exact ⟨o, vs, e, d⟩
  · exact ⟨_, vs, e, rfl⟩
theorem ItrL.at {H : Hm} {h h' : Heap} {a : Addr} {As : List V} (x : ItrL H h a As) (k : ∀ o, h.get? a = some o → h'.get? a = some o) : ItrL H h' a As := by
  rcases x with x | ⟨e0, vs, e, r⟩
  · exact .inl (x.at k)
  · exact .inr ⟨e0, vs, k _ e, r⟩

noncomputable def LVAt (H : Hm) (O : OSet) (h : Heap) : LV → Value → Prop
  | .val A, v => Rep H A v
  | .own b As, v => ∃ a, v = .ref a ∧ O a ∧ b = a ∧ OwnL H h a As
  | .itr b As, v => ∃ a, v = .ref a ∧ O a ∧ b = a ∧ ItrL H h a As

/- the frames of the stack, as a traceback wants them -/
noncomputable def FrOk (A : Around) (F : Fix) (h : Heap) : Prop :=
  ∃ l, A.frames = some l ∧ ∀ env ∈ l, env.scope.kind ≠ .module ∧ ∃ L o es ep, env.frame = some L ∧ h.get? L = some o ∧ o.data = .dict es ep ∧ F.h₁.get? L = none

structure StH (Γ : Cx) (H : Hm) (O : OSet) (loc : Loc) (h : Heap) (os : OsState) (g : Array GenState) : Prop where
  base : ∀ b o, Γ.F.h₁.get? b = some o → h.get? b = some o
  agree : ∀ b o, H b = some o → h.get? b = some o
  nofr : ∀ b o, H b = some o → Solid o
  os : os = Γ.F.os
  gens : AllBare g
  obase : ∀ b, O b → Γ.F.h₁.get? b = none
  otab : ∀ b, O b → ¬ Γ.F.tab b
  tabs : ∀ b, Γ.F.tab b → Γ.F.h₁.get? b = none ∧ TabAt h b
  ohm : ∀ b, O b → H b = none
  othere : ∀ b, O b → ∃ o, h.get? b = some o
  kind : Γ.env.scope.kind = .function
  ns : ∃ m, h.Ns Γ.env.locals m
  onsO : O Γ.env.locals
  vars : ∀ x lv, loc.lookup x = some lv → ∃ v, VarIs Γ.env h x v ∧ LVAt H O h lv v
  sep : ∀ x y a lv lv', loc.lookup x = some lv → loc.lookup y = some lv' → lv.mine = true → lv'.mine = true → VarIs Γ.env h x (.ref a) → VarIs Γ.env h y (.ref a) → x = y
  apart : ∀ x a lv, loc.lookup x = some lv → lv.mine = true → VarIs Γ.env h x (.ref a) → a ≠ Γ.env.locals ∧ ∀ y c, Γ.env.cells.lookup y = some c → a ≠ c
  cells : ∀ x c, Γ.env.cells.lookup x = some c → (Γ.mine x = true → O c) ∧ ∃ o v, h.get? c = some o ∧ o.data = .cell v
  cne : ∀ x c, Γ.env.cells.lookup x = some c → c ≠ Γ.env.locals
  cinj : ∀ x y c, Γ.env.cells.lookup x = some c → Γ.env.cells.lookup y = some c → x = y
  frames : FrOk Γ.A Γ.F h

noncomputable abbrev St (Γ : Cx) (H : Hm) (O : OSet) (loc : Loc) (s : Shared) : Prop := StH Γ H O loc s.heap s.os s.gens

structure Exc where
  cls : Value
  msg : Option Str

noncomputable def ArgOk (H : Hm) (x : Exc) (vs : Array Value) : Prop :=
  (∀ m, x.msg = some m → ∃ t o n tk, vs[0]? = some (.ref t) ∧ H t = some o ∧ o.cls = .type "tuple" ∧ o.data = .seq #[.str m tk] n) ∧ (x.msg = none → vs[2]? = some .none)

/- an exception in flight, made since h₀ -/
structure Fly (H : Hm) (O : OSet) (h₀ h : Heap) (e : Value) (x : Exc) : Prop where
  mk ::
  is : ∃ a o vs, e = .ref a ∧ h₀.get? a = none ∧ ¬ O a ∧ H a = none ∧ h.get? a = some o ∧ o.cls = x.cls ∧ o.data = .fields vs ∧ ArgOk H x vs ∧
    (vs[1]? = some .none ∨ ∃ tb otb tvs, vs[1]? = some (.ref tb) ∧ h₀.get? tb = none ∧ ¬ O tb ∧ H tb = none ∧ tb ≠ a ∧ h.get? tb = some otb ∧ otb.cls = .type "traceback" ∧ otb.data = .fields tvs ∧ 3 < tvs.size)

/- a result, new since h₀ where it is the frame's own -/
noncomputable def Res (H : Hm) (O : OSet) (h₀ h : Heap) : LV → Value → Prop
  | .val A, v => Rep H A v
  | .own b As, v => ∃ a, v = .ref a ∧ h₀.get? a = none ∧ ¬ O a ∧ H a = none ∧ b = a ∧ OwnL H h a As
  | .itr b As, v => ∃ a, v = .ref a ∧ h₀.get? a = none ∧ ¬ O a ∧ H a = none ∧ b = a ∧ ItrN H h a As

noncomputable def PostV (Γ : Cx) (H : Hm) (O : OSet) (s : Shared) (Q : LV → Loc → Prop) (v : Value) (s' : Shared) : Prop :=
  ∃ H' O' loc' lv, Nx Γ.F H O s.heap H' O' s'.heap ∧ St Γ H' O' loc' s' ∧ Res H' O' s.heap s'.heap lv v ∧ Q lv loc'
noncomputable def PostX (Γ : Cx) (H : Hm) (O : OSet) (s : Shared) (X : Exc → Loc → Prop) (e : Value) (s' : Shared) : Prop :=
  ∃ H' O' loc' x, Nx Γ.F H O s.heap H' O' s'.heap ∧ St Γ H' O' loc' s' ∧ Fly H' O' s.heap s'.heap e x ∧ X x loc'

noncomputable def Ev (Γ : Cx) (loc : Loc) (e : Expr) (Q : LV → Loc → Prop) (X : Exc → Loc → Prop) : Prop :=
  ∀ H O s, St Γ H O loc s → wpAny Γ.M Γ.A (eval e Γ.env) (PostV Γ H O s Q) (PostX Γ H O s X) s

noncomputable def PostB (Γ : Cx) (H : Hm) (O : OSet) (s : Shared) (Q : Bool → Loc → Prop) (b : Bool) (s' : Shared) : Prop :=
  ∃ H' O' loc', Nx Γ.F H O s.heap H' O' s'.heap ∧ St Γ H' O' loc' s' ∧ Q b loc'
noncomputable def Tst (Γ : Cx) (loc : Loc) (e : Expr) (Q : Bool → Loc → Prop) (X : Exc → Loc → Prop) : Prop :=
  ∀ H O s, St Γ H O loc s → wpAny Γ.M Γ.A (isTrue e Γ.env (eval e Γ.env)) (PostB Γ H O s Q) (PostX Γ H O s X) s

inductive Fl where
  | next | brk | cont
  | ret (A : V)
noncomputable def FlIs (H : Hm) : Fl → Flow → Prop
  | .next, f => f = .next
  | .brk, f => f = .brk
  | .cont, f => f = .cont
  | .ret A, f => ∃ v, f = .ret v ∧ Rep H A v
noncomputable def PostF (Γ : Cx) (H : Hm) (O : OSet) (s : Shared) (Q : Fl → Loc → Prop) (f : Flow) (s' : Shared) : Prop :=
  ∃ H' O' loc' fl, Nx Γ.F H O s.heap H' O' s'.heap ∧ St Γ H' O' loc' s' ∧ FlIs H' fl f ∧ Q fl loc'
noncomputable def Exs (Γ : Cx) (loc : Loc) (ss : List Stmt) (Q : Fl → Loc → Prop) (X : Exc → Loc → Prop) : Prop :=
  ∀ H O s, St Γ H O loc s → wpAny Γ.M Γ.A (execs ss Γ.env) (PostF Γ H O s Q) (PostX Γ H O s X) s
noncomputable def Ex1 (Γ : Cx) (loc : Loc) (st : Stmt) (Q : Fl → Loc → Prop) (X : Exc → Loc → Prop) : Prop :=
  ∀ H O s, St Γ H O loc s → wpAny Γ.M Γ.A (exec st Γ.env) (PostF Γ H O s Q) (PostX Γ H O s X) s

theorem wp_genQ {α : Type} {M : Model} {A : Around} {t : Sem α} {Q : α → Shared → Prop} {E : Value → Shared → Prop} {s : Shared} (h : ∀ Q', Q = Q' → wpAny M A t Q' E s) : wpAny M A t Q E s := h Q rfl
theorem gg {P : Prop} (h : ∀ P' : Prop, (P → P') → P') : P := h P id
end Mine
end
section
open PySem PySem.W PyProof.Rows
namespace Mine

/-! ## states -/

theorem Rep.int_of {H : Hm} {i : Int} {v : Value} (h : Rep H (.int i) v) : ∃ t, v = .int i t := h
theorem Rep.flt_of {H : Hm} {x : UInt64} {v : Value} (h : Rep H (.flt x) v) : ∃ t, v = .float x t := h
theorem Rep.bool_of {H : Hm} {x : Bool} {v : Value} (h : Rep H (.bool x) v) : v = .bool x := h
theorem Rep.none_of {H : Hm} {v : Value} (h : Rep H .none v) : v = .none := h
theorem Rep.str_of {H : Hm} {x : Str} {v : Value} (h : Rep H (.str x) v) : ∃ t, v = .str x t := h
theorem Rep.con_of {H : Hm} {c v : Value} (h : Rep H (.con c) v) : v = c := h
theorem Rep.lst_of {H : Hm} {As : List V} {v : Value} (h : Rep H (.lst As) v) :
    ∃ a o xs n, v = .ref a ∧ H a = some o ∧ o.cls = .type "list" ∧ o.data = .seq xs n ∧ Reps H As xs.toList := h
theorem Rep.tup_of {H : Hm} {As : List V} {v : Value} (h : Rep H (.tup As) v) :
    ∃ a o xs n, v = .ref a ∧ H a = some o ∧ o.cls = .type "tuple" ∧ o.data = .seq xs n ∧ Reps H As xs.toList := h
theorem rep_int (H : Hm) (i : Int) (t : Tok) : Rep H (.int i) (.int i t) := by exact ⟨t, rfl⟩
theorem rep_flt (H : Hm) (i : UInt64) (t : Tok) : Rep H (.flt i) (.float i t) := by exact ⟨t, rfl⟩
theorem rep_str (H : Hm) (i : Str) (t : Tok) : Rep H (.str i) (.str i t) := by exact ⟨t, rfl⟩
theorem rep_bool (H : Hm) (i : Bool) : Rep H (.bool i) (.bool i) := rfl
theorem rep_none (H : Hm) : Rep H .none .none := rfl
theorem rep_con (H : Hm) (c : Value) : Rep H (.con c) c := rfl
theorem rep_lst {H : Hm} {As : List V} {a : Addr} {o : Obj} {xs : Array Value} {n : Nat} (h2 : H a = some o) (h3 : o.cls = .type "list") (h4 : o.data = .seq xs n) (h5 : Reps H As xs.toList) :
    Rep H (.lst As) (.ref a) := by exact ⟨a, o, xs, n, rfl, h2, h3, h4, h5⟩
theorem rep_tup {H : Hm} {As : List V} {a : Addr} {o : Obj} {xs : Array Value} {n : Nat} (h2 : H a = some o) (h3 : o.cls = .type "tuple") (h4 : o.data = .seq xs n) (h5 : Reps H As xs.toList) :
    Rep H (.tup As) (.ref a) := by exact ⟨a, o, xs, n, rfl, h2, h3, h4, h5⟩
theorem reps_nil (H : Hm) : Reps H [] [] := rfl
theorem reps_cons {H : Hm} {A : V} {As : List V} {y : Value} {ys : List Value} (h : Rep H A y) (hs : Reps H As ys) : Reps H (A :: As) (y :: ys) := by
  exact ⟨y, ys, rfl, h, hs⟩
theorem Reps.length : ∀ {H : Hm} {As : List V} {xs : List Value}, Reps H As xs → xs.length = As.length
  | _, [], _, h => by cases h; rfl
  | _, A :: As, _, h => by
    obtain ⟨y, ys, rfl, _, hs⟩ := h
    simp [Reps.length hs]
theorem Reps.append : ∀ {H : Hm} {As Bs : List V} {xs ys : List Value}, Reps H As xs → Reps H Bs ys → Reps H (As ++ Bs) (xs ++ ys)
  | _, [], _, _, _, h, h' => by cases h; exact h'
  | _, A :: As, _, _, _, h, h' => by
    obtain ⟨y, ys, rfl, hy, hs⟩ := h
    exact reps_cons hy (Reps.append hs h')
theorem Reps.get : ∀ {H : Hm} {As : List V} {xs : List Value} {i : Nat} {A : V}, Reps H As xs → As[i]? = some A → ∃ y, xs[i]? = some y ∧ Rep H A y
  | _, [], _, _, _, _, e => by simp at e
  | _, B :: As, _, 0, A, h, e => by
    obtain ⟨y, ys, rfl, hy, hs⟩ := h
    simp at e; subst e
    exact ⟨y, rfl, hy⟩
  | _, B :: As, _, i + 1, A, h, e => by
    obtain ⟨y, ys, rfl, hy, hs⟩ := h
    simp at e
    obtain ⟨z, hz, hr⟩ := Reps.get hs e
    exact ⟨z, by simpa using hz, hr⟩
theorem Reps.get_none {H : Hm} {As : List V} {xs : List Value} {i : Nat} (h : Reps H As xs) (e : As[i]? = none) : xs[i]? = none := by
  rw [List.getElem?_eq_none_iff] at e ⊢
  rw [h.length]; exact e
theorem Reps.of_get : ∀ {H : Hm} {As : List V} {xs : List Value}, xs.length = As.length → (∀ (i : Nat) (A : V) (y : Value), As[i]? = some A → xs[i]? = some y → Rep H A y) → Reps H As xs
  | _, [], xs, hl, _ => by simp at hl; subst hl; exact reps_nil _
  | _, A :: As, [], hl, _ => by simp at hl
  | _, A :: As, y :: ys, hl, h => reps_cons (h 0 A y rfl rfl) (Reps.of_get (by simpa using hl) fun i B z e e' => h (i + 1) B z (by simpa using e) (by simpa using e'))
theorem Reps.take {H : Hm} {As : List V} {xs : List Value} (k : Nat) (h : Reps H As xs) : Reps H (As.take k) (xs.take k) := by
  refine Reps.of_get (by simp [h.length]) fun i A y e e' => ?_
  rw [List.getElem?_take] at e e'
  split at e
  · rw [if_pos (by assumption)] at e'
    obtain ⟨z, hz, hr⟩ := h.get e
    rw [hz] at e'; cases e'; exact hr
  · cases e
theorem Reps.drop {H : Hm} {As : List V} {xs : List Value} (k : Nat) (h : Reps H As xs) : Reps H (As.drop k) (xs.drop k) := by
  refine Reps.of_get (by simp [h.length]) fun i A y e e' => ?_
  rw [List.getElem?_drop] at e e'
  obtain ⟨z, hz, hr⟩ := h.get e
  rw [hz] at e'; cases e'; exact hr

section
variable {Γ : Cx} {H H' : Hm} {O O' : OSet} {loc loc' : Loc} {s s' : Shared} {h h' : Heap} {os os' : OsState} {g g' : Array GenState}

theorem ns_same {F : Fix} {a : Addr} {m : Str → Option Value} (x : h.Ns a m) (k : ∀ o, h.get? a = some o → ∃ o', h'.get? a = some o' ∧ Same F a o o') : h'.Ns a m := by
  refine gg fun GG hGG => ?_
  obtain ⟨o, es, ep, e, d, r⟩ := x
  obtain ⟨o', e', sm⟩ := k o e
  refine hGG ?_
  exact ⟨o', es, ep, e', (sm.data (.inl fun vs z => by rw [d] at z; cases z)).trans d, r⟩

theorem OwnL.same {F : Fix} {a : Addr} {As : List V} (x : OwnL H h a As) (hle : Hle H H') (k : ∀ o, h.get? a = some o → ∃ o', h'.get? a = some o' ∧ Same F a o o') : OwnL H' h' a As := by
  refine gg fun GG hGG => ?_
  obtain ⟨o, xs, n, e, c, d, q, r⟩ := x
  obtain ⟨o', e', sm⟩ := k o e
  refine hGG ?_
  have : o' = o := sm.eq_of_data ⟨fun es ep z => (by rw [d] at z; cases z), by rw [c]; simp⟩
  subst this
  exact ⟨o', xs, n, e', c, d, q, r.mono hle⟩
theorem ItrN.same {F : Fix} {a : Addr} {As : List V} (x : ItrN H h a As) (hle : Hle H H') (k : ∀ o, h.get? a = some o → ∃ o', h'.get? a = some o' ∧ Same F a o o') : ItrN H' h' a As := by
  rcases x with ⟨l, i, o, xs, n, ⟨q, e, c, d⟩, hl, hc, hd, r⟩ | ⟨h0, q, i, e, c, d⟩
  · obtain ⟨q', e', sm⟩ := k q e
    exact .inl ⟨l, i, o, xs, n, ⟨q', e', sm.cls.trans c, (sm.data (.inr (by rw [c]; simp))).trans d⟩, hle _ _ hl, hc, hd, r.mono hle⟩
  · obtain ⟨q', e', sm⟩ := k q e
    exact .inr ⟨h0, q', i, e', sm.cls.trans c, (sm.data (.inr (by rw [c]; simp))).trans d⟩
theorem ItrL.same {F : Fix} {a : Addr} {As : List V} (x : ItrL H h a As) (hle : Hle H H') (hnt : ¬ F.tab a) (k : ∀ o, h.get? a = some o → ∃ o', h'.get? a = some o' ∧ Same F a o o') : ItrL H' h' a As := by
  rcases x with x | ⟨e0, vs, e, ht, hc⟩
  · exact .inl (x.same hle k)
  · obtain ⟨q', e', sm⟩ := k _ e
    have := sm.eq_of_notab (fun es ep z => by cases z) hnt
    subst this
    exact .inr ⟨e0, vs, e', ht, fun p cv hm => by obtain ⟨c, o, fs, t, h0, h1, h2⟩ := hc p cv hm; exact ⟨c, o, fs, t, h0, hle _ _ h1, h2⟩⟩
theorem FrOk.same {A : Around} {F : Fix} (x : FrOk A F h) (k : ∀ b o, h.get? b = some o → ∃ o', h'.get? b = some o' ∧ Same F b o o') : FrOk A F h' := by
  obtain ⟨l, hl, r⟩ := x
  refine ⟨l, hl, fun env he => ?_⟩
  refine gg fun GG hGG => ?_
  obtain ⟨h1, L, o, es, ep, h2, h3, h5, h6⟩ := r env he
  obtain ⟨o', e', sm⟩ := k L o h3
  refine hGG ?_
  exact ⟨h1, L, o', es, ep, h2, e', (sm.data (.inl fun vs z => by rw [h5] at z; cases z)).trans h5, h6⟩

theorem VarIs.sameW {F : Fix} {env : Env} {x : Str} {v : Value} (a : VarIs env h x v) (k : ∀ b o, h.get? b = some o → (b = env.locals ∨ ∃ y, env.cells.lookup y = some b) → ∃ o', h'.get? b = some o' ∧ Same F b o o') : VarIs env h' x v := by
  rcases a with ⟨kk, m, n, e⟩ | ⟨kk, c, o, l, gg, d⟩ | g
  · exact .inl ⟨kk, m, ns_same n fun o e => k _ o e (.inl rfl), e⟩
  · obtain ⟨o', e', sm⟩ := k c o gg (.inr ⟨_, l⟩)
    exact .inr (.inl ⟨kk, c, o', l, e', (sm.data (.inl fun vs z => by rw [d] at z; cases z)).trans d⟩)
  · exact .inr (.inr g)
theorem VarIs.backW {F : Fix} {env : Env} {x : Str} {v : Value} (a : VarIs env h' x v) (k : ∀ b o, h.get? b = some o → (b = env.locals ∨ ∃ y, env.cells.lookup y = some b) → ∃ o', h'.get? b = some o' ∧ Same F b o o')
    {v' : Value} (b : VarIs env h x v') : VarIs env h x v := by
  have := (b.sameW k).inj a
  subst this; exact b
theorem LVAt.sameW {F : Fix} {lv : LV} {v : Value} (x : LVAt H O h lv v) (hle : Hle H H') (hO : ∀ b, O b → O' b) (hnt : ∀ b, O b → ¬ F.tab b) (k : ∀ b o, O b → h.get? b = some o → ∃ o', h'.get? b = some o' ∧ Same F b o o') : LVAt H' O' h' lv v := by
  cases lv with
  | val A => exact Rep.mono hle _ _ x
  | own _ As => obtain ⟨a, e, ha, eb, w⟩ := x; exact ⟨a, e, hO a ha, eb, w.same hle (k a · ha)⟩
  | itr _ As => obtain ⟨a, e, ha, eb, w⟩ := x; exact ⟨a, e, hO a ha, eb, w.same hle (hnt a ha) (k a · ha)⟩
theorem FrOk.sameW {A : Around} {F : Fix} (x : FrOk A F h) (k : ∀ b o, h.get? b = some o → (∃ l, A.frames = some l ∧ ∃ env ∈ l, env.frame = some b) → ∃ o', h'.get? b = some o' ∧ Same F b o o') : FrOk A F h' := by
  obtain ⟨l, hl, r⟩ := x
  refine ⟨l, hl, fun env he => ?_⟩
  refine gg fun GG hGG => ?_
  obtain ⟨h1, L, o, es, ep, h2, h3, h5, h6⟩ := r env he
  obtain ⟨o', e', sm⟩ := k L o h3 ⟨l, hl, env, he, h2⟩
  refine hGG ?_
  exact ⟨h1, L, o', es, ep, h2, e', (sm.data (.inl fun vs z => by rw [h5] at z; cases z)).trans h5, h6⟩

/- an object that no fact of the state speaks of -/
structure Foreign (Γ : Cx) (H : Hm) (O : OSet) (b : Addr) : Prop where
  base : Γ.F.h₁.get? b = none
  hm : H b = none
  o : ¬ O b
  cell : ∀ y, Γ.env.cells.lookup y ≠ some b
  fr : ∀ l, Γ.A.frames = some l → ∀ env ∈ l, env.frame ≠ some b
  tab : ¬ Γ.F.tab b

theorem StH.foreign (st : StH Γ H O loc h os g) {b : Addr} (hb : h.get? b = none) : Foreign Γ H O b where
  base := by
    cases e : Γ.F.h₁.get? b with
    | none => rfl
    | some o => have := st.base b o e; rw [hb] at this; cases this
  hm := by
    cases e : H b with
    | none => rfl
    | some o => have := st.agree b o e; rw [hb] at this; cases this
  o := fun z => by obtain ⟨o, e⟩ := st.othere b z; rw [hb] at e; cases e
  cell := fun y e => by obtain ⟨_, o, w, e, _⟩ := st.cells y b e; rw [hb] at e; cases e
  fr := fun l hl env he e => by
    obtain ⟨l', hl', r⟩ := st.frames
    rw [hl] at hl'; cases hl'
    obtain ⟨_, L, o, es, ep, h2, h3, _⟩ := r env he
    rw [e] at h2; cases h2
    rw [hb] at h3; cases h3
  tab := fun z => by obtain ⟨_, vs, e, _⟩ := st.tabs b z; rw [hb] at e; cases e
/- nothing known has changed; H may know more of what is new -/
theorem StH.extW (st : StH Γ H O loc h os g) (W : Addr → Prop) (hW : ∀ b, W b → Foreign Γ H O b) (k : ∀ b o, ¬ W b → h.get? b = some o → ∃ o', h'.get? b = some o' ∧ Same Γ.F b o o') (hg : AllBare g')
    (hle : Hle H H') (hos : os' = Γ.F.os) (ag : ∀ b o, H' b = some o → H b = some o ∨ (¬ O b ∧ h'.get? b = some o ∧ Solid o)) : StH Γ H' O loc h' os' g' := by
  have kO : ∀ b o, O b → h.get? b = some o → ∃ o', h'.get? b = some o' ∧ Same Γ.F b o o' := fun b o hb e => k b o (fun q => (hW b q).o hb) e
  have kV : ∀ b o, h.get? b = some o → (b = Γ.env.locals ∨ ∃ y, Γ.env.cells.lookup y = some b) → ∃ o', h'.get? b = some o' ∧ Same Γ.F b o o' := fun b o e q => by
    refine k b o (fun z => ?_) e
    rcases q with rfl | ⟨w, d⟩
    · exact (hW _ z).o st.onsO
    · exact (hW b z).cell w d
  exact
  { base := fun b o e => by
      obtain ⟨o', e', sm⟩ := k b o (fun z => by rw [(hW b z).base] at e; cases e) (st.base b o e)
      rw [e', sm.eq_of_base e]
    agree := fun b o e => by
      rcases ag b o e with h1 | h1
      · obtain ⟨o', e', sm⟩ := k b o (fun z => by rw [(hW b z).hm] at h1; cases h1) (st.agree b o h1)
        rw [e', sm.eq_of_data (st.nofr b o h1)]
      · exact h1.2.1
    nofr := fun b o e => by
      rcases ag b o e with h1 | h1
      · exact st.nofr b o h1
      · exact h1.2.2
    os := hos
    gens := hg
    obase := st.obase
    otab := st.otab
    tabs := fun b hb => ⟨(st.tabs b hb).1, (st.tabs b hb).2.same fun o e => k b o (fun z => (hW b z).tab hb) e⟩
    ohm := fun b hb => by
      cases e : H' b with
      | none => rfl
      | some o =>
        rcases ag b o e with h1 | h1
        · rw [st.ohm b hb] at h1; cases h1
        · exact absurd hb h1.1
    othere := fun b hb => by
      obtain ⟨o, e⟩ := st.othere b hb
      obtain ⟨o', e', _⟩ := kO b o hb e
      exact ⟨o', e'⟩
    kind := st.kind
    ns := let ⟨m, x⟩ := st.ns; ⟨m, ns_same x fun o e => kV _ o e (.inl rfl)⟩
    onsO := st.onsO
    vars := fun x lv e => by
      obtain ⟨v, hv, hl⟩ := st.vars x lv e
      exact ⟨v, hv.sameW kV, hl.sameW hle (fun _ q => q) st.otab kO⟩
    sep := fun x y a lv lv' e e' m m' hx hy => by
      refine gg fun GG hGG => ?_
      obtain ⟨v, hv, _⟩ := st.vars x lv e
      obtain ⟨v', hv', _⟩ := st.vars y lv' e'
      refine hGG ?_
      exact st.sep x y a lv lv' e e' m m' (hx.backW kV hv) (hy.backW kV hv')
    apart := fun x a lv e m hx => by
      obtain ⟨v, hv, _⟩ := st.vars x lv e
      exact st.apart x a lv e m (hx.backW kV hv)
    cells := fun x c e => by
      refine gg fun GG hGG => ?_
      obtain ⟨h1, o, v, h2, h3⟩ := st.cells x c e
      obtain ⟨o', e', sm⟩ := kV c o h2 (.inr ⟨x, e⟩)
      refine hGG ?_
      exact ⟨h1, o', v, e', (sm.data (.inl fun vs z => by rw [h3] at z; cases z)).trans h3⟩
    cne := st.cne
    cinj := st.cinj
    frames := st.frames.sameW fun b o e zz => by obtain ⟨l, hl, env, he, d⟩ := zz; exact k b o (fun z => (hW b z).fr l hl env he d) e }

theorem StH.ext (st : StH Γ H O loc h os g) (k : ∀ b o, h.get? b = some o → ∃ o', h'.get? b = some o' ∧ Same Γ.F b o o') (hg : AllBare g')
    (hle : Hle H H') (ag : ∀ b o, H' b = some o → H b = some o ∨ (h.get? b = none ∧ h'.get? b = some o ∧ Solid o)) : StH Γ H' O loc h' os g' :=
  st.extW (fun _ => False) (fun _ z => z.elim) (fun b o _ e => k b o e) hg hle st.os fun b o e => (ag b o e).imp id fun q => ⟨fun hb => (by obtain ⟨o', e'⟩ := st.othere b hb; rw [q.1] at e'; cases e'), q.2⟩

/- less is known -/
theorem StH.less (st : StH Γ H O loc h os g) (hw : ∀ x lv, loc'.lookup x = some lv → loc.lookup x = some lv) : StH Γ H O loc' h os g :=
  { st with
    vars := fun x lv e => st.vars x lv (hw x lv e)
    sep := fun x y a lv lv' e e' => st.sep x y a lv lv' (hw _ _ e) (hw _ _ e')
    apart := fun x a lv e => st.apart x a lv (hw _ _ e) }

end

/-! ## what follows what -/
section
variable {Γ : Cx} {H H₁ : Hm} {O O₁ : OSet} {loc : Loc} {s s₁ s₂ : Shared}

theorem Res.back {F : Fix} {H' : Hm} {O' : OSet} {h h₁ h' : Heap} {lv : LV} {v : Value} (r : Res H' O' h₁ h' lv v) (n : Nx F H O h H₁ O₁ h₁) : Res H' O' h h' lv v := by
  cases lv with
  | val A => exact r
  | own _ As => obtain ⟨a, e, hn, r⟩ := r; exact ⟨a, e, n.none_back hn, r⟩
  | itr _ As => obtain ⟨a, e, hn, r⟩ := r; exact ⟨a, e, n.none_back hn, r⟩

theorem PostV.back {Q : LV → Loc → Prop} {v : Value} (n : Nx Γ.F H O s.heap H₁ O₁ s₁.heap) (p : PostV Γ H₁ O₁ s₁ Q v s₂) : PostV Γ H O s Q v s₂ := by
  refine gg fun GG hGG => ?_
  obtain ⟨H', O', loc', lv, n', st, r, q⟩ := p
  refine hGG ?_
  exact ⟨H', O', loc', lv, n.trans n', st, r.back n, q⟩
theorem PostB.back {Q : Bool → Loc → Prop} {v : Bool} (n : Nx Γ.F H O s.heap H₁ O₁ s₁.heap) (p : PostB Γ H₁ O₁ s₁ Q v s₂) : PostB Γ H O s Q v s₂ := by
  refine gg fun GG hGG => ?_
  obtain ⟨H', O', loc', n', st, q⟩ := p
  refine hGG ?_
  exact ⟨H', O', loc', n.trans n', st, q⟩
theorem PostF.back {Q : Fl → Loc → Prop} {v : Flow} (n : Nx Γ.F H O s.heap H₁ O₁ s₁.heap) (p : PostF Γ H₁ O₁ s₁ Q v s₂) : PostF Γ H O s Q v s₂ := by
  refine gg fun GG hGG => ?_
  obtain ⟨H', O', loc', fl, n', st, q⟩ := p
  refine hGG ?_
  exact ⟨H', O', loc', fl, n.trans n', st, q⟩
theorem Fly.back {F : Fix} {H' : Hm} {O' : OSet} {h h₁ h' : Heap} {e : Value} {x : Exc} (r : Fly H' O' h₁ h' e x) (n : Nx F H O h H₁ O₁ h₁) : Fly H' O' h h' e x := by
  refine gg fun GG hGG => ?_
  obtain ⟨a, o, vs, h1, h2, h3, h4, h5, h6, h7, h8, h9⟩ := r.is
  refine hGG ?_
  refine ⟨a, o, vs, h1, n.none_back h2, h3, h4, h5, h6, h7, h8, h9.imp id ?_⟩
  intro hRR
  refine gg fun GG hGG => ?_
  obtain ⟨tb, otb, tvs, k1, k2, k3⟩ := hRR
  refine hGG ?_
  exact ⟨tb, otb, tvs, k1, n.none_back k2, k3⟩
theorem PostX.back {X : Exc → Loc → Prop} {v : Value} (n : Nx Γ.F H O s.heap H₁ O₁ s₁.heap) (p : PostX Γ H₁ O₁ s₁ X v s₂) : PostX Γ H O s X v s₂ := by
  refine gg fun GG hGG => ?_
  obtain ⟨H', O', loc', x, n', st, r, q⟩ := p
  refine hGG ?_
  exact ⟨H', O', loc', x, n.trans n', st, r.back n, q⟩

/- the same state (its tokens may have grown) -/
theorem PostV.here {Q : LV → Loc → Prop} {v : Value} {A : V} (st : St Γ H O loc s) (r : Rep H A v) (q : Q (.val A) loc) (tk : Nat) : PostV Γ H O s Q v { s with toks := tk } :=
  ⟨H, O, loc, .val A, .refl .., st, r, q⟩
theorem PostV.here' {Q : LV → Loc → Prop} {v : Value} {A : V} (st : St Γ H O loc s) (r : Rep H A v) (q : Q (.val A) loc) : PostV Γ H O s Q v s :=
  ⟨H, O, loc, .val A, .refl .., st, r, q⟩
end

/- a value is wanted -/
noncomputable def VQ (Q : V → Loc → Prop) : LV → Loc → Prop
  | .val A, loc => Q A loc
  | _, _ => False

/- two values to one -/
noncomputable def Op2 (Γ : Cx) (loc : Loc) (t : Value → Value → Sem Value) (A B : V) (Q : V → Loc → Prop) (X : Exc → Loc → Prop) : Prop :=
  ∀ H O s a b, St Γ H O loc s → Rep H A a → Rep H B b → wpAny Γ.M Γ.A (t a b) (PostV Γ H O s (VQ Q)) (PostX Γ H O s X) s
noncomputable def Op1 (Γ : Cx) (loc : Loc) (t : Value → Sem Value) (A : V) (Q : V → Loc → Prop) (X : Exc → Loc → Prop) : Prop :=
  ∀ H O s a, St Γ H O loc s → Rep H A a → wpAny Γ.M Γ.A (t a) (PostV Γ H O s (VQ Q)) (PostX Γ H O s X) s
noncomputable def Opb (Γ : Cx) (loc : Loc) (t : Value → Sem Bool) (A : V) (Q : Bool → Loc → Prop) (X : Exc → Loc → Prop) : Prop :=
  ∀ H O s a, St Γ H O loc s → Rep H A a → wpAny Γ.M Γ.A (t a) (PostB Γ H O s Q) (PostX Γ H O s X) s

section
variable {Γ : Cx} {loc : Loc} {Q : V → Loc → Prop} {QL : LV → Loc → Prop} {X : Exc → Loc → Prop}

theorem Ev.mono {e : Expr} {Q' : LV → Loc → Prop} {X' : Exc → Loc → Prop} (h : Ev Γ loc e QL X) (hQ : ∀ a l, QL a l → Q' a l) (hX : ∀ a l, X a l → X' a l) : Ev Γ loc e Q' X' :=
  fun H O s st => wpAny_mono (h H O s st) (fun _ _ z => by obtain ⟨H', O', l', lv, n, st', r, q⟩ := z; exact ⟨H', O', l', lv, n, st', r, hQ _ _ q⟩) fun _ _ z => by obtain ⟨H', O', l', x, n, st', r, q⟩ := z; exact ⟨H', O', l', x, n, st', r, hX _ _ q⟩
theorem ev_int {i k pos} (h : Q (.int i) loc) : Ev Γ loc (.Constant (.int i) k pos) (VQ Q) X :=
  fun H _ _ st => wpAny_Constant_int (PostV.here st (rep_int H ..) h _)
theorem ev_none {k pos} (h : Q .none loc) : Ev Γ loc (.Constant .none k pos) (VQ Q) X :=
  fun H _ _ st => wpAny_Constant_none (PostV.here' st (rep_none H) h)
theorem ev_bool {b k pos} (h : Q (.bool b) loc) : Ev Γ loc (.Constant (.bool b) k pos) (VQ Q) X :=
  fun H _ _ st => wpAny_Constant_bool (PostV.here' st (rep_bool H b) h)
theorem ev_str {x : Str} {k pos} (h : Q (.str x) loc) : Ev Γ loc (.Constant (.str x) k pos) (VQ Q) X :=
  fun H _ _ st => wpAny_Constant_str (PostV.here st (rep_str H ..) h _)
theorem wp_var {M : Model} {A : Around} {E : Value → Shared → Prop} {s : Shared} {env : Env} {x : Str} {v : Value} {Q : Value → Shared → Prop} (hk : env.scope.kind = .function) (hv : VarIs env s.heap x v) (h : Q v s) (hn : notPlain x = false) :
    wpAny M A (loadName env x) Q E s := by
  rcases hv with ⟨k, m, n, e⟩ | ⟨k, c, o, l, g, d⟩ | ⟨_, a, rfl, _⟩
  · exact wpAny_loadName_local hk k n e h
  · by_cases hc : env.kindOf x = some .cell
    · exact wpAny_loadName_cell hk hc l ⟨o, g, d⟩ h
    · exact wpAny_loadName_free hk (k.resolve_left hc) l ⟨o, g, d⟩ h (by unfold notPlain at hn; exact (Bool.or_eq_false_iff.mp hn).1)
  · rw [gh_not] at hn; cases hn

theorem ev_name {x : Str} {pos} {A : V} (hx : loc.lookup x = some (.val A)) (h : Q A loc) (hd : (x == ("__debug__" : Str)) = false := by decide) (hn : notPlain x = false := by decide) : Ev Γ loc (.Name x pos) (VQ Q) X := by
  intro H O s st
  obtain ⟨v, hv, hl⟩ := st.vars x _ hx
  exact wpAny_Name (wp_var st.kind hv (PostV.here' st hl h) hn) hd

theorem ev_bin {l op r pos} (h : Ev Γ loc l (VQ fun A l₁ => Ev Γ l₁ r (VQ fun B l₂ => Op2 Γ l₂ (binaryOp op) A B Q X) X) X) : Ev Γ loc (.BinOp l op r pos) (VQ Q) X := by
  intro H O s st
  refine wpAny_BinOp (wpAny_mono (h H O s st) (fun a s₁ p => ?_) fun _ _ p => p)
  refine gg fun GG hGG => ?_
  obtain ⟨H₁, O₁, l₁, lv, n₁, st₁, r₁, q₁⟩ := p
  refine hGG ?_
  cases lv with
  | own _ _ => exact q₁.elim
  | itr _ _ => exact q₁.elim
  | val A =>
    refine wpAny_mono (q₁ H₁ O₁ s₁ st₁) (fun b s₂ p => ?_) fun _ _ p => p.back n₁
    refine gg fun GG hGG => ?_
    obtain ⟨H₂, O₂, l₂, lv, n₂, st₂, r₂, q₂⟩ := p
    refine hGG ?_
    cases lv with
    | own _ _ => exact q₂.elim
    | itr _ _ => exact q₂.elim
    | val B => exact wpAny_mono (q₂ H₂ O₂ s₂ a b st₂ (Rep.mono n₂.hle _ _ r₁) r₂) (fun _ _ p => p.back (n₁.trans n₂)) fun _ _ p => p.back (n₁.trans n₂)
end
end Mine
end
section
open PySem PySem.W PyProof.Rows
namespace Mine

theorem Nx.then {F H O h₀ H₁ O₁ h₁ H₂ h₂} {O₂ : OSet} (n : Nx F H O h₀ H₁ O₁ h₁) (kp : ∀ b o, h₁.get? b = some o → ¬ O₁ b → h₀.get? b ≠ none → ∃ o', h₂.get? b = some o' ∧ Same F b o o')
    (there : ∀ b o, h₁.get? b = some o → h₀.get? b ≠ none → ∃ o', h₂.get? b = some o') (hle : Hle H₁ H₂) (hnew : ∀ b o, H₂ b = some o → H₁ b = some o ∨ O₁ b ∨ h₀.get? b = none)
    (onew : ∀ b, O₂ b → O₁ b ∨ h₀.get? b = none) : Nx F H O h₀ H₂ O₂ h₂ where
  kp := fun b o e hb => by
    refine gg fun GG hGG => ?_
    obtain ⟨o', e', s'⟩ := n.kp b o e hb
    have hb' : ¬ O₁ b := fun q => (n.onew b q).elim hb fun z => by rw [z] at e; cases e
    obtain ⟨o'', e'', s''⟩ := kp b o' e' hb' (by rw [e]; exact fun z => by cases z)
    refine hGG ?_
    exact ⟨o'', e'', s'.trans s''⟩
  there := fun b o e => by
    obtain ⟨o', e'⟩ := n.there b o e
    exact there b o' e' (by rw [e]; exact fun z => by cases z)
  hle := n.hle.trans hle
  hnew := fun b o e => by
    rcases hnew b o e with h1 | h1 | h1
    · exact n.hnew b o h1
    · exact .inr (n.onew b h1)
    · exact .inr (.inr h1)
  onew := fun b e => (onew b e).elim (n.onew b) .inr

/- the frame may store under this name -/
noncomputable def Cx.stores (Γ : Cx) (x : Str) : Prop :=
  Γ.env.kindOf x = some .local ∨ (Γ.env.kindOf x = some .cell ∧ Γ.mine x = true ∧ (Γ.env.cells.lookup x).isSome = true)

noncomputable def LV.addr : LV → Value → Option Addr
  | .val _, _ => none
  | _, .ref a => some a
  | _, _ => none

theorem LV.addr_mine {lv : LV} {v : Value} {a : Addr} (e : lv.addr v = some a) : lv.mine = true ∧ v = .ref a := by
  cases lv with
  | val _ => cases e
  | own _ _ | itr _ _ => cases v with
    | ref b => cases e; exact ⟨rfl, rfl⟩
    | _ => cases e

noncomputable def Oadd (O : OSet) (p : Option Addr) : OSet := fun b => O b ∨ p = some b

section
variable {Γ : Cx} {H : Hm} {O : OSet} {loc : Loc} {h h' h₀ : Heap} {os : OsState} {g : Array GenState} {x : Str} {lv : LV} {v : Value}

theorem lookup_cons_self (x : Str) (lv : LV) (loc : Loc) : List.lookup x ((x, lv) :: loc) = some lv := by simp [List.lookup]
theorem lookup_cons_ne {x y : Str} (hne : y ≠ x) (lv : LV) (loc : Loc) : List.lookup y ((x, lv) :: loc) = List.lookup y loc := by
  have : (y == x) = false := by simpa using hne
  simp [List.lookup, this]

theorem Res.new_obj (r : Res H O h₀ h lv v) (hm : lv.mine = true) : ∃ a, v = .ref a ∧ lv.addr v = some a ∧ h₀.get? a = none ∧ ¬ O a ∧ H a = none ∧ ∃ o, h.get? a = some o ∧ (∀ w, o.data ≠ .cell w) ∧ (∀ es ep, o.data ≠ .dict es ep) := by
  cases lv with
  | val _ => cases hm
  | own b As =>
    refine gg fun GG hGG => ?_
    obtain ⟨a, e, h1, h2, h3, _, o, xs, n, h4, h5, h6, h7⟩ := r
    refine hGG ?_
    subst e
    exact ⟨a, rfl, rfl, h1, h2, h3, o, h4, fun w => by rw [h6]; exact fun z => (by cases z), fun _ _ => by rw [h6]; exact fun z => (by cases z)⟩
  | itr b As =>
    refine gg fun GG hGG => ?_
    obtain ⟨a, e, h1, h2, h3, _, hi⟩ := r
    obtain ⟨q, vs, h4, h5, h6⟩ := hi.obj
    refine hGG ?_
    subst e
    exact ⟨a, rfl, rfl, h1, h2, h3, q, h4, fun w => by rw [h6]; exact fun z => (by cases z), fun _ _ => by rw [h6]; exact fun z => (by cases z)⟩

theorem Res.at (r : Res H O h₀ h lv v) {h' : Heap} (k : ∀ a o, lv.addr v = some a → h.get? a = some o → h'.get? a = some o) : LVAt H (Oadd O (lv.addr v)) h' lv v := by
  cases lv with
  | val _ => exact r
  | own b As =>
    refine gg fun GG hGG => ?_
    obtain ⟨a, e, h1, h2, h3, eb, o, xs, n, h4, r⟩ := r
    refine hGG ?_
    subst e
    exact ⟨a, rfl, .inr rfl, eb, o, xs, n, k a o rfl h4, r⟩
  | itr b As =>
    refine gg fun GG hGG => ?_
    obtain ⟨a, e, h1, h2, h3, eb, r⟩ := r
    refine hGG ?_
    subst e
    exact ⟨a, rfl, .inr rfl, eb, .inl (r.at fun q h4 => k a q rfl h4)⟩

theorem LVAt.keep {lv : LV} {v : Value} (r : LVAt H O h lv v) {h' : Heap} {O' : OSet} (hO : ∀ b, O b → O' b) (k : ∀ a o, lv.mine = true → v = .ref a → h.get? a = some o → h'.get? a = some o) : LVAt H O' h' lv v := by
  cases lv with
  | val _ => exact r
  | own b As =>
    obtain ⟨a, e, h2, eb, o, xs, n, h4, r⟩ := r
    subst e
    exact ⟨a, rfl, hO a h2, eb, o, xs, n, k a o rfl rfl h4, r⟩
  | itr b As =>
    obtain ⟨a, e, h2, eb, r⟩ := r
    subst e
    exact ⟨a, rfl, hO a h2, eb, r.at fun q h4 => k a q rfl rfl h4⟩

theorem LVAt.isO {lv : LV} {v : Value} (r : LVAt H O h lv v) (hm : lv.mine = true) : ∃ a, v = .ref a ∧ O a := by
  cases lv with
  | val _ => cases hm
  | own b As => obtain ⟨a, e, h2, _⟩ := r; exact ⟨a, e, h2⟩
  | itr b As => obtain ⟨a, e, h2, _⟩ := r; exact ⟨a, e, h2⟩

/- one object of the frame's own tables (c) is changed so that x now holds v -/
theorem StH.stored (st : StH Γ H O loc h os g) (r : Res H O h₀ h lv v) (c : Addr) (hc : O c) (hsb : Heap.SameBut c h h')
    (hthere : ∃ o, h'.get? c = some o)
    (hns : ∃ m, h'.Ns Γ.env.locals m) (hx : VarIs Γ.env h' x v)
    (hv : ∀ y w, y ≠ x → VarIs Γ.env h y w → VarIs Γ.env h' y w)
    (hcells : ∀ y d, Γ.env.cells.lookup y = some d → (∃ o w, h.get? d = some o ∧ o.data = .cell w) → ∃ o w, h'.get? d = some o ∧ o.data = .cell w)
    (hfr : ∀ o, h.get? c = some o → ∃ o', h'.get? c = some o' ∧ ((∃ es ep, o.data = .dict es ep) → ∃ es ep, o'.data = .dict es ep))
    (hcl : c = Γ.env.locals ∨ ∃ y, Γ.env.cells.lookup y = some c)
    (hbase : ∀ a, lv.addr v = some a → Γ.F.h₁.get? a = none) (htab : ∀ a, lv.addr v = some a → ¬ Γ.F.tab a) :
    StH Γ H (Oadd O (lv.addr v)) ((x, lv) :: loc) h' os g := by
  have ne : ∀ a lv' y, loc.lookup y = some lv' → lv'.mine = true → VarIs Γ.env h y (.ref a) → a ≠ c := by
    intro a lv' y e m hy
    obtain ⟨h1, h2⟩ := st.apart y a lv' e m hy
    rcases hcl with rfl | ⟨z, hz⟩
    · exact h1
    · exact h2 z c hz
  have back : ∀ y w lv', y ≠ x → loc.lookup y = some lv' → VarIs Γ.env h' y w → VarIs Γ.env h y w := by
    intro y w lv' hne e hy
    obtain ⟨w', hw, _⟩ := st.vars y lv' e
    have := (hv y w' hne hw).inj hy
    subst this; exact hw
  have newa : lv.mine = true → ∃ a, v = .ref a ∧ lv.addr v = some a ∧ h₀.get? a = none ∧ ¬ O a ∧ H a = none ∧ ∃ o, h.get? a = some o ∧ (∀ w, o.data ≠ .cell w) ∧ (∀ es ep, o.data ≠ .dict es ep) := r.new_obj
  have addrMine : ∀ a, lv.addr v = some a → lv.mine = true ∧ v = .ref a := fun a e => LV.addr_mine e
  refine
  { base := fun b o e => (hsb.2 b fun z => by subst z; rw [st.obase _ hc] at e; cases e).trans (st.base b o e)
    agree := fun b o e => (hsb.2 b fun z => by subst z; rw [st.ohm _ hc] at e; cases e).trans (st.agree b o e)
    nofr := st.nofr
    os := st.os
    gens := st.gens
    obase := fun b hb => hb.elim (st.obase b) fun e => hbase b e
    otab := fun b hb => hb.elim (st.otab b) fun e => htab b e
    tabs := fun b hb => ⟨(st.tabs b hb).1, (st.tabs b hb).2.same (F := Γ.F) fun o e => ⟨o, (hsb.2 b fun z => st.otab c hc (z ▸ hb)).trans e, .refl ..⟩⟩
    ohm := fun b hb => hb.elim (st.ohm b) fun e => by
      refine gg fun GG hGG => ?_
      obtain ⟨m, e1⟩ := addrMine b e
      obtain ⟨a, e2, e3, _, _, e6, _⟩ := newa m
      refine hGG ?_
      rw [e1] at e2; cases e2; exact e6
    othere := fun b hb => by
      by_cases hbc : b = c
      · exact hbc ▸ hthere
      · rcases hb with hb | e
        · obtain ⟨o, e⟩ := st.othere b hb
          exact ⟨o, (hsb.2 b hbc).trans e⟩
        · obtain ⟨m, e1⟩ := addrMine b e
          refine gg fun GG hGG => ?_
          obtain ⟨a, e2, e3, _, _, e6, o, e7, _⟩ := newa m
          refine hGG ?_
          rw [e1] at e2; cases e2
          exact ⟨o, (hsb.2 _ hbc).trans e7⟩
    kind := st.kind
    ns := hns
    onsO := .inl st.onsO
    vars := fun y lv' e => ?_
    sep := fun y z a l1 l2 e1 e2 m1 m2 v1 v2 => ?_
    apart := fun y a l1 e1 m1 v1 => ?_
    cells := fun y d e => ⟨fun m => .inl ((st.cells y d e).1 m), hcells y d e (st.cells y d e).2⟩
    cne := st.cne
    cinj := st.cinj
    frames := ?_ }
  · by_cases hy : y = x
    · subst hy
      rw [lookup_cons_self] at e; cases e
      refine ⟨v, hx, r.at fun a o ea eo => (hsb.2 a fun z => ?_).trans eo⟩
      subst z
      refine gg fun GG hGG => ?_
      obtain ⟨m, e1⟩ := addrMine _ ea
      obtain ⟨a', e2, _, _, e5, _⟩ := newa m
      refine hGG ?_
      rw [e1] at e2; cases e2
      exact e5 hc
    · rw [lookup_cons_ne hy] at e
      obtain ⟨w, hw, hl⟩ := st.vars y lv' e
      refine ⟨w, hv y w hy hw, hl.keep (fun _ q => .inl q) fun a o m ew eo => (hsb.2 a ?_).trans eo⟩
      subst ew
      exact ne a lv' y e m hw
  · by_cases hy : y = x <;> by_cases hz : z = x
    · rw [hy, hz]
    · subst hy
      rw [lookup_cons_self] at e1; cases e1
      rw [lookup_cons_ne hz] at e2
      have := hx.inj v1
      refine gg fun GG hGG => ?_
      obtain ⟨a', ev, _, _, e5, _⟩ := newa m1
      refine hGG ?_
      rw [ev] at this; cases this
      refine gg fun GG hGG => ?_
      obtain ⟨w, hw, hl⟩ := st.vars z l2 e2
      obtain ⟨a'', ew, ho⟩ := hl.isO m2
      refine hGG ?_
      have := hw.inj (back z _ l2 hz e2 v2)
      rw [ew] at this; cases this
      exact absurd ho e5
    · subst hz
      rw [lookup_cons_self] at e2; cases e2
      rw [lookup_cons_ne hy] at e1
      have := hx.inj v2
      refine gg fun GG hGG => ?_
      obtain ⟨a', ev, _, _, e5, _⟩ := newa m2
      refine hGG ?_
      rw [ev] at this; cases this
      refine gg fun GG hGG => ?_
      obtain ⟨w, hw, hl⟩ := st.vars y l1 e1
      obtain ⟨a'', ew, ho⟩ := hl.isO m1
      refine hGG ?_
      have := hw.inj (back y _ l1 hy e1 v1)
      rw [ew] at this; cases this
      exact absurd ho e5
    · rw [lookup_cons_ne hy] at e1
      rw [lookup_cons_ne hz] at e2
      exact st.sep y z a l1 l2 e1 e2 m1 m2 (back y _ l1 hy e1 v1) (back z _ l2 hz e2 v2)
  · by_cases hy : y = x
    · subst hy
      rw [lookup_cons_self] at e1; cases e1
      have := hx.inj v1
      refine gg fun GG hGG => ?_
      obtain ⟨a', ev, _, _, e5, _, o, eo, ho, hod⟩ := newa m1
      refine hGG ?_
      rw [ev] at this; cases this
      refine ⟨fun z => e5 (z ▸ st.onsO), fun w d ed z => ?_⟩
      subst z
      refine gg fun GG hGG => ?_
      obtain ⟨_, o', w', eo', hd⟩ := st.cells w _ ed
      refine hGG ?_
      rw [eo] at eo'; cases eo'
      exact ho _ hd
    · rw [lookup_cons_ne hy] at e1
      exact st.apart y a l1 e1 m1 (back y _ l1 hy e1 v1)
  · obtain ⟨l, hl, rr⟩ := st.frames
    refine ⟨l, hl, fun env he => ?_⟩
    refine gg fun GG hGG => ?_
    obtain ⟨h1, L, o, es, ep, h2, h3, h5, h6⟩ := rr env he
    refine hGG ?_
    by_cases hL : L = c
    · subst hL
      refine gg fun GG hGG => ?_
      obtain ⟨o', e', d'⟩ := hfr o h3
      obtain ⟨es', ep', hd⟩ := d' ⟨es, ep, h5⟩
      refine hGG ?_
      exact ⟨h1, L, o', es', ep', h2, e', hd, h6⟩
    · exact ⟨h1, L, o, es, ep, h2, (hsb.2 L hL).trans h3, h5, h6⟩

end

section
variable {Γ : Cx} {H H₁ : Hm} {O O₁ : OSet} {loc : Loc} {s s₁ : Shared} {x : Str} {lv : LV} {v : Value}

/- the store of a name, told from the statement's start s -/
theorem wp_store {Q : Unit → Shared → Prop} {E : Value → Shared → Prop} (n : Nx Γ.F H O s.heap H₁ O₁ s₁.heap) {loc' : Loc} (st₀ : St Γ H O loc' s) (st : St Γ H₁ O₁ loc s₁) (r : Res H₁ O₁ s.heap s₁.heap lv v) (hx : Γ.stores x)
    (k : ∀ O₂ s₂, Nx Γ.F H O s.heap H₁ O₂ s₂.heap → St Γ H₁ O₂ ((x, lv) :: loc) s₂ → (∀ b o, s₁.heap.get? b = some o → ¬ O₁ b → s₂.heap.get? b = some o) → (∀ b, O₂ b → O₁ b ∨ lv.addr v = some b) → Q () s₂) : wpAny Γ.M Γ.A (storeName Γ.env x v) Q E s₁ := by
  have hbase : ∀ a, lv.addr v = some a → Γ.F.h₁.get? a = none := by
    intro a e
    cases hb : Γ.F.h₁.get? a with
    | none => rfl
    | some o =>
      have := st₀.base a o hb
      cases lv with
      | val _ => cases e
      | own _ _ => obtain ⟨a', ev, h1, _⟩ := r; subst ev; cases e; rw [h1] at this; cases this
      | itr _ _ => obtain ⟨a', ev, h1, _⟩ := r; subst ev; cases e; rw [h1] at this; cases this
  have htab : ∀ a, lv.addr v = some a → ¬ Γ.F.tab a := by
    intro a e hb
    obtain ⟨_, vs, this, _⟩ := st₀.tabs a hb
    cases lv with
    | val _ => cases e
    | own _ _ => obtain ⟨a', ev, h1, _⟩ := r; subst ev; cases e; rw [h1] at this; cases this
    | itr _ _ => obtain ⟨a', ev, h1, _⟩ := r; subst ev; cases e; rw [h1] at this; cases this
  have honew : ∀ b, Oadd O₁ (lv.addr v) b → O₁ b ∨ s.heap.get? b = none := by
    intro b hb
    refine hb.imp id fun e => ?_
    cases lv with
    | val _ => cases e
    | own _ _ => obtain ⟨a', ev, h1, _⟩ := r; subst ev; cases e; exact h1
    | itr _ _ => obtain ⟨a', ev, h1, _⟩ := r; subst ev; cases e; exact h1
  have fin : ∀ (c : Addr) (h' : Heap), O₁ c → (∃ o, h'.get? c = some o) → Heap.SameBut c s₁.heap h' → Nx Γ.F H O s.heap H₁ (Oadd O₁ (lv.addr v)) h' := by
    intro c h' hc ht hsb
    refine n.then (fun b o e hb _ => ⟨o, (hsb.2 b fun z => hb (z ▸ hc)).trans e, .refl ..⟩) (fun b o e _ => ?_) (.refl _) (fun b o e => .inl e) honew
    by_cases hbc : b = c
    · exact hbc ▸ ht
    · exact ⟨o, (hsb.2 b hbc).trans e⟩
  rcases hx with hl | ⟨hl, hm, hc⟩
  · obtain ⟨m, hn⟩ := st.ns
    refine wpAny_storeName_local hl hn (fun h' hn' hsb => ?_) (by rw [st.kind]; rfl)
    refine gg fun GG hGG => ?_
    obtain ⟨o', es', ep', e', d', k', f'⟩ := id hn'
    refine hGG ?_
    have ht : ∃ o, h'.get? Γ.env.locals = some o := ⟨o', e'⟩
    refine k _ _ (fin _ h' st.onsO ht hsb) (st.stored r Γ.env.locals st.onsO hsb ht ⟨_, hn'⟩ (.inl ⟨hl, _, hn', by simp⟩) (fun y w hne hv => ?_) (fun y d e ⟨o, w, eo, ed⟩ => ?_) (fun o eo => ⟨o', e', fun _ => ⟨es', ep', d'⟩⟩) (.inl rfl) hbase htab) (fun b o e hb => (hsb.2 b fun z => hb (z ▸ st.onsO)).trans e) (fun b hb => hb)
    · rcases hv with ⟨k1, m1, n1, e1⟩ | ⟨k1, c, o, l, eo, d⟩ | g
      · cases ns_fun hn n1
        exact .inl ⟨k1, _, hn', by simp [hne, e1]⟩
      · exact .inr (.inl ⟨k1, c, o, l, (hsb.2 c (st.cne _ _ l)).trans eo, d⟩)
      · exact .inr (.inr g)
    · exact ⟨o, w, (hsb.2 d (st.cne _ _ e)).trans eo, ed⟩
  · obtain ⟨c, hc⟩ := Option.isSome_iff_exists.mp hc
    refine gg fun GG hGG => ?_
    obtain ⟨hO, o, w, eo, ed⟩ := st.cells x c hc
    refine hGG ?_
    refine wpAny_storeName_cell st.kind hl hc ⟨o, eo, ed⟩ fun h' hc' hsb => ?_
    obtain ⟨o', e', d'⟩ := hc'
    have hcO := hO hm
    have hcl : Γ.env.locals ≠ c := fun z => st.cne _ _ hc z.symm
    obtain ⟨m, hn⟩ := st.ns
    have hn' : h'.Ns Γ.env.locals m := hn.sameBut hsb hcl
    refine k _ _ (fin _ h' hcO ⟨o', e'⟩ hsb) (st.stored r c hcO hsb ⟨o', e'⟩ ⟨m, hn'⟩ (.inr (.inl ⟨.inl hl, c, o', hc, e', d'⟩)) (fun y w hne hv => ?_) (fun y d e ⟨o, w, eo, ed⟩ => ?_) (fun o₂ eo₂ => ⟨o', e', fun ⟨es, ep, z⟩ => ?_⟩) (.inr ⟨x, hc⟩) hbase htab) (fun b o e hb => (hsb.2 b fun z => hb (z ▸ hcO)).trans e) (fun b hb => hb)
    · rcases hv with ⟨k1, m1, n1, e1⟩ | ⟨k1, c₂, o, l, eo, d⟩ | g
      · cases ns_fun hn n1
        exact .inl ⟨k1, _, hn', e1⟩
      · exact .inr (.inl ⟨k1, c₂, o, l, (hsb.2 c₂ fun z => hne (st.cinj _ _ _ l (z ▸ hc))).trans eo, d⟩)
      · exact .inr (.inr g)
    · by_cases hdc : d = c
      · subst hdc; exact ⟨o', _, e', d'⟩
      · exact ⟨o, w, (hsb.2 d hdc).trans eo, ed⟩
    · rw [eo] at eo₂; cases eo₂; rw [ed] at z; cases z
end

end Mine
end
section
open PySem PySem.W PyProof.Rows
set_option linter.unusedVariables false
namespace Mine

noncomputable def NoX : Exc → Loc → Prop := fun _ _ => False

section
variable {Γ : Cx} {loc : Loc} {Q : V → Loc → Prop} {QB : Bool → Loc → Prop} {QF : Fl → Loc → Prop} {X : Exc → Loc → Prop}

theorem PostX.no {H : Hm} {O : OSet} {s s' : Shared} {e : Value} (p : PostX Γ H O s NoX e s') : False := by
  obtain ⟨_, _, _, _, _, _, _, q⟩ := p; exact q
/- to tell of the locals only what the list l' tells -/
noncomputable def Loc.sub (l' l : Loc) : Prop := ∀ p ∈ l', l.lookup p.1 = some p.2
noncomputable def Loc.le (l' l : Loc) : Prop := ∀ x lv, l'.lookup x = some lv → l.lookup x = some lv
theorem Loc.le_refl (l : Loc) : l.le l := fun _ _ e => e
theorem Loc.le_trans {l l' l'' : Loc} (a : l.le l') (b : l'.le l'') : l.le l'' := fun x lv e => b x lv (a x lv e)
theorem Loc.le_cons {l l' : Loc} {x : Str} (lv : LV) (a : l.le l') (h : l.lookup x = none) : l.le ((x, lv) :: l') := fun y w e => by
  rw [lookup_cons_ne]
  · exact a y w e
  · rintro rfl; rw [h] at e; cases e
theorem exs_nil (h : QF .next loc) : Exs Γ loc [] QF X := fun H O s st => wpAny_execs_nil ⟨H, O, loc, .next, .refl .., st, rfl, h⟩

noncomputable def Fl.go (Γ : Cx) (rest : List Stmt) (Q : Fl → Loc → Prop) (X : Exc → Loc → Prop) : Fl → Loc → Prop
  | .next, l => Exs Γ l rest Q X
  | .brk, l => Q .brk l
  | .cont, l => Q .cont l
  | .ret A, l => Q (.ret A) l

theorem exs_cons {st : Stmt} {rest : List Stmt} (h : Ex1 Γ loc st (Fl.go Γ rest QF X) X) : Exs Γ loc (st :: rest) QF X := by
  intro H O s hs
  refine wpAny_execs_cons (wpAny_mono (h H O s hs) (fun f s₁ p => ?_) fun _ _ p => p)
  refine gg fun GG hGG => ?_
  obtain ⟨H₁, O₁, l₁, fl, n₁, st₁, r₁, q₁⟩ := p
  refine hGG ?_
  cases fl with
  | next => cases r₁; exact wpAny_mono (q₁ H₁ O₁ s₁ st₁) (fun _ _ p => p.back n₁) fun _ _ p => p.back n₁
  | brk => cases r₁; exact ⟨H₁, O₁, l₁, .brk, n₁, st₁, rfl, q₁⟩
  | cont => cases r₁; exact ⟨H₁, O₁, l₁, .cont, n₁, st₁, rfl, q₁⟩
  | ret A => obtain ⟨v, rfl, hv⟩ := r₁; exact ⟨H₁, O₁, l₁, .ret A, n₁, st₁, ⟨v, rfl, hv⟩, q₁⟩

theorem ex_assign {x pos' value pos} (h : Ev Γ loc value (fun lv l => QF .next ((x, lv) :: l)) X) (hx : Γ.stores x)
    (hs : swapsWith value (some (.Name x pos')) pos.line Γ.env = pure false := by rfl) : Ex1 Γ loc (.Assign [.Name x pos'] value pos) QF X := by
  intro H O s hs₀
  refine wpAny_Assign_Name (wpAny_mono (h H O s hs₀) (fun v s₁ p => ?_) fun _ _ p => p) hs
  refine gg fun GG hGG => ?_
  obtain ⟨H₁, O₁, l₁, lv, n₁, st₁, r₁, q₁⟩ := p
  refine hGG ?_
  exact wp_store n₁ hs₀ st₁ r₁ hx fun O₂ s₂ n₂ st₂ _ _ => ⟨H₁, O₂, _, .next, n₂, st₂, rfl, q₁⟩

theorem ex_if {test body orelse pos} (h : Tst Γ loc test (fun b l => if b then Exs Γ l body QF X else Exs Γ l orelse QF X) X) : Ex1 Γ loc (.If test body orelse pos) QF X := by
  intro H O s hs
  refine wpAny_If (wpAny_mono (h H O s hs) (fun b s₁ p => ?_) fun _ _ p => p)
  refine gg fun GG hGG => ?_
  obtain ⟨H₁, O₁, l₁, n₁, st₁, q₁⟩ := p
  refine hGG ?_
  cases b with
  | true => exact wpAny_mono (q₁ H₁ O₁ s₁ st₁) (fun _ _ p => p.back n₁) fun _ _ p => p.back n₁
  | false => exact wpAny_mono (q₁ H₁ O₁ s₁ st₁) (fun _ _ p => p.back n₁) fun _ _ p => p.back n₁

theorem ex_return {e pos} (h : Ev Γ loc e (VQ fun A l => QF (.ret A) l) X) : Ex1 Γ loc (.Return (some e) pos) QF X := by
  intro H O s hs
  refine wpAny_Return_some (wpAny_mono (h H O s hs) (fun v s₁ p => ?_) fun _ _ p => p)
  refine gg fun GG hGG => ?_
  obtain ⟨H₁, O₁, l₁, lv, n₁, st₁, r₁, q₁⟩ := p
  refine hGG ?_
  cases lv with
  | own _ _ => exact q₁.elim
  | itr _ _ => exact q₁.elim
  | val A => exact ⟨H₁, O₁, l₁, .ret A, n₁, st₁, ⟨v, rfl, r₁⟩, q₁⟩

noncomputable def Fl.loop (again : Loc → Prop) (Q : Fl → Loc → Prop) : Fl → Loc → Prop
  | .next, l => again l
  | .cont, l => again l
  | .brk, l => Q .next l
  | .ret A, l => Q (.ret A) l

/-! ## tests -/

/- the test of a plain expression -/
theorem tst_val {e : Expr} (h : Ev Γ loc e (VQ fun A l => Opb Γ l truthy A QB X) X)
    (he : isTrue e Γ.env (eval e Γ.env) = (do let v ← eval e Γ.env; standAt e.pos; holding [v] (truthy v)) := by rfl) : Tst Γ loc e QB X := by
  intro H O s hs
  refine wpAny_isTrue_value (wpAny_mono (h H O s hs) (fun v s₁ p => ?_) fun _ _ p => p) he
  refine gg fun GG hGG => ?_
  obtain ⟨H₁, O₁, l₁, lv, n₁, st₁, r₁, q₁⟩ := p
  refine hGG ?_
  cases lv with
  | own _ _ => exact q₁.elim
  | itr _ _ => exact q₁.elim
  | val A => exact wpAny_mono (q₁ H₁ O₁ s₁ v st₁ r₁) (fun _ _ p => p.back n₁) fun _ _ p => p.back n₁

theorem tst_cmp {l op r pos} (h : Ev Γ loc l (VQ fun A l₁ => Ev Γ l₁ r (VQ fun B l₂ => Op2 Γ l₂ (compareOp op) A B (fun C l₃ => ∃ b, C = .bool b ∧ QB b l₃) X) X) X)
    (hm : behindInMarks op r = false := by with_unfolding_all rfl) : Tst Γ loc (.Compare l [op] [r] pos) QB X := by
  intro H O s st
  refine wpAny_isTrue_Compare1 (wpAny_mono (h H O s st) (fun a s₁ p => ?_) fun _ _ p => p) hm
  refine gg fun GG hGG => ?_
  obtain ⟨H₁, O₁, l₁, lv, n₁, st₁, r₁, q₁⟩ := p
  refine hGG ?_
  cases lv with
  | own _ _ => exact q₁.elim
  | itr _ _ => exact q₁.elim
  | val A =>
    refine wpAny_mono (q₁ H₁ O₁ s₁ st₁) (fun b s₂ p => ?_) fun _ _ p => p.back n₁
    refine gg fun GG hGG => ?_
    obtain ⟨H₂, O₂, l₂, lv, n₂, st₂, r₂, q₂⟩ := p
    refine hGG ?_
    cases lv with
    | own _ _ => exact q₂.elim
    | itr _ _ => exact q₂.elim
    | val B =>
      refine wpAny_mono (q₂ H₂ O₂ s₂ a b st₂ (Rep.mono n₂.hle _ _ r₁) r₂) (fun c s₃ p => ?_) fun _ _ p => p.back (n₁.trans n₂)
      refine gg fun GG hGG => ?_
      obtain ⟨H₃, O₃, l₃, lv, n₃, st₃, r₃, q₃⟩ := p
      refine hGG ?_
      cases lv with
      | own _ _ => exact q₃.elim
      | itr _ _ => exact q₃.elim
      | val C =>
        obtain ⟨b, rfl, q⟩ := q₃
        cases Rep.bool_of (H := H₃) r₃
        exact wpAny_truthy_bool ⟨H₃, O₃, l₃, (n₁.trans n₂).trans n₃, st₃, q⟩

theorem tst_not {e pos} (h : Tst Γ loc e (fun b l => QB (!b) l) X) : Tst Γ loc (.UnaryOp .Not e pos) QB X := by
  intro H O s hs
  exact wpAny_isTrue_Not (wpAny_mono (h H O s hs) (fun b s₁ z => by obtain ⟨H₁, O₁, l₁, n₁, st₁, q₁⟩ := z; exact ⟨H₁, O₁, l₁, n₁, st₁, q₁⟩) fun _ _ p => p)

/- and, or in a test -/
noncomputable def All (Γ : Cx) (loc : Loc) (op : BoolOp) (es : List Expr) (Q : Bool → Loc → Prop) (X : Exc → Loc → Prop) : Prop :=
  ∀ H O s, St Γ H O loc s → wpAny Γ.M Γ.A (allTrue op es Γ.env) (PostB Γ H O s Q) (PostX Γ H O s X) s
theorem tst_bool {op es pos} (h : All Γ loc op es QB X) : Tst Γ loc (.BoolOp op es pos) QB X := fun H O s hs => wpAny_isTrue_BoolOp (h H O s hs)
theorem all_and_nil (h : QB true loc) : All Γ loc .And [] QB X := fun H O s hs => wpAny_allTrue_And_nil ⟨H, O, loc, .refl .., hs, h⟩
theorem all_or_nil (h : QB false loc) : All Γ loc .Or [] QB X := fun H O s hs => wpAny_allTrue_Or_nil ⟨H, O, loc, .refl .., hs, h⟩
theorem all_and {e es} (h : Tst Γ loc e (fun b l => if b then All Γ l .And es QB X else QB false l) X) : All Γ loc .And (e :: es) QB X := by
  intro H O s hs
  refine wpAny_allTrue_And_cons (wpAny_mono (h H O s hs) (fun b s₁ p => ?_) fun _ _ p => p)
  refine gg fun GG hGG => ?_
  obtain ⟨H₁, O₁, l₁, n₁, st₁, q₁⟩ := p
  refine hGG ?_
  cases b with
  | true => exact wpAny_mono (q₁ H₁ O₁ s₁ st₁) (fun _ _ p => p.back n₁) fun _ _ p => p.back n₁
  | false => exact ⟨H₁, O₁, l₁, n₁, st₁, q₁⟩
theorem all_or {e es} (h : Tst Γ loc e (fun b l => if b then QB true l else All Γ l .Or es QB X) X) : All Γ loc .Or (e :: es) QB X := by
  intro H O s hs
  refine wpAny_allTrue_Or_cons (wpAny_mono (h H O s hs) (fun b s₁ p => ?_) fun _ _ p => p)
  refine gg fun GG hGG => ?_
  obtain ⟨H₁, O₁, l₁, n₁, st₁, q₁⟩ := p
  refine hGG ?_
  cases b with
  | false => exact wpAny_mono (q₁ H₁ O₁ s₁ st₁) (fun _ _ p => p.back n₁) fun _ _ p => p.back n₁
  | true => exact ⟨H₁, O₁, l₁, n₁, st₁, q₁⟩

theorem ev_ifexp {test body orelse pos} {QL : LV → Loc → Prop} (h : Tst Γ loc test (fun b l => if b then Ev Γ l body QL X else Ev Γ l orelse QL X) X) : Ev Γ loc (.IfExp test body orelse pos) QL X := by
  intro H O s hs
  refine wpAny_IfExp (wpAny_mono (h H O s hs) (fun b s₁ p => ?_) fun _ _ p => p)
  refine gg fun GG hGG => ?_
  obtain ⟨H₁, O₁, l₁, n₁, st₁, q₁⟩ := p
  refine hGG ?_
  cases b with
  | true => exact wpAny_mono (q₁ H₁ O₁ s₁ st₁) (fun _ _ p => p.back n₁) fun _ _ p => p.back n₁
  | false => exact wpAny_mono (q₁ H₁ O₁ s₁ st₁) (fun _ _ p => p.back n₁) fun _ _ p => p.back n₁

theorem ev_un {op e pos} (h : Ev Γ loc e (VQ fun A l => Op1 Γ l (unaryOp op) A Q X) X) : Ev Γ loc (.UnaryOp op e pos) (VQ Q) X := by
  intro H O s hs
  refine wpAny_UnaryOp (wpAny_mono (h H O s hs) (fun v s₁ p => ?_) fun _ _ p => p)
  refine gg fun GG hGG => ?_
  obtain ⟨H₁, O₁, l₁, lv, n₁, st₁, r₁, q₁⟩ := p
  refine hGG ?_
  cases lv with
  | own _ _ => exact q₁.elim
  | itr _ _ => exact q₁.elim
  | val A => exact wpAny_mono (q₁ H₁ O₁ s₁ v st₁ r₁) (fun _ _ p => p.back n₁) fun _ _ p => p.back n₁
end
end Mine
end
section
open PySem PySem.W PyProof.Rows
set_option linter.unusedVariables false
namespace Mine

noncomputable def V.items : V → List V
  | .lst As => As
  | .tup As => As
  | .rng a b c => (List.range (Builtin.Range.rangeSize a b c).toNat).map fun i => .int (a + (i : Nat) * c)
  | _ => []
noncomputable def V.iter : V → Prop
  | .lst _ => True
  | .tup _ => True
  | .rng a b c => Builtin.Range.small a b c = true
  | _ => False

structure Itn (Γ : Cx) (H : Hm) (As : List V) (I : Addr) (fp : List Addr) (W : Nat → Heap → Prop) (P : Nat → Value → Prop) : Prop where
  walks : Walks Γ.F.prog Γ.F.w Γ.A I fp [I] As.length P W
  item : ∀ i v, i < As.length → P i v → ∃ A, As[i]? = some A ∧ Rep H A v
  fp : ∀ b ∈ fp, b = I ∨ ∃ o, H b = some o
  obj : ∀ i h, W i h → ∃ o vs, h.get? I = some o ∧ o.data = .fields vs

theorem rangeSize_nonneg (a b c : Int) : 0 ≤ Builtin.Range.rangeSize a b c := by
  unfold Builtin.Range.rangeSize
  split
  · split
    · have : 0 ≤ (b - a - 1) / c := Int.ediv_nonneg (by lia) (by lia)
      omega
    · omega
  · split
    · have : 0 ≤ (a - b - 1) / (-c) := Int.ediv_nonneg (by lia) (by omega)
      omega
    · omega

section
variable {Γ : Cx} {loc : Loc} {Q : V → Loc → Prop} {QB : Bool → Loc → Prop} {QF : Fl → Loc → Prop} {X : Exc → Loc → Prop}

theorem wp_iter {H : Hm} {O : OSet} {s : Shared} {A : V} {v : Value} {Q : Value → Shared → Prop} {E : Value → Shared → Prop} (st : St Γ H O loc s) (r : Rep H A v) (hi : A.iter) (hh : Γ.A.handled = none)
    (k : ∀ I fp W P (h' : Heap), Itn Γ H A.items I fp W P → W 0 h' → s.heap.get? I = none → (∀ b o, s.heap.get? b = some o → h'.get? b = some o) → (∃ o, h'.get? I = some o) → Q (.ref I) { s with heap := h' }) :
    wpAny Γ.M Γ.A (pyIter v) Q E s := by
  have fresh : s.heap.get? s.heap.objs.size = none := Heap.get?_none_of_le (Nat.le_refl _)
  cases A with
  | lst As =>
    refine gg fun GG hGG => ?_
    obtain ⟨a, o, xs, n, rfl, h2, h3, h4, h5⟩ := Rep.lst_of r
    refine hGG ?_
    have hl : s.heap.IsList a xs := ⟨o, st.agree _ _ h2, h3, n, h4⟩
    have hne : a ≠ s.heap.objs.size := fun e => by rw [e] at h2; have := st.agree _ _ h2; rw [fresh] at this; cases this
    refine wpAny_pyIter_list hl ?_
    have W := Walks.list (prog := Γ.F.prog) (w := Γ.F.w) hh s.heap.objs.size a hne xs
    have hlen : xs.size = As.length := by rw [← h5.length]; simp
    rw [hlen] at W
    refine k _ _ _ _ _ ⟨W, fun i v _ hv => ?_, fun b hb => ?_, fun i h hw => ?_⟩ ⟨⟨_, Heap.get?_push_size _ rfl, rfl, rfl⟩, hl.at fun o e => Heap.get?_push_of_some _ e⟩ fresh (fun b o e => Heap.get?_push_of_some _ e) ⟨_, Heap.get?_push_size _ rfl⟩
    · have hv' : xs.toList[i]? = some v := by simpa using hv
      cases hA : As[i]? with
      | none => rw [h5.get_none hA] at hv'; cases hv'
      | some B =>
        obtain ⟨y, hy, hr⟩ := h5.get hA
        rw [hy] at hv'; cases hv'
        exact ⟨B, hA, hr⟩
    · rcases List.mem_cons.mp hb with rfl | hb
      · exact .inl rfl
      · rw [List.mem_singleton.mp hb]; exact .inr ⟨o, h2⟩
    · obtain ⟨⟨q, e1, _, e3⟩, _⟩ := hw; exact ⟨q, _, e1, e3⟩
  | tup As =>
    refine gg fun GG hGG => ?_
    obtain ⟨a, o, xs, n, rfl, h2, h3, h4, h5⟩ := Rep.tup_of r
    refine hGG ?_
    have hl : s.heap.IsTuple a xs := ⟨o, st.agree _ _ h2, h3, n, h4⟩
    have hne : a ≠ s.heap.objs.size := fun e => by rw [e] at h2; have := st.agree _ _ h2; rw [fresh] at this; cases this
    refine wpAny_pyIter_tuple hl ?_
    have W := Walks.tuple (prog := Γ.F.prog) (w := Γ.F.w) hh s.heap.objs.size a hne xs
    have hlen : xs.size = As.length := by rw [← h5.length]; simp
    rw [hlen] at W
    refine k _ _ _ _ _ ⟨W, fun i v _ hv => ?_, fun b hb => ?_, fun i h hw => ?_⟩ ⟨⟨_, Heap.get?_push_size _ rfl, rfl, rfl⟩, hl.at fun o e => Heap.get?_push_of_some _ e⟩ fresh (fun b o e => Heap.get?_push_of_some _ e) ⟨_, Heap.get?_push_size _ rfl⟩
    · have hv' : xs.toList[i]? = some v := by simpa using hv
      cases hA : As[i]? with
      | none => rw [h5.get_none hA] at hv'; cases hv'
      | some B =>
        obtain ⟨y, hy, hr⟩ := h5.get hA
        rw [hy] at hv'; cases hv'
        exact ⟨B, hA, hr⟩
    · rcases List.mem_cons.mp hb with rfl | hb
      · exact .inl rfl
      · rw [List.mem_singleton.mp hb]; exact .inr ⟨o, h2⟩
    · obtain ⟨⟨q, e1, _, e3⟩, _⟩ := hw; exact ⟨q, _, e1, e3⟩
  | rng a b c =>
    refine gg fun GG hGG => ?_
    obtain ⟨q, t, u, w, rfl, hq⟩ := r
    refine hGG ?_
    have hr : IsRange s.heap q a b c t u w := st.agree _ _ hq
    refine wpAny_pyIter_range hr hi ?_
    have W := Walks.range (prog := Γ.F.prog) (w := Γ.F.w) hh s.heap.objs.size a c (Builtin.Range.rangeSize a b c).toNat
    have hlen : (V.items (.rng a b c)).length = (Builtin.Range.rangeSize a b c).toNat := by simp [V.items]
    rw [← hlen] at W
    refine k _ _ _ _ _ ⟨W, fun i v hi hv => ?_, fun b' hb => .inl (List.mem_singleton.mp hb), fun i h hw => ⟨_, _, hw, rfl⟩⟩ ?_ fresh (fun b o e => Heap.get?_push_of_some _ e) ⟨_, Heap.get?_push_size _ rfl⟩
    · obtain ⟨t, rfl⟩ := hv
      refine ⟨.int (a + (i : Nat) * c), ?_, rep_int _ _ _⟩
      have hi' : i < (Builtin.Range.rangeSize a b c).toNat := by rw [← hlen]; exact hi
      simp [V.items, hi']
    · have e0 : a + ((0 : Nat) : Int) * c = a := by simp
      have e1 : (((V.items (.rng a b c)).length : Nat) : Int) - ((0 : Nat) : Int) = Builtin.Range.rangeSize a b c := by
        rw [hlen]; have := rangeSize_nonneg a b c; lia
      show IsRangeIter _ _ (a + ((0 : Nat) : Int) * c) ((((V.items (.rng a b c)).length : Nat) : Int) - ((0 : Nat) : Int)) c
      rw [e0, e1]
      exact Heap.get?_push_size _ rfl
  | none => exact hi.elim
  | bool _ => exact hi.elim
  | int _ => exact hi.elim
  | flt _ => exact hi.elim
  | str _ => exact hi.elim
  | con _ => exact hi.elim
  | exc _ _ => exact hi.elim

theorem code_genQ {M : Model} {A : Around} {c : Code} {R : Result → Shared → Prop} {s : Shared} (h : ∀ R', R' = R → codeAny M A c R' s) : codeAny M A c R s := h R rfl
theorem ex_for {x px iter body pos} (h : Ev Γ loc iter (VQ fun A l => A.iter ∧ ∃ J : Nat → Loc → Prop, J 0 l ∧
      (∀ i B l, A.items[i]? = some B → J i l → Exs Γ ((x, .val B) :: l) body (Fl.loop (J (i + 1)) QF) NoX) ∧ (∀ l, J A.items.length l → QF .next l)) X)
    (hx : Γ.stores x) (hh : Γ.A.handled = none) (hf : ∀ x, foldedSetIterable iter Γ.env x = pure x := by intro _; rfl) : Ex1 Γ loc (.For (.Name x px) iter body [] pos) QF X := by
  intro H O s hs
  refine wpAny_For (wpAny_mono (h H O s hs) (fun v s₁ p => ?_) fun _ _ p => p) hf
  refine gg fun GG hGG => ?_
  obtain ⟨H₁, O₁, l₁, lv, n₁, st₁, r₁, q₁⟩ := p
  refine hGG ?_
  cases lv with
  | own _ _ => exact q₁.elim
  | itr _ _ => exact q₁.elim
  | val A =>
    refine gg fun GG hGG => ?_
    obtain ⟨hi, J, j0, turn, fin⟩ := q₁
    refine hGG ?_
    refine wp_iter st₁ r₁ hi hh fun I fp W P h₂ it hw hI hk hIo => ?_
    have hIs : s.heap.get? I = none := n₁.none_back hI
    have hIb : Γ.F.h₁.get? I = none := by
      cases e : Γ.F.h₁.get? I with
      | none => rfl
      | some o => have := hs.base I o e; rw [hIs] at this; cases this
    have key : ∀ i (s' : Shared), (∃ H' O' l', Nx Γ.F H O s.heap H' O' s'.heap ∧ Hle H₁ H' ∧ H' I = none ∧ ¬ O' I ∧ St Γ H' O' l' s' ∧ W i s'.heap ∧ i ≤ A.items.length ∧ J i l') →
        codeAny (model Γ.F.prog Γ.F.w) Γ.A (.forLoop (.Name x px) (.ref I) body [] Γ.env) (fun r s' => match r with | .ok f => PostF Γ H O s QF f s' | .error e => cameBackBy Γ.M Γ.A Γ.env (PostX Γ H O s X) e s') s' := by
      intro i s' hinv
      refine code_genQ fun QQ hQ => ?_
      refine codeAny_forLoop_any (fun n s' => ∃ i, n = A.items.length - i ∧ ∃ H' O' l', Nx Γ.F H O s.heap H' O' s'.heap ∧ Hle H₁ H' ∧ H' I = none ∧ ¬ O' I ∧ St Γ H' O' l' s' ∧ W i s'.heap ∧ i ≤ A.items.length ∧ J i l') ?_ (A.items.length - i) ⟨i, rfl, hinv⟩
      intro n s' hRR
      refine gg fun GG hGG => ?_
      obtain ⟨i, en, H', O', l', nx, hle, hIH, hIO, st', hw', hile, hj⟩ := hRR
      refine hGG ?_
      have fI : Foreign Γ H' O' I := { hs.foreign hIs with hm := hIH, o := hIO }
      by_cases hlt : i < A.items.length
      · refine it.walks.item i s' _ _ hlt hw' fun v h₃ tk hv hw₃ hk₃ => ?_
        obtain ⟨B, hB, hr⟩ := it.item i v hlt hv
        have st₃ : St Γ H' O' l' { s' with heap := h₃, toks := tk } := st'.extW (fun b => b = I) (fun b e => e ▸ fI) (fun b o hb e => ⟨o, hk₃ b o (fun z => hb (List.mem_singleton.mp z)) e, .refl ..⟩) st'.gens (.refl _) st'.os fun b o e => .inl e
        have nx₃ : Nx Γ.F H O s.heap H' O' h₃ := nx.then (fun b o e hb hne => ⟨o, hk₃ b o (fun z => hne (by rw [List.mem_singleton.mp z]; exact hIs)) e, .refl ..⟩)
          (fun b o e hne => ⟨o, hk₃ b o (fun z => hne (by rw [List.mem_singleton.mp z]; exact hIs)) e⟩) (.refl _) (fun b o e => .inl e) fun b e => .inl e
        show wpAny _ _ (letOwnedTupleGo (.Name x px) (.ref I) v) _ _ _
        refine wpAny_of_eq (a := ()) rfl ?_
        refine wpAny_assign_Name (wp_store (lv := .val B) nx₃ hs st₃ (Rep.mono hle _ _ hr) hx fun O₄ s₄ nx₄ st₄ ex₄ o₄ => ?_)
        have hIO₄ : ¬ O₄ I := fun z => (o₄ I z).elim hIO fun e => by cases e
        have hw₄ : W (i + 1) s₄.heap := it.walks.frame _ _ _ hw₃ fun b hb o e => ex₄ b o e fun z => by
          rcases it.fp b hb with rfl | ⟨o', eo⟩
          · exact hIO z
          · have := st'.ohm b z; rw [hle _ _ eo] at this; cases this
        have again : ∀ (H₅ : Hm) (O₅ : OSet) (l₅ : Loc) (s₅ : Shared), Nx Γ.F H' O₄ s₄.heap H₅ O₅ s₅.heap → St Γ H₅ O₅ l₅ s₅ → J (i + 1) l₅ →
            ∃ m, m < n ∧ ∃ i, m = A.items.length - i ∧ ∃ H' O' l', Nx Γ.F H O s.heap H' O' s₅.heap ∧ Hle H₁ H' ∧ H' I = none ∧ ¬ O' I ∧ St Γ H' O' l' s₅ ∧ W i s₅.heap ∧ i ≤ A.items.length ∧ J i l' := by
          intro H₅ O₅ l₅ s₅ n₅ st₅ hj₅
          obtain ⟨oI, vI, eI, dI⟩ := it.obj _ _ hw₄
          refine ⟨A.items.length - (i + 1), by omega, i + 1, rfl, H₅, O₅, l₅, nx₄.trans n₅, hle.trans n₅.hle, ?_, ?_, st₅, ?_, hlt, hj₅⟩
          · cases e : H₅ I with
            | none => rfl
            | some o =>
              rcases n₅.hnew I o e with h1 | h1 | h1
              · rw [hIH] at h1; cases h1
              · exact absurd h1 hIO₄
              · rw [eI] at h1; cases h1
          · intro z
            rcases n₅.onew I z with h1 | h1
            · exact hIO₄ h1
            · rw [eI] at h1; cases h1
          · refine it.walks.frame _ _ _ hw₄ fun b hb o e => ?_
            rcases it.fp b hb with rfl | ⟨o', eo⟩
            · obtain ⟨o', e', sm⟩ := n₅.kp _ o e hIO₄
              rw [eI] at e; cases e
              rw [e', sm.eq_of_notab (fun es ep q => by rw [dI] at q; cases q) (hs.foreign hIs).tab]
            · have e2 := st₄.agree b o' (hle _ _ eo)
              rw [e] at e2; cases e2
              exact st₅.agree b o (n₅.hle _ _ (hle _ _ eo))
        refine wpAny_mono (turn i B l' hB hj H' O₄ s₄ st₄) (fun f s₅ p => ?_) fun _ _ p => p.no.elim
        subst hQ
        refine gg fun GG hGG => ?_
        obtain ⟨H₅, O₅, l₅, fl, n₅, st₅, r₅, q₅⟩ := p
        refine hGG ?_
        have nn := nx₄.trans n₅
        cases fl with
        | next => cases r₅; exact again H₅ O₅ l₅ s₅ n₅ st₅ q₅
        | cont => cases r₅; exact again H₅ O₅ l₅ s₅ n₅ st₅ q₅
        | brk => cases r₅; exact ⟨H₅, O₅, l₅, .next, nn, st₅, rfl, q₅⟩
        | ret R => obtain ⟨v, rfl, hv⟩ := r₅; exact ⟨H₅, O₅, l₅, .ret R, nn, st₅, ⟨v, rfl, hv⟩, q₅⟩
      · have hie : i = A.items.length := by lia
        refine it.walks.done s' _ _ (hie ▸ hw') fun h₃ tk hk₃ => ?_
        have st₃ : St Γ H' O' l' { s' with heap := h₃, toks := tk } := st'.extW (fun b => b = I) (fun b e => e ▸ fI) (fun b o hb e => ⟨o, hk₃ b o (fun z => hb (List.mem_singleton.mp z)) e, .refl ..⟩) st'.gens (.refl _) st'.os fun b o e => .inl e
        have nx₃ : Nx Γ.F H O s.heap H' O' h₃ := nx.then (fun b o e hb hne => ⟨o, hk₃ b o (fun z => hne (by rw [List.mem_singleton.mp z]; exact hIs)) e, .refl ..⟩)
          (fun b o e hne => ⟨o, hk₃ b o (fun z => hne (by rw [List.mem_singleton.mp z]; exact hIs)) e⟩) (.refl _) (fun b o e => .inl e) fun b e => .inl e
        subst hQ
        exact wpAny_execs_nil ⟨H', O', l', .next, nx₃, st₃, rfl, fin l' (hie ▸ hj)⟩
    refine key 0 _ ⟨H₁, O₁, l₁, n₁.then (fun b o e _ _ => ⟨o, hk b o e, .refl ..⟩) (fun b o e _ => ⟨o, hk b o e⟩) (.refl _) (fun b o e => .inl e) (fun b e => .inl e), .refl _, ?_, ?_, ?_, hw, Nat.zero_le _, j0⟩
    · cases e : H₁ I with
      | none => rfl
      | some o => have := st₁.agree I o e; rw [hI] at this; cases this
    · intro z
      obtain ⟨o, e⟩ := st₁.othere I z
      rw [hI] at e; cases e
    · exact st₁.ext (fun b o e => ⟨o, hk b o e, .refl ..⟩) st₁.gens (.refl _) fun b o e => .inl e
end
end Mine
end
section
open PySem PySem.W PyProof.Rows
set_option linter.unusedVariables false
namespace Mine

/-! ## comprehensions -/

noncomputable def Cx.comp (Γ : Cx) (scope : Scope) (cs : List (Str × Addr)) (C : Addr) : Cx :=
  { Γ with
    env := { scope := relabel scope Γ.env, locals := C, globals := Γ.env.globals, cells := cs, qual := Γ.env.qual, func := none, code := Γ.env.code, frame := Γ.env.frame, builtins := Γ.env.builtins }
    mine := fun y => scope.names.lookup y == some .cell }

theorem cellsFrom_cases : ∀ (names : List (Str × NameKind)) (n : Nat) (acc : List (Str × Addr)) (y : Str) (c : Addr), (cellsFrom n names acc).lookup y = some c → acc.lookup y = some c ∨ n ≤ c
  | [], _, _, _, _, e => .inl e
  | (name, kind) :: r, n, acc, y, c, e => by
    unfold cellsFrom at e
    split at e
    · rcases cellsFrom_cases r _ _ y c e with h | h
      · simp only [List.lookup] at h
        split at h
        · cases h; exact .inr (Nat.le_refl _)
        · exact .inl h
      · exact .inr (by lia)
    · exact cellsFrom_cases r _ _ y c e
theorem cellsFrom_own : ∀ (names : List (Str × NameKind)) (n n₀ : Nat) (acc : List (Str × Addr)) (y : Str) (c : Addr), n₀ ≤ n → ((y, NameKind.cell) ∈ names ∨ ∀ c, acc.lookup y = some c → n₀ ≤ c) → (cellsFrom n names acc).lookup y = some c → n₀ ≤ c
  | [], _, _, _, _, _, _, h, e => by
    rcases h with h | h
    · cases h
    · exact h _ e
  | (name, kind) :: r, n, n₀, acc, y, c, hn, h, e => by
    unfold cellsFrom at e
    split at e
    · rename_i hk
      refine cellsFrom_own r (n + 1) n₀ _ y c (by lia) ?_ e
      by_cases hy : y = name
      · subst hy
        refine .inr fun c' e' => ?_
        rw [show List.lookup y ((y, n) :: acc) = some n by simp [List.lookup]] at e'
        cases e'; exact hn
      · have hb : (y == name) = false := by simpa using hy
        rcases h with h | h
        · rcases List.mem_cons.mp h with h | h
          · cases h; exact absurd rfl hy
          · exact .inl h
        · refine .inr fun c' e' => ?_
          simp [List.lookup, hb] at e'
          exact h c' e'
    · rename_i hk
      refine cellsFrom_own r n n₀ acc y c hn ?_ e
      rcases h with h | h
      · rcases List.mem_cons.mp h with h | h
        · cases h; exact absurd rfl hk
        · exact .inl h
      · exact .inr h

noncomputable def CsOk (h : Heap) (cs : List (Str × Addr)) : Prop :=
  (∀ y c, cs.lookup y = some c → ∃ o w, h.get? c = some o ∧ o.data = .cell w) ∧ ∀ x y c, cs.lookup x = some c → cs.lookup y = some c → x = y

theorem csOk_from : ∀ (names : List (Str × NameKind)) (h : Heap) (acc : List (Str × Addr)), CsOk h acc → CsOk (pushCells h names) (cellsFrom h.objs.size names acc)
  | [], _, _, x => x
  | (name, kind) :: r, h, acc, x => by
    unfold pushCells cellsFrom
    split
    · have := csOk_from r (h.push { cls := .type "cell", data := .cell none }) ((name, h.objs.size) :: acc) ⟨fun y c e => ?_, fun y z c e e' => ?_⟩
      · rwa [Heap.size_push] at this
      · simp only [List.lookup] at e
        split at e
        · cases e; exact ⟨_, _, Heap.get?_push_size _ rfl, rfl⟩
        · obtain ⟨o, w, e1, e2⟩ := x.1 y c e
          exact ⟨o, w, Heap.get?_push_of_some _ e1, e2⟩
      · have old : ∀ y, acc.lookup y = some h.objs.size → False := fun y e => by
          obtain ⟨o, w, e1, _⟩ := x.1 y _ e
          exact absurd (Heap.lt_size e1) (Nat.lt_irrefl _)
        simp only [List.lookup] at e e'
        split at e <;> split at e'
        · rename_i h1 _ h2
          have a := beq_iff_eq.mp h1; have b := beq_iff_eq.mp h2
          rw [a, b]
        · cases e; exact (old _ e').elim
        · cases e'; exact (old _ e).elim
        · exact x.2 y z c e e'
    · exact csOk_from r h acc x

section
variable {M : Model} {A : Around} {E : Value → Shared → Prop} {s : Shared}
theorem wp_compEnv {scope : Scope} {globals : Addr} {cl : List (Str × Addr)} {qual : Str} {outer : Env} {builtins : Addr} {Q : Env → Shared → Prop}
    (h : Q { scope := scope, locals := s.heap.objs.size, globals := globals, cells := cellsFrom (s.heap.objs.size + 1) scope.names cl, qual := qual, func := none, code := outer.code, frame := outer.frame, builtins := outer.builtins }
      { s with heap := pushCells (s.heap.push { cls := .type "dict", data := .dict #[] }) scope.names }) :
    wpAny M A (newFunctionEnv scope globals cl [] qual none .none (some outer) builtins) Q E s := by
  simp only [newFunctionEnv, Option.isSome_some, if_true]
  refine wpAny_bind (wpAny_alloc ?_)
  refine wpAny_bind (wpAny_layCells _ (fun name kind cells => by cases hkc : kind == NameKind.cell <;> simp [hkc]) _ _ _ _ ?_)
  rw [show ({ s with heap := s.heap.push { cls := .type "dict", data := .dict #[] } } : Shared).heap.objs.size = s.heap.objs.size + 1 from Heap.size_push ..]
  exact wpAny_bind (wpAny_pure (wpAny_pure h))
end


section
variable {Γ : Cx} {loc fr : Loc} {Q : V → Loc → Prop} {QB : Bool → Loc → Prop} {QF : Fl → Loc → Prop} {X : Exc → Loc → Prop} {scope : Scope} {cl : List (Str × Addr)}

/- what a comprehension of this frame may read: names of the frame's that are kept in cells -/
structure Frees (Γ : Cx) (loc : Loc) (scope : Scope) (cl : List (Str × Addr)) (fr : Loc) : Prop where
  clos : closureFor scope Γ.env = pure cl
  hcl : ∀ y c, cl.lookup y = some c → Γ.env.cells.lookup y = some c
  kind : scope.kind = .function
  names : ∀ y ∈ scope.names, y.2 = .local → scope.names.lookup y.1 = some .local
  fr : ∀ y lv, fr.lookup y = some lv → scope.names.lookup y = some .free ∧ (∃ B, lv = .val B) ∧ loc.lookup y = some lv ∧ (Γ.env.kindOf y = some .cell ∨ Γ.env.kindOf y = some .free) ∧
    ∀ C, (cellsFrom (C + 1) scope.names cl).lookup y = Γ.env.cells.lookup y

theorem relabel_free {env : Env} : ∀ {names : List (Str × NameKind)} {y : Str}, names.lookup y = some .free →
    (names.map fun (n, k) => if (k == NameKind.free && env.scope.kind == .function && env.kindOf n == some .cell) then (n, NameKind.cell) else (n, k)).lookup y = some .cell ∨
    (names.map fun (n, k) => if (k == NameKind.free && env.scope.kind == .function && env.kindOf n == some .cell) then (n, NameKind.cell) else (n, k)).lookup y = some .free
  | [], _, h => by simp at h
  | (n, k) :: r, y, h => by
    have ih := @relabel_free env r y
    show List.lookup y ((if (k == NameKind.free && env.scope.kind == .function && env.kindOf n == some .cell) = true then (n, NameKind.cell) else (n, k)) :: _) = _ ∨ List.lookup y ((if (k == NameKind.free && env.scope.kind == .function && env.kindOf n == some .cell) = true then (n, NameKind.cell) else (n, k)) :: _) = _
    cases hx : y == n with
    | true =>
      simp only [List.lookup_cons, hx] at h
      cases h
      by_cases hc : (NameKind.free == NameKind.free && env.scope.kind == .function && env.kindOf n == some .cell) = true
      · rw [if_pos hc]; left; simp [List.lookup_cons, hx]
      · rw [if_neg hc]; right; simp [List.lookup_cons, hx]
    | false =>
      simp only [List.lookup_cons, hx] at h
      by_cases hc : (k == NameKind.free && env.scope.kind == .function && env.kindOf n == some .cell) = true
      · rw [if_pos hc]; simp only [List.lookup_cons, hx]; exact ih h
      · rw [if_neg hc]; simp only [List.lookup_cons, hx]; exact ih h

/- the state as the comprehension's own block sees it, at its start -/
theorem StH.comp {H : Hm} {O : OSet} {h : Heap} {os : OsState} {g : Array GenState} (st : StH Γ H O loc h os g) (fs : Frees Γ loc scope cl fr) :
    StH (Γ.comp scope (cellsFrom (h.objs.size + 1) scope.names cl) h.objs.size) H (fun b => h.objs.size ≤ b ∧ ∃ o, (pushCells (h.push { cls := .type "dict", data := .dict #[] }) scope.names).get? b = some o) fr
      (pushCells (h.push { cls := .type "dict", data := .dict #[] }) scope.names) os g := by
  have keep : ∀ b o, h.get? b = some o → (pushCells (h.push { cls := .type "dict", data := .dict #[] }) scope.names).get? b = some o := fun b o e => pushCells_keeps _ _ b o (Heap.get?_push_of_some _ e)
  have fresh : ∀ b, h.objs.size ≤ b → h.get? b = none := fun b hb => Heap.get?_none_of_le hb
  have hC : (pushCells (h.push { cls := .type "dict", data := .dict #[] }) scope.names).get? h.objs.size = some { cls := .type "dict", data := .dict #[] } := pushCells_keeps _ _ _ _ (Heap.get?_push_size _ rfl)
  have cs := csOk_from scope.names (h.push { cls := .type "dict", data := .dict #[] }) cl ⟨fun y c e => by
      refine gg fun GG hGG => ?_
      obtain ⟨_, o, w, e1, e2⟩ := st.cells y c (fs.hcl y c e)
      refine hGG ?_
      exact ⟨o, w, Heap.get?_push_of_some _ e1, e2⟩, fun x y c e e' => st.cinj x y c (fs.hcl x c e) (fs.hcl y c e')⟩
  rw [Heap.size_push] at cs
  have noMine : ∀ y lv, fr.lookup y = some lv → lv.mine = true → False := fun y lv e m => by
    obtain ⟨_, ⟨B, rfl⟩, _⟩ := fs.fr y lv e; cases m
  exact
  { base := fun b o e => keep b o (st.base b o e)
    agree := fun b o e => keep b o (st.agree b o e)
    nofr := st.nofr
    os := st.os
    gens := st.gens
    obase := fun b hb => by
      show Γ.F.h₁.get? b = none
      cases e : Γ.F.h₁.get? b with
      | none => rfl
      | some o => have := st.base b o e; rw [fresh b hb.1] at this; cases this
    otab := fun b hb z => by obtain ⟨_, vs, e, _⟩ := st.tabs b z; rw [fresh b hb.1] at e; cases e
    tabs := fun b hb => ⟨(st.tabs b hb).1, (st.tabs b hb).2.same (F := Γ.F) fun o e => ⟨o, keep b o e, .refl ..⟩⟩
    ohm := fun b hb => by
      cases e : H b with
      | none => rfl
      | some o => have := st.agree b o e; rw [fresh b hb.1] at this; cases this
    othere := fun b hb => hb.2
    kind := fs.kind
    ns := ⟨_, (Heap.Ns.new h (.type "dict")).keeps (pushCells_keeps _ _)⟩
    onsO := ⟨Nat.le_refl _, _, hC⟩
    vars := fun y lv e => by
      refine gg fun GG hGG => ?_
      obtain ⟨h1, ⟨B, rfl⟩, h3, h4, h5⟩ := fs.fr y lv e
      obtain ⟨v, hv, hl⟩ := st.vars y _ h3
      refine hGG ?_
      refine ⟨v, ?_, hl⟩
      rcases hv with ⟨k1, _⟩ | ⟨k1, c, o, l, eo, d⟩ | ⟨k1, _⟩
      · rw [k1] at h4; rcases h4 with h4 | h4 <;> cases h4
      · exact .inr (.inl ⟨relabel_free h1, c, o, (h5 _).trans l, keep c o eo, d⟩)
      · rw [k1] at h4; rcases h4 with h4 | h4 <;> cases h4
    sep := fun x y a lv lv' e _ m _ _ _ => (noMine x lv e m).elim
    apart := fun x a lv e m _ => (noMine x lv e m).elim
    cells := fun y c e => by
      refine ⟨fun m => ?_, cs.1 y c e⟩
      obtain ⟨o, w, e1, _⟩ := cs.1 y c e
      have m' : scope.names.lookup y = some .cell := beq_iff_eq.mp m
      have := cellsFrom_own scope.names (h.objs.size + 1) (h.objs.size + 1) cl y c (Nat.le_refl _) (.inl (mem_of_lookup m')) e
      exact ⟨by lia, o, e1⟩
    cne := fun y c e z => by
      obtain ⟨o, w, e1, e2⟩ := cs.1 y c e
      have z' : c = h.objs.size := z
      rw [z', hC] at e1
      cases e1; cases e2
    cinj := cs.2
    frames := st.frames.same fun b o e => ⟨o, keep b o e, .refl ..⟩ }

/- the tests of a clause -/
noncomputable def Ifs (Γ : Cx) (loc : Loc) (ifs : List Expr) (b : Bool) : Prop :=
  ∀ H O s, St Γ H O loc s → wpAny Γ.M Γ.A (forIn ifs true fun c r => if r = true then do let ok ← isTrue c Γ.env (eval c Γ.env); pure (ForInStep.yield ok) else pure (ForInStep.yield r))
    (PostB Γ H O s fun r l => r = b ∧ loc.le l) (PostX Γ H O s NoX) s
theorem ifs_nil {loc : Loc} : Ifs Γ loc [] true := fun H O s st => by
  rw [List.forIn_nil]; exact wpAny_pure ⟨H, O, loc, .refl .., st, rfl, Loc.le_refl _⟩
theorem ifs_one {loc : Loc} {c : Expr} {b : Bool} (h : Tst Γ loc c (fun r l => r = b ∧ loc.le l) NoX) : Ifs Γ loc [c] b := fun H O s st => by
  rw [List.forIn_cons]
  simp only [if_true]
  refine wpAny_bind (wpAny_bind (wpAny_mono (h H O s st) (fun r s₁ p => wpAny_pure ?_) fun _ _ p => p))
  show wpAny _ _ (forIn [] r _) _ _ _
  rw [List.forIn_nil]; exact wpAny_pure p

/- what a comprehension has to be shown of: its element, under the clause's name and the free names -/
structure CompOk (Γ : Cx) (scope : Scope) (cl : List (Str × Addr)) (fr : Loc) (x : Str) (ifs : List Expr) (elt : Expr) (As : List V) (f : V → V) (p : V → Bool) : Prop where
  hx : scope.names.lookup x = some .local ∨ scope.names.lookup x = some .cell
  xfr : fr.lookup x = none
  hifs : ∀ B ∈ As, ∀ C, Ifs (Γ.comp scope (cellsFrom (C + 1) scope.names cl) C) ((x, .val B) :: fr) ifs (p B)
  helt : ∀ B ∈ As, p B = true → ∀ C, Ev (Γ.comp scope (cellsFrom (C + 1) scope.names cl) C) ((x, .val B) :: fr) elt (VQ fun R l => R = f B ∧ fr.le l) NoX

theorem cellsFrom_some : ∀ (names : List (Str × NameKind)) (n : Nat) (acc : List (Str × Addr)) (y : Str), ((y, NameKind.cell) ∈ names ∨ (acc.lookup y).isSome = true) → ((cellsFrom n names acc).lookup y).isSome = true
  | [], _, _, _, h => by
    rcases h with h | h
    · cases h
    · exact h
  | (name, kind) :: r, n, acc, y, h => by
    unfold cellsFrom
    split
    · refine cellsFrom_some r _ _ y ?_
      by_cases hy : y = name
      · right; subst hy; simp [List.lookup]
      · have hb : (y == name) = false := by simpa using hy
        rcases h with h | h
        · rcases List.mem_cons.mp h with h | h
          · cases h; exact absurd rfl hy
          · exact .inl h
        · right; simp [List.lookup, hb, h]
    · rename_i hk
      refine cellsFrom_some r _ _ y ?_
      rcases h with h | h
      · rcases List.mem_cons.mp h with h | h
        · cases h; exact absurd rfl hk
        · exact .inl h
      · exact .inr h
theorem relabel_cell {env : Env} : ∀ {names : List (Str × NameKind)} {y : Str}, names.lookup y = some .cell →
    (names.map fun (n, k) => if (k == NameKind.free && env.scope.kind == .function && env.kindOf n == some .cell) then (n, NameKind.cell) else (n, k)).lookup y = some .cell
  | [], _, h => by simp at h
  | (n, k) :: r, y, h => by
    have ih := @relabel_cell env r y
    show List.lookup y ((if (k == NameKind.free && env.scope.kind == .function && env.kindOf n == some .cell) = true then (n, NameKind.cell) else (n, k)) :: _) = _
    cases hx : y == n with
    | true =>
      simp only [List.lookup_cons, hx] at h
      cases h
      simp [List.lookup_cons, hx]
    | false =>
      simp only [List.lookup_cons, hx] at h
      by_cases hc : (k == NameKind.free && env.scope.kind == .function && env.kindOf n == some .cell) = true
      · rw [if_pos hc]; simp only [List.lookup_cons, hx]; exact ih h
      · rw [if_neg hc]; simp only [List.lookup_cons, hx]; exact ih h

theorem comp_stores {x : Str} {C : Addr} (hx : scope.names.lookup x = some .local ∨ scope.names.lookup x = some .cell) : (Γ.comp scope (cellsFrom (C + 1) scope.names cl) C).stores x := by
  rcases hx with hx | hx
  · exact .inl (lookup_relabel_local hx)
  · exact .inr ⟨relabel_cell hx, beq_iff_eq.mpr hx, cellsFrom_some _ _ _ _ (.inl (mem_of_lookup hx))⟩

/- what a comprehension leaves -/
structure CompEnd (Γ : Cx) (H : Hm) (O : OSet) (loc : Loc) (s₂ : Shared) (I : Addr) (Rs : List V) (D C : Addr) (s' : Shared) : Prop where
  mk ::
  is : ∃ H' m xs, Hle H H' ∧ (∀ b o, H' b = some o → H b = some o ∨ s₂.heap.get? b = none) ∧ (∀ b o, s₂.heap.get? b = some o → b ≠ I → ∃ o', s'.heap.get? b = some o' ∧ Same Γ.F b o o') ∧
    St Γ H' O loc s' ∧ s₂.heap.get? D = none ∧ s₂.heap.get? C = none ∧ D ≠ C ∧ H' D = none ∧ H' C = none ∧ s'.heap.Ns C m ∧
    s'.heap.PlainList D xs ∧ Reps H' Rs xs.toList

/- the state within a comprehension's loop -/
structure Lp (Γ Γc : Cx) (H : Hm) (s₂ : Shared) (I D : Addr) (W : Nat → Heap → Prop) (fr : Loc) (i : Nat) (Rs : List V) (H' : Hm) (O' : OSet) (lc : Loc) (s' : Shared) : Prop where
  hle : Hle H H'
  hnew : ∀ b o, H' b = some o → H b = some o ∨ s₂.heap.get? b = none
  kp : ∀ b o, s₂.heap.get? b = some o → b ≠ I → ∃ o', s'.heap.get? b = some o' ∧ Same Γ.F b o o'
  st : St Γc H' O' lc s'
  le : fr.le lc
  onew : ∀ b, O' b → s₂.heap.get? b = none ∧ b ≠ D
  dnone : H' D = none
  inone : H' I = none
  w : W i s'.heap
  d : ∃ xs, s'.heap.PlainList D xs ∧ Reps H' Rs xs.toList

theorem Lp.step {Γc : Cx} {H H' H'' : Hm} {O' O'' : OSet} {s₂ s' s'' : Shared} {I D : Addr} {As : List V} {fp : List Addr} {W : Nat → Heap → Prop} {P : Nat → Value → Prop} {i : Nat} {Rs : List V} {lc lc' : Loc}
    (it : Itn Γ H As I fp W P) (hF : Γc.F = Γ.F) (hI : ∃ o, s₂.heap.get? I = some o) (hIt : ¬ Γ.F.tab I) (L : Lp Γ Γc H s₂ I D W fr i Rs H' O' lc s') (n : Nx Γ.F H' O' s'.heap H'' O'' s''.heap) (st : St Γc H'' O'' lc' s'') (hle : fr.le lc') :
    Lp Γ Γc H s₂ I D W fr i Rs H'' O'' lc' s'' := by
  obtain ⟨xs, hl, hr⟩ := L.d
  obtain ⟨nD, eD⟩ := id hl
  obtain ⟨oI, vI, eI, dI⟩ := it.obj i _ L.w
  have hOD : ¬ O' D := fun z => (L.onew D z).2 rfl
  have hOI : ¬ O' I := fun z => by obtain ⟨o, e⟩ := hI; rw [(L.onew I z).1] at e; cases e
  have back : ∀ b, s'.heap.get? b = none → s₂.heap.get? b = none := by
    intro b e
    cases e2 : s₂.heap.get? b with
    | none => rfl
    | some o =>
      by_cases hb : b = I
      · subst hb; rw [eI] at e; cases e
      · obtain ⟨o', e', _⟩ := L.kp b o e2 hb; rw [e] at e'; cases e'
  have noneOf : ∀ b, H' b = none → ¬ O' b → (∃ o, s'.heap.get? b = some o) → H'' b = none := by
    intro b h1 h2 ⟨o, h3⟩
    cases e : H'' b with
    | none => rfl
    | some q =>
      rcases n.hnew b q e with h | h | h
      · rw [h1] at h; cases h
      · exact absurd h h2
      · rw [h3] at h; cases h
  refine ⟨L.hle.trans n.hle, fun b o e => ?_, fun b o e hb => ?_, st, hle, fun b z => ?_, noneOf D L.dnone hOD ⟨_, eD⟩, noneOf I L.inone hOI ⟨oI, eI⟩, ?_, ?_⟩
  · rcases n.hnew b o e with h | h | h
    · exact L.hnew b o h
    · exact .inr (L.onew b h).1
    · exact .inr (back b h)
  · obtain ⟨o', e', sm⟩ := L.kp b o e hb
    obtain ⟨o'', e'', sm'⟩ := n.kp b o' e' fun z => by rw [(L.onew b z).1] at e; cases e
    exact ⟨o'', e'', sm.trans sm'⟩
  · rcases n.onew b z with h | h
    · exact L.onew b h
    · exact ⟨back b h, fun q => by subst q; rw [eD] at h; cases h⟩
  · refine it.walks.frame _ _ _ L.w fun b hb o e => ?_
    rcases it.fp b hb with rfl | ⟨o', eo⟩
    · obtain ⟨o', e', sm⟩ := n.kp _ o e hOI
      rw [eI] at e; cases e
      rw [e', sm.eq_of_notab (fun es ep q => by rw [dI] at q; cases q) hIt]
    · have e2 := L.st.agree b o' (L.hle _ _ eo)
      rw [e] at e2; cases e2
      exact st.agree b o (n.hle _ _ (L.hle _ _ eo))
  · obtain ⟨o', e', sm⟩ := n.kp D _ eD hOD
    have : o' = _ := sm.eq_of_data ⟨fun es ep z => (by cases z), by simp⟩
    subst this
    exact ⟨xs, ⟨nD, e'⟩, hr.mono n.hle⟩

theorem Loc.le.both {x : Str} {lv : LV} {l l' : Loc} (h : l.le l') : Loc.le ((x, lv) :: l) ((x, lv) :: l') := by
  intro y lv' e
  by_cases hy : y = x
  · subst hy; rw [lookup_cons_self] at e ⊢; exact e
  · rw [lookup_cons_ne hy] at e ⊢; exact h y lv' e
theorem wp_comp_block {elt iter : Expr} {x : Str} {px : Pos} {ifs : List Expr} {pos : Pos} {A : V} {f : V → V} {p : V → Bool} {H : Hm} {O : OSet} {s₂ : Shared} {I : Addr} {fp : List Addr} {W : Nat → Heap → Prop} {P : Nat → Value → Prop}
    {RR : Value → Addr → Result → Shared → Prop} {E : Value → Shared → Prop}
    (st : St Γ H O loc s₂) (fs : Frees Γ loc scope cl fr) (ok : CompOk Γ scope cl fr x ifs elt A.items f p) (it : Itn Γ H A.items I fp W P) (hw : W 0 s₂.heap) (fI : Foreign Γ H O I) (hsz : A.items.length ≤ sizeLine)
    (k : ∀ D C s', CompEnd Γ H O loc s₂ I ((A.items.filter p).map f) D C s' → RR (.ref D) C (.ok .next) s') :
    wpAny Γ.M Γ.A (newList []) (fun acc s₃ => wpAny Γ.M Γ.A (newFunctionEnv scope Γ.env.globals cl [] Γ.env.qual none .none (some Γ.env)) (fun cenv s₄ =>
      codeAny Γ.M Γ.A (.compStart (.ListComp elt [⟨.Name x px, iter, ifs, 0⟩] scope pos) 0 (.ref I) acc { cenv with scope := relabel scope Γ.env }) (RR acc cenv.locals) s₄) E s₃) E s₂ := by
  refine wpAny_newObj_type (wp_compEnv ?_)
  generalize hh₃ : s₂.heap.push { cls := .type "list", dict := none, data := .seq ([] : List Value).toArray } = h₃
  have hC : h₃.objs.size = s₂.heap.objs.size + 1 := by rw [← hh₃, Heap.size_push]
  have hDn : s₂.heap.get? s₂.heap.objs.size = none := Heap.get?_none_of_le (Nat.le_refl _)
  have hCn : s₂.heap.get? h₃.objs.size = none := Heap.get?_none_of_le (by rw [hC]; exact Nat.le_succ _)
  have keep₃ : ∀ b o, s₂.heap.get? b = some o → h₃.get? b = some o := fun b o e => hh₃ ▸ Heap.get?_push_of_some _ e
  have st₃ : St Γ H O loc { s₂ with heap := h₃ } := st.ext (fun b o e => ⟨o, keep₃ b o e, .refl ..⟩) st.gens (.refl _) fun b o e => .inl e
  have stc := st₃.comp fs
  refine gg fun GG hGG => ?_
  obtain ⟨ec, mc, hΓc⟩ : ∃ ec mc, Γ.comp scope (cellsFrom (h₃.objs.size + 1) scope.names cl) h₃.objs.size = (⟨Γ.F, Γ.A, ec, mc⟩ : Cx) := ⟨_, _, rfl⟩
  refine hGG ?_
  rw [hΓc] at stc
  have hstores : (⟨Γ.F, Γ.A, ec, mc⟩ : Cx).stores x := by rw [← hΓc]; exact comp_stores ok.hx
  have hI : ∃ o, s₂.heap.get? I = some o := by obtain ⟨o, _, e, _⟩ := it.obj 0 _ hw; exact ⟨o, e⟩
  have hIlt : I < h₃.objs.size + 1 := by obtain ⟨o, e⟩ := hI; have := Heap.lt_size e; exact Nat.lt_succ_of_lt (by rw [hC]; exact Nat.lt_succ_of_lt this)
  have fD : Foreign Γ H O s₂.heap.objs.size := st.foreign hDn
  have inner : ∀ b (H' : Hm) (O' : OSet), Foreign Γ H O b → b < h₃.objs.size + 1 → H' b = none → ¬ O' b → Foreign (⟨Γ.F, Γ.A, ec, mc⟩ : Cx) H' O' b := by
    intro b H' O' fb hb h1 h2
    refine ⟨fb.base, h1, h2, fun y e => ?_, fun l hl => fb.fr l hl, fb.tab⟩
    have e' : List.lookup y (Γ.comp scope (cellsFrom (h₃.objs.size + 1) scope.names cl) h₃.objs.size).env.cells = some b := by rw [hΓc]; exact e
    rcases cellsFrom_cases _ _ _ _ _ e' with h | h
    · exact fb.cell y (fs.hcl y b h)
    · exact absurd hb (Nat.not_lt.mpr h)
  have hDlt : s₂.heap.objs.size < h₃.objs.size + 1 := by lia
  show codeAny _ _ (.compStart _ 0 (.ref I) (.ref s₂.heap.objs.size) (Γ.comp scope (cellsFrom (h₃.objs.size + 1) scope.names cl) h₃.objs.size).env) (RR (.ref s₂.heap.objs.size) h₃.objs.size) { s₂ with heap := pushCells (h₃.push { cls := .type "dict", data := .dict #[] }) scope.names }
  rw [hΓc]
  have keep₄ : ∀ b o, h₃.get? b = some o → (pushCells (h₃.push { cls := .type "dict", data := .dict #[] }) scope.names).get? b = some o := fun b o e => pushCells_keeps _ _ b o (Heap.get?_push_of_some _ e)
  have w₄ : W 0 (pushCells (h₃.push { cls := .type "dict", data := .dict #[] }) scope.names) := it.walks.frame _ _ _ hw fun b _ o e => keep₄ b o (keep₃ b o e)
  have L0 : Lp Γ (⟨Γ.F, Γ.A, ec, mc⟩ : Cx) H s₂ I s₂.heap.objs.size W fr 0 (((A.items.take 0).filter p).map f) H (fun b => h₃.objs.size ≤ b ∧ ∃ o, (pushCells (h₃.push { cls := .type "dict", data := .dict #[] }) scope.names).get? b = some o) fr { s₂ with heap := pushCells (h₃.push { cls := .type "dict", data := .dict #[] }) scope.names } := by
    refine ⟨.refl _, fun b o e => .inl e, fun b o e _ => ⟨o, keep₄ b o (keep₃ b o e), .refl ..⟩, stc, Loc.le_refl _, fun b z => ⟨Heap.get?_none_of_le (Nat.le_trans (by rw [hC]; exact Nat.le_succ _) z.1), fun q => by have := z.1; rw [q, hC] at this; exact Nat.not_succ_le_self _ this⟩, fD.hm, fI.hm, w₄, #[], ⟨0, keep₄ _ _ ?_⟩, by simpa using reps_nil _⟩
    rw [← hh₃]; exact Heap.get?_push_size _ rfl
  have loop : ∀ i (s' : Shared), (∃ H' O' lc, Lp Γ (⟨Γ.F, Γ.A, ec, mc⟩ : Cx) H s₂ I s₂.heap.objs.size W fr i (((A.items.take i).filter p).map f) H' O' lc s') → i ≤ A.items.length →
      codeAny Γ.M Γ.A (.compLoop (.ListComp elt [⟨.Name x px, iter, ifs, 0⟩] scope pos) 0 (.ref I) (.ref s₂.heap.objs.size) ec) (RR (.ref s₂.heap.objs.size) h₃.objs.size) s' := by
    intro i s' hL hi
    refine code_genQ fun QQ hQ => ?_
    refine codeAny_compLoop_tests (fun n s' => ∃ i, n = A.items.length - i ∧ i ≤ A.items.length ∧ ∃ H' O' lc, Lp Γ (⟨Γ.F, Γ.A, ec, mc⟩ : Cx) H s₂ I s₂.heap.objs.size W fr i (((A.items.take i).filter p).map f) H' O' lc s') ?_ (A.items.length - i) ⟨i, rfl, hi, hL⟩
    intro n s' hRR
    refine gg fun GG hGG => ?_
    obtain ⟨i, en, hi, H', O', lc, L⟩ := hRR
    refine hGG ?_
    have hOI : ¬ O' I := fun z => by obtain ⟨o, e⟩ := hI; rw [(L.onew I z).1] at e; cases e
    have fIc := inner I H' O' fI hIlt L.inone hOI
    by_cases hlt : i < A.items.length
    · refine it.walks.item i s' _ _ hlt L.w fun v h₅ tk hv hw₅ hk₅ => ?_
      obtain ⟨B, hB, hr⟩ := it.item i v hlt hv
      have hBm : B ∈ A.items := List.mem_of_getElem? hB
      have hk₅' : ∀ b o, b ≠ I → s'.heap.get? b = some o → h₅.get? b = some o := fun b o hb e => hk₅ b o (fun z => hb (List.mem_singleton.mp z)) e
      have hDI : s₂.heap.objs.size ≠ I := fun z => by obtain ⟨o, e⟩ := hI; rw [← z, hDn] at e; cases e
      have L₅ : Lp Γ (⟨Γ.F, Γ.A, ec, mc⟩ : Cx) H s₂ I s₂.heap.objs.size W fr (i + 1) (((A.items.take i).filter p).map f) H' O' lc { s' with heap := h₅, toks := tk } := by
        refine ⟨L.hle, L.hnew, fun b o e hb => ?_, L.st.extW (fun b => b = I) (fun b e => e ▸ fIc) (fun b o hb e => ⟨o, hk₅' b o hb e, .refl ..⟩) L.st.gens (.refl _) L.st.os (fun b o e => .inl e), L.le, L.onew, L.dnone, L.inone, hw₅, ?_⟩
        · obtain ⟨o', e', sm⟩ := L.kp b o e hb
          exact ⟨o', hk₅' b o' hb e', sm⟩
        · obtain ⟨xs, hl, hrs⟩ := L.d
          exact ⟨xs, hl.at fun o e => hk₅' _ o hDI e, hrs⟩
      have hrB : Rep H' B v := Rep.mono L.hle _ _ hr
      refine wpAny_assign_Name (wp_store (lv := .val B) (Nx.refl ..) L₅.st L₅.st hrB hstores fun O₆ s₆ n₆ st₆ ex₆ o₆ => ?_)
      have n₆' : Nx Γ.F H' O' h₅ H' O₆ s₆.heap := n₆
      have L₆ := L₅.step (Γc := ⟨Γ.F, Γ.A, ec, mc⟩) it rfl hI fI.tab n₆' st₆ (Loc.le_cons _ L₅.le ok.xfr)
      have le₆ : Loc.le ((x, .val B) :: fr) ((x, .val B) :: lc) := L.le.both
      have hifs := ok.hifs B hBm h₃.objs.size
      rw [hΓc] at hifs
      refine wpAny_mono (hifs H' O₆ s₆ (st₆.less le₆)) (fun r s₇ q => ?_) fun _ _ q => q.no.elim
      refine gg fun GG hGG => ?_
      obtain ⟨H₇, O₇, l₇, n₇, st₇, rfl, le₇⟩ := q
      refine hGG ?_
      have frle : fr.le l₇ := Loc.le_trans (Loc.le_cons (.val B) (Loc.le_refl _) ok.xfr) le₇
      have L₆' : Lp Γ (⟨Γ.F, Γ.A, ec, mc⟩ : Cx) H s₂ I s₂.heap.objs.size W fr (i + 1) (((A.items.take i).filter p).map f) H' O₆ ((x, .val B) :: fr) s₆ := ⟨L₆.hle, L₆.hnew, L₆.kp, st₆.less le₆, Loc.le_cons _ (Loc.le_refl _) ok.xfr, L₆.onew, L₆.dnone, L₆.inone, L₆.w, L₆.d⟩
      have L₇ := L₆'.step (Γc := ⟨Γ.F, Γ.A, ec, mc⟩) it rfl hI fI.tab (n₇) st₇ frle
      have htake : A.items.take (i + 1) = A.items.take i ++ [B] := by rw [List.take_add_one, hB]; rfl
      by_cases hp : p B = true
      · rw [if_pos hp]
        have helt := ok.helt B hBm hp h₃.objs.size
        rw [hΓc] at helt
        refine wpAny_mono (helt H₇ O₇ s₇ (st₇.less le₇)) (fun y s₈ q => ?_) fun _ _ q => q.no.elim
        refine gg fun GG hGG => ?_
        obtain ⟨H₈, O₈, l₈, lv, n₈, st₈, r₈, q₈⟩ := q
        refine hGG ?_
        cases lv with
        | own _ _ => exact q₈.elim
        | itr _ _ => exact q₈.elim
        | val R =>
          obtain ⟨rfl, le₈⟩ := q₈
          have L₇' : Lp Γ (⟨Γ.F, Γ.A, ec, mc⟩ : Cx) H s₂ I s₂.heap.objs.size W fr (i + 1) (((A.items.take i).filter p).map f) H₇ O₇ ((x, .val B) :: fr) s₇ := ⟨L₇.hle, L₇.hnew, L₇.kp, st₇.less le₇, Loc.le_cons _ (Loc.le_refl _) ok.xfr, L₇.onew, L₇.dnone, L₇.inone, L₇.w, L₇.d⟩
          have L₈ := L₇'.step (Γc := ⟨Γ.F, Γ.A, ec, mc⟩) it rfl hI fI.tab (n₈) st₈ le₈
          obtain ⟨xs, hl, hrs⟩ := L₈.d
          have hxs : xs.size ≤ sizeLine := by
            have h1 : xs.size = (((A.items.take i).filter p).map f).length := by rw [← hrs.length]; simp
            rw [h1, List.length_map]
            exact Nat.le_trans (List.length_filter_le _ _) (Nat.le_trans (by rw [List.length_take]; exact Nat.min_le_right _ _) hsz)
          refine wpAny_list_append_plain hl (fun h₉ hl₉ hs₉ => ?_) hxs
          have hOD : ¬ O₈ s₂.heap.objs.size := fun z => (L₈.onew _ z).2 rfl
          refine ⟨A.items.length - (i + 1), by grind, i + 1, rfl, hlt, H₈, O₈, l₈, L₈.hle, L₈.hnew, fun b o e hb => ?_, ?_, L₈.le, L₈.onew, L₈.dnone, L₈.inone, ?_, xs.push y, hl₉, ?_⟩
          · obtain ⟨o', e', sm⟩ := L₈.kp b o e hb
            exact ⟨o', (hs₉.2 b fun z => by rw [z, hDn] at e; cases e).trans e', sm⟩
          · exact L₈.st.extW (fun b => b = s₂.heap.objs.size) (fun b e => e ▸ inner _ _ _ fD hDlt L₈.dnone hOD) (fun b o hb e => ⟨o, (hs₉.2 b hb).trans e, .refl ..⟩) L₈.st.gens (.refl _) L₈.st.os (fun b o e => .inl e)
          · refine it.walks.frame _ _ _ L₈.w fun b hb o e => (hs₉.2 b fun z => ?_).trans e
            rcases it.fp b hb with h | ⟨o', eo⟩
            · exact hDI (z ▸ h)
            · rw [z] at eo; rw [fD.hm] at eo; cases eo
          · rw [htake, List.filter_append, List.map_append, Array.toList_push]
            refine hrs.append ?_
            simp only [List.filter_cons, hp, if_true, List.filter_nil, List.map_cons, List.map_nil]
            exact reps_cons r₈ (reps_nil _)
      · rw [if_neg hp]
        refine ⟨A.items.length - (i + 1), by grind, i + 1, rfl, hlt, H₇, O₇, l₇, ?_⟩
        rw [htake, List.filter_append]
        simp only [List.filter_cons, hp, Bool.false_eq_true, if_false, List.filter_nil, List.append_nil]
        exact L₇
    · have hie : i = A.items.length := by lia
      subst hie hQ
      refine it.walks.done s' _ _ L.w fun h₅ tk hk₅ => ?_
      have hk₅' : ∀ b o, b ≠ I → s'.heap.get? b = some o → h₅.get? b = some o := fun b o hb e => hk₅ b o (fun z => hb (List.mem_singleton.mp z)) e
      have hDI : s₂.heap.objs.size ≠ I := fun z => by obtain ⟨o, e⟩ := hI; rw [← z, hDn] at e; cases e
      have hCI : h₃.objs.size ≠ I := fun z => by obtain ⟨o, e⟩ := hI; rw [← z, hCn] at e; cases e
      obtain ⟨xs, hl, hrs⟩ := L.d
      obtain ⟨m, hm⟩ := L.st.ns
      have hloc : ec.locals = h₃.objs.size := congrArg (fun c : Cx => c.env.locals) hΓc.symm
      rw [hloc] at hm
      have hOC : O' h₃.objs.size := hloc ▸ L.st.onsO
      rw [List.take_length] at hrs
      refine k _ _ _ ⟨H', m, xs, L.hle, L.hnew, fun b o e hb => ?_, ?_, hDn, hCn, fun z => (L.onew _ (z ▸ hOC)).2 rfl, L.dnone, L.st.ohm _ hOC, hm.at' fun o e => hk₅' _ o hCI e, hl.at fun o e => hk₅' _ o hDI e, hrs⟩
      · obtain ⟨o', e', sm⟩ := L.kp b o e hb
        exact ⟨o', hk₅' b o' hb e', sm⟩
      · refine st.extW (fun b => b = I) (fun b e => e ▸ fI) (fun b o hb e => ?_) L.st.gens L.hle (L.st.os) fun b o e => ?_
        · obtain ⟨o', e', sm⟩ := L.kp b o e hb
          exact ⟨o', hk₅' b o' hb e', sm⟩
        · rcases L.hnew b o e with h | h
          · exact .inl h
          · refine .inr ⟨fun z => (by obtain ⟨o', e'⟩ := st.othere b z; rw [h] at e'; cases e'), hk₅' b o (fun z => by obtain ⟨o', e'⟩ := hI; rw [← z, h] at e'; cases e') (L.st.agree b o e), L.st.nofr b o e⟩
  refine codeAny_compStart_list (loop 0 _ ⟨_, _, _, L0⟩ (Nat.zero_le _)) (it.walks.self 0 _ _ _ w₄ (loop 0 _ ⟨_, _, _, L0⟩ (Nat.zero_le _)))

noncomputable def Hset (H : Hm) (a : Addr) (o : Obj) : Hm := fun b => if b = a then some o else H b
theorem Hset.le {H : Hm} {a : Addr} {o : Obj} (h : H a = none) : Hle H (Hset H a o) := fun b q e => by
  unfold Hset
  split
  · subst b; rw [h] at e; cases e
  · exact e
theorem Hset.self (H : Hm) (a : Addr) (o : Obj) : Hset H a o a = some o := by simp [Hset]
theorem Hset.cases {H : Hm} {a b : Addr} {o q : Obj} (e : Hset H a o b = some q) : (b = a ∧ q = o) ∨ H b = some q := by
  unfold Hset at e
  split at e
  · cases e; exact .inl ⟨by assumption, rfl⟩
  · exact .inr e

/- a new object is known from now on, and never changed -/
theorem StH.freeze {H : Hm} {O : OSet} {h : Heap} {os : OsState} {g : Array GenState} (st : StH Γ H O loc h os g) {a : Addr} {o : Obj} (e : h.get? a = some o) (hd : Solid o) (ho : ¬ O a) (hm : H a = none) :
    StH Γ (Hset H a o) O loc h os g :=
  st.extW (fun _ => False) (fun _ z => z.elim) (fun b q _ e => ⟨q, e, .refl ..⟩) st.gens (Hset.le hm) st.os fun b q e' => by
    rcases Hset.cases e' with ⟨rfl, rfl⟩ | h1
    · exact .inr ⟨ho, e, hd⟩
    · exact .inl h1
theorem Nx.freeze {F : Fix} {H H' : Hm} {O O' : OSet} {h h' : Heap} (n : Nx F H O h H' O' h') {a : Addr} {o : Obj} (hm : H' a = none) (hn : h.get? a = none) : Nx F H O h (Hset H' a o) O' h' :=
  n.then (fun b q e _ _ => ⟨q, e, .refl ..⟩) (fun b q e _ => ⟨q, e⟩) (Hset.le hm) (fun b q e => by
    rcases Hset.cases e with ⟨rfl, rfl⟩ | h1
    · exact .inr (.inr hn)
    · exact .inl h1) fun b e => .inl e

theorem CompEnd.fin {H H₁ : Hm} {O O₁ : OSet} {s s₁ s₂ s' : Shared} {I D C : Addr} {Rs : List V} {h'' : Heap} (ce : CompEnd Γ H₁ O₁ loc s₂ I Rs D C s') (n₁ : Nx Γ.F H O s.heap H₁ O₁ s₁.heap) (st₂ : St Γ H₁ O₁ loc s₂)
    (hk : ∀ b o, s₁.heap.get? b = some o → s₂.heap.get? b = some o) (hI : s₁.heap.get? I = none) (hsb : Heap.SameBut C s'.heap h'') :
    ∃ H' xs, Nx Γ.F H O s.heap H' O₁ h'' ∧ StH Γ H' O₁ loc h'' s'.os s'.gens ∧ s.heap.get? D = none ∧ ¬ O₁ D ∧ H' D = none ∧ h''.PlainList D xs ∧ Reps H' Rs xs.toList := by
  refine gg fun GG hGG => ?_
  obtain ⟨H', m, xs, hle, hnew, kp, st', hD, hC, hDC, hDm, hCm, hns, hl, hr⟩ := ce.is
  refine hGG ?_
  have none₁ : ∀ b, s₂.heap.get? b = none → s₁.heap.get? b = none := fun b e => by
    cases e' : s₁.heap.get? b with
    | none => rfl
    | some o => rw [hk b o e'] at e; cases e
  have fC := st₂.foreign hC
  have fD := st₂.foreign hD
  refine ⟨H', xs, n₁.then (fun b o e hb hne => ?_) (fun b o e hne => ?_) hle (fun b o e => ?_) (fun b e => .inl e), ?_, n₁.none_back (none₁ _ hD), fD.o, hDm, hl.extBut hsb.extBut hDC, hr⟩
  · obtain ⟨o', e', sm⟩ := kp b o (hk b o e) fun z => by rw [z, hI] at e; cases e
    exact ⟨o', (hsb.2 b fun z => by rw [z, none₁ _ hC] at e; cases e).trans e', sm⟩
  · obtain ⟨o', e', sm⟩ := kp b o (hk b o e) fun z => by rw [z, hI] at e; cases e
    exact ⟨o', (hsb.2 b fun z => by rw [z, none₁ _ hC] at e; cases e).trans e'⟩
  · rcases hnew b o e with h | h
    · exact .inl h
    · exact .inr (.inr (n₁.none_back (none₁ _ h)))
  · exact st'.extW (fun b => b = C) (fun b e => e ▸ { fC with hm := hCm }) (fun b o hb e => ⟨o, (hsb.2 b hb).trans e, .refl ..⟩) st'.gens (.refl _) st'.os fun b o e => .inl e

/- the list display [elt for x in iter if ..], its value never changed again -/
theorem ev_comp {elt iter : Expr} {x : Str} {px : Pos} {ifs : List Expr} {pos : Pos} (hh : Γ.A.handled = none)
    (h : Ev Γ loc iter (VQ fun A l => A.iter ∧ A.items.length ≤ sizeLine ∧ ∃ cl fr f p, Frees Γ l scope cl fr ∧ CompOk Γ scope cl fr x ifs elt A.items f p ∧ Q (.lst ((A.items.filter p).map f)) l) X)
    (hs : ∀ x, foldedSetIterable iter Γ.env x = pure x := by intro _; rfl) (hk : scope.kind = .function := by rfl) (hn : ∀ y ∈ scope.names, y.2 = .local → scope.names.lookup y.1 = some .local := by decide)
    (hc : ∃ cl, closureFor scope Γ.env = pure cl := by exact ⟨_, rfl⟩) : Ev Γ loc (.ListComp elt [⟨.Name x px, iter, ifs, 0⟩] scope pos) (VQ Q) X := by
  intro H O s hs₀
  obtain ⟨cl₀, hcl₀⟩ := hc
  rw [eval_ListComp]
  refine wpAny_comprehension_free (use := none) rfl hs hcl₀ hk hn (wpAny_mono (h H O s hs₀) (fun v s₁ p => ?_) fun _ _ p => p)
  refine gg fun GG hGG => ?_
  obtain ⟨H₁, O₁, l₁, lv, n₁, st₁, r₁, q₁⟩ := p
  refine hGG ?_
  cases lv with
  | own _ _ => exact q₁.elim
  | itr _ _ => exact q₁.elim
  | val A =>
    refine gg fun GG hGG => ?_
    obtain ⟨hi, hsz, cl, fr, f, p, fs, ok, q⟩ := q₁
    refine hGG ?_
    have hcl : cl₀ = cl := by have := hcl₀.symm.trans fs.clos; cases this; rfl
    subst hcl
    refine wp_iter st₁ r₁ hi hh fun I fp W P h₂ it hw hI hk₂ _ => ?_
    have st₂ : St Γ H₁ O₁ l₁ { s₁ with heap := h₂ } := st₁.ext (fun b o e => ⟨o, hk₂ b o e, .refl ..⟩) st₁.gens (.refl _) fun b o e => .inl e
    refine wp_comp_block (RR := fun acc C => compPost Γ.M Γ.A (PostX Γ H O s X) none (PostV Γ H O s (VQ Q)) acc C) st₂ fs ok it hw (st₁.foreign hI) hsz fun D C s' ce => ?_
    refine gg fun GG hGG => ?_
    obtain ⟨H', m, xs, e1, e2, e3, e4, e5, e6, e7, e8, e9, hns, e11⟩ := ce.is
    refine hGG ?_
    refine ⟨m, hns, fun h'' hsb => ?_⟩
    refine gg fun GG hGG => ?_
    obtain ⟨H', xs, nx, st', hD, hDO, hDm, hl, hr⟩ := ce.fin n₁ st₂ hk₂ hI hsb
    obtain ⟨no, eo⟩ := hl
    obtain ⟨o, hoo⟩ : ∃ o : Obj, o = { cls := .type "list", data := .seq xs no } := ⟨_, rfl⟩
    refine hGG ?_
    rw [← hoo] at eo
    have co : o.cls = .type "list" := by rw [hoo]
    have dO : o.data = .seq xs no := by rw [hoo]
    have hd : Solid o := ⟨fun es ep z => (by rw [dO] at z; cases z), by rw [co]; simp⟩
    exact ⟨Hset H' D o, O₁, l₁, .val (.lst ((A.items.filter p).map f)), nx.freeze hDm hD, st'.freeze eo hd hDO hDm, rep_lst (Hset.self ..) co dO (hr.mono (Hset.le hDm)), q⟩

/- y = [elt for x in iter if ..]; the list is the frame's own from now on, or never changed (own = false) -/
theorem ex_assign_comp (own : Bool) {elt iter : Expr} {x y : Str} {px py : Pos} {ifs : List Expr} {pos spos : Pos} (hh : Γ.A.handled = none) (hy : Γ.stores y)
    (h : Ev Γ loc iter (VQ fun A l => A.iter ∧ A.items.length ≤ sizeLine ∧ ∃ cl fr f p, Frees Γ l scope cl fr ∧ CompOk Γ scope cl fr x ifs elt A.items f p ∧
      ∀ b, QF .next ((y, if own then .own b ((A.items.filter p).map f) else .val (.lst ((A.items.filter p).map f))) :: l)) X)
    (hsw : swapsWith (.ListComp elt [⟨.Name x px, iter, ifs, 0⟩] scope pos) (some (.Name y py)) spos.line Γ.env = pure true := by rfl)
    (hs : ∀ x, foldedSetIterable iter Γ.env x = pure x := by intro _; rfl) (hk : scope.kind = .function := by rfl) (hn : ∀ y ∈ scope.names, y.2 = .local → scope.names.lookup y.1 = some .local := by decide)
    (hc : ∃ cl, closureFor scope Γ.env = pure cl := by exact ⟨_, rfl⟩) : Ex1 Γ loc (.Assign [.Name y py] (.ListComp elt [⟨.Name x px, iter, ifs, 0⟩] scope pos) spos) QF X := by
  intro H O s hs₀
  obtain ⟨cl₀, hcl₀⟩ := hc
  rw [exec_Assign_Name_used _ _ _ _ hsw]
  refine wpAny_bind (wpAny_standAt (wpAny_bind ?_))
  show wpAny _ _ (do let _ ← comprehension (.ListComp elt [⟨.Name x px, iter, ifs, 0⟩] scope pos) scope Γ.env _ (newList []) false (eval iter Γ.env) (some (assign (.Name y py) Γ.env))) _ _ s
  refine wpAny_bind (wpAny_mono (wpAny_comprehension_free (use := some (assign (.Name y py) Γ.env)) (Q := fun _ s' => PostF Γ H O s QF .next s') rfl hs hcl₀ hk hn
    (wpAny_mono (h H O s hs₀) (fun v s₁ p => ?_) fun _ _ p => p)) (fun _ s' hq => wpAny_pure (wpAny_pure hq)) fun _ _ p => p)
  refine gg fun GG hGG => ?_
  obtain ⟨H₁, O₁, l₁, lv, n₁, st₁, r₁, q₁⟩ := p
  refine hGG ?_
  cases lv with
  | own _ _ => exact q₁.elim
  | itr _ _ => exact q₁.elim
  | val A =>
    refine gg fun GG hGG => ?_
    obtain ⟨hi, hsz, cl, fr, f, p, fs, ok, q⟩ := q₁
    refine hGG ?_
    have hcl : cl₀ = cl := by have := hcl₀.symm.trans fs.clos; cases this; rfl
    subst hcl
    refine wp_iter st₁ r₁ hi hh fun I fp W P h₂ it hw hI hk₂ _ => ?_
    have st₂ : St Γ H₁ O₁ l₁ { s₁ with heap := h₂ } := st₁.ext (fun b o e => ⟨o, hk₂ b o e, .refl ..⟩) st₁.gens (.refl _) fun b o e => .inl e
    refine wp_comp_block (RR := fun acc C => compPost Γ.M Γ.A (PostX Γ H O s X) (some (assign (.Name y py) Γ.env)) (fun _ s' => PostF Γ H O s QF .next s') acc C) st₂ fs ok it hw (st₁.foreign hI) hsz fun D C s' ce => ?_
    refine gg fun GG hGG => ?_
    obtain ⟨_, m, _, _, _, _, _, hD₂, hC₂, hDC, _, _, hns, _⟩ := ce.is
    refine hGG ?_
    have fC := st₂.foreign hC₂
    have hCs : s.heap.get? C = none := n₁.none_back (by
      cases e : s₁.heap.get? C with
      | none => rfl
      | some o => have := hk₂ C o e; rw [hC₂] at this; cases this)
    refine gg fun GG hGG => ?_
    obtain ⟨H', xs, nx, st', hD, hDO, hDm, hl, hr⟩ := ce.fin n₁ st₂ hk₂ hI (.refl ..)
    obtain ⟨no, eo⟩ := hl
    obtain ⟨o, hoo⟩ : ∃ o : Obj, o = { cls := .type "list", data := .seq xs no } := ⟨_, rfl⟩
    refine hGG ?_
    rw [← hoo] at eo
    have co : o.cls = .type "list" := by rw [hoo]
    have dO : o.data = .seq xs no := by rw [hoo]
    have hd : Solid o := ⟨fun es ep z => (by rw [dO] at z; cases z), by rw [co]; simp⟩
    -- the list as it is kept
    obtain ⟨H₃, nx₃, st₃, r₃, hC₃⟩ : ∃ H₃, Nx Γ.F H O s.heap H₃ O₁ s'.heap ∧ StH Γ H₃ O₁ l₁ s'.heap s'.os s'.gens ∧
        Res H₃ O₁ s.heap s'.heap (if own then .own D ((A.items.filter p).map f) else .val (.lst ((A.items.filter p).map f))) (.ref D) ∧ H₃ C = none := by
      have hCm : H' C = none := by
        refine gg fun GG hGG => ?_
        obtain ⟨oC, _, _, eC, dC, _⟩ := hns
        refine hGG ?_
        cases e : H' C with
        | none => rfl
        | some q => have := st'.agree C q e; rw [eC] at this; cases this; exact absurd dC ((st'.nofr C _ e).1 _ _)
      cases own with
      | true => exact ⟨H', nx, st', ⟨D, rfl, hD, hDO, hDm, rfl, o, xs, no, eo, co, dO, by rw [hoo]; exact ⟨rfl, rfl⟩, hr⟩, hCm⟩
      | false => exact ⟨Hset H' D o, nx.freeze hDm hD, st'.freeze eo hd hDO hDm, rep_lst (Hset.self ..) co dO (hr.mono (Hset.le hDm)), by simp [Hset, hCm, Ne.symm hDC]⟩
    show wpAny _ _ (assign (.Name y py) Γ.env (.ref D)) _ _ _
    refine wpAny_assign_Name (wp_store nx₃ hs₀ st₃ r₃ hy fun O₄ s₄ nx₄ st₄ ex₄ o₄ => ?_)
    refine ⟨m, hns.at' fun o e => ex₄ C o e fC.o, fun h'' hsb => ?_⟩
    have hCO : ¬ O₄ C := fun z => by
      rcases o₄ C z with h | h
      · exact fC.o h
      · cases own with
        | true => cases h; exact hDC rfl
        | false => cases h
    refine ⟨H₃, O₄, _, .next, nx₄.then (fun b o e _ hne => ⟨o, (hsb.2 b fun z => hne (z ▸ hCs)).trans e, .refl ..⟩) (fun b o e hne => ⟨o, (hsb.2 b fun z => hne (z ▸ hCs)).trans e⟩) (.refl _) (fun b o e => .inl e) (fun b e => .inl e), ?_, rfl, q D⟩
    exact st₄.extW (fun b => b = C) (fun b e => e ▸ { fC with hm := hC₃, o := hCO }) (fun b o hb e => ⟨o, (hsb.2 b hb).trans e, .refl ..⟩) st₄.gens (.refl _) st₄.os fun b o e => .inl e
end
end Mine
end
section
open PySem PySem.W PyProof.Rows
set_option linter.unusedVariables false
namespace Mine

/-! ## exceptions in flight -/

structure FlyT (H : Hm) (O : OSet) (h₀ h : Heap) (e : Value) (x : Exc) : Prop where
  mk ::
  is : ∃ a o vs tb otb tvs, e = .ref a ∧ h₀.get? a = none ∧ ¬ O a ∧ H a = none ∧ h.get? a = some o ∧ o.cls = x.cls ∧ o.data = .fields vs ∧ ArgOk H x vs ∧
    vs[1]? = some (.ref tb) ∧ h₀.get? tb = none ∧ ¬ O tb ∧ H tb = none ∧ tb ≠ a ∧ h.get? tb = some otb ∧ otb.cls = .type "traceback" ∧ otb.data = .fields tvs ∧ 3 < tvs.size

theorem FlyT.fly {H : Hm} {O : OSet} {h₀ h : Heap} {e : Value} {x : Exc} (f : FlyT H O h₀ h e x) : Fly H O h₀ h e x := by
  obtain ⟨a, o, vs, tb, otb, tvs, h1, h2, h3, h4, h5, h6, h7, h8, k⟩ := f.is
  exact ⟨a, o, vs, h1, h2, h3, h4, h5, h6, h7, h8, .inr ⟨tb, otb, tvs, k⟩⟩

section
variable {Γ : Cx} {H H' : Hm} {O O' : OSet} {loc loc₀ : Loc} {s₀ s : Shared} {e : Value} {x : Exc} {L : Addr} {outer : List Env} {E : Value → Shared → Prop} {Q : Unit → Shared → Prop}

/- objects that are new since s₀ and no fact's are changed -/
theorem change {W : Addr → Prop} {h' : Heap} (st₀ : St Γ H O loc₀ s₀) (n : Nx Γ.F H O s₀.heap H' O' s.heap) (st : St Γ H' O' loc s)
    (hW : ∀ b, W b → s₀.heap.get? b = none ∧ H' b = none ∧ ¬ O' b) (k : ∀ b o, ¬ W b → s.heap.get? b = some o → ∃ o', h'.get? b = some o' ∧ Same Γ.F b o o') :
    Nx Γ.F H O s₀.heap H' O' h' ∧ StH Γ H' O' loc h' s.os s.gens := by
  refine ⟨n.then (fun b o e _ hne => k b o (fun z => hne (hW b z).1) e) (fun b o e hne => ?_) (.refl _) (fun b o e => .inl e) (fun b e => .inl e), ?_⟩
  · obtain ⟨o', e', _⟩ := k b o (fun z => hne (hW b z).1) e; exact ⟨o', e'⟩
  · exact st.extW W (fun b z => { st₀.foreign (hW b z).1 with hm := (hW b z).2.1, o := (hW b z).2.2 }) k st.gens (.refl _) st.os fun b o e => .inl e

theorem wp_setFlight {fa : Option Addr} (st₀ : St Γ H O loc₀ s₀) (n : Nx Γ.F H O s₀.heap H' O' s.heap) (st : St Γ H' O' loc s) (fl : FlyT H' O' s₀.heap s.heap e x)
    (k : ∀ h', Nx Γ.F H O s₀.heap H' O' h' → StH Γ H' O' loc h' s.os s.gens → FlyT H' O' s₀.heap h' e x → Q () { s with heap := h' }) : wpAny Γ.M Γ.A (setFlight e fa) Q E s := by
  refine gg fun GG hGG => ?_
  obtain ⟨a, o, vs, tb, otb, tvs, rfl, h2, h3, h4, h5, h6, h7, h8, k1, k2, k3, k4, k5, k6, k7, k8, k9⟩ := fl.is
  refine hGG ?_
  unfold setFlight
  refine wpAny_bind (wpAny_field h5 h7 k1 ?_)
  rw [if_pos (show (Value.ref tb != Value.none) = true from by simp)]
  refine wpAny_setField k6 k8 k9 ?_
  have hd := Obj.data_mapFields k8 (·.setIfInBounds 3 (fa.elim Value.none fun f => rawInt f))
  have hs := Heap.get?_update_self (Obj.mapFields (·.setIfInBounds 3 (fa.elim Value.none fun f => rawInt f))) k6 (Obj.isFreed_of_fields hd)
  obtain ⟨n', st'⟩ := change (W := fun b => b = tb) (h' := s.heap.update tb (Obj.mapFields (·.setIfInBounds 3 (fa.elim Value.none fun f => rawInt f)))) st₀ n st (fun b z => z ▸ ⟨k2, k4, k3⟩)
    fun b o hb e => ⟨o, (Heap.get?_update_other _ _ (Ne.symm hb)).trans e, .refl ..⟩
  refine k _ n' st' ⟨a, o, vs, tb, _, _, rfl, h2, h3, h4, (Heap.get?_update_other _ _ k5).trans h5, h6, h7, h8, k1, k2, k3, k4, k5, hs, (Obj.cls_mapFields _ _).trans k7, hd, by simpa using k9⟩

theorem funFrames {A : Around} {F : Fix} {h : Heap} {l : List Env} (x : FrOk A F h) (hl : A.frames = some l) : h.FunFrames F.h₁ l := by
  obtain ⟨l', hl', r⟩ := x
  rw [hl] at hl'; cases hl'
  clear hl
  induction l with
  | nil => trivial
  | cons env rest ih =>
    refine gg fun GG hGG => ?_
    obtain ⟨h1, L, o, es, ep, h2, h3, h4, h5⟩ := r env List.mem_cons_self
    refine hGG ?_
    exact ⟨h1, ⟨L, o, h2, h5, h3, fun vs z => by rw [h4] at z; cases z⟩, ih fun e he => r e (List.mem_cons_of_mem _ he)⟩

theorem slots_same {A : Around} {F : Fix} {h h' : Heap} {l : List Env} (x : FrOk A F h) (hl : A.frames = some l) (hs : Heap.SlotsOnly (l.filterMap (·.frame)) h h') : ∀ b o, h.get? b = some o → ∃ o', h'.get? b = some o' ∧ Same F b o o' := by
  obtain ⟨l', hl', r⟩ := x
  rw [hl] at hl'; cases hl'
  intro b o e
  by_cases hb : b ∈ l.filterMap (·.frame)
  · obtain ⟨sl, e'⟩ := hs.2.2 b o e
    refine gg fun GG hGG => ?_
    obtain ⟨env, he, hf⟩ := List.mem_filterMap.mp hb
    obtain ⟨h1, L, o', es, ep, h2, h3, h4, h5⟩ := r env he
    refine hGG ?_
    rw [hf] at h2; cases h2
    rw [e] at h3; cases h3
    exact ⟨_, e', .inr (.inl ⟨h5, ⟨es, ep, h4⟩, rfl, rfl, rfl⟩)⟩
  · exact ⟨o, (hs.2.1 b hb).trans e, .refl ..⟩

theorem wp_newEntry (st₀ : St Γ H O loc₀ s₀) (n : Nx Γ.F H O s₀.heap H' O' s.heap) (st : St Γ H' O' loc s) (hfr : Γ.A.frames = some (Γ.env :: outer)) (hL : Γ.env.frame = some L) {head : Value} {hadNext : Bool}
    {a : Addr} {o : Obj} {vs : Array Value} (h2 : s₀.heap.get? a = none) (h3 : ¬ O' a) (h4 : H' a = none) (h5 : s.heap.get? a = some o) (h6 : o.cls = x.cls) (h7 : o.data = .fields vs) (h8 : ArgOk H' x vs) (hsz : 1 < vs.size)
    (k : ∀ h', Nx Γ.F H O s₀.heap H' O' h' → StH Γ H' O' loc h' s.os s.gens → FlyT H' O' s₀.heap h' (.ref a) x → Q () { s with heap := h' }) :
    wpAny Γ.M Γ.A (do let f ← frameOf Γ.env; let pl ← entryPlaceOf L hadNext; let b ← EntryCells.newEntry head f .none (rawInt L) .none pl; setField (.ref a) 1 b) Q E s := by
  have hff := funFrames st.frames hfr
  refine wpAny_bind (wpAny_frameOf_fun hfr hff hL fun h₁ hs₁ => ?_)
  have same₁ := slots_same st.frames hfr hs₁
  have ha₁ : h₁.get? a = some o := by
    obtain ⟨o', e', sm⟩ := same₁ a o h5
    rw [e', sm.eq_of_notab (fun es ep z => by rw [h7] at z; cases z) (st₀.foreign h2).tab]
  refine wpAny_bind (wpAny_entryPlaceOf fun pl hpl => ?_)
  unfold EntryCells.newEntry newFields
  refine wpAny_bind (wpAny_newObj_type ?_ (hpl.sizeOk5 _ _ _ _ _))
  generalize htb : (⟨.type "traceback", none, .fields ([head, .ref L, .none, rawInt L, .none] ++ (if pl.isEmpty then List.replicate 6 Value.none else pl)).toArray, #[]⟩ : Obj) = ob
  have hobd : ob.data = .fields ([head, .ref L, .none, rawInt L, .none] ++ (if pl.isEmpty then List.replicate 6 Value.none else pl)).toArray := by rw [← htb]
  have hobc : ob.cls = .type "traceback" := by rw [← htb]
  have hfree : ob.isFreed = false := by rw [← htb]; rfl
  have ha₂ := Heap.get?_push_of_some (h := h₁) ob ha₁
  refine wpAny_setField ha₂ h7 hsz ?_
  have hTa : h₁.objs.size ≠ a := Nat.ne_of_gt (Heap.lt_size ha₁)
  have hd₃ := Obj.data_mapFields h7 (·.setIfInBounds 1 (Value.ref h₁.objs.size))
  have ha₃ := Heap.get?_update_self (Obj.mapFields (·.setIfInBounds 1 (Value.ref h₁.objs.size))) ha₂ (Obj.isFreed_of_fields hd₃)
  have hT₃ := (Heap.get?_update_other (h₁.push ob) (Obj.mapFields (·.setIfInBounds 1 (Value.ref h₁.objs.size))) (Ne.symm hTa)).trans (Heap.get?_push_size h₁ hfree)
  have hTs : s.heap.get? h₁.objs.size = none := Heap.get?_none_of_le (by rw [hs₁.1]; exact Nat.le_refl _)
  have fT := st.foreign hTs
  obtain ⟨n', st'⟩ := change (W := fun b => b = a) (h' := (h₁.push ob).update a (Obj.mapFields (·.setIfInBounds 1 (Value.ref h₁.objs.size)))) st₀ n st (fun b z => z ▸ ⟨h2, h4, h3⟩) fun b q hb e => by
    obtain ⟨q', e', sm⟩ := same₁ b q e
    exact ⟨q', (Heap.get?_update_other _ _ (Ne.symm hb)).trans (Heap.get?_push_of_some _ e'), sm⟩
  refine k _ n' st' ⟨a, _, _, h₁.objs.size, ob, _, rfl, h2, h3, h4, ha₃, (Obj.cls_mapFields _ _).trans h6, hd₃, ?_, ?_, n.none_back hTs, fT.o, fT.hm, hTa, hT₃, hobc, hobd, ?_⟩
  · have e0 : (vs.setIfInBounds 1 (Value.ref h₁.objs.size))[0]? = vs[0]? := by simp [Array.getElem?_setIfInBounds]
    have e2 : (vs.setIfInBounds 1 (Value.ref h₁.objs.size))[2]? = vs[2]? := by simp [Array.getElem?_setIfInBounds]
    unfold ArgOk
    rw [e0, e2]; exact h8
  · simp [hsz]
  · simp only [List.size_toArray, List.length_append, List.length_cons, List.length_nil]; omega

theorem wp_note (st₀ : St Γ H O loc₀ s₀) (n : Nx Γ.F H O s₀.heap H' O' s.heap) (st : St Γ H' O' loc s) (fl : Fly H' O' s₀.heap s.heap e x) (hfr : Γ.A.frames = some (Γ.env :: outer)) (hL : Γ.env.frame = some L)
    (k : ∀ h', Nx Γ.F H O s₀.heap H' O' h' → StH Γ H' O' loc h' s.os s.gens → FlyT H' O' s₀.heap h' e x → Q () { s with heap := h' }) : wpAny Γ.M Γ.A (noteFrame e Γ.env) Q E s := by
  refine gg fun GG hGG => ?_
  obtain ⟨a, o, vs, rfl, h2, h3, h4, h5, h6, h7, h8, h9⟩ := fl.is
  refine hGG ?_
  unfold noteFrame
  simp only [hL]
  rcases h9 with h9 | ⟨tb, otb, tvs, k1, k2, k3, k4, k5, k6, k7, k8, k9⟩
  · refine wpAny_bind (wpAny_field h5 h7 h9 ?_)
    rw [if_neg (by decide)]
    exact wp_newEntry st₀ n st hfr hL h2 h3 h4 h5 h6 h7 h8 (Array.getElem?_eq_some_iff.mp h9).1 k
  · refine wpAny_bind (wpAny_field h5 h7 k1 ?_)
    rw [if_pos (show (Value.ref tb != Value.none) = true from by simp)]
    obtain ⟨w, hw⟩ : ∃ w, tvs[3]? = some w := ⟨tvs[3], by simp [k9]⟩
    refine wpAny_bind (wpAny_field k6 k8 hw ?_)
    by_cases hwe : (w == rawInt L) = true
    · rw [if_pos hwe]
      exact wpAny_pure (k _ n st ⟨a, o, vs, tb, otb, tvs, rfl, h2, h3, h4, h5, h6, h7, h8, k1, k2, k3, k4, k5, k6, k7, k8, k9⟩)
    · rw [if_neg hwe]
      refine wpAny_bind (wpAny_setField k6 k8 k9 ?_)
      obtain ⟨n', st'⟩ := change (W := fun b => b = tb) (h' := s.heap.update tb (Obj.mapFields (·.setIfInBounds 3 Value.none))) st₀ n st (fun b z => z ▸ ⟨k2, k4, k3⟩)
        fun b o hb e => ⟨o, (Heap.get?_update_other _ _ (Ne.symm hb)).trans e, .refl ..⟩
      exact wp_newEntry (s := { s with heap := s.heap.update tb (Obj.mapFields (·.setIfInBounds 3 Value.none)) }) st₀ n' st' hfr hL h2 h3 h4 ((Heap.get?_update_other _ _ k5).trans h5) h6 h7 h8 (Array.getElem?_eq_some_iff.mp k1).1 k

theorem wp_leaving (st₀ : St Γ H O loc₀ s₀) (n : Nx Γ.F H O s₀.heap H' O' s.heap) (st : St Γ H' O' loc s) (fl : Fly H' O' s₀.heap s.heap e x) (hfr : Γ.A.frames = some (Γ.env :: outer)) (hL : Γ.env.frame = some L)
    (k : ∀ h', Nx Γ.F H O s₀.heap H' O' h' → StH Γ H' O' loc h' s.os s.gens → FlyT H' O' s₀.heap h' e x → Q () { s with heap := h' }) : wpAny Γ.M Γ.A (leaving Γ.env e) Q E s := by
  unfold leaving
  refine wpAny_bind (wp_note st₀ n st fl hfr hL fun h' n' st' fl' => ?_)
  exact wp_setFlight (s := { s with heap := h' }) st₀ n' st' fl' fun h'' n'' st'' fl'' => k h'' n'' st'' fl''
end
end Mine
end
section
open PySem PySem.W PyProof.Rows
set_option linter.unusedVariables false
namespace Mine

/-! ## calls of the text's own functions -/

structure Wsp (F : Fix) (A : Around) (H : Hm) (h : Heap) (os : OsState) (g : Array GenState) : Prop where
  base : ∀ b o, F.h₁.get? b = some o → h.get? b = some o
  agree : ∀ b o, H b = some o → h.get? b = some o
  nofr : ∀ b o, H b = some o → Solid o
  os : os = F.os
  gens : AllBare g
  frames : FrOk A F h
  tabs : ∀ b, F.tab b → F.h₁.get? b = none ∧ TabAt h b

theorem StH.wsp {Γ : Cx} {H : Hm} {O : OSet} {loc : Loc} {h : Heap} {os : OsState} {g : Array GenState} (st : StH Γ H O loc h os g) : Wsp Γ.F Γ.A H h os g := ⟨st.base, st.agree, st.nofr, st.os, st.gens, st.frames, st.tabs⟩

structure FnAt (F : Fix) (a : Addr) (fd : FuncData) (body : List Stmt) : Prop where
  o : ∃ o, F.h₁.get? a = some o ∧ o.data = .func fd
  lim : F.h₁.NoLimit
  cd : F.h₁.CodeRec fd.code fd.qualname
  body : fd.body = .stmts body
  clos : fd.closure = []
  co : fd.scope.isCoroutine = false
  gen : fd.scope.isGenerator = false
  kind : fd.scope.kind = .function

noncomputable def Fix.fn (F : Fix) (A : Around) (fd : FuncData) (a L : Addr) : Cx := ⟨F, A.deeper (callEnvC fd L a), callEnvC fd L a, fun _ => true⟩

/- the values handed over; what is the callee's own from now on lies in O -/
structure ArgsAt (F : Fix) (A : Around) (H : Hm) (O : OSet) (h : Heap) (lvs : List LV) (vals : List Value) : Prop where
  len : vals.length = lvs.length
  at_ : ∀ (i : Nat) (lv : LV) (v : Value), lvs[i]? = some lv → vals[i]? = some v → LVAt H O h lv v
  sep : ∀ (i j : Nat) (lv lv' : LV) (a : Addr), lvs[i]? = some lv → lvs[j]? = some lv' → lv.mine = true → lv'.mine = true → vals[i]? = some (.ref a) → vals[j]? = some (.ref a) → i = j
  own : ∀ b, O b → F.h₁.get? b = none ∧ H b = none ∧ (∃ o, h.get? b = some o ∧ ∀ es ep, o.data ≠ .dict es ep) ∧ ¬ F.tab b

noncomputable def CallQ (F : Fix) (A : Around) (H : Hm) (O : OSet) (s : Shared) (Q : V → Prop) (v : Value) (s' : Shared) : Prop :=
  ∃ H' R, Nx F H O s.heap H' (fun _ => False) s'.heap ∧ Wsp F A H' s'.heap s'.os s'.gens ∧ Rep H' R v ∧ Q R
noncomputable def CallX (F : Fix) (A : Around) (H : Hm) (O : OSet) (s : Shared) (X : Exc → Prop) (e : Value) (s' : Shared) : Prop :=
  ∃ H' x, Nx F H O s.heap H' (fun _ => False) s'.heap ∧ Wsp F A H' s'.heap s'.os s'.gens ∧ Fly H' (fun _ => False) s.heap s'.heap e x ∧ X x

theorem zip_lookup {α : Type} : ∀ {names : List Str} {xs : List α} {x : Str} {y : α}, (names.zip xs).lookup x = some y → ∃ i : Nat, names[i]? = some x ∧ xs[i]? = some y
  | [], _, _, _, h => by simp at h
  | _ :: _, [], _, _, h => by simp at h
  | n :: ns, z :: zs, x, y, h => by
    rw [List.zip_cons_cons, List.lookup_cons] at h
    cases hb : x == n with
    | true => rw [hb] at h; cases h; exact ⟨0, by rw [beq_iff_eq.mp hb]; rfl, rfl⟩
    | false =>
      rw [hb] at h
      obtain ⟨i, h1, h2⟩ := zip_lookup h
      exact ⟨i + 1, by simpa using h1, by simpa using h2⟩

theorem bindL_not {kindOf : Str → Option NameKind} : ∀ (binds : List (Str × Value)) (m : Str → Option Value) (x : Str), x ∉ binds.map (·.1) → bindL kindOf binds m x = m x
  | [], _, _, _ => rfl
  | (n, v) :: r, m, x, h => by
    simp only [List.map_cons, List.mem_cons, not_or] at h
    unfold bindL
    rw [bindL_not r _ x h.2]
    split
    · simp [h.1]
    · rfl
theorem bindL_get {kindOf : Str → Option NameKind} : ∀ (names : List Str) (vals : List Value) (m : Str → Option Value) (i : Nat) (x : Str) (v : Value), names.Nodup → names[i]? = some x → vals[i]? = some v → kindOf x = some .local → bindL kindOf (names.zip vals) m x = some v
  | [], _, _, _, _, _, _, h, _, _ => by simp at h
  | _ :: _, [], _, _, _, _, _, _, h, _ => by simp at h
  | n :: ns, w :: ws, m, 0, x, v, hn, h1, h2, hk => by
    simp at h1 h2; subst h1; subst h2
    rw [List.zip_cons_cons]
    unfold bindL
    rw [bindL_not, if_pos hk]
    · simp
    · intro hm
      obtain ⟨p, hp, he⟩ := List.mem_map.mp hm
      have := (List.of_mem_zip hp).1
      rw [he] at this
      exact (List.nodup_cons.mp hn).1 this
  | n :: ns, w :: ws, m, i + 1, x, v, hn, h1, h2, hk => by
    rw [List.zip_cons_cons]
    unfold bindL
    exact bindL_get ns ws _ i x v (List.nodup_cons.mp hn).2 (by simpa using h1) (by simpa using h2) hk
theorem bindC_not {kindOf : Str → Option NameKind} : ∀ (binds : List (Str × Value)) (m : Str → Option Value) (x : Str), x ∉ binds.map (·.1) → bindC kindOf binds m x = m x
  | [], _, _, _ => rfl
  | (n, v) :: r, m, x, h => by
    simp only [List.map_cons, List.mem_cons, not_or] at h
    unfold bindC
    rw [bindC_not r _ x h.2]
    split
    · rfl
    · simp [h.1]
theorem bindC_get {kindOf : Str → Option NameKind} : ∀ (names : List Str) (vals : List Value) (m : Str → Option Value) (i : Nat) (x : Str) (v : Value), names.Nodup → names[i]? = some x → vals[i]? = some v → kindOf x = some .cell → bindC kindOf (names.zip vals) m x = some v
  | [], _, _, _, _, _, _, h, _, _ => by simp at h
  | _ :: _, [], _, _, _, _, _, _, h, _ => by simp at h
  | n :: ns, w :: ws, m, 0, x, v, hn, h1, h2, hk => by
    simp at h1 h2; subst h1; subst h2
    rw [List.zip_cons_cons]
    unfold bindC
    rw [bindC_not, if_neg (by rw [hk]; decide)]
    · simp
    · intro hm
      obtain ⟨p, hp, he⟩ := List.mem_map.mp hm
      have := (List.of_mem_zip hp).1
      rw [he] at this
      exact (List.nodup_cons.mp hn).1 this
  | n :: ns, w :: ws, m, i + 1, x, v, hn, h1, h2, hk => by
    rw [List.zip_cons_cons]
    unfold bindC
    exact bindC_get ns ws _ i x v (List.nodup_cons.mp hn).2 (by simpa using h1) (by simpa using h2) hk

section
variable {F : Fix} {A : Around} {H : Hm} {O : OSet} {s s₁ : Shared} {fd : FuncData} {a : Addr} {body : List Stmt} {names : List Str} {lvs : List LV} {vals : List Value}

theorem enter (ws : Wsp F A H s.heap s.os s.gens) (ar : ArgsAt F A H O s.heap lvs vals) (fn : FnAt F a fd body) (hn : names.Nodup)
    (hk : ∀ x ∈ names, fd.scope.names.lookup x = some .local ∨ fd.scope.names.lookup x = some .cell) (hlen : names.length = vals.length)
    (x : InCallC s (callEnvC fd s.heap.objs.size a).locals (bindL (callEnvC fd s.heap.objs.size a).kindOf (names.zip vals) fun _ => none) (callEnvC fd s.heap.objs.size a).cells (bindC (callEnvC fd s.heap.objs.size a).kindOf (names.zip vals) fun _ => none) s₁) :
    St (F.fn A fd a s.heap.objs.size) H (fun b => O b ∨ (s.heap.get? b = none ∧ ∃ o, s₁.heap.get? b = some o)) (names.zip lvs) s₁ := by
  obtain ⟨h', tk, rfl⟩ := x.toInCall.same
  have hL : (callEnvC fd s.heap.objs.size a).locals = s.heap.objs.size := rfl
  have hLs : s.heap.get? s.heap.objs.size = none := Heap.get?_none_of_le (Nat.le_refl _)
  have keep : ∀ b o, s.heap.get? b = some o → h'.get? b = some o := x.toInCall.keep
  have ns := x.toInCall.ns
  have nsx : ∃ o, h'.get? s.heap.objs.size = some o := let ⟨o, _, _, e, _⟩ := ns; ⟨o, e⟩
  have cellNew : ∀ y c, (callEnvC fd s.heap.objs.size a).cells.lookup y = some c → s.heap.objs.size < c := fun y c e => x.above y c (mem_of_lookup e)
  have cellNone : ∀ y c, (callEnvC fd s.heap.objs.size a).cells.lookup y = some c → s.heap.get? c = none := fun y c e => Heap.get?_none_of_le (Nat.le_of_lt (cellNew y c e))
  have oOld : ∀ b, O b → ∃ o, s.heap.get? b = some o := fun b hb => let ⟨o, e, _⟩ := (ar.own b hb).2.2.1; ⟨o, e⟩
  -- what a name holds
  have isAt : ∀ y lv, (names.zip lvs).lookup y = some lv → ∃ (i : Nat) (v : Value), names[i]? = some y ∧ lvs[i]? = some lv ∧ vals[i]? = some v ∧ VarIs (callEnvC fd s.heap.objs.size a) h' y v := by
    intro y lv e
    obtain ⟨i, h1, h2⟩ := zip_lookup e
    have hi : i < vals.length := by rw [← hlen]; exact (List.getElem?_eq_some_iff.mp h1).1
    refine ⟨i, vals[i], h1, h2, by simp [hi], ?_⟩
    have hv : vals[i]? = some vals[i] := by simp [hi]
    rcases hk y (List.mem_of_getElem? h1) with hl | hc
    · exact .inl ⟨hl, _, ns, bindL_get names vals _ i y _ hn h1 hv hl⟩
    · have hcs : ((callEnvC fd s.heap.objs.size a).cells.lookup y).isSome = true := cellsFrom_some _ _ _ _ (.inl (mem_of_lookup hc))
      obtain ⟨c, hcs⟩ := Option.isSome_iff_exists.mp hcs
      obtain ⟨o, eo, dO⟩ := x.cell y c hcs
      rw [bindC_get names vals _ i y _ hn h1 hv hc] at dO
      exact .inr (.inl ⟨.inl hc, c, o, hcs, eo, dO⟩)
  have noFr : ∀ b, O b → ∀ o, s.heap.get? b = some o → ∀ es ep, o.data ≠ .dict es ep := fun b hb o e => by
    obtain ⟨o', e', d⟩ := (ar.own b hb).2.2.1
    rw [e] at e'; cases e'; exact d
  exact
  { base := fun b o e => keep b o (ws.base b o e)
    agree := fun b o e => keep b o (ws.agree b o e)
    nofr := ws.nofr
    os := ws.os
    gens := ws.gens
    obase := fun b hb => by
      rcases hb with hb | ⟨hb, _⟩
      · exact (ar.own b hb).1
      · show F.h₁.get? b = none
        cases e : F.h₁.get? b with
        | none => rfl
        | some o => have := ws.base b o e; rw [hb] at this; cases this
    otab := fun b hb z => by
      rcases hb with hb | ⟨hb, _⟩
      · exact (ar.own b hb).2.2.2 z
      · obtain ⟨_, vs, e, _⟩ := ws.tabs b z; rw [hb] at e; cases e
    tabs := fun b hb => ⟨(ws.tabs b hb).1, (ws.tabs b hb).2.same (F := F) fun o e => ⟨o, keep b o e, .refl ..⟩⟩
    ohm := fun b hb => by
      rcases hb with hb | ⟨hb, _⟩
      · exact (ar.own b hb).2.1
      · cases e : H b with
        | none => rfl
        | some o => have := ws.agree b o e; rw [hb] at this; cases this
    othere := fun b hb => by
      rcases hb with hb | ⟨_, hb⟩
      · obtain ⟨o, e⟩ := oOld b hb; exact ⟨o, keep b o e⟩
      · exact hb
    kind := fn.kind
    ns := ⟨_, ns⟩
    onsO := .inr ⟨hLs, nsx⟩
    vars := fun y lv e => by
      refine gg fun GG hGG => ?_
      obtain ⟨i, v, h1, h2, h3, h4⟩ := isAt y lv e
      refine hGG ?_
      exact ⟨v, h4, (ar.at_ i lv v h2 h3).keep (fun _ q => .inl q) fun b o _ _ e => keep b o e⟩
    sep := fun y z b l1 l2 e1 e2 m1 m2 v1 v2 => by
      refine gg fun GG hGG => ?_
      obtain ⟨i, v, h1, h2, h3, h4⟩ := isAt y l1 e1
      obtain ⟨j, w, k1, k2, k3, k4⟩ := isAt z l2 e2
      refine hGG ?_
      rw [h4.inj v1] at h3
      rw [k4.inj v2] at k3
      have := ar.sep i j l1 l2 b h2 k2 m1 m2 h3 k3
      subst this
      rw [h1] at k1; exact Option.some.inj k1
    apart := fun y b lv e m v1 => by
      refine gg fun GG hGG => ?_
      obtain ⟨i, v, h1, h2, h3, h4⟩ := isAt y lv e
      obtain ⟨b', ev, ho⟩ := (ar.at_ i lv v h2 h3).isO m
      refine hGG ?_
      have := h4.inj v1
      rw [ev] at this; cases this
      obtain ⟨o, eo⟩ := oOld b ho
      have hlt := Heap.lt_size eo
      exact ⟨Nat.ne_of_lt hlt, fun y c e => Nat.ne_of_lt (Nat.lt_trans hlt (cellNew y c e))⟩
    cells := fun y c e => by
      obtain ⟨o, eo, d⟩ := x.cell y c e
      exact ⟨fun _ => .inr ⟨cellNone y c e, o, eo⟩, o, _, eo, d⟩
    cne := fun y c e => Nat.ne_of_gt (cellNew y c e)
    cinj := fun y z c e e' => name_of_addr x.apart (mem_of_lookup e) (mem_of_lookup e')
    frames := by
      obtain ⟨l, hl, r⟩ := ws.frames
      refine ⟨callEnvC fd s.heap.objs.size a :: l, Around.frames_deeper hl, fun env he => ?_⟩
      rcases List.mem_cons.mp he with rfl | he
      · obtain ⟨o, es, ep, eo, d, _⟩ := ns
        refine ⟨by show fd.scope.kind ≠ .module; rw [fn.kind]; decide, s.heap.objs.size, o, es, ep, rfl, eo, d, ?_⟩
        show F.h₁.get? _ = none
        cases e : F.h₁.get? s.heap.objs.size with
        | none => rfl
        | some o => have := ws.base _ o e; rw [hLs] at this; cases this
      · obtain ⟨h1, L, o, es, ep, h2, h3, h4, h5⟩ := r env he
        exact ⟨h1, L, o, es, ep, h2, keep L o h3, h4, h5⟩ }

theorem frOk_out {A A' : Around} {F : Fix} {h : Heap} {env : Env} {l : List Env} (x : FrOk A' F h) (h' : A'.frames = some (env :: l)) (hl : A.frames = some l) : FrOk A F h := by
  obtain ⟨l', e, r⟩ := x
  rw [h'] at e; cases e
  exact ⟨l, hl, fun q hq => r q (List.mem_cons_of_mem _ hq)⟩

/- how a function's end is told -/
noncomputable def FnQ (Q : V → Prop) : Fl → Loc → Prop
  | .ret R, _ => Q R
  | .next, _ => Q .none
  | _, _ => False

/- a call of a function of the text's: its body under its parameters -/
theorem call_fn {args : Args} {Q : V → Prop} {X : Exc → Prop} (fn : FnAt F a fd body) (hroom : A.depth < recursionLimit) (ws : Wsp F A H s.heap s.os s.gens) (ar : ArgsAt F A H O s.heap lvs vals) (hn : names.Nodup)
    (hk : ∀ x ∈ names, fd.scope.names.lookup x = some .local ∨ fd.scope.names.lookup x = some .cell) (hlen : names.length = vals.length)
    (hbind : ∀ (Q' : List (Str × Value) → Shared → Prop) (E' : Value → Shared → Prop), Q' (names.zip vals) s → wpAny (model F.prog F.w) A.in1 (bindArgs fd args) Q' E' s)
    (h : ∀ L, Exs (F.fn A fd a L) (names.zip lvs) body (FnQ Q) (fun x _ => X x)) :
    wpAny (model F.prog F.w) A (runValue (.call (.ref a) args)) (CallQ F A H O s Q) (CallX F A H O s X) s := by
  obtain ⟨o, ho, hd⟩ := fn.o
  refine wpAny_runValue (codeAny_call_function hroom (ws.base _ _ ho) hd fn.co fn.gen fn.body (fn.cd.keeps ws.base) (hbind _ _ ?_))
  rw [fn.clos]
  refine wpAny_newFunctionEnv_cells fn.kind (fun x hx => ?_) fun env he s₁ hin => ?_
  · obtain ⟨y, v⟩ := x
    rcases hk y (List.of_mem_zip hx).1 with h1 | h1
    · exact .inl h1
    · exact .inr ⟨h1, cellsFrom_some _ _ _ _ (.inl (mem_of_lookup h1))⟩
  subst he
  refine ⟨(fn.lim.keeps ws.base).keeps hin.toInCall.keep, codeAny_func ?_⟩
  have st := enter ws ar fn hn hk hlen hin
  have keep := hin.toInCall.keep
  have out : ∀ (H' : Hm) (O' : OSet) (h' : Heap), Nx F H (fun b => O b ∨ (s.heap.get? b = none ∧ ∃ o, s₁.heap.get? b = some o)) s₁.heap H' O' h' → Nx F H O s.heap H' (fun _ => False) h' := by
    intro H' O' h' n
    refine ⟨fun b o e hb => ?_, fun b o e => n.there b o (keep b o e), n.hle, fun b o e => ?_, fun b z => z.elim⟩
    · exact n.kp b o (keep b o e) fun z => z.elim hb fun q => by rw [q.1] at e; cases e
    · rcases n.hnew b o e with h1 | h1 | h1
      · exact .inl h1
      · exact .inr (h1.imp id fun q => q.1)
      · refine .inr (.inr ?_)
        cases e' : s.heap.get? b with
        | none => rfl
        | some q => rw [keep b q e'] at h1; cases h1
  obtain ⟨l, hl, _⟩ := ws.frames
  have hfr : (F.fn A fd a s.heap.objs.size).A.frames = some ((F.fn A fd a s.heap.objs.size).env :: l) := Around.frames_deeper hl
  have wout : ∀ (H' : Hm) (O' : OSet) (loc : Loc) (h' : Heap) (os : OsState) (g : Array GenState), StH (F.fn A fd a s.heap.objs.size) H' O' loc h' os g → Wsp F A H' h' os g :=
    fun H' O' loc h' os g st => ⟨st.base, st.agree, st.nofr, st.os, st.gens, frOk_out st.frames hfr hl, st.tabs⟩
  refine wpAny_mono (h s.heap.objs.size H _ s₁ st) (fun f s' p => ?_) fun e s' p => ?_
  · obtain ⟨H', O', l', fl, n, st', r, q⟩ := p
    cases fl with
    | ret R =>
      obtain ⟨v, rfl, hr⟩ := r
      exact ⟨H', R, out _ _ _ n, wout _ _ _ _ _ _ st', hr, q⟩
    | next => cases r; exact ⟨H', .none, out _ _ _ n, wout _ _ _ _ _ _ st', rep_none _, q⟩
    | brk => exact q.elim
    | cont => exact q.elim
  · obtain ⟨H', O', l', x, n, st', fl, q⟩ := p
    refine wp_leaving (Γ := F.fn A fd a s.heap.objs.size) (L := s.heap.objs.size) st n st' fl hfr rfl fun h' n' st'' fl' => ?_
    refine ⟨H', x, out _ _ _ n', wout _ _ _ _ _ _ st'', ?_, q⟩
    refine gg fun GG hGG => ?_
    obtain ⟨b, o, vs, tb, otb, tvs, e1, e2, e3, e4, e5, e6, e7, e8, k1, k2, k3⟩ := fl'.is
    refine hGG ?_
    have nb : ∀ b, s₁.heap.get? b = none → s.heap.get? b = none := fun b e => by
      cases e' : s.heap.get? b with
      | none => rfl
      | some q => rw [keep b q e'] at e; cases e
    exact ⟨b, o, vs, e1, nb b e2, id, e4, e5, e6, e7, e8, .inr ⟨tb, otb, tvs, k1, nb tb k2, id, k3.2⟩⟩
end
end Mine
end
section
open PySem PySem.W PyProof.Rows
set_option linter.unusedVariables false
namespace Mine

structure Room (A : Around) (d : Nat) : Prop where
  handled : A.handled = none
  depth : A.depth + d < recursionLimit
  units : A.units + 3 * d + 100 < cLine
theorem Room.deeper {A : Around} {d : Nat} (r : Room A (d + 1)) (env : Env) : Room (A.deeper env) d :=
  ⟨r.handled, by show A.depth + 1 + d < recursionLimit; have := r.depth; lia, by show A.units + 3 + 3 * d + 100 < cLine; have := r.units; lia⟩
theorem Room.less {A : Around} {d d' : Nat} (r : Room A d) (h : d' ≤ d) : Room A d' := ⟨r.handled, by have := r.depth; lia, by have := r.units; lia⟩

/- a global name of the text's, or a built-in one -/
noncomputable def GlobAt (F : Fix) (x : Str) (v : Value) : Prop :=
  (∃ mg, F.h₁.Ns mainGlobals mg ∧ mg x = some v) ∨ (∃ mg mb, F.h₁.Ns mainGlobals mg ∧ mg x = none ∧ F.h₁.Ns builtinsNs mb ∧ mb x = some v)

section
variable {Γ : Cx} {loc : Loc} {Q : V → Loc → Prop} {QL : LV → Loc → Prop} {QB : Bool → Loc → Prop} {QF : Fl → Loc → Prop} {X : Exc → Loc → Prop}

theorem wp_glob {M : Model} {A : Around} {E : Value → Shared → Prop} {H : Hm} {O : OSet} {s : Shared} {x : Str} {v : Value} {Q : Value → Shared → Prop} (st : St Γ H O loc s) (g : GlobAt Γ.F x v) (h : Q v s)
    (hg : Γ.env.globals = mainGlobals) (hb : Γ.env.builtins = builtinsNs) : wpAny M A (loadGlobal Γ.env x) Q E s := by
  rcases g with ⟨mg, h1, h2⟩ | ⟨mg, mb, h1, h2, h3, h4⟩
  · exact Calls.loadGlobal_global (hg ▸ h1.keeps st.base) h2 h
  · exact Calls.loadGlobal_builtin (hg ▸ h1.keeps st.base) h2 (hb ▸ h3.keeps st.base) h4 h

theorem ev_glob {x : Str} {pos} {v : Value} (g : GlobAt Γ.F x v) (h : Q (.con v) loc) (hk : Γ.env.kindOf x = some .globalImplicit := by rfl) (hg : Γ.env.globals = mainGlobals := by rfl) (hb : Γ.env.builtins = builtinsNs := by rfl)
    (hd : (x == ("__debug__" : Str)) = false := by decide) : Ev Γ loc (.Name x pos) (VQ Q) X :=
  fun H O s st => Calls.Name_function_global st.kind hk (wp_glob st g (PostV.here' st (rep_con _ _) h) hg hb) hd

/- values that wait for a call -/
structure Temps (H : Hm) (O : OSet) (h₀ h : Heap) (lvs : List LV) (vs : List Value) : Prop where
  len : vs.length = lvs.length
  at_ : ∀ (i : Nat) (lv : LV) (v : Value), lvs[i]? = some lv → vs[i]? = some v → Res H O h₀ h lv v
  sep : ∀ (i j : Nat) (lv lv' : LV) (a : Addr), lvs[i]? = some lv → lvs[j]? = some lv' → lv.mine = true → lv'.mine = true → vs[i]? = some (.ref a) → vs[j]? = some (.ref a) → i = j

noncomputable def PostA (Γ : Cx) (H : Hm) (O : OSet) (s : Shared) (Q : List LV → Loc → Prop) (vs : List Value) (s' : Shared) : Prop :=
  ∃ H' O' loc' lvs, Nx Γ.F H O s.heap H' O' s'.heap ∧ St Γ H' O' loc' s' ∧ Temps H' O' s.heap s'.heap lvs vs ∧ Q lvs loc'
noncomputable def Args' (Γ : Cx) (loc : Loc) (pos : Pos) (es : List Expr) (Q : List LV → Loc → Prop) (X : Exc → Loc → Prop) : Prop :=
  ∀ H O s, St Γ H O loc s → wpAny Γ.M Γ.A (spliced (backTo pos (starEach es Γ.env))) (PostA Γ H O s Q) (PostX Γ H O s X) s
noncomputable def Kws (Γ : Cx) (loc : Loc) (ts : List (Sem Value)) (Q : List LV → Loc → Prop) (X : Exc → Loc → Prop) : Prop :=
  ∀ H O s, St Γ H O loc s → wpAny Γ.M Γ.A (evalAll ts) (PostA Γ H O s Q) (PostX Γ H O s X) s

theorem Temps.nil (H : Hm) (O : OSet) (h₀ h : Heap) : Temps H O h₀ h [] [] := ⟨rfl, fun i lv v e _ => by simp at e, fun i j lv lv' a e => by simp at e⟩

/- a waiting value outlives the next one's evaluation -/
theorem Res.on {F : Fix} {H₁ H₂ : Hm} {O₁ O₂ : OSet} {h₀ h₁ h₂ : Heap} {lv : LV} {v : Value} (r : Res H₁ O₁ h₀ h₁ lv v) (n : Nx F H₁ O₁ h₁ H₂ O₂ h₂) : Res H₂ O₂ h₀ h₂ lv v := by
  cases lv with
  | val A => exact Rep.mono n.hle _ _ r
  | own b As =>
    refine gg fun GG hGG => ?_
    obtain ⟨a, e, h1, h2, h3, eb, o, xs, k, h4, h5, h6, h8, h7⟩ := r
    obtain ⟨o', e', sm⟩ := n.kp a o h4 h2
    refine hGG ?_
    have : o' = o := sm.eq_of_data ⟨fun es ep z => (by rw [h6] at z; cases z), by rw [h5]; simp⟩
    subst this
    refine ⟨a, e, h1, fun z => (n.onew a z).elim h2 fun q => (by rw [h4] at q; cases q), ?_, eb, o', xs, k, e', h5, h6, h8, h7.mono n.hle⟩
    cases q : H₂ a with
    | none => rfl
    | some w => rcases n.hnew a w q with z | z | z
                · rw [h3] at z; cases z
                · exact absurd z h2
                · rw [h4] at z; cases z
  | itr b As =>
    refine gg fun GG hGG => ?_
    obtain ⟨a, e, h1, h2, h3, eb, hi⟩ := r
    obtain ⟨o, vs, h4, h5, h6⟩ := hi.obj
    refine hGG ?_
    refine ⟨a, e, h1, fun z => (n.onew a z).elim h2 fun q => (by rw [h4] at q; cases q), ?_, eb, hi.same n.hle fun o e => n.kp a o e h2⟩
    cases q : H₂ a with
    | none => rfl
    | some w => rcases n.hnew a w q with z | z | z
                · rw [h3] at z; cases z
                · exact absurd z h2
                · rw [h4] at z; cases z

theorem Temps.cons {F : Fix} {H : Hm} {O : OSet} {H₁ H₂ : Hm} {O₁ O₂ : OSet} {h₀ h₁ h₂ : Heap} {lv : LV} {v : Value} {lvs : List LV} {vs : List Value} (n₀ : Nx F H O h₀ H₁ O₁ h₁) (r : Res H₁ O₁ h₀ h₁ lv v) (n : Nx F H₁ O₁ h₁ H₂ O₂ h₂) (t : Temps H₂ O₂ h₁ h₂ lvs vs) :
    Temps H₂ O₂ h₀ h₂ (lv :: lvs) (v :: vs) := by
  have r' := r.on n
  have new : lv.mine = true → ∃ a, v = .ref a ∧ ∃ o, h₁.get? a = some o := fun m => by obtain ⟨a, e, _, _, _, _, o, e', _⟩ := r.new_obj m; exact ⟨a, e, o, e'⟩
  have ne : ∀ (j : Nat) (lv' : LV) (a : Addr), lvs[j]? = some lv' → lv.mine = true → lv'.mine = true → v = .ref a → vs[j]? = some (.ref a) → False := by
    intro j lv' a e m m' ev ew
    obtain ⟨a', e1, o, e2⟩ := new m
    rw [ev] at e1; cases e1
    obtain ⟨a'', e3, _, e4, _⟩ := (t.at_ j lv' _ e ew).new_obj m'
    cases e3
    rw [e2] at e4; cases e4
  refine ⟨by simp [t.len], fun i w u e e' => ?_, fun i j w w' a e e' m m' ev ew => ?_⟩
  · cases i with
    | zero => simp at e e'; subst e; subst e'; exact r'
    | succ i => exact (t.at_ i w u (by simpa using e) (by simpa using e')).back n₀
  · cases i with
    | zero =>
      cases j with
      | zero => rfl
      | succ j =>
        simp at e ev; subst e
        exact (ne j w' a (by simpa using e') m m' ev (by simpa using ew)).elim
    | succ i =>
      cases j with
      | zero =>
        simp at e' ew; subst e'
        exact (ne i w a (by simpa using e) m' m ew (by simpa using ev)).elim
      | succ j => rw [t.sep i j w w' a (by simpa using e) (by simpa using e') m m' (by simpa using ev) (by simpa using ew)]

theorem args_nil {pos : Pos} {QA : List LV → Loc → Prop} (h : QA [] loc) : Args' Γ loc pos [] QA X :=
  fun H O s st => wpAny_items_nil ⟨H, O, loc, [], .refl .., st, .nil .., h⟩
theorem args_cons {pos : Pos} {e : Expr} {es : List Expr} {QA : List LV → Loc → Prop} (h : Ev Γ loc e (fun lv l => Args' Γ l pos es (fun lvs l' => QA (lv :: lvs) l') X) X)
    (he : starEach (e :: es) Γ.env = (false, eval e Γ.env) :: starEach es Γ.env := by rfl) : Args' Γ loc pos (e :: es) QA X := by
  intro H O s st
  refine wpAny_items_cons (wpAny_mono (h H O s st) (fun v s₁ p => ?_) fun _ _ p => p) he
  refine gg fun GG hGG => ?_
  obtain ⟨H₁, O₁, l₁, lv, n₁, st₁, r₁, q₁⟩ := p
  refine hGG ?_
  refine wpAny_mono (q₁ H₁ O₁ s₁ st₁) (fun vs s₂ p => ?_) fun _ _ p => p.back n₁
  refine gg fun GG hGG => ?_
  obtain ⟨H₂, O₂, l₂, lvs, n₂, st₂, t₂, q₂⟩ := p
  refine hGG ?_
  exact ⟨H₂, O₂, l₂, lv :: lvs, n₁.trans n₂, st₂, .cons n₁ r₁ n₂ t₂, q₂⟩
theorem kws_nil {QA : List LV → Loc → Prop} (h : QA [] loc) : Kws Γ loc [] QA X :=
  fun H O s st => wpAny_evalAll_nil ⟨H, O, loc, [], .refl .., st, .nil .., h⟩
theorem kws_cons {pos : Pos} {e : Expr} {ts : List (Sem Value)} {QA : List LV → Loc → Prop} (h : Ev Γ loc e (fun lv l => Kws Γ l ts (fun lvs l' => QA (lv :: lvs) l') X) X) :
    Kws Γ loc ((do let v ← eval e Γ.env; standAt pos; pure v) :: ts) QA X := by
  intro H O s st
  refine wpAny_evalAll_cons (wpAny_bind (wpAny_mono (h H O s st) (fun v s₁ p => ?_) fun _ _ p => p))
  refine gg fun GG hGG => ?_
  obtain ⟨H₁, O₁, l₁, lv, n₁, st₁, r₁, q₁⟩ := p
  refine hGG ?_
  refine wpAny_bind (wpAny_standAt (wpAny_pure ?_))
  refine wpAny_mono (q₁ H₁ O₁ s₁ st₁) (fun vs s₂ p => ?_) fun _ _ p => p.back n₁
  refine gg fun GG hGG => ?_
  obtain ⟨H₂, O₂, l₂, lvs, n₂, st₂, t₂, q₂⟩ := p
  refine hGG ?_
  exact ⟨H₂, O₂, l₂, lv :: lvs, n₁.trans n₂, st₂, .cons n₁ r₁ n₂ t₂, q₂⟩

theorem Temps.append {F : Fix} {H : Hm} {O : OSet} {H₁ H₂ : Hm} {O₁ O₂ : OSet} {h₀ h₁ h₂ : Heap} {lvs lws : List LV} {vs ws : List Value} (n₀ : Nx F H O h₀ H₁ O₁ h₁) (t : Temps H₁ O₁ h₀ h₁ lvs vs) (n : Nx F H₁ O₁ h₁ H₂ O₂ h₂) (t' : Temps H₂ O₂ h₁ h₂ lws ws) :
    Temps H₂ O₂ h₀ h₂ (lvs ++ lws) (vs ++ ws) := by
  induction lvs generalizing vs with
  | nil =>
    have : vs = [] := List.eq_nil_of_length_eq_zero (by simpa using t.len)
    subst this
    refine ⟨t'.len, fun i lv v e e' => (t'.at_ i lv v e e').back n₀, t'.sep⟩
  | cons lv lvs ih =>
    cases vs with
    | nil => have := t.len; simp at this
    | cons v vs =>
      have t₁ : Temps H₁ O₁ h₀ h₁ lvs vs := ⟨by simpa using t.len, fun i w u e e' => t.at_ (i + 1) w u (by simpa using e) (by simpa using e'), fun i j w w' a e e' m m' ev ew => by
        have := t.sep (i + 1) (j + 1) w w' a (by simpa using e) (by simpa using e') m m' (by simpa using ev) (by simpa using ew); lia⟩
      have t₂ := ih t₁
      have r := (t.at_ 0 lv v rfl rfl)
      refine ⟨by simp [t₂.len], fun i w u e e' => ?_, fun i j w w' a e e' m m' ev ew => ?_⟩
      · cases i with
        | zero => simp at e e'; subst e; subst e'; exact r.on n
        | succ i => exact t₂.at_ i w u (by simpa using e) (by simpa using e')
      · have hd : ∀ (j : Nat) (w' : LV) (a : Addr), (lvs ++ lws)[j]? = some w' → lv.mine = true → w'.mine = true → v = .ref a → (vs ++ ws)[j]? = some (.ref a) → False := by
          intro j w' a e' m m' ev ew
          have hl : vs.length = lvs.length := t₁.len
          by_cases hj : j < lvs.length
          · rw [List.getElem?_append_left hj] at e'
            rw [List.getElem?_append_left (by lia)] at ew
            have := t.sep 0 (j + 1) lv w' a rfl (by simpa using e') m m' (by rw [ev]; rfl) (by simpa using ew)
            lia
          · rw [List.getElem?_append_right (by lia)] at e'
            rw [List.getElem?_append_right (by lia), hl] at ew
            obtain ⟨a', e1, _, _, _, _, o, e2, _⟩ := r.new_obj m
            rw [ev] at e1; cases e1
            obtain ⟨a'', e3, _, e4, _⟩ := (t'.at_ _ w' _ e' ew).new_obj m'
            cases e3
            rw [e2] at e4; cases e4
        cases i with
        | zero =>
          cases j with
          | zero => rfl
          | succ j =>
            simp at e ev; subst e
            exact (hd j w' a (by simpa using e') m m' ev (by simpa using ew)).elim
        | succ i =>
          cases j with
          | zero =>
            simp at e' ew; subst e'
            exact (hd i w a (by simpa using e) m' m ew (by simpa using ev)).elim
          | succ j => rw [t₂.sep i j w w' a (by simpa using e) (by simpa using e') m m' (by simpa using ev) (by simpa using ew)]

/- a contract of a function of the text's -/
noncomputable def Calls (F : Fix) (fv : Value) (d : Nat) (lvs : List LV) (kn : List Str) (klvs : List LV) (Q : V → Prop) (X : Exc → Prop) : Prop :=
  ∀ A H O s vals kvals, Room A d → Wsp F A H s.heap s.os s.gens → vals.length = lvs.length → ArgsAt F A H O s.heap (lvs ++ klvs) (vals ++ kvals) →
    wpAny (model F.prog F.w) A (call fv vals (kn.zip kvals)) (CallQ F A H O s Q) (CallX F A H O s X) s

/- the values waiting are handed over -/
noncomputable def handed (lvs : List LV) (vs : List Value) : OSet := fun b => ∃ (i : Nat) (lv : LV), lvs[i]? = some lv ∧ lv.mine = true ∧ vs[i]? = some (.ref b)

theorem Temps.args {H : Hm} {O : OSet} {s₀ s : Shared} {lvs : List LV} {vs : List Value} {loc₀ : Loc} {H₀ : Hm} {O₀ : OSet} (st₀ : St Γ H₀ O₀ loc₀ s₀) (t : Temps H O s₀.heap s.heap lvs vs) : ArgsAt Γ.F Γ.A H (handed lvs vs) s.heap lvs vs := by
  refine ⟨t.len, fun i lv v e e' => ?_, t.sep, fun b hb => ?_⟩
  · have r := t.at_ i lv v e e'
    cases lv with
    | val A => exact r
    | own b As => obtain ⟨a, ev, _, _, _, r⟩ := r; subst ev; exact ⟨a, rfl, ⟨i, _, e, rfl, e'⟩, r⟩
    | itr b As => obtain ⟨a, ev, _, _, _, eb, r⟩ := r; subst ev; exact ⟨a, rfl, ⟨i, _, e, rfl, e'⟩, eb, .inl r⟩
  · obtain ⟨i, lv, e, m, e'⟩ := hb
    refine gg fun GG hGG => ?_
    obtain ⟨a, ev, _, h1, h2, h3, o, eo, _, hd⟩ := (t.at_ i lv _ e e').new_obj m
    refine hGG ?_
    cases ev
    refine ⟨?_, h3, ⟨o, eo, hd⟩, (st₀.foreign h1).tab⟩
    cases q : Γ.F.h₁.get? b with
    | none => rfl
    | some w => have := st₀.base _ w q; rw [h1] at this; cases this

theorem Temps.foreign {H : Hm} {O : OSet} {s₀ s : Shared} {lvs : List LV} {vs : List Value} {loc₀ : Loc} {H₀ : Hm} {O₀ : OSet} (st₀ : St Γ H₀ O₀ loc₀ s₀) (t : Temps H O s₀.heap s.heap lvs vs) : ∀ b, handed lvs vs b → Foreign Γ H O b := by
  rintro b ⟨i, lv, e, m, e'⟩
  refine gg fun GG hGG => ?_
  obtain ⟨a, ev, _, h1, h2, h3, _⟩ := (t.at_ i lv _ e e').new_obj m
  refine hGG ?_
  cases ev
  exact { st₀.foreign h1 with hm := h3, o := h2 }

/- behind a call: the caller's state -/
theorem StH.after {H H' : Hm} {O Oc : OSet} {h h' : Heap} {os os' : OsState} {g g' : Array GenState} (st : StH Γ H O loc h os g) (n : Nx Γ.F H Oc h H' (fun _ => False) h') (ws : Wsp Γ.F Γ.A H' h' os' g') (hO : ∀ b, Oc b → Foreign Γ H O b) : StH Γ H' O loc h' os' g' :=
  st.extW Oc hO (fun b o hb e => n.kp b o e hb) ws.gens n.hle ws.os fun b o e => by
    rcases n.hnew b o e with h1 | h1 | h1
    · exact .inl h1
    · exact .inr ⟨(hO b h1).o, ws.agree b o e, ws.nofr b o e⟩
    · exact .inr ⟨fun z => (by obtain ⟨o', e'⟩ := st.othere b z; rw [h1] at e'; cases e'), ws.agree b o e, ws.nofr b o e⟩
theorem Nx.after {F : Fix} {H₀ H H' : Hm} {O₀ O Oc : OSet} {h₀ h h' : Heap} (n₀ : Nx F H₀ O₀ h₀ H O h) (n : Nx F H Oc h H' (fun _ => False) h') (hO : ∀ b, Oc b → h₀.get? b = none) : Nx F H₀ O₀ h₀ H' O h' :=
  n₀.then (fun b o e hb hne => n.kp b o e fun z => hne (hO b z)) (fun b o e _ => n.there b o e) n.hle (fun b o e => by
    rcases n.hnew b o e with h1 | h1 | h1
    · exact .inl h1
    · exact .inr (.inr (hO b h1))
    · exact .inr (.inr (n₀.none_back h1))) fun b e => .inl e

theorem handed_new {H : Hm} {O : OSet} {h₀ h : Heap} {lvs : List LV} {vs : List Value} (t : Temps H O h₀ h lvs vs) : ∀ b, handed lvs vs b → h₀.get? b = none := by
  intro b hRR
  refine gg fun GG hGG => ?_
  obtain ⟨i, lv, e, m, e'⟩ := hRR
  refine hGG ?_
  refine gg fun GG hGG => ?_
  obtain ⟨a, ev, _, h1, _⟩ := (t.at_ i lv _ e e').new_obj m
  refine hGG ?_
  cases ev; exact h1

/- f(args, name=value ..) of a function of the text's -/
theorem ev_call {x : Str} {p pos : Pos} {e : Expr} {es : List Expr} {ks : List Keyword} {a : Addr} {fd : FuncData} {body : List Stmt} (g : GlobAt Γ.F x (.ref a)) (fn : FnAt Γ.F a fd body)
    (h : Args' Γ loc pos (e :: es) (fun lvs l => Kws Γ l ((backToKw pos (keywordEach ks Γ.env)).map (·.2)) (fun klvs l' =>
      ∃ d Q' X', Room Γ.A d ∧ Calls Γ.F (.ref a) d lvs ((backToKw pos (keywordEach ks Γ.env)).filterMap (·.1)) klvs Q' X' ∧ (∀ R, Q' R → Q R l') ∧ (∀ x, X' x → X x l')) X) X)
    (hk : Γ.env.kindOf x = some .globalImplicit := by rfl) (hg : Γ.env.globals = mainGlobals := by rfl) (hb : Γ.env.builtins = builtinsNs := by rfl)
    (hd : (x == ("__debug__" : Str)) = false := by decide) (he : ∃ r, backTo pos (starEach (e :: es) Γ.env) = (false, eval e Γ.env) :: r := by exact ⟨_, rfl⟩)
    (hkw : (backToKw pos (keywordEach ks Γ.env)).all (·.1.isSome) = true := by rfl) : Ev Γ loc (.Call (.Name x p) (e :: es) ks pos) (VQ Q) X := by
  intro H O s st
  refine wpAny_Call_Name_kw (Calls.Name_function_global st.kind hk (wp_glob st g ?_ hg hb) hd)
  obtain ⟨o, ho, hdat⟩ := fn.o
  obtain ⟨r, hr⟩ := he
  have hh := h H O s st
  refine callWith_function_kw (o := o) (fd := fd) ?_
  rw [hr] at hh ⊢
  refine evalArgs_kw hkw (wpAny_mono hh (fun vs s₁ p => ?_) fun _ _ p => p)
  refine gg fun GG hGG => ?_
  obtain ⟨H₁, O₁, l₁, lvs, n₁, st₁, t₁, q₁⟩ := p
  refine hGG ?_
  refine wpAny_mono (q₁ H₁ O₁ s₁ st₁) (fun kvs s₂ p => ?_) fun _ _ p => p.back n₁
  refine gg fun GG hGG => ?_
  obtain ⟨H₂, O₂, l₂, klvs, n₂, st₂, t₂, d, Q', X', hroom, hc, hQ, hX⟩ := p
  refine hGG ?_
  have tt := Temps.append n₁ t₁ n₂ t₂
  have nn := n₁.trans n₂
  refine ⟨⟨st₂.base _ _ ho, hdat⟩, ?_⟩
  refine wpAny_mono (hc Γ.A H₂ _ s₂ vs kvs hroom st₂.wsp t₁.len (tt.args st)) (fun v s₃ p => ?_) fun ex s₃ p => ?_
  · obtain ⟨H₃, R, n₃, ws, hr, hq⟩ := p
    exact ⟨H₃, O₂, l₂, .val R, nn.after n₃ (handed_new tt), st₂.after n₃ ws (tt.foreign st), hr, hQ R hq⟩
  · obtain ⟨H₃, x', n₃, ws, fl, hq⟩ := p
    refine ⟨H₃, O₂, l₂, x', nn.after n₃ (handed_new tt), st₂.after n₃ ws (tt.foreign st), ?_, hX _ hq⟩
    refine gg fun GG hGG => ?_
    obtain ⟨b, o, ws', e1, e2, e3, e4, e5, e6, e7, e8, e9⟩ := fl.is
    refine hGG ?_
    have nO : ∀ b, s₂.heap.get? b = none → ¬ O₂ b := fun b e z => by obtain ⟨o, e'⟩ := st₂.othere b z; rw [e] at e'; cases e'
    refine ⟨b, o, ws', e1, nn.none_back e2, nO b e2, e4, e5, e6, e7, e8, e9.imp id ?_⟩
    intro hRR
    refine gg fun GG hGG => ?_
    obtain ⟨tb, otb, tvs, k1, k2, k3, k4⟩ := hRR
    refine hGG ?_
    exact ⟨tb, otb, tvs, k1, nn.none_back k2, nO tb k2, k4⟩

/- a built-in function, or a built-in type, is called with plain values -/
noncomputable def OpN (Γ : Cx) (loc : Loc) (t : List Value → Sem Value) (As : List V) (Q : LV → Loc → Prop) (X : Exc → Loc → Prop) : Prop :=
  ∀ H O s vs, St Γ H O loc s → Reps H As vs → wpAny Γ.M Γ.A (t vs) (PostV Γ H O s Q) (PostX Γ H O s X) s

noncomputable def AllVal (Q : List V → Loc → Prop) (lvs : List LV) (l : Loc) : Prop := ∃ As, lvs = As.map .val ∧ Q As l

theorem Temps.reps {H : Hm} {O : OSet} {h₀ h : Heap} {As : List V} {vs : List Value} (t : Temps H O h₀ h (As.map .val) vs) : Reps H As vs := by
  refine Reps.of_get (by simpa using t.len) fun i A y e e' => ?_
  exact t.at_ i (.val A) y (by simp [e]) e'

theorem ev_builtin {x : Str} {p pos : Pos} {e : Expr} {es : List Expr} {id : String} (g : GlobAt Γ.F x (.builtin id)) (h : Args' Γ loc pos (e :: es) (AllVal fun As l => OpN Γ l (fun vs => call (.builtin id) vs) As QL X) X)
    (hk : Γ.env.kindOf x = some .globalImplicit := by rfl) (hg : Γ.env.globals = mainGlobals := by rfl) (hb : Γ.env.builtins = builtinsNs := by rfl)
    (hd : (x == ("__debug__" : Str)) = false := by decide) (he : ∃ r, backTo pos (starEach (e :: es) Γ.env) = (false, eval e Γ.env) :: r ∧ r.any (·.1) = false := by exact ⟨_, rfl, rfl⟩) : Ev Γ loc (.Call (.Name x p) (e :: es) [] pos) QL X := by
  intro H O s st
  refine wpAny_Call_Name_kw (Calls.Name_function_global st.kind hk (wp_glob st g ?_ hg hb) hd)
  obtain ⟨r, hr, hr'⟩ := he
  have hh := h H O s st
  rw [hr] at hh ⊢
  show wpAny _ _ (callWith pos (.builtin id) [] _ []) _ _ _
  refine Calls.callWith_builtin (by rw [List.any_cons, hr']; rfl) (Calls.evalArgs_plain (wpAny_mono hh (fun vs s₁ p => ?_) fun _ _ p => p))
  refine gg fun GG hGG => ?_
  obtain ⟨H₁, O₁, l₁, lvs, n₁, st₁, t₁, As, rfl, q₁⟩ := p
  refine hGG ?_
  exact wpAny_mono (q₁ H₁ O₁ s₁ vs st₁ t₁.reps) (fun _ _ p => p.back n₁) fun _ _ p => p.back n₁

theorem ev_type {x : Str} {p pos : Pos} {e : Expr} {es : List Expr} {T : String} (g : GlobAt Γ.F x (.type T)) (h : Args' Γ loc pos (e :: es) (AllVal fun As l => OpN Γ l (fun vs => call (.type T) vs) As QL X) X)
    (hk : Γ.env.kindOf x = some .globalImplicit := by rfl) (hg : Γ.env.globals = mainGlobals := by rfl) (hb : Γ.env.builtins = builtinsNs := by rfl)
    (hd : (x == ("__debug__" : Str)) = false := by decide) (he : ∃ r, backTo pos (starEach (e :: es) Γ.env) = (false, eval e Γ.env) :: r ∧ r.any (·.1) = false := by exact ⟨_, rfl, rfl⟩) : Ev Γ loc (.Call (.Name x p) (e :: es) [] pos) QL X := by
  intro H O s st
  refine wpAny_Call_Name_kw (Calls.Name_function_global st.kind hk (wp_glob st g ?_ hg hb) hd)
  obtain ⟨r, hr, hr'⟩ := he
  have hh := h H O s st
  rw [hr] at hh ⊢
  show wpAny _ _ (callWith pos (.type T) [] _ []) _ _ _
  refine PySem.callWith_type (by rw [List.any_cons, hr']; rfl) (Calls.evalArgs_plain (wpAny_mono hh (fun vs s₁ p => ?_) fun _ _ p => p))
  refine gg fun GG hGG => ?_
  obtain ⟨H₁, O₁, l₁, lvs, n₁, st₁, t₁, As, rfl, q₁⟩ := p
  refine hGG ?_
  exact wpAny_mono (q₁ H₁ O₁ s₁ vs st₁ t₁.reps) (fun _ _ p => p.back n₁) fun _ _ p => p.back n₁
end
end Mine
end
section
open PySem PySem.W PyProof.Rows
set_option linter.unusedVariables false
namespace Mine

section
variable {Γ : Cx} {loc : Loc} {Q : V → Loc → Prop} {QL : LV → Loc → Prop} {QB : Bool → Loc → Prop} {QF : Fl → Loc → Prop} {X : Exc → Loc → Prop} {a b : Int} {x y : UInt64} {p q : Bool} {u v : Str}

/- an exception that the interpreter has just made -/
theorem PostX.new {H : Hm} {O : OSet} {s : Shared} {h' : Heap} {tk : Nat} {e : Addr} {cls : String} (st : St Γ H O loc s) (ne : Heap.NewExc s.heap h' e cls) (hx : X ⟨.type cls, none⟩ loc) : PostX Γ H O s X (.ref e) { s with heap := h', toks := tk } := by
  refine gg fun GG hGG => ?_
  obtain ⟨ob, t, e1, e2, e3⟩ := ne.there
  refine hGG ?_
  have fe := st.foreign ne.new
  refine ⟨H, O, loc, ⟨.type cls, none⟩, ⟨fun b o e _ => ⟨o, ne.keeps b o e, .refl ..⟩, fun b o e => ⟨o, ne.keeps b o e⟩, .refl _, fun b o e => .inl e, fun b e => .inl e⟩,
    st.ext (fun b o e => ⟨o, ne.keeps b o e, .refl ..⟩) st.gens (.refl _) fun b o e => .inl e, ⟨e, ob, _, rfl, ne.new, fe.o, fe.hm, e1, e2, e3, ⟨fun A hA => (by cases hA), fun _ => rfl⟩, .inl rfl⟩, hx⟩

/- what an operation that may raise leaves -/
theorem raised {H : Hm} {O : OSet} {s : Shared} {cls : String} {Qv : Value → Shared → Prop} (st : St Γ H O loc s) (hh : Γ.A.handled = none) (hx : X ⟨.type cls, none⟩ loc) :
    raisesNew cls Γ.A (wants Qv (PostX Γ H O s X)) s := ⟨hh, fun h' tk e ne => PostX.new st ne hx⟩

/-! ### ints -/
theorem op_add (h : Q (.int (a + b)) loc) : Op2 Γ loc (binaryOp .Add) (.int a) (.int b) Q X := fun H O s va vb st ra rb => by
  obtain ⟨t, rfl⟩ := ra.int_of; obtain ⟨t', rfl⟩ := rb.int_of; exact PyProof.Rows.add_int (PostV.here st (rep_int ..) h _)
theorem op_sub (h : Q (.int (a - b)) loc) : Op2 Γ loc (binaryOp .Sub) (.int a) (.int b) Q X := fun H O s va vb st ra rb => by
  obtain ⟨t, rfl⟩ := ra.int_of; obtain ⟨t', rfl⟩ := rb.int_of; exact PyProof.Rows.sub_int (PostV.here st (rep_int ..) h _)
theorem op_mul (h : Q (.int (a * b)) loc) (hm : IntMulOk a b) : Op2 Γ loc (binaryOp .Mult) (.int a) (.int b) Q X := fun H O s va vb st ra rb => by
  obtain ⟨t, rfl⟩ := ra.int_of; obtain ⟨t', rfl⟩ := rb.int_of; exact PyProof.Rows.mul_int (PostV.here st (rep_int ..) h _) hm
theorem op_mod (hb : b ≠ 0) (h : Q (.int (a.fmod b)) loc) : Op2 Γ loc (binaryOp .Mod) (.int a) (.int b) Q X := fun H O s va vb st ra rb => by
  obtain ⟨t, rfl⟩ := ra.int_of; obtain ⟨t', rfl⟩ := rb.int_of; exact PyProof.Rows.mod_int' hb (PostV.here st (rep_int ..) h _)
theorem op_pow (hn : 0 ≤ b) (hz : (Builtin.Int.intBits a : Int) * b ≤ 2 ^ 27) (h : Q (.int (a ^ b.toNat)) loc) : Op2 Γ loc (binaryOp .Pow) (.int a) (.int b) Q X := fun H O s va vb st ra rb => by
  obtain ⟨t, rfl⟩ := ra.int_of; obtain ⟨t', rfl⟩ := rb.int_of; exact PyProof.Rows.pow_int hn hz (PostV.here st (rep_int ..) h _)
theorem op_div_ii (hb : b ≠ 0) (hf : ¬ Float64.isInf (Float64.ofFrac (decide (a < 0) != decide (b < 0)) a.natAbs b.natAbs) = true) (h : Q (.flt (Float64.ofFrac (decide (a < 0) != decide (b < 0)) a.natAbs b.natAbs)) loc) :
    Op2 Γ loc (binaryOp .Div) (.int a) (.int b) Q X := fun H O s va vb st ra rb => by
  obtain ⟨t, rfl⟩ := ra.int_of; obtain ⟨t', rfl⟩ := rb.int_of; exact AutoIntOps.truediv_2 (by simpa using hb) hf (PostV.here st (rep_flt ..) h _)
theorem op_neg (h : Q (.int (-a)) loc) : Op1 Γ loc (unaryOp .USub) (.int a) Q X := fun H O s va st ra => by
  obtain ⟨t, rfl⟩ := ra.int_of; exact PyProof.Rows.neg_int (PostV.here st (rep_int ..) h _)

/-! ### floats -/
/-! an int and a float -/
/- an int over a float: the float nearest to the int, or OverflowError -/
theorem op_div_if (hh : Γ.A.handled = none) (hz : Float64.isZero x = false) (hx : Float64.isInf (Float64.ofInt a) = true → X ⟨.type "OverflowError", none⟩ loc) (h : Float64.isInf (Float64.ofInt a) = false → Q (.flt (Float64.div (Float64.ofInt a) x)) loc) :
    Op2 Γ loc (binaryOp .Div) (.int a) (.flt x) Q X := fun H O s va vb st ra rb => by
  obtain ⟨t, rfl⟩ := ra.int_of; obtain ⟨t', rfl⟩ := rb.flt_of
  refine AutoFloatOpsIf.truediv_if ?_
  by_cases hi : Float64.isInf (Float64.ofInt a) = true
  · rw [if_pos hi]; exact raised st hh (hx hi)
  · rw [if_neg hi, if_neg (by simp [hz])]; exact PostV.here st (rep_flt ..) (h (by simpa using hi)) _
theorem op_div_fi (hi : Float64.isInf (Float64.ofInt a) = false) (hz : Float64.isZero (Float64.ofInt a) = false) (h : Q (.flt (Float64.div x (Float64.ofInt a))) loc) : Op2 Γ loc (binaryOp .Div) (.flt x) (.int a) Q X := fun H O s va vb st ra rb => by
  obtain ⟨t, rfl⟩ := ra.flt_of; obtain ⟨t', rfl⟩ := rb.int_of
  exact AutoFloatOpsIf.truediv_fi (by rw [if_neg (by simp [hi]), if_neg (by simp [hz])]; exact PostV.here st (rep_flt ..) h _)

/-! ### comparisons -/
theorem cmp_eq (h : Q (.bool (a == b)) loc) : Op2 Γ loc (compareOp .Eq) (.int a) (.int b) Q X := fun H O s va vb st ra rb => by
  obtain ⟨t, rfl⟩ := ra.int_of; obtain ⟨t', rfl⟩ := rb.int_of; exact PyProof.Rows.eq_int (PostV.here' st (rep_bool ..) h)
theorem cmp_ne (h : Q (.bool (a != b)) loc) : Op2 Γ loc (compareOp .NotEq) (.int a) (.int b) Q X := fun H O s va vb st ra rb => by
  obtain ⟨t, rfl⟩ := ra.int_of; obtain ⟨t', rfl⟩ := rb.int_of; exact PyProof.Rows.ne_int (PostV.here' st (rep_bool ..) h)
theorem cmp_lt (h : Q (.bool (decide (a < b))) loc) : Op2 Γ loc (compareOp .Lt) (.int a) (.int b) Q X := fun H O s va vb st ra rb => by
  obtain ⟨t, rfl⟩ := ra.int_of; obtain ⟨t', rfl⟩ := rb.int_of; exact PyProof.Rows.lt_int (PostV.here' st (rep_bool ..) h)
theorem cmp_neF (h : Q (.bool (Float64.cmp x y != some .eq)) loc) : Op2 Γ loc (compareOp .NotEq) (.flt x) (.flt y) Q X := fun H O s va vb st ra rb => by
  obtain ⟨t, rfl⟩ := ra.flt_of; obtain ⟨t', rfl⟩ := rb.flt_of; exact AutoFloatOps.ne_0 (PostV.here' st (rep_bool ..) h)
theorem cmp_neB (h : Q (.bool (p != q)) loc) : Op2 Γ loc (compareOp .NotEq) (.bool p) (.bool q) Q X := fun H O s va vb st ra rb => by
  cases ra.bool_of; cases rb.bool_of; exact PyProof.Rows.ne_bool (PostV.here' st (rep_bool ..) h)
theorem cmp_neS (h : Q (.bool (u != v)) loc) : Op2 Γ loc (compareOp .NotEq) (.str u) (.str v) Q X := fun H O s va vb st ra rb => by
  obtain ⟨t, rfl⟩ := ra.str_of; obtain ⟨t', rfl⟩ := rb.str_of; exact PyProof.Rows.ne_str (PostV.here' st (rep_bool ..) h)
noncomputable def V.isNone : V → Bool
  | .none => true
  | .con v => v == .none
  | _ => false
theorem Rep.isNone {H : Hm} {A : V} {w : Value} (r : Rep H A w) : (w == .none) = A.isNone := by
  cases A with
  | none => cases r.none_of; rfl
  | bool b => cases r.bool_of; rfl
  | int i => obtain ⟨t, rfl⟩ := r.int_of; rfl
  | flt i => obtain ⟨t, rfl⟩ := r.flt_of; rfl
  | str i => obtain ⟨t, rfl⟩ := r.str_of; rfl
  | con c => cases r.con_of; rfl
  | tup As => obtain ⟨a, o, xs, n, rfl, _⟩ := r.tup_of; rfl
  | lst As => obtain ⟨a, o, xs, n, rfl, _⟩ := r.lst_of; rfl
  | rng i j k => obtain ⟨a, t, u, w, rfl, _⟩ := r; rfl
  | exc c m => obtain ⟨a, o, vs, t, ot, n, tk, rfl, _⟩ := r; rfl
theorem cmp_is_none {A : V} (h : Q (.bool A.isNone) loc) : Op2 Γ loc (compareOp .Is) A .none Q X := fun H O s va vb st ra rb => by
  cases rb.none_of; exact is_none (by rw [ra.isNone]; exact PostV.here' st (rep_bool ..) h)
theorem cmp_isnot_none {A : V} (h : Q (.bool (!A.isNone)) loc) : Op2 Γ loc (compareOp .IsNot) A .none Q X := fun H O s va vb st ra rb => by
  cases rb.none_of; exact isNot_none (by rw [ra.isNone]; exact PostV.here' st (rep_bool ..) h)

/-! ### truth -/
theorem tr_bool (h : QB p loc) : Opb Γ loc truthy (.bool p) QB X := fun H O s va st ra => by
  cases ra.bool_of; exact wpAny_truthy_bool ⟨H, O, loc, .refl .., st, h⟩
theorem tr_int (h : QB (a != 0) loc) : Opb Γ loc truthy (.int a) QB X := fun H O s va st ra => by
  obtain ⟨t, rfl⟩ := ra.int_of; exact PyProof.Rows.truthy_int ⟨H, O, loc, .refl .., st, h⟩
theorem tr_flt (h : QB (!Float64.isZero x) loc) : Opb Γ loc truthy (.flt x) QB X := fun H O s va st ra => by
  obtain ⟨t, rfl⟩ := ra.flt_of; exact AutoFloatOps.truthy_0 ⟨H, O, loc, .refl .., st, h⟩

/-! ### new objects -/
/- a new object, never changed again -/
theorem PostV.made {H : Hm} {O : OSet} {s : Shared} {h' : Heap} {tk : Nat} {o : Obj} {A : V} {a : Addr} (st : St Γ H O loc s) (hk : ∀ b o, s.heap.get? b = some o → h'.get? b = some o) (hn : s.heap.get? a = none) (e : h'.get? a = some o)
    (hd : Solid o) (r : Rep (Hset H a o) A (.ref a)) (q : QL (.val A) loc) : PostV Γ H O s QL (.ref a) { s with heap := h', toks := tk } := by
  have fa := st.foreign hn
  have st₁ : StH Γ H O loc h' s.os s.gens := st.ext (fun b o e => ⟨o, hk b o e, .refl ..⟩) st.gens (.refl _) fun b o e => .inl e
  have n₁ : Nx Γ.F H O s.heap H O h' := ⟨fun b o e _ => ⟨o, hk b o e, .refl ..⟩, fun b o e => ⟨o, hk b o e⟩, .refl _, fun b o e => .inl e, fun b e => .inl e⟩
  exact ⟨Hset H a o, O, loc, .val A, n₁.freeze fa.hm hn, st₁.freeze e hd fa.o fa.hm, r, q⟩
/- a new list of the frame's own -/
theorem PostV.own {H : Hm} {O : OSet} {s : Shared} {h' : Heap} {tk : Nat} {o : Obj} {As : List V} {a : Addr} {xs : Array Value} {n : Nat} (st : St Γ H O loc s) (hk : ∀ b o, s.heap.get? b = some o → h'.get? b = some o) (hn : s.heap.get? a = none) (e : h'.get? a = some o)
    (hc : o.cls = .type "list") (hd : o.data = .seq xs n) (hp : o.dict = none ∧ o.slots = #[]) (r : Reps H As xs.toList) (q : QL (.own a As) loc) : PostV Γ H O s QL (.ref a) { s with heap := h', toks := tk } := by
  have fa := st.foreign hn
  have st₁ : StH Γ H O loc h' s.os s.gens := st.ext (fun b o e => ⟨o, hk b o e, .refl ..⟩) st.gens (.refl _) fun b o e => .inl e
  have n₁ : Nx Γ.F H O s.heap H O h' := ⟨fun b o e _ => ⟨o, hk b o e, .refl ..⟩, fun b o e => ⟨o, hk b o e⟩, .refl _, fun b o e => .inl e, fun b e => .inl e⟩
  exact ⟨H, O, loc, .own a As, n₁, st₁, ⟨a, rfl, hn, fa.o, fa.hm, rfl, o, xs, n, e, hc, hd, hp, r⟩, q⟩

theorem fresh_none (h : Heap) : h.get? h.objs.size = none := Heap.get?_none_of_le (Nat.le_refl _)
theorem seq_nodict {o : Obj} {xs : Array Value} {n : Nat} (h : o.data = .seq xs n) (hc : o.cls ≠ .none := by simp) : Solid o := ⟨fun es ep z => (by rw [h] at z; cases z), hc⟩
theorem rep_new_lst {H : Hm} {As : List V} {a : Addr} {o : Obj} {xs : Array Value} {n : Nat} (hm : H a = none) (h3 : o.cls = .type "list") (h4 : o.data = .seq xs n) (h5 : Reps H As xs.toList) : Rep (Hset H a o) (.lst As) (.ref a) :=
  rep_lst (Hset.self ..) h3 h4 (h5.mono (Hset.le hm))
theorem rep_new_tup {H : Hm} {As : List V} {a : Addr} {o : Obj} {xs : Array Value} {n : Nat} (hm : H a = none) (h3 : o.cls = .type "tuple") (h4 : o.data = .seq xs n) (h5 : Reps H As xs.toList) : Rep (Hset H a o) (.tup As) (.ref a) :=
  rep_tup (Hset.self ..) h3 h4 (h5.mono (Hset.le hm))

theorem ev_list {es : List Expr} {pos : Pos} (h : Args' Γ loc pos es (AllVal fun As l => As.length ≤ sizeLine ∧ Q (.lst As) l) X) : Ev Γ loc (.List es pos) (VQ Q) X := by
  intro H O s st
  refine wpAny_List (wpAny_mono (h H O s st) (fun vs s₁ p => ?_) fun _ _ p => p)
  refine gg fun GG hGG => ?_
  obtain ⟨H₁, O₁, l₁, lvs, n₁, st₁, t₁, As, rfl, hsz, q⟩ := p
  refine hGG ?_
  have r := t₁.reps
  have fa := st₁.foreign (fresh_none s₁.heap)
  refine ⟨by rw [r.length]; exact hsz, PostV.back n₁ (PostV.made (tk := s₁.toks) st₁ (fun b o e => Heap.get?_push_of_some _ e) (fresh_none _) (Heap.get?_push_size _ rfl) (seq_nodict rfl) (rep_new_lst fa.hm rfl rfl (by simpa using r)) q)⟩
/- [] as a list of the frame's own -/
theorem ev_nil_own {pos : Pos} (h : ∀ b, QL (.own b []) loc) : Ev Γ loc (.List [] pos) QL X := by
  intro H O s st
  refine wpAny_List (wpAny_items_nil ⟨Nat.zero_le _, ?_⟩)
  exact PostV.own (tk := s.toks) st (fun b o e => Heap.get?_push_of_some _ e) (fresh_none _) (Heap.get?_push_size _ rfl) rfl rfl ⟨rfl, rfl⟩ (reps_nil _) (h _)

/- the values of a display, one by one -/
theorem args_val {pos : Pos} {e : Expr} {es : List Expr} {QA : List V → Loc → Prop} (h : Ev Γ loc e (VQ fun A l => Args' Γ l pos es (AllVal fun As l' => QA (A :: As) l') X) X)
    (he : starEach (e :: es) Γ.env = (false, eval e Γ.env) :: starEach es Γ.env := by rfl) : Args' Γ loc pos (e :: es) (AllVal QA) X := by
  refine args_cons (h.mono (fun lv l q => ?_) fun _ _ x => x) he
  cases lv with
  | own _ _ => exact q.elim
  | itr _ _ => exact q.elim
  | val A => exact fun H O s st => wpAny_mono (q H O s st) (fun vs s' z => by obtain ⟨H', O', l', lvs, n, st', t, As, e, q'⟩ := z; exact ⟨H', O', l', lvs, n, st', t, A :: As, by rw [e]; rfl, q'⟩) fun _ _ p => p
theorem args_val_nil {pos : Pos} {QA : List V → Loc → Prop} (h : QA [] loc) : Args' Γ loc pos [] (AllVal QA) X := args_nil ⟨[], rfl, h⟩

/-! ### built-in functions -/
theorem bi_len_lst {As : List V} (hz : As.length ≤ sizeLine) (h : Q (.int As.length) loc) : OpN Γ loc (fun vs => call (.builtin "len") vs) [.lst As] (VQ Q) X := fun H O s vs st r => by
  refine gg fun GG hGG => ?_
  obtain ⟨y, ys, rfl, hy, rfl⟩ := r
  obtain ⟨a, o, xs, n, rfl, h2, h3, h4, h5⟩ := hy.lst_of
  refine hGG ?_
  have hl : xs.size = As.length := by rw [← h5.length]; simp
  have hz' : As.length ≤ 2 ^ 24 := hz
  refine len_list ⟨o, st.agree _ _ h2, h3, n, h4⟩ (by rw [hl]; lia) ?_
  rw [hl]; exact PostV.here st (rep_int ..) h _
theorem bi_len_tup {As : List V} (hz : As.length ≤ sizeLine) (h : Q (.int As.length) loc) : OpN Γ loc (fun vs => call (.builtin "len") vs) [.tup As] (VQ Q) X := fun H O s vs st r => by
  refine gg fun GG hGG => ?_
  obtain ⟨y, ys, rfl, hy, rfl⟩ := r
  obtain ⟨a, o, xs, n, rfl, h2, h3, h4, h5⟩ := hy.tup_of
  refine hGG ?_
  have hl : xs.size = As.length := by rw [← h5.length]; simp
  have hz' : As.length ≤ 2 ^ 24 := hz
  refine len_tuple ⟨o, st.agree _ _ h2, h3, n, h4⟩ (by rw [hl]; lia) ?_
  rw [hl]; exact PostV.here st (rep_int ..) h _

theorem rng_nodict {vs : Array Value} : Solid ({ cls := .type "range", dict := none, data := .fields vs, slots := #[] } : Obj) := ⟨fun es ep z => (by cases z), by simp⟩
theorem rep_new_rng {H : Hm} {a : Addr} {i j k : Int} {t u w : Tok} : Rep (Hset H a { cls := .type "range", dict := none, data := .fields #[.int i t, .int j u, .int k w], slots := #[] }) (.rng i j k) (.ref a) := by
  exact ⟨a, t, u, w, rfl, Hset.self ..⟩
theorem bi_range1 (h : Q (.rng 0 a 1) loc) : OpN Γ loc (fun vs => call (.type "range") vs) [.int a] (VQ Q) X := fun H O s vs st r => by
  obtain ⟨y, ys, rfl, hy, rfl⟩ := r
  obtain ⟨t, rfl⟩ := hy.int_of
  exact call_range_1 (PostV.made st (fun b o e => Heap.get?_push_of_some _ e) (fresh_none _) (Heap.get?_push_size _ rfl) rng_nodict rep_new_rng h)
theorem bi_float (hh : Γ.A.handled = none) (hx : Float64.isInf (Float64.ofInt a) = true → X ⟨.type "OverflowError", none⟩ loc) (h : Float64.isInf (Float64.ofInt a) = false → Q (.flt (Float64.ofInt a)) loc) :
    OpN Γ loc (fun vs => call (.type "float") vs) [.int a] (VQ Q) X := fun H O s vs st r => by
  obtain ⟨y, _, rfl, hy, rfl⟩ := r
  obtain ⟨t, rfl⟩ := hy.int_of
  refine call_float_int_or hh (fun hi h' tk e ne => PostX.new st ne (hx hi)) fun hi => PostV.here st (rep_flt ..) (h (by simpa using hi)) _
/- list(xs) -/
theorem bi_list {A : V} {As : List V} (hA : A = .lst As ∨ A = .tup As) (hz : As.length ≤ sizeLine) (h : Q (.lst As) loc) : OpN Γ loc (fun vs => call (.type "list") vs) [A] (VQ Q) X := fun H O s vs st r => by
  obtain ⟨y, _, rfl, hy, rfl⟩ := r
  have fa := st.foreign (fresh_none s.heap)
  rcases hA with rfl | rfl
  · obtain ⟨a, o, xs, n, rfl, h2, h3, h4, h5⟩ := hy.lst_of
    have hl : xs.size = As.length := by rw [← h5.length]; simp
    exact call_list_seq a (.inl rfl) (st.agree _ _ h2) h3 h4 (fun h' c' hk e => PostV.made (tk := s.toks) st hk (fresh_none _) e (seq_nodict rfl) (rep_new_lst fa.hm rfl rfl h5) h) (by rw [hl]; exact hz)
  · obtain ⟨a, o, xs, n, rfl, h2, h3, h4, h5⟩ := hy.tup_of
    have hl : xs.size = As.length := by rw [← h5.length]; simp
    exact call_list_seq a (.inr rfl) (st.agree _ _ h2) h3 h4 (fun h' c' hk e => PostV.made (tk := s.toks) st hk (fresh_none _) e (seq_nodict rfl) (rep_new_lst fa.hm rfl rfl h5) h) (by rw [hl]; exact hz)
/- tuple(xs) of a list -/
theorem bi_tuple {As : List V} (hz : As.length ≤ sizeLine) (h : Q (.tup As) loc) : OpN Γ loc (fun vs => call (.type "tuple") vs) [.lst As] (VQ Q) X := fun H O s vs st r => by
  refine gg fun GG hGG => ?_
  obtain ⟨y, _, rfl, hy, rfl⟩ := r
  obtain ⟨a, o, xs, n, rfl, h2, h3, h4, h5⟩ := hy.lst_of
  refine hGG ?_
  have hl : xs.size = As.length := by rw [← h5.length]; simp
  refine call_tuple_list ⟨o, st.agree _ _ h2, h3, n, h4⟩ (fun h' hk => ?_) (by rw [hl]; exact hz)
  have hn : s.heap.get? h'.objs.size = none := by
    cases e : s.heap.get? h'.objs.size with
    | none => rfl
    | some o => exact absurd (Heap.lt_size (hk _ _ e)) (Nat.lt_irrefl _)
  exact PostV.made (tk := s.toks) st (fun b o e => Heap.get?_push_of_some _ (hk b o e)) hn (Heap.get?_push_size _ rfl) (seq_nodict rfl) (rep_new_tup (st.foreign hn).hm rfl rfl h5) h
end
end Mine
end
section
open PySem PySem.W PyProof.Rows
set_option linter.unusedVariables false
namespace Mine

section
variable {Γ : Cx} {loc : Loc} {Q : V → Loc → Prop} {QL : LV → Loc → Prop} {QB : Bool → Loc → Prop} {QF : Fl → Loc → Prop} {X : Exc → Loc → Prop} {x : Str} {As : List V} {a : Addr}

/- a list of the frame's own is changed no more -/
theorem StH.frz {H : Hm} {O : OSet} {h : Heap} {os : OsState} {g : Array GenState} (st : StH Γ H O loc h os g) (hx : loc.lookup x = some (.own a As)) :
    ∃ H' O', Nx Γ.F H O h H' O' h ∧ StH Γ H' O' ((x, .val (.lst As)) :: loc) h os g := by
  obtain ⟨v, hv, b, rfl, hO, rfl, o, xs, n, e, hc, hd, hp, hr⟩ := st.vars x _ hx
  have hm := st.ohm a hO
  have hdd := seq_nodict hd (by rw [hc]; simp)
  have ap := st.apart x a _ hx rfl hv
  have ne : ∀ y lv, loc.lookup y = some lv → lv.mine = true → y ≠ x → ∀ b, VarIs Γ.env h y (.ref b) → b ≠ a := fun y lv ey m hne b hb z => by
    subst z; exact hne (st.sep y x b lv _ ey hx m rfl hb hv)
  refine ⟨Hset H a o, fun b => O b ∧ b ≠ a, ⟨fun b q e _ => ⟨q, e, .refl ..⟩, fun b q e => ⟨q, e⟩, Hset.le hm, fun b q e => ?_, fun b z => .inl z.1⟩, ?_⟩
  · rcases Hset.cases e with ⟨rfl, rfl⟩ | h1
    · exact .inr (.inl hO)
    · exact .inl h1
  · exact
    { base := st.base
      agree := fun b q e' => by
        rcases Hset.cases e' with ⟨rfl, rfl⟩ | h1
        · exact e
        · exact st.agree b q h1
      nofr := fun b q e' => by
        rcases Hset.cases e' with ⟨rfl, rfl⟩ | h1
        · exact hdd
        · exact st.nofr b q h1
      os := st.os
      gens := st.gens
      obase := fun b hb => st.obase b hb.1
      otab := fun b hb => st.otab b hb.1
      tabs := st.tabs
      ohm := fun b hb => by simp only [Hset, hb.2, if_false]; exact st.ohm b hb.1
      othere := fun b hb => st.othere b hb.1
      kind := st.kind
      ns := st.ns
      onsO := ⟨st.onsO, fun z => ap.1 z.symm⟩
      vars := fun y lv e' => by
        by_cases hy : y = x
        · subst hy
          rw [lookup_cons_self] at e'; cases e'
          exact ⟨_, hv, rep_lst (Hset.self ..) hc hd (hr.mono (Hset.le hm))⟩
        · rw [lookup_cons_ne hy] at e'
          obtain ⟨w, hw, hl⟩ := st.vars y lv e'
          refine ⟨w, hw, ?_⟩
          cases lv with
          | val B => exact Rep.mono (Hset.le hm) _ _ hl
          | own c Bs =>
            obtain ⟨b, rfl, hb, rfl, l⟩ := hl
            exact ⟨c, rfl, ⟨hb, ne y _ e' rfl hy _ hw⟩, rfl, l.same (F := Γ.F) (Hset.le hm) fun o e => ⟨o, e, .refl ..⟩⟩
          | itr c Bs =>
            obtain ⟨b, rfl, hb, rfl, l⟩ := hl
            exact ⟨c, rfl, ⟨hb, ne y _ e' rfl hy _ hw⟩, rfl, l.same (F := Γ.F) (Hset.le hm) (st.otab _ hb) fun o e => ⟨o, e, .refl ..⟩⟩
      sep := fun y z b l1 l2 e1 e2 m1 m2 v1 v2 => by
        by_cases hy : y = x
        · subst hy; rw [lookup_cons_self] at e1; cases e1; cases m1
        · by_cases hz : z = x
          · subst hz; rw [lookup_cons_self] at e2; cases e2; cases m2
          · rw [lookup_cons_ne hy] at e1; rw [lookup_cons_ne hz] at e2
            exact st.sep y z b l1 l2 e1 e2 m1 m2 v1 v2
      apart := fun y b l1 e1 m1 v1 => by
        by_cases hy : y = x
        · subst hy; rw [lookup_cons_self] at e1; cases e1; cases m1
        · rw [lookup_cons_ne hy] at e1
          exact st.apart y b l1 e1 m1 v1
      cells := fun y c e' => ⟨fun m => ⟨(st.cells y c e').1 m, fun z => ap.2 y c e' z.symm⟩, (st.cells y c e').2⟩
      cne := st.cne
      cinj := st.cinj
      frames := st.frames }

theorem exs_freeze {ss : List Stmt} (hx : loc.lookup x = some (.own a As)) (h : Exs Γ ((x, .val (.lst As)) :: loc) ss QF X) : Exs Γ loc ss QF X := by
  intro H O s st
  obtain ⟨H', O', n, st'⟩ := st.frz hx
  exact wpAny_mono (h H' O' s st') (fun _ _ p => p.back n) fun _ _ p => p.back n
/-! ### items -/
theorem ev_sub {value slice : Expr} {pos : Pos} (h : Ev Γ loc value (VQ fun A l₁ => Ev Γ l₁ slice (VQ fun B l₂ => Op2 Γ l₂ (subscriptTail value slice) A B Q X) X) X) : Ev Γ loc (.Subscript value slice pos) (VQ Q) X := by
  intro H O s st
  refine Subscript_ (wpAny_mono (h H O s st) (fun a s₁ p => ?_) fun _ _ p => p)
  refine gg fun GG hGG => ?_
  obtain ⟨H₁, O₁, l₁, lv, n₁, st₁, r₁, q₁⟩ := p
  refine hGG ?_
  cases lv with
  | own _ _ => exact q₁.elim
  | itr _ _ => exact q₁.elim
  | val A =>
    refine wpAny_mono (q₁ H₁ O₁ s₁ st₁) (fun b s₂ p => ?_) fun _ _ p => p.back n₁
    refine gg fun GG hGG => ?_
    obtain ⟨H₂, O₂, l₂, lv, n₂, st₂, r₂, q₂⟩ := p
    refine hGG ?_
    cases lv with
    | own _ _ => exact q₂.elim
    | itr _ _ => exact q₂.elim
    | val B => exact wpAny_mono (q₂ H₂ O₂ s₂ a b st₂ (Rep.mono n₂.hle _ _ r₁) r₂) (fun _ _ p => p.back (n₁.trans n₂)) fun _ _ p => p.back (n₁.trans n₂)

noncomputable def pyIdx (k : Int) (n : Nat) : Nat := if k < 0 then (k + n).toNat else k.toNat

theorem wp_item_list {M : Model} {prog : Program} {w : World} {A : Around} {E : Value → Shared → Prop} {s : Shared} {value slice : Expr} {l : Addr} {xs : Array Value} {k : Int} {t : Tok} {y : Value} {Q : Value → Shared → Prop}
    (hl : s.heap.IsList l xs) (hk : -(xs.size : Int) ≤ k ∧ k < xs.size) (hz : xs.size ≤ 2 ^ 24) (hy : xs[pyIdx k xs.size]? = some y) (h : Q y s)
    (hs : subscripted slice false (.ref l) (.int k t) = operate [.ref l, .int k t] (getItem (.ref l) (.int k t))) : wpAny (model prog w) A (subscriptTail value slice (.ref l) (.int k t)) Q E s := by
  unfold pyIdx at hy
  by_cases h0 : k < 0
  · rw [if_pos h0] at hy
    exact PyProof.Rows.tail_any hl.typeIs slot_list_getitem.lookup (wpAny_getItem_list_neg hl h0 hk.1 (by lia) hy h) hs
  · rw [if_neg h0] at hy
    exact PyProof.Rows.tail_any hl.typeIs slot_list_getitem.lookup (wpAny_getItem_list hl (by lia) (by lia) hy h) hs

theorem it_lst {value slice : Expr} {k : Int} {R : V} (hz : As.length ≤ sizeLine) (hk : -(As.length : Int) ≤ k ∧ k < As.length) (hR : As[pyIdx k As.length]? = some R) (h : Q R loc)
    (hs : ∀ o i, subscripted slice false o i = operate [o, i] (getItem o i) := by intro _ _; with_unfolding_all rfl) : Op2 Γ loc (subscriptTail value slice) (.lst As) (.int k) Q X := fun H O s va vb st ra rb => by
  refine gg fun GG hGG => ?_
  obtain ⟨a, o, xs, n, rfl, h2, h3, h4, h5⟩ := ra.lst_of
  obtain ⟨t, rfl⟩ := rb.int_of
  have hl : xs.size = As.length := by rw [← h5.length]; simp
  obtain ⟨y, hy, hr⟩ := h5.get hR
  refine hGG ?_
  have hz' : As.length ≤ 2 ^ 24 := hz
  refine wp_item_list (M := Γ.M) ⟨o, st.agree _ _ h2, h3, n, h4⟩ (by rw [hl]; exact hk) (by lia) (y := y) (by rw [hl]; simpa using hy) (PostV.here' st hr h) (hs _ _)
/- xs[k] of a list of the frame's own -/
theorem ev_sub_own {p pos : Pos} {slice : Expr} (hx : loc.lookup x = some (.own a As)) (h : Ev Γ loc slice (VQ fun B l => ∃ k R, B = .int k ∧ l.lookup x = some (.own a As) ∧ As.length ≤ sizeLine ∧ (-(As.length : Int) ≤ k ∧ k < As.length) ∧ As[pyIdx k As.length]? = some R ∧ Q R l) X)
    (hs : ∀ o i, subscripted slice false o i = operate [o, i] (getItem o i) := by intro _ _; with_unfolding_all rfl)
    (hd : (x == ("__debug__" : Str)) = false := by decide) (hn : notPlain x = false := by decide) : Ev Γ loc (.Subscript (.Name x p) slice pos) (VQ Q) X := by
  intro H O s st
  refine gg fun GG hGG => ?_
  obtain ⟨v, hv, b, rfl, hO, rfl, _⟩ := st.vars x _ hx
  refine hGG ?_
  refine Subscript_ (wpAny_Name (wp_var st.kind hv ?_ hn) hd)
  refine wpAny_mono (h H O s st) (fun i s₁ pq => ?_) fun _ _ p => p
  refine gg fun GG hGG => ?_
  obtain ⟨H₁, O₁, l₁, lv, n₁, st₁, r₁, q₁⟩ := pq
  refine hGG ?_
  cases lv with
  | own _ _ => exact q₁.elim
  | itr _ _ => exact q₁.elim
  | val B =>
    refine gg fun GG hGG => ?_
    obtain ⟨k, R, rfl, hx₁, hz, hk, hR, q⟩ := q₁
    obtain ⟨t, rfl⟩ := Rep.int_of (H := H₁) r₁
    obtain ⟨v', hv', b', rfl, hO', rfl, o, xs, n, e, hc, hdat, hp, hr⟩ := st₁.vars x _ hx₁
    have hl : xs.size = As.length := by rw [← hr.length]; simp
    obtain ⟨y, hy, hry⟩ := hr.get hR
    refine hGG ?_
    have hz' : As.length ≤ 2 ^ 24 := hz
    refine wp_item_list (M := Γ.M) ⟨o, e, hc, n, hdat⟩ (by rw [hl]; exact hk) (by lia) (y := y) (by rw [hl]; simpa using hy) (PostV.back n₁ (PostV.here' st₁ hry q)) (hs _ _)

/-! ### slices -/
noncomputable def Pt (Γ : Cx) (loc : Loc) (oe : Option Expr) (Q : Option Int → Loc → Prop) (X : Exc → Loc → Prop) : Prop :=
  match oe with
  | none => Q none loc
  | some e => Ev Γ loc e (VQ fun A l => ∃ k, A = .int k ∧ Q (some k) l) X
theorem pt_none {QP : Option Int → Loc → Prop} (h : QP none loc) : Pt Γ loc none QP X := h
theorem pt_some {e : Expr} {QP : Option Int → Loc → Prop} (h : Ev Γ loc e (VQ fun A l => ∃ k, A = .int k ∧ QP (some k) l) X) : Pt Γ loc (some e) QP X := h

theorem wp_pt {oe : Option Expr} {QP : Option Int → Loc → Prop} (h : Pt Γ loc oe QP X) {H : Hm} {O : OSet} {s : Shared} (st : St Γ H O loc s) :
    wpAny Γ.M Γ.A (evalPart oe Γ.env) (fun v s' => ∃ H' O' l' k, Nx Γ.F H O s.heap H' O' s'.heap ∧ St Γ H' O' l' s' ∧ IsPart v k ∧ QP k l') (PostX Γ H O s X) s := by
  cases oe with
  | none => rw [evalPart_none]; exact wpAny_pure ⟨H, O, loc, none, .refl .., st, .none, h⟩
  | some e =>
    rw [evalPart_some]
    refine wpAny_mono (h H O s st) (fun v s₁ p => ?_) fun _ _ p => p
    refine gg fun GG hGG => ?_
    obtain ⟨H₁, O₁, l₁, lv, n₁, st₁, r₁, q₁⟩ := p
    refine hGG ?_
    cases lv with
    | own _ _ => exact q₁.elim
    | itr _ _ => exact q₁.elim
    | val A =>
      obtain ⟨k, rfl, q⟩ := q₁
      obtain ⟨t, rfl⟩ := Rep.int_of (H := H₁) r₁
      exact ⟨H₁, O₁, l₁, some k, n₁, st₁, .int _ _, q⟩

/- xs[lo:hi] -/
noncomputable def slc (As : List V) (lo hi : Option Int) : List V := (As.drop (lo.elim 0 (clipAt As.length))).take (hi.elim As.length (clipAt As.length) - lo.elim 0 (clipAt As.length))

theorem slice_end {H₀ H : Hm} {O₀ O : OSet} {s₀ s : Shared} {l' : Loc} {vl vu : Value} {lo hi : Option Int} {b : Addr} {xs : Array Value} (n : Nx Γ.F H₀ O₀ s₀.heap H O s.heap) (st : St Γ H O l' s) (hr : Reps H As xs.toList) (q : Q (.lst (slc As lo hi)) l') :
    PostV Γ H₀ O₀ s₀ (VQ Q) (.ref (s.heap.objs.size + 1)) { s with heap := (s.heap.push { cls := .type "slice", data := .fields #[vl, vu, .none] }).push { cls := .type "list", data := .seq (slicePick xs lo hi none) } } := by
  have hl : xs.size = As.length := by rw [← hr.length]; simp
  have hn : s.heap.get? (s.heap.objs.size + 1) = none := Heap.get?_none_of_le (Nat.le_succ _)
  refine PostV.back n (PostV.made (tk := s.toks) (o := { cls := .type "list", data := .seq (slicePick xs lo hi none) }) st (fun b o e => Heap.get?_push_of_some _ (Heap.get?_push_of_some _ e)) hn ?_ (seq_nodict rfl) (rep_new_lst (st.foreign hn).hm rfl rfl ?_) q)
  · have := Heap.get?_push_size (s.heap.push { cls := .type "slice", data := .fields #[vl, vu, .none] }) (o := { cls := .type "list", data := .seq (slicePick xs lo hi none) }) rfl
    rw [Heap.size_push] at this; exact this
  · rw [slicePick_plain]
    unfold slc
    rw [← hl]
    exact (hr.drop _).take _

theorem ev_slice {value : Expr} {lower upper : Option Expr} {p pos : Pos} (h : Ev Γ loc value (VQ fun A l => ∃ As, A = .lst As ∧ As.length ≤ sizeLine ∧ Pt Γ l lower (fun lo l₁ => Pt Γ l₁ upper (fun hi l₂ => Q (.lst (slc As lo hi)) l₂) X) X) X)
    (ht : ∀ o r, letTemporaryGo value o r = pure () := by intro _ _; rfl) : Ev Γ loc (.Subscript value (.Slice lower upper none p) pos) (VQ Q) X := by
  intro H O s st
  refine wpAny_Subscript_list_slice (wpAny_mono (h H O s st) (fun a s₁ pq => ?_) fun _ _ p => p) ht
  refine gg fun GG hGG => ?_
  obtain ⟨H₁, O₁, l₁, lv, n₁, st₁, r₁, q₁⟩ := pq
  refine hGG ?_
  cases lv with
  | own _ _ => exact q₁.elim
  | itr _ _ => exact q₁.elim
  | val A =>
    obtain ⟨As, rfl, hz, q₁⟩ := q₁
    refine wpAny_mono (wp_pt q₁ st₁) (fun vl s₂ pq => ?_) fun _ _ p => p.back n₁
    refine gg fun GG hGG => ?_
    obtain ⟨H₂, O₂, l₂, lo, n₂, st₂, pl, q₂⟩ := pq
    refine hGG ?_
    refine wpAny_mono (wp_pt q₂ st₂) (fun vu s₃ pq => ?_) fun _ _ p => p.back (n₁.trans n₂)
    refine gg fun GG hGG => ?_
    obtain ⟨H₃, O₃, l₃, hi, n₃, st₃, pu, q₃⟩ := pq
    obtain ⟨b, o, xs, n, rfl, h2, h3, h4, h5⟩ := Rep.lst_of (H := H₁) r₁
    refine hGG ?_
    have h2' := n₃.hle _ _ (n₂.hle _ _ h2)
    have hl : xs.size = As.length := by rw [← h5.length]; simp
    refine ⟨b, xs, lo, hi, rfl, ⟨o, st₃.agree _ _ h2', h3, n, h4⟩, by rw [hl]; exact hz, pl, pu, slice_end (b := b) ((n₁.trans n₂).trans n₃) st₃ (h5.mono (n₂.hle.trans n₃.hle)) q₃⟩

/-! ### the frame's own lists are changed -/
/- the object of an own list is written anew -/
theorem StH.ownSet {H : Hm} {O : OSet} {h h' : Heap} {os : OsState} {g : Array GenState} {Bs : List V} (st : StH Γ H O loc h os g) (hx : loc.lookup x = some (.own a As)) (hsb : Heap.SameBut a h h') (hn : OwnL H h' a Bs) :
    StH Γ H O ((x, .own a Bs) :: loc) h' os g := by
  obtain ⟨v, hv, b, rfl, hO, rfl, hol⟩ := st.vars x _ hx
  have ap := st.apart x a _ hx rfl hv
  have ne : ∀ y lv, loc.lookup y = some lv → lv.mine = true → y ≠ x → ∀ b, VarIs Γ.env h y (.ref b) → b ≠ a := fun y lv ey m hne b hb z => by
    subst z; exact hne (st.sep y x b lv _ ey hx m rfl hb hv)
  have kv : ∀ y w, VarIs Γ.env h y w → VarIs Γ.env h' y w := fun y w hy => hy.sameW (F := Γ.F) fun b o e z => ⟨o, (hsb.2 b fun q => by
    rcases z with z | ⟨c, z⟩
    · exact ap.1 (q ▸ z)
    · exact ap.2 c b z q.symm).trans e, .refl ..⟩
  have back : ∀ y w lv, loc.lookup y = some lv → VarIs Γ.env h' y w → VarIs Γ.env h y w := fun y w lv e hy => by
    obtain ⟨w', hw, _⟩ := st.vars y lv e
    have := (kv y w' hw).inj hy
    subst this; exact hw
  exact
  { base := fun b o e => (hsb.2 b fun z => by subst z; rw [st.obase _ hO] at e; cases e).trans (st.base b o e)
    agree := fun b o e => (hsb.2 b fun z => by subst z; rw [st.ohm _ hO] at e; cases e).trans (st.agree b o e)
    nofr := st.nofr
    os := st.os
    gens := st.gens
    obase := st.obase
    otab := st.otab
    tabs := fun b hb => ⟨(st.tabs b hb).1, (st.tabs b hb).2.same (F := Γ.F) fun o e => ⟨o, (hsb.2 b fun z => st.otab a hO (z ▸ hb)).trans e, .refl ..⟩⟩
    ohm := st.ohm
    othere := fun b hb => by
      by_cases z : b = a
      · subst z; obtain ⟨o, _, _, e, _⟩ := hn; exact ⟨o, e⟩
      · obtain ⟨o, e⟩ := st.othere b hb; exact ⟨o, (hsb.2 b z).trans e⟩
    kind := st.kind
    ns := let ⟨m, hm⟩ := st.ns; ⟨m, hm.sameBut hsb fun z => ap.1 z.symm⟩
    onsO := st.onsO
    vars := fun y lv e => by
      by_cases hy : y = x
      · subst hy
        rw [lookup_cons_self] at e; cases e
        exact ⟨_, kv _ _ hv, a, rfl, hO, rfl, hn⟩
      · rw [lookup_cons_ne hy] at e
        obtain ⟨w, hw, hl⟩ := st.vars y lv e
        refine ⟨w, kv y w hw, hl.keep (fun _ q => q) fun b o m ew eo => (hsb.2 b ?_).trans eo⟩
        subst ew; exact ne y lv e m hy b hw
    sep := fun y z b l1 l2 e1 e2 m1 m2 v1 v2 => by
      have g : ∀ y l, List.lookup y ((x, .own a Bs) :: loc) = some l → l.mine = true → ∃ l', loc.lookup y = some l' ∧ l'.mine = true := fun y l e m => by
        by_cases hy : y = x
        · subst hy; exact ⟨_, hx, rfl⟩
        · rw [lookup_cons_ne hy] at e; exact ⟨l, e, m⟩
      obtain ⟨l1', e1', m1'⟩ := g y l1 e1 m1
      obtain ⟨l2', e2', m2'⟩ := g z l2 e2 m2
      exact st.sep y z b l1' l2' e1' e2' m1' m2' (back y _ l1' e1' v1) (back z _ l2' e2' v2)
    apart := fun y b l1 e1 m1 v1 => by
      by_cases hy : y = x
      · subst hy; exact st.apart y b _ hx rfl (back y _ _ hx v1)
      · rw [lookup_cons_ne hy] at e1
        exact st.apart y b l1 e1 m1 (back y _ l1 e1 v1)
    cells := fun y c e => by
      obtain ⟨h1, o, w, e1, e2⟩ := st.cells y c e
      exact ⟨h1, o, w, (hsb.2 c fun z => ap.2 y c e z.symm).trans e1, e2⟩
    cne := st.cne
    cinj := st.cinj
    frames := st.frames.sameW fun b o e ⟨l, hl, env, he, hf⟩ => ⟨o, (hsb.2 b fun z => by
      obtain ⟨l', hl', r⟩ := st.frames
      rw [hl] at hl'; cases hl'
      obtain ⟨_, L, o', es, ep, h2, h3, h4, _⟩ := r env he
      rw [hf] at h2; cases h2
      obtain ⟨o'', xs, n, e'', _, d'', _⟩ := hol
      rw [z, e''] at h3; cases h3
      rw [d''] at h4; cases h4).trans e, .refl ..⟩ }
theorem Nx.ownSet {F : Fix} {H₀ H : Hm} {O₀ O : OSet} {h₀ h h' : Heap} (n : Nx F H₀ O₀ h₀ H O h) (hO : O a) (hsb : Heap.SameBut a h h') (ht : ∃ o, h'.get? a = some o) : Nx F H₀ O₀ h₀ H O h' :=
  n.then (fun b o e hb _ => ⟨o, (hsb.2 b fun z => hb (z ▸ hO)).trans e, .refl ..⟩) (fun b o e _ => by
    by_cases z : b = a
    · exact z ▸ ht
    · exact ⟨o, (hsb.2 b z).trans e⟩) (.refl _) (fun b o e => .inl e) fun b e => .inl e

/- x.append(e), as a statement -/
theorem ex_append {px apos pos spos : Pos} {e : Expr} (hx : loc.lookup x = some (.own a As)) (h : Ev Γ loc e (VQ fun B l => ∃ Bs, l.lookup x = some (.own a Bs) ∧ Bs.length < sizeLine ∧ QF .next ((x, .own a (Bs ++ [B])) :: l)) X)
    (he : ∃ pl, eval (.Call (.Attribute (.Name x px) (Str.ofString "append") apos) [e] [] pos) Γ.env = (do
      let ov ← eval (.Name x px) Γ.env
      standAt apos.atName
      let (f, first) ← holding [ov] (getMethod ov (Str.ofString "append") pl)
      callWith pos f first (backTo pos (starEach [e] Γ.env)) []) := by exact ⟨_, rfl⟩)
    (hse : starEach [e] Γ.env = [(false, eval e Γ.env)] := by rfl)
    (hi : interactive Γ.env = false := by rfl) (hw : swapsWith (.Call (.Attribute (.Name x px) (Str.ofString "append") apos) [e] [] pos) none spos.line Γ.env = pure false := by rfl)
    (hd : (x == ("__debug__" : Str)) = false := by decide) (hn : notPlain x = false := by decide) :
    Ex1 Γ loc (.Expr (.Call (.Attribute (.Name x px) (Str.ofString "append") apos) [e] [] pos) spos) QF X := by
  intro H O s st
  obtain ⟨pl, he⟩ := he
  refine wpAny_Expr (MethodCall_ (pl := pl) ?_ he) hi hw
  refine gg fun GG hGG => ?_
  obtain ⟨v, hv, b, rfl, hO, rfl, o, xs, n, eo, hc, hdat, hp, hr⟩ := st.vars x _ hx
  refine hGG ?_
  refine wpAny_Name (wp_var st.kind hv ?_ hn) hd
  refine PySem.Calls.getMethod_list_append eo hc hp.1 ?_
  refine callWith_method1 ?_ hse rfl
  show wpAny _ _ (spliced (backTo pos (starEach [e] Γ.env))) _ _ _
  rw [hse]
  refine Calls.spliced_cons (wpAny_mono (h H O s st) (fun y s₁ pq => ?_) fun _ _ p => p)
  refine gg fun GG hGG => ?_
  obtain ⟨H₁, O₁, l₁, lv, n₁, st₁, r₁, q₁⟩ := pq
  refine hGG ?_
  cases lv with
  | own _ _ => exact q₁.elim
  | itr _ _ => exact q₁.elim
  | val B =>
    obtain ⟨Bs, hx₁, hz, q⟩ := q₁
    refine Calls.spliced_nil ?_
    refine gg fun GG hGG => ?_
    obtain ⟨v', hv', b', rfl, hO', rfl, o', xs', n', eo', hc', hdat', hp', hr'⟩ := st₁.vars x _ hx₁
    refine hGG ?_
    have hl : xs'.size = Bs.length := by rw [← hr'.length]; simp
    have hpl : s₁.heap.PlainList a xs' := by
      refine gg fun GG hGG => ?_
      obtain ⟨c, d, dt, sl⟩ := o'
      obtain ⟨rfl, rfl⟩ := hp'
      refine hGG ?_
      simp only at hc' hdat'
      subst hc' hdat'
      exact ⟨n', eo'⟩
    refine wpAny_list_append_plain hpl (fun h₂ hl₂ hs₂ => ?_) (by rw [hl]; exact Nat.le_of_lt hz)
    obtain ⟨n₂, e₂⟩ := hl₂
    have ol : OwnL H₁ h₂ a (Bs ++ [B]) := ⟨_, _, n₂, e₂, rfl, rfl, ⟨rfl, rfl⟩, by rw [Array.toList_push]; exact hr'.append (reps_cons r₁ (reps_nil _))⟩
    exact ⟨H₁, O₁, _, .next, n₁.ownSet hO' hs₂ ⟨_, e₂⟩, st₁.ownSet hx₁ hs₂ ol, rfl, q⟩
end
end Mine
end
section
open PySem PySem.W PyProof.Rows
set_option linter.unusedVariables false
namespace Mine

/-! ## try, except -/
noncomputable def Cx.isFn (Γ : Cx) : Prop := (∀ l, Γ.A.frames = some l → ∃ outer, l = Γ.env :: outer) ∧ ∃ L, Γ.env.frame = some L
theorem isFn_fn (F : Fix) (A : Around) (fd : FuncData) (a L : Addr) : (F.fn A fd a L).isFn := by
  refine ⟨fun l hl => ?_, L, rfl⟩
  have hl' : A.frames.map (callEnvC fd L a :: ·) = some l := hl
  cases h : A.frames with
  | none => rw [h] at hl'; cases hl'
  | some l₀ => rw [h] at hl'; cases hl'; exact ⟨l₀, rfl⟩

noncomputable def Cx.mark (Γ : Cx) (e : Value) : Cx := { Γ with A := Γ.A.mark (some e) }
theorem StH.mark {Γ : Cx} {H : Hm} {O : OSet} {loc : Loc} {h : Heap} {os : OsState} {g : Array GenState} (st : StH Γ H O loc h os g) (e : Value) : StH (Γ.mark e) H O loc h os g := { st with frames := st.frames }
theorem StH.unmark {Γ : Cx} {H : Hm} {O : OSet} {loc : Loc} {h : Heap} {os : OsState} {g : Array GenState} {e : Value} (st : StH (Γ.mark e) H O loc h os g) : StH Γ H O loc h os g := { st with frames := st.frames }

noncomputable def Matches (F : Fix) (cls tv : Value) (b : Bool) : Prop :=
  ∀ (M : Model) (A : Around) (E : Value → Shared → Prop) (s : Shared) (e : Addr) (o : Obj) (Q : Bool → Shared → Prop), (∀ b o, F.h₁.get? b = some o → s.heap.get? b = some o) → s.heap.get? e = some o → o.cls = cls → Q b s → wpAny M A (excMatches (.ref e) tv) Q E s
theorem matches_types {F : Fix} {X T : String} {b : Bool} (hexc : isSubtype (.type T) (.type "BaseException") = pure true) (hnt : isSubtype (.type ((Manifest.find? T).elim "type" fun x => x.metatype)) (.type "tuple") = pure false)
    (hsub : isSubtype (.type X) (.type T) = pure b) : Matches F (.type X) (.type T) b :=
  fun M A E s e o Q hk he hc h => wpAny_excMatches_type ⟨o, he, hc⟩ hexc hnt hsub h
theorem matches_overflow {F : Fix} : Matches F (.type "OverflowError") (.type "OverflowError") true :=
  @matches_types _ _ _ _ (by rw [isSubtype_type]; kernel_rfl) (by rw [isSubtype_type]; kernel_rfl) (by rw [isSubtype_type]; kernel_rfl)
theorem matches_value {F : Fix} : Matches F (.type "ValueError") (.type "ValueError") true :=
  @matches_types _ _ _ _ (by rw [isSubtype_type]; kernel_rfl) (by rw [isSubtype_type]; kernel_rfl) (by rw [isSubtype_type]; kernel_rfl)
theorem matches_type_value {F : Fix} : Matches F (.type "TypeError") (.type "ValueError") false :=
  @matches_types _ _ _ _ (by rw [isSubtype_type]; kernel_rfl) (by rw [isSubtype_type]; kernel_rfl) (by rw [isSubtype_type]; kernel_rfl)

section
variable {Γ : Cx} {loc : Loc} {Q : V → Loc → Prop} {QL : LV → Loc → Prop} {QB : Bool → Loc → Prop} {QF : Fl → Loc → Prop} {X : Exc → Loc → Prop} {x : Exc}

/- the handlers, an exception having landed -/
noncomputable def Hd (Γ : Cx) (loc : Loc) (x : Exc) (hs : List ExceptHandler) (Q : Fl → Loc → Prop) (X : Exc → Loc → Prop) : Prop :=
  ∀ H₀ O₀ s₀ loc₀ H O s e, St Γ H₀ O₀ loc₀ s₀ → Nx Γ.F H₀ O₀ s₀.heap H O s.heap → St Γ H O loc s → FlyT H O s₀.heap s.heap e x →
    wpAny Γ.M Γ.A (handleBy e Γ.env hs) (PostF Γ H₀ O₀ s₀ Q) (PostX Γ H₀ O₀ s₀ X) s

theorem ex_try {body : List Stmt} {h₀ : ExceptHandler} {hs : List ExceptHandler} {pos : Pos} (hf : Γ.isFn) (h : Exs Γ loc body QF (fun x l => Hd Γ l x (h₀ :: hs) QF X)) : Ex1 Γ loc (.Try body (h₀ :: hs) [] [] pos) QF X := by
  intro H O s st
  refine wpAny_Try_except (wpAny_mono (h H O s st) (fun f s₁ p => ?_) fun e s₁ p => ?_)
  · cases f with
    | next => exact wpAny_execs_nil p
    | _ => exact p
  · obtain ⟨H₁, O₁, l₁, x, n₁, st₁, fl, q⟩ := p
    refine gg fun GG hGG => ?_
    obtain ⟨l, hl, _⟩ := st.frames
    obtain ⟨outer, rfl⟩ := hf.1 l hl
    obtain ⟨L, hL⟩ := hf.2
    refine hGG ?_
    refine wp_note st n₁ st₁ fl hl hL fun h₂ n₂ st₂ fl₂ => ?_
    refine wp_setFlight (s := { s₁ with heap := h₂ }) st n₂ st₂ fl₂ fun h₃ n₃ st₃ fl₃ => ?_
    exact q H O s loc H₁ O₁ { s₁ with heap := h₃ } e st n₃ st₃ fl₃

theorem FlyT.ref {H : Hm} {O : OSet} {h₀ h : Heap} {e : Value} (f : FlyT H O h₀ h e x) : ∃ a o, e = .ref a ∧ h.get? a = some o ∧ o.cls = x.cls := by
  refine gg fun GG hGG => ?_
  obtain ⟨a, o, vs, tb, otb, tvs, h1, h2, h3, h4, h5, h6, _⟩ := f.is
  refine hGG ?_
  exact ⟨a, o, h1, h5, h6⟩

theorem hd_no {t : Str} {tp pos : Pos} {tv : Value} {n : Option Str} {suite : List Stmt} {hs : List ExceptHandler} (g : GlobAt Γ.F t tv) (m : Matches Γ.F x.cls tv false) (h : Hd Γ loc x hs QF X)
    (hk : Γ.env.kindOf t = some .globalImplicit := by rfl) (hg : Γ.env.globals = mainGlobals := by rfl) (hb : Γ.env.builtins = builtinsNs := by rfl)
    (hd : (t == ("__debug__" : Str)) = false := by decide) : Hd Γ loc x (.ExceptHandler (some (.Name t tp)) n suite pos :: hs) QF X := by
  intro H₀ O₀ s₀ loc₀ H O s e st₀ nx st fl
  refine gg fun GG hGG => ?_
  obtain ⟨a, o, rfl, ho, hc⟩ := fl.ref
  refine hGG ?_
  refine wpAny_handleBy_cons (codeAny_handlers_test ?_) (by intro q; cases q)
  refine Calls.Name_function_global st.kind hk (wp_glob st g ?_ hg hb) hd
  exact m _ _ _ s a o _ st.base ho hc (h H₀ O₀ s₀ loc₀ H O s _ st₀ nx st fl)

/- what leaves the suite of a handler -/
theorem wp_came {H₀ H₁ : Hm} {O₀ O₁ : OSet} {s₀ s₁ : Shared} {loc₀ l₁ : Loc} {e ex : Value} {x' : Exc} {outer : List Env} {L : Addr} (st₀ : St Γ H₀ O₀ loc₀ s₀) (n : Nx Γ.F H₀ O₀ s₀.heap H₁ O₁ s₁.heap) (st : St (Γ.mark e) H₁ O₁ l₁ s₁) (fl : Fly H₁ O₁ s₀.heap s₁.heap ex x') (q : X x' l₁)
    (hl : Γ.A.frames = some (Γ.env :: outer)) (hL : Γ.env.frame = some L) : notedBy Γ.M (Γ.A.mark (some e)) Γ.env (cameBackBy Γ.M Γ.A Γ.env (PostX Γ H₀ O₀ s₀ X)) ex s₁ := by
  refine wp_note (Γ := Γ.mark e) (st₀.mark e) n st fl hl hL fun h₂ n₂ st₂ fl₂ => ?_
  refine gg fun GG hGG => ?_
  obtain ⟨a, o, vs, tb, otb, tvs, rfl, h2, h3, h4, h5, h6, h7, h8, k1, k⟩ := id fl₂.is
  refine hGG ?_
  refine wpAny_bind (wpAny_field h5 h7 k1 ?_)
  rw [if_neg (by simp)]
  exact wp_setFlight (Γ := Γ) (s := { s₁ with heap := h₂ }) st₀ n₂ st₂.unmark fl₂ fun h₃ n₃ st₃ fl₃ => ⟨H₁, O₁, l₁, x', n₃, st₃, fl₃.fly, q⟩

theorem hd_yes {t : Str} {tp pos : Pos} {tv : Value} {b₀ : Stmt} {suite : List Stmt} {hs : List ExceptHandler} (hf : Γ.isFn) (g : GlobAt Γ.F t tv) (m : Matches Γ.F x.cls tv true) (h : ∀ e, Exs (Γ.mark e) loc (b₀ :: suite) QF X)
    (hk : Γ.env.kindOf t = some .globalImplicit := by rfl) (hg : Γ.env.globals = mainGlobals := by rfl) (hb : Γ.env.builtins = builtinsNs := by rfl)
    (hd : (t == ("__debug__" : Str)) = false := by decide) : Hd Γ loc x (.ExceptHandler (some (.Name t tp)) none (b₀ :: suite) pos :: hs) QF X := by
  intro H₀ O₀ s₀ loc₀ H O s e st₀ nx st fl
  refine gg fun GG hGG => ?_
  obtain ⟨a, o, rfl, ho, hc⟩ := fl.ref
  obtain ⟨l, hl, _⟩ := st.frames
  obtain ⟨outer, rfl⟩ := hf.1 l hl
  obtain ⟨L, hL⟩ := hf.2
  refine hGG ?_
  refine wpAny_handleBy_cons (codeAny_handlers_test ?_) (by intro q; cases q)
  refine Calls.Name_function_global st.kind hk (wp_glob st g ?_ hg hb) hd
  refine m _ _ _ s a o _ st.base ho hc ?_
  refine codeAny_handlers_suite ?_
  refine wp_setFlight (Γ := Γ.mark (.ref a)) (st₀.mark _) nx (st.mark _) fl fun h₁ n₁ st₁ fl₁ => ?_
  refine wpAny_mono (h (.ref a) H O { s with heap := h₁ } st₁) (fun f s₂ p => ?_) fun ex s₂ p => ?_
  · obtain ⟨H₂, O₂, l₂, flw, n₂, st₂, r₂, q₂⟩ := p
    exact ⟨H₂, O₂, l₂, flw, n₁.trans n₂, st₂.unmark, r₂, q₂⟩
  · obtain ⟨H₂, O₂, l₂, x', n₂, st₂, f₂, q₂⟩ := p
    exact wp_came st₀ (n₁.trans n₂) st₂ (f₂.back n₁) q₂ hl hL
end
end Mine
end
section
open PySem PySem.W PyProof.Rows
set_option linter.unusedVariables false
set_option maxRecDepth 100000
namespace Mine

/-! ## isinstance of a list's iterator -/
theorem li_slot : Slot "list_iterator" "__getattribute__" "object.__getattribute__" :=
  .of (owner := "object") (n := "__getattribute__") (by rw [typeLookup_type, builtinLookup_eq_fast]; kernel_rfl) (by decide +kernel) (by decide +kernel) (by decide +kernel)
    (by first | exact .inl (by decide +kernel) | exact .inr (by decide +kernel)) (by rw [isSubtype_type]; kernel_rfl)
theorem li_args (a b : Value) : argsOk "object.__getattribute__" ⟨[a, b], []⟩ := by unfold argsOk; kernel_rfl
theorem li_entry : entryFor table "object.__getattribute__" = some Builtin.«object.__getattribute__» := entryFor_of_tree (by kernel_rfl)
theorem li_class : typeLookup (.type "list_iterator") "__class__" = pure (some (.builtin "object.__class__")) := by rw [typeLookup_type, builtinLookup_eq_fast]; kernel_rfl
theorem li_owner : isSubtype (.type "list_iterator") (.type (".".intercalate ("object.__class__".cutAt '.').dropLast)) = pure true := by
  rw [F.owner_object_class, isSubtype_type]; kernel_rfl

section
variable {prog : Program} {w : World} {A : Around} {E : Value → Shared → Prop} {h : Heap} {g : Array GenState} {d : Drawn} {t : Nat} {os : OsState} {a : Addr} {o : Obj}
theorem li_get {R : Result → Shared → Prop} (hx : h.get? a = some o) (hc : o.cls = .type "list_iterator") (hq : R (.ok (.ret (.type "list_iterator"))) ⟨h, g, d, t, os⟩) :
    codeAny (model prog w) A (.call (.builtin "getset_descriptor.__get__") ⟨[.builtin "object.__class__", .ref a, .type "list_iterator"], []⟩) R ⟨h, g, d, t, os⟩ := by
  have hT : (⟨h, g, d, t, os⟩ : Shared).TypeIs (.ref a) "list_iterator" := ⟨_, hx, hc⟩
  have hT5 : (⟨h, g, d, t, os⟩ : Shared).TypeIs (.builtin "object.__class__") "getset_descriptor" := F.typeOf_object_class
  have f8 := li_owner
  refine codeAny_call_builtin F.slot_gs_get.plain F.entry_gs_get (F.slot_gs_get.check _ _ _ _ _ _ _ _ hT5 (F.args_gs_get _ _ _) ?_)
  repeat (any_goals (first | assumption | wp_step))
  refine ⟨Code.quiet_builtin _ (by decide +kernel), codeAny_builtin F.entry_object_class ?_⟩
  repeat (any_goals (first | assumption | wp_step))
theorem li_own {tk : Tok} {Q : Fin → Shared → Prop} (hx : h.get? a = some o) (hc : o.cls = .type "list_iterator") (hq : Q (.done (.ret (.type "list_iterator"))) ⟨h, g, d, t, os⟩) :
    wpAny (model prog w) A (Builtin.«object.__getattribute__» ⟨[.ref a, .str "__class__" tk], []⟩) Q E ⟨h, g, d, t, os⟩ := by
  have hT : (⟨h, g, d, t, os⟩ : Shared).TypeIs (.ref a) "list_iterator" := ⟨_, hx, hc⟩
  have hT5 : (⟨h, g, d, t, os⟩ : Shared).TypeIs (.builtin "object.__class__") "getset_descriptor" := F.typeOf_object_class
  have f4 := li_class
  have f5 := F.typeOf_object_class
  have f6 := F.slot_gs_get.lookup
  have f7 := F.slot_gs_set.lookup
  repeat (any_goals (first | assumption | wp_step))
  refine li_get hx hc ?_
  repeat (any_goals (first | assumption | wp_step))
theorem li_call {tk : Tok} {R : Result → Shared → Prop} (hx : h.get? a = some o) (hc : o.cls = .type "list_iterator") (hq : R (.ok (.ret (.type "list_iterator"))) ⟨h, g, d, t, os⟩) :
    codeAny (model prog w) A (.call (.builtin "object.__getattribute__") ⟨[.ref a, .str "__class__" tk], []⟩) R ⟨h, g, d, t, os⟩ :=
  codeAny_call_builtin li_slot.plain li_entry (li_slot.check _ _ _ _ _ _ _ _ (show (⟨h, g, d, t, os⟩ : Shared).TypeIs (.ref a) "list_iterator" from ⟨_, hx, hc⟩) (li_args _ _) (li_own hx hc hq))
theorem li_by {tk : Tok} {Q : Value → Shared → Prop} (hx : h.get? a = some o) (hc : o.cls = .type "list_iterator") (hq : Q (.type "list_iterator") ⟨h, g, d, t, os⟩) : wpAny (model prog w) A (getAttrBy (.ref a) (.str "__class__" tk) false) Q E ⟨h, g, d, t, os⟩ := by
  have hT : (⟨h, g, d, t, os⟩ : Shared).TypeIs (.ref a) "list_iterator" := ⟨_, hx, hc⟩
  have f2 := li_slot.lookup
  have f3 := li_slot.bind (.ref a)
  repeat (any_goals (first | assumption | wp_step))
  refine li_call hx hc ?_
  repeat (any_goals (first | assumption | wp_step))
theorem li_attr {Q : Option Value → Shared → Prop} (hx : h.get? a = some o) (hc : o.cls = .type "list_iterator") (hq : Q (some (.type "list_iterator")) ⟨h, g, d, t + 1, os⟩) : wpAny (model prog w) A (getAttr? (.ref a) "__class__") Q E ⟨h, g, d, t, os⟩ := by
  unfold getAttr? getAttrBy?
  repeat (any_goals (first | assumption | with_reducible apply li_by hx hc | wp_step))
theorem li_nested {T : String} {dep : Int} {tk : Tok} {Q : Fin → Shared → Prop} (hx : h.get? a = some o) (hc : o.cls = .type "list_iterator") (hne : (Value.type "list_iterator" == Value.type T) = false) (hty : typeOf (.type T) = pure (.type "type"))
    (hsub : isSubtype (.type "list_iterator") (.type T) = pure false) (hq : Q (.done (.ret (.bool false))) ⟨h, g, d, t + 1, os⟩) :
    wpAny (model prog w) A (Builtin.«isinstance.nested» ⟨[.ref a, .type T, .int dep tk], []⟩) Q E ⟨h, g, d, t, os⟩ := by
  have hT : (⟨h, g, d, t, os⟩ : Shared).TypeIs (.ref a) "list_iterator" := ⟨_, hx, hc⟩
  repeat (any_goals (first | assumption | with_reducible apply li_attr hx hc | wp_step))
end
theorem li_answers {a : Addr} {T : String} (hne : (Value.type "list_iterator" == Value.type T) = false) (hty : typeOf (.type T) = pure (.type "type")) (hsub : isSubtype (.type "list_iterator") (.type T) = pure false) :
    Answers (fun s => s.TypeIs (.ref a) "list_iterator") (.ref a) (.type T) false :=
  fun _ _ _ _ _ _ s hs => by
    obtain ⟨h, g, d, t, os⟩ := s
    obtain ⟨⟨o, hx, hc⟩, hq⟩ := hs
    exact li_nested hx hc hne hty hsub (hq (t + 1))
end Mine
end
section
open PySem PySem.W PyProof.Rows
set_option linter.unusedVariables false
set_option maxRecDepth 100000
namespace Mine
theorem fs_entry : entryFor table "math.fsum" = some Builtin.«math.fsum» := entryFor_of_tree (by kernel_rfl)
theorem fs_entry_loop : entryFor table "math.fsum.loop" = some Builtin.«math.fsum.loop» := entryFor_of_tree (by kernel_rfl)
theorem fs_plain : plainId "math.fsum" = true := by decide +kernel
theorem fs_plain_loop : plainId "math.fsum.loop" = true := by decide +kernel
theorem fs_args (a : Value) : argsOk "math.fsum" ⟨[a], []⟩ := by unfold argsOk; kernel_rfl
theorem fs_kind : builtinKind "math.fsum" = none := by decide +kernel

/- the float of a number; none: too great -/
noncomputable def V.real : V → Option UInt64
  | .flt x => some x
  | .int i => if Float64.isInf (Float64.ofInt i) then Option.none else some (Float64.ofInt i)
  | .bool b => some (Float64.ofInt (if b then 1 else 0))
  | _ => Option.none
noncomputable def V.fin : V → Prop
  | .flt x => Float64.isFinite x = true
  | .int _ => True
  | .bool _ => True
  | _ => False

theorem bits_back (x : UInt64) : (Int.ofNat x.toNat).toNat.toUInt64 = x := by simp
theorem pack_back (ps : List UInt64) {f : Value → UInt64} (hf : ∀ x : UInt64, f (rawInt x.toNat) = x) : (ps.map fun x => rawInt x.toNat).map f = ps := by
  induction ps with
  | nil => rfl
  | cons x xs ih => simp only [List.map_cons, ih, hf]

theorem fsumAdd_length (ps : List UInt64) : ∀ x, (Float64.fsumAdd ps x).1.length ≤ ps.length := by
  induction ps with
  | nil => intro x; simp [Float64.fsumAdd]
  | cons y ps ih =>
    intro x
    simp only [Float64.fsumAdd]
    generalize (if Float64.lt (Float64.abs x) (Float64.abs y) = true then (y, x) else (x, y)) = p
    obtain ⟨a, b⟩ := p
    have := ih (Float64.add a b)
    split <;> simp only [List.length_cons] <;> lia

theorem real_fin {A : V} {x : UInt64} (h : A.fin) (e : A.real = some x) : Float64.isFinite x = true := by
  cases A with
  | flt y => simp only [V.real, Option.some.injEq] at e; subst e; exact h
  | int i =>
    simp only [V.real] at e
    split at e
    · cases e
    · rename_i hi; cases e
      have hn : Float64.isInf (Float64.ofInt i) = false := by simpa using hi
      exact PySem.Flt.finite_ofInt (fun c => by have := PySem.Flt.inf_of_over c; rw [this] at hn; cases hn)
  | bool b => cases b <;> (simp only [V.real, Option.some.injEq] at e; subst e; decide +kernel)
  | none => exact h.elim
  | str _ => exact h.elim
  | tup _ => exact h.elim
  | lst _ => exact h.elim
  | con _ => exact h.elim
  | rng _ _ _ => exact h.elim
  | exc _ _ => exact h.elim

section
variable {prog : Program} {w : World} {A : Around}

theorem slot_bool_float : Slot "bool" "__float__" "int.__float__" :=
  .of (owner := "int") (n := "__float__") (by rw [typeLookup_type, builtinLookup_eq_fast]; kernel_rfl) (by decide +kernel) (by decide +kernel) (by decide +kernel)
    (by first | exact .inl (by decide +kernel) | exact .inr (by decide +kernel)) (by rw [isSubtype_type]; kernel_rfl)
theorem bool_not_over (b : Bool) : ¬ Float64.isInf (Float64.ofInt (if b then 1 else 0)) = true := by cases b <;> decide +kernel
theorem gives_bool_float (b : Bool) : Gives (Builtin.«int.__float__» ⟨[.bool b], []⟩) (.float (Float64.ofInt (if b then 1 else 0))) :=
  .of_wp fun M A E s Q h => by
    have hc := bool_not_over b
    obtain ⟨hp, g, d, tk, os⟩ := s
    wp_walk
    all_goals first | exact ⟨_, rfl, h⟩ | skip
/- realArg of a number -/
theorem wp_real {s : Shared} {H : Hm} {B : V} {v : Value} {Q : UInt64 → Shared → Prop} {E : Value → Shared → Prop} (hA : A.handled = none) (hB : B.fin) (r : Rep H B v)
    (h0 : B.real = none → PySem.Flt.Throws "OverflowError" E s) (h : ∀ x tk, B.real = some x → Q x { s with toks := tk }) : wpAny (model prog w) A (Builtin.Math.realArg v) Q E s := by
  cases B with
  | flt x =>
    obtain ⟨t, rfl⟩ := r.flt_of
    have := h x s.toks rfl
    obtain ⟨hp, g, d, tk, os⟩ := s
    unfold Builtin.Math.realArg
    wp_walk
    exact this
  | int i =>
    obtain ⟨t, rfl⟩ := r.int_of
    refine PySem.Flt.realArg_int hA (fun c => h0 ?_) fun c => h _ _ ?_
    · simp only [V.real, PySem.Flt.inf_of_over c, if_true]
    · simp only [V.real]; rw [if_neg (PySem.Flt.fin_of_fits c)]
  | bool b =>
    cases r.bool_of
    have h' := fun tk => h _ tk rfl
    have hT : s.TypeIs (.bool b) "bool" := rfl
    obtain ⟨hp, g, d, tk, os⟩ := s
    have f3 := slot_bool_float.lookup
    have f4 := slot_bool_float.bind (.bool b)
    unfold Builtin.Math.realArg
    repeat (any_goals (first | assumption | ((with_reducible show wpAny _ _ (call (Value.builtin "int.__float__") _ _) _ _ _); refine call_gives slot_bool_float hT PySem.F.entry_int_float (PySem.F.args_int_float_1 _) (gives_bool_float b) ?_; dsimp only [Made.post]) | wp_step))
    all_goals first | exact h' _ | skip
  | none => exact hB.elim
  | str _ => exact hB.elim
  | tup _ => exact hB.elim
  | lst _ => exact hB.elim
  | con _ => exact hB.elim
  | rng _ _ _ => exact hB.elim
  | exc _ _ => exact hB.elim

/- the answer of a run of a builtin -/
noncomputable abbrev Answer (Q : Value → Shared → Prop) (E : Value → Shared → Prop) : Result → Shared → Prop := fun r s' => match r with | .ok (.ret v) => Q v s' | .ok _ => False | .error e => E e s'

noncomputable def nextPs (ps : List UInt64) (x : UInt64) : List UInt64 := if Float64.isZero (Float64.fsumAdd ps x).2 then (Float64.fsumAdd ps x).1 else (Float64.fsumAdd ps x).1 ++ [(Float64.fsumAdd ps x).2]
theorem nextPs_length (ps : List UInt64) (x : UInt64) : (nextPs ps x).length ≤ ps.length + 1 := by
  have := fsumAdd_length ps x
  unfold nextPs
  split
  · lia
  · simp; omega

end
end Mine
end
section
open PySem PySem.W PyProof.Rows
set_option linter.unusedVariables false
set_option maxRecDepth 100000
namespace Mine
theorem sp_entry : entryFor table "math.sumprod" = some Builtin.«math.sumprod» := entryFor_of_tree (by kernel_rfl)
theorem sp_entry_loop : entryFor table "math.sumprod.loop" = some Builtin.«math.sumprod.loop» := entryFor_of_tree (by kernel_rfl)
theorem sp_plain : plainId "math.sumprod" = true := by decide +kernel
theorem sp_plain_loop : plainId "math.sumprod.loop" = true := by decide +kernel
theorem sp_args (a b : Value) : argsOk "math.sumprod" ⟨[a, b], []⟩ := by unfold argsOk; kernel_rfl
theorem sp_kind : builtinKind "math.sumprod" = none := by decide +kernel

/- an int or a float -/
noncomputable def V.nm : V → Prop
  | .int _ => True
  | .flt _ => True
  | _ => False
section
variable {prog : Program} {w : World} {A : Around} {s : Shared} {H : Hm} {Q : Value → Shared → Prop} {E : Value → Shared → Prop} {B C : V} {vb vc : Value}

end

noncomputable abbrev Tri := UInt64 × UInt64 × UInt64
/- how far sumprod has come: ints, floats, whatever -/
inductive SP where
  | I (s : Int) (u : Bool)
  | F (T : V) (t : Tri)
  | G (T : V)
noncomputable def zero3 : Tri := (Float64.zero false, Float64.zero false, Float64.zero false)
noncomputable def SP.ok : SP → Prop
  | .I _ _ => True
  | .F T _ => T.nm
  | .G T => T.nm
noncomputable def TriAt (h : Heap) (tt : Addr) (t : Tri) : Prop := ∃ o n, h.get? tt = some o ∧ o.data = .seq #[rawInt t.1.toNat, rawInt t.2.1.toNat, rawInt t.2.2.toNat] n
end Mine
end
section
open PySem PySem.W PyProof.Rows
set_option linter.unusedVariables false
set_option maxRecDepth 100000
namespace Mine
section
variable {prog : Program} {w : World} {A : Around} {s : Shared} {H : Hm} {I J tt : Addr} {Q : PySem.Fin → Shared → Prop} {E : Value → Shared → Prop} {B C : V} {vb vc : Value}

end





section
variable {prog : Program} {w : World} {A : Around} {s : Shared} {H : Hm} {I J tt : Addr} {Q : PySem.Fin → Shared → Prop} {E : Value → Shared → Prop} {B C : V} {vs : List Value} {K : Value → Value → Shared → Prop}

end
end Mine
end
section
open PySem PySem.W PyProof.Rows
set_option linter.unusedVariables false
set_option maxRecDepth 100000
namespace Mine
section
variable {prog : Program} {w : World} {A : Around} {s : Shared} {H : Hm} {I J tt : Addr} {Q : PySem.Fin → Shared → Prop} {E : Value → Shared → Prop} {B C : V} {vs : List Value} {K : Shared → Prop}

end

noncomputable def Cx.in1 (Γ : Cx) : Cx := { Γ with A := Γ.A.in1 }

theorem TriAt.keep {h h' : Heap} {tt : Addr} {t : Tri} (x : TriAt h tt t) (k : ∀ o, h.get? tt = some o → h'.get? tt = some o) : TriAt h' tt t := by
  obtain ⟨o, n, e, d⟩ := x
  exact ⟨o, n, k o e, d⟩

end Mine
end
section
open PySem PySem.W PyProof.Rows
set_option linter.unusedVariables false
set_option maxRecDepth 100000
namespace Mine
/- a list iterator, from where it stands -/
theorem walks_from {prog : Program} {w : World} {A : Around} (hh : A.handled = none) (I ax : Addr) (hne : ax ≠ I) (items : Array Value) (k : Nat) :
    Walks prog w A I [I, ax] [I] (items.size - k) (fun i v => items[k + i]? = some v) (fun i h => h.IsListIter I ax (k + i) ∧ h.IsList ax items) where
  sub := fun b hb => by simp at hb; simp [hb]
  frame := fun _ _ _ st hk => ⟨st.1.at fun o e => hk I (by simp) o e, st.2.at fun o e => hk ax (by simp) o e⟩
  item := fun i s Q E hi st hQ => by
    have hi' : k + i < items.size := by omega
    refine wpAny_pyNext_list_item st.1 st.2 (x := items[k + i]) (by simp [hi']) fun h' hit' hs' => ?_
    exact hQ _ h' s.toks (by simp [hi']) ⟨hit', st.2.extBut hs'.extBut hne⟩ fun b o hb e => hs'.extBut b o (fun h => hb (by simp [h])) e
  done := fun s Q E st hQ => wpAny_pyNext_list_end hh st.1 st.2 (by simp; omega) fun h' he' => hQ h' s.toks fun b o hb e => he' b o (fun h => hb (by simp [h])) e
  self := fun _ _ _ _ st hQ => wpAny_pyIter_listiter st.1 hQ

/- at the end of a list's iterator: it is still there -/
theorem li_end {prog : Program} {w : World} {A : Around} {E : Value → Shared → Prop} {s : Shared} {it l : Addr} {i : Nat} {items} {Q : Option Value → Shared → Prop} (hh : A.handled = none)
    (hit : s.heap.IsListIter it l i) (hl : s.heap.IsList l items) (hx : items[i]? = none)
    (hQ : ∀ h', Heap.ExtBut it s.heap h' → Dead h' it → Q none { s with heap := h' }) : wpAny (model prog w) A (pyNext (.ref it)) Q E s := by
  refine gg fun GG hGG => ?_
  obtain ⟨o, ho, hc, hd⟩ := id hit
  obtain ⟨ol, hol, _, nl, hdl⟩ := hl
  refine hGG ?_
  unfold pyNext
  refine wpAny_bind (wpAny_attempt (wpAny_callSpecial?_slot (name := Str.ofString "__next__") hit.typeIs slot_listiter_next
    (wpAny_call_entry slot_listiter_next hit.typeIs entry_listiter_next ?_ (args_listiter_next _))))
  refine wpAny_bind (m := field (.ref it) 0) (wpAny_field ho hd (x := .ref l) rfl ?_)
  show wpAny _ _ (if (Value.ref l == Value.none) = true then _ else _) _ _ s
  rw [if_neg (show ¬ ((Value.ref l == Value.none) = true) from Bool.false_ne_true)]
  refine wpAny_bind (m := field (.ref it) 1) (wpAny_field ho hd (x := .int i 0) rfl ?_)
  refine wpAny_bind (m := seqItems? (.ref l)) (wpAny_seqItems hol hdl ?_)
  simp only [Int.toNat_natCast, hx]
  refine wpAny_bind (wpAny_rule (wpAny_bind (wpAny_setField ho hd (by simp) ?_)))
  refine wpAny_bind (m := newExc (.type "StopIteration") []) ?_
  simp only [newExc, newTuple]
  refine wpAny_bind (wpAny_newObj_type ?_ (by size_fits))
  refine wpAny_bind (m := firstArgMember _ _) (wpAny_of_eq (a := Value.none) (by first | rfl | (simp only [firstArgMember]; rfl)) ?_)
  refine wpAny_newObj_type ?_ (by size_fits)
  simp only [raiseNew]
  refine wpAny_bind (wpAny_handled ?_)
  rw [show A.in1.handled = none from hh]
  refine wpAny_bind (wpAny_pure (wpAny_throw ?_))
  refine wpAny_bind (wpAny_isInstance (T := "StopIteration") (b := true) ⟨_, Heap.get?_push_size _ rfl, rfl⟩ isSubtype_stop ?_)
  refine wpAny_pure (hQ _ (((Heap.SameBut.update ..).extBut.push _).push _) ⟨_, i, Heap.get?_push_of_some _ (Heap.get?_push_of_some _ (Heap.get?_update_self _ ho (Obj.isFreed_of_fields (Obj.data_mapFields hd _)))), ?_, ?_⟩)
  · rw [show (Obj.mapFields (fun x => x.setIfInBounds 0 Value.none) o).cls = o.cls by unfold Obj.mapFields; split <;> rfl]; exact hc
  · rw [Obj.data_mapFields hd]; rfl
/- behind the end -/
theorem li_dead {prog : Program} {w : World} {A : Around} {E : Value → Shared → Prop} {s : Shared} {it : Addr} {Q : Option Value → Shared → Prop} (hh : A.handled = none) (hit : Dead s.heap it)
    (hQ : ∀ h', Heap.ExtBut it s.heap h' → Dead h' it → Q none { s with heap := h' }) : wpAny (model prog w) A (pyNext (.ref it)) Q E s := by
  obtain ⟨o, i, ho, hc, hd⟩ := hit
  have hT : s.TypeIs (.ref it) "list_iterator" := ⟨o, ho, hc⟩
  unfold pyNext
  refine wpAny_bind (wpAny_attempt (wpAny_callSpecial?_slot (name := Str.ofString "__next__") hT slot_listiter_next
    (wpAny_call_entry slot_listiter_next hT entry_listiter_next ?_ (args_listiter_next _))))
  refine wpAny_bind (m := field (.ref it) 0) (wpAny_field ho hd (x := .none) rfl ?_)
  show wpAny _ _ (if (Value.none == Value.none) = true then _ else _) _ _ s
  rw [if_pos (by rfl)]
  refine wpAny_bind (wpAny_rule ?_)
  refine wpAny_bind ?_
  refine wpAny_bind (m := newExc (.type "StopIteration") []) ?_
  simp only [newExc, newTuple]
  refine wpAny_bind (wpAny_newObj_type ?_ (by size_fits))
  refine wpAny_bind (m := firstArgMember _ _) (wpAny_of_eq (a := Value.none) (by first | rfl | (simp only [firstArgMember]; rfl)) ?_)
  refine wpAny_newObj_type ?_ (by size_fits)
  simp only [raiseNew]
  refine wpAny_bind (wpAny_handled ?_)
  rw [show A.in1.handled = none from hh]
  refine wpAny_bind (wpAny_pure (wpAny_throw ?_))
  refine wpAny_bind (wpAny_isInstance (T := "StopIteration") (b := true) ⟨_, Heap.get?_push_size _ rfl, rfl⟩ isSubtype_stop ?_)
  exact wpAny_pure (hQ _ (((Heap.ExtBut.refl _ _).push _).push _) ⟨o, i, Heap.get?_push_of_some _ (Heap.get?_push_of_some _ ho), hc, hd⟩)
theorem iter_dead {prog : Program} {w : World} {A : Around} {E : Value → Shared → Prop} {s : Shared} {it : Addr} {Q : Value → Shared → Prop} (hit : Dead s.heap it) (h : Q (.ref it) s) : wpAny (model prog w) A (pyIter (.ref it)) Q E s := by
  refine gg fun GG hGG => ?_
  obtain ⟨o, i, ho, hc, hd⟩ := hit
  refine hGG ?_
  have hT : s.TypeIs (.ref it) "list_iterator" := ⟨o, ho, hc⟩
  refine wpAny_pyIter_slot hT slot_listiter_iter (wpAny_call_entry slot_listiter_iter hT entry_listiter_iter ?_ (args_listiter_iter _))
  show wpAny _ _ (ret (.ref it)) _ _ s
  exact wpAny_pure ⟨_, rfl, "list_iterator", _, hT, slot_listiter_next.lookup, h⟩
theorem walks_dead {prog : Program} {w : World} {A : Around} (hh : A.handled = none) (I : Addr) (P : Nat → Value → Prop) : Walks prog w A I [I] [I] 0 P (fun _ h => Dead h I) where
  sub := fun b hb => hb
  frame := fun i h h' ⟨o, j, e, r⟩ k => ⟨o, j, k I (by simp) o e, r⟩
  item := fun i s Q E hi => absurd hi (Nat.not_lt_zero _)
  done := fun s Q E st hQ => li_dead hh st fun h' he hd => hQ h' s.toks fun b o hb e => he b o (fun z => hb (by simp [z])) e
  self := fun i s Q E st hQ => iter_dead st hQ
/- what is walked along: a list, a tuple; or an iterator -/
noncomputable def SrcV (H : Hm) (h : Heap) (rel : Addr → Prop) (v : Value) (As : List V) : Prop :=
  (∃ A, (A = .lst As ∨ A = .tup As) ∧ Rep H A v) ∨ (∃ a, v = .ref a ∧ H a = none ∧ rel a ∧ ItrN H h a As)

section
variable {Γ : Cx} {loc : Loc} {QL : LV → Loc → Prop} {Q : V → Loc → Prop} {X : Exc → Loc → Prop}

/- check of a builtin function's arguments -/
theorem wp_check {prog : Program} {w : World} {A : Around} {id : String} {args : List Value} {s : Shared} {Q : Unit → Shared → Prop} {E : Value → Shared → Prop} (hk : builtinKind id = none) (ha : argsOk id ⟨args, []⟩) (h : Q () s) :
    wpAny (model prog w) A (checkBuiltinCall id ⟨args, []⟩) Q E s := by
  simp only [checkBuiltinCall, hk]
  cases hsig : Manifest.signature? id with
  | none => exact wpAny_pure h
  | some sig =>
    have ha' : Bind.checkArgs id sig ⟨args, []⟩ = pure () := by simpa only [argsOk, hsig] using ha
    simp only [ha']
    exact wpAny_pure h

end
end Mine
end
section
open PySem PySem.W PyProof.Rows
set_option linter.unusedVariables false
set_option maxRecDepth 100000
namespace Mine
/- the end of a walk, and what is known of the heap behind it -/
noncomputable def LastX (prog : Program) (w : World) (A : Around) (I : Addr) (n : Nat) (W : Nat → Heap → Prop) (K : Heap → Prop) : Prop :=
  ∀ (s : Shared) (Q : Option Value → Shared → Prop) (E : Value → Shared → Prop), W n s.heap → (∀ h' tk, (∀ b o, b ∉ [I] → s.heap.get? b = some o → h'.get? b = some o) → K h' → Q none { s with heap := h', toks := tk }) →
    wpAny (model prog w) A (pyNext (.ref I)) Q E s
theorem li_lastD {prog : Program} {w : World} {A : Around} (hh : A.handled = none) (I ax : Addr) (items : Array Value) (k : Nat) : LastX prog w A I (items.size - k) (fun i h => h.IsListIter I ax (k + i) ∧ h.IsList ax items) (fun h => Dead h I) :=
  fun s Q E st hQ => li_end hh st.1 st.2 (by simp; omega) fun h' he' hd => hQ h' s.toks (fun b o hb e => he' b o (fun h => hb (by simp [h])) e) hd
theorem dead_lastD {prog : Program} {w : World} {A : Around} (hh : A.handled = none) (I : Addr) : LastX prog w A I 0 (fun _ h => Dead h I) (fun h => Dead h I) :=
  fun s Q E st hQ => li_dead hh st fun h' he' hd => hQ h' s.toks (fun b o hb e => he' b o (fun h => hb (by simp [h])) e) hd

theorem li_no_len : typeLookup (.type "list_iterator") "__len__" = pure none := by rw [typeLookup_type, builtinLookup_eq_fast]; kernel_rfl
theorem li_hint : typeLookup (.type "list_iterator") "__length_hint__" = pure (some (.builtin "list_iterator.__length_hint__")) := by rw [typeLookup_type, builtinLookup_eq_fast]; kernel_rfl
theorem li_split : splitId "list_iterator.__length_hint__" = some ("list_iterator", "__length_hint__") := by decide +kernel
theorem li_self : isSubtype (.type "list_iterator") (.type "list_iterator") = pure true := by rw [isSubtype_type]; kernel_rfl

section
variable {prog : Program} {w : World} {A : Around} {s : Shared} {R : Result → Shared → Prop} {I : Addr} {fp : List Addr} {n : Nat} {P : Nat → Value → Prop} {W : Nat → Heap → Prop}

theorem wp_hint_li {Q : Bool → Shared → Prop} {E : Value → Shared → Prop} (hT : s.TypeIs (.ref I) "list_iterator") (h : Q false s) : wpAny (model prog w) A (Builtin.List.listLengthHint (.ref I)) Q E s := by
  unfold Builtin.List.listLengthHint
  refine wpAny_bind (wpAny_specialOf hT li_no_len ?_)
  show wpAny _ _ (specialOf (Value.ref I) (Str.ofString "__length_hint__") >>= _) _ _ _
  refine wpAny_bind (wpAny_specialOf hT li_hint ?_)
  dsimp only
  rw [li_split]
  dsimp only
  refine wpAny_bind (wpAny_isInstance hT li_self ?_)
  exact wpAny_pure h

theorem extend_loop {L : Heap → Prop} (La : LastX prog w A.in1 I n W L) (Wk : Walks prog w A.in1 I fp [I] n P W) (hn : n ≤ sizeLine) (S : Addr) (hSf : S ∉ fp) (res : Value) :
    ∀ (k i : Nat) (s : Shared) (acc : Array Value) (c : Nat), n - i = k → i ≤ n → W i s.heap → s.heap.get? S = some { cls := .type "list", dict := none, data := .seq acc c, slots := #[] } → ItemsOf P acc i →
    (∀ h' tk acc' c', (∀ b o, b ≠ S → b ≠ I → s.heap.get? b = some o → h'.get? b = some o) → L h' → h'.get? S = some { cls := .type "list", dict := none, data := .seq acc' c', slots := #[] } → ItemsOf P acc' n → R (.ok (.ret res)) { s with heap := h', toks := tk }) →
    codeAny (model prog w) A (.builtin "list.extend.loop" ⟨[.ref S, .ref I, res], []⟩) R s := by
  have hSI : S ≠ I := fun e => hSf (e ▸ Wk.sub I (by simp))
  intro k
  induction k with
  | zero =>
    intro i s acc c hk hi hst hS hacc hR
    have hin : i = n := by grind
    subst hin
    refine codeAny_builtin F.entry_extend_loop ?_
    rw [Around.under_plainId F.plain_extend_loop _]
    show wpAny _ A.in1 (pyNext (.ref I) >>= _) _ _ s
    refine wpAny_bind (La s _ _ hst fun h' tk hk' hl => ?_)
    exact wpAny_pure (hR h' tk acc c (fun b o _ hb e => hk' b o (by simpa using hb) e) hl (hk' S _ (by simpa using hSI) hS) hacc)
  | succ k ih =>
    intro i s acc c hk hi hst hS hacc hR
    have hlt : i < n := by omega
    refine codeAny_builtin F.entry_extend_loop ?_
    rw [Around.under_plainId F.plain_extend_loop _]
    show wpAny _ A.in1 (pyNext (.ref I) >>= _) _ _ s
    refine wpAny_bind (Wk.item i s _ _ hlt hst fun v h' tk hP hst' hk' => ?_)
    have hS' := hk' S _ (by simpa using hSI) hS
    show wpAny _ A.in1 (updateSeq S (·.push v) >>= _) _ _ _
    refine wpAny_bind ?_
    refine wpAny_updateSeq hS' rfl (wpAny_pure ⟨plainId_quiet F.plain_extend_loop _, ih (i + 1) _ (acc.push v) _ (by grind) hlt (Wk.frame _ _ _ hst' fun b hb o e => ?_) (Heap.get?_update_self _ hS' rfl) (hacc.push hP) fun h₂ tk₂ acc' c' hk₂ hl hS'' hacc' => ?_⟩)
      (by rw [hacc.1]; lia) (by show (acc.push v).size ≤ sizeLine + 1; rw [Array.size_push, hacc.1]; lia)
    · exact (Heap.get?_update_other _ _ (fun h : S = b => hSf (by rw [h]; exact hb))).trans e
    · refine hR h₂ tk₂ acc' c' (fun b o hbS hbI e => hk₂ b o hbS hbI ?_) hl hS'' hacc'
      exact (Heap.get?_update_other _ _ (fun h : S = b => hbS h.symm)).trans (hk' b o (by simpa using hbI) e)

theorem list_init_li {L : Heap → Prop} (La : LastX prog w A.in1 I n W L) (Wk : Walks prog w A.in1 I fp [I] n P W) (hT : ∀ i h, W i h → ∃ o, h.get? I = some o ∧ o.cls = .type "list_iterator") (S : Addr) (hst : W 0 s.heap) (hSf : S ∉ fp)
    (hS : s.heap.get? S = some { cls := .type "list", data := .seq #[] })
    (hR : ∀ h' tk acc' c', (∀ b o, b ≠ S → b ≠ I → s.heap.get? b = some o → h'.get? b = some o) → L h' → h'.get? S = some { cls := .type "list", dict := none, data := .seq acc' c', slots := #[] } → ItemsOf P acc' n → R (.ok (.ret .none)) { s with heap := h', toks := tk }) (hn : n ≤ sizeLine) :
    wpAny (model prog w) A.in1 (Builtin.«list.__init__» ⟨[.ref S, .ref I], []⟩)
      (fun fin s' => match fin with | .done f => R (.ok f) s' | .again c' => c'.quiet = true ∧ codeAny (model prog w) A c' R s') (fun e s' => R (.error e) s') s := by
  have hSI : S ≠ I := fun e => hSf (e ▸ Wk.sub I (by simp))
  show wpAny _ A.in1 (do let old ← Builtin.List.listItems (.ref S); Builtin.List.listUpdate (.ref S) (fun _ => #[]); letGo old.toList.reverse; Builtin.List.listExtendWith (.ref S) (.ref I) .none) _ _ s
  refine wpAny_bind ?_
  unfold Builtin.List.listItems
  refine wpAny_bind (wpAny_seqItems hS rfl (wpAny_pure ?_))
  show wpAny _ A.in1 (updateSeq S (fun _ => #[]) >>= fun _ => letGo (#[] : Array Value).toList.reverse >>= fun _ => Builtin.List.listExtendWith (.ref S) (.ref I) .none) _ _ s
  refine wpAny_bind (wpAny_updateSeq hS rfl ?_)
  have hS₂ := Heap.get?_update_self (Obj.mapSeq (fun _ => (#[] : Array Value))) hS rfl
  have oth : ∀ b o, b ≠ S → s.heap.get? b = some o → (s.heap.update S (Obj.mapSeq (fun _ => (#[] : Array Value)))).get? b = some o :=
    fun b o hb e => (Heap.get?_update_other _ _ (Ne.symm hb)).trans e
  refine wpAny_bind (wpAny_letGo ?_)
  have hst₂ := Wk.frame 0 _ _ hst fun b hb o e => oth b o (fun h => hSf (h ▸ hb)) e
  unfold Builtin.List.listExtendWith
  have hT2 : Shared.TypeIs { s with heap := s.heap.update S (Obj.mapSeq (fun _ => (#[] : Array Value))) } (.ref I) "list_iterator" := hT 0 _ hst₂
  refine wpAny_bind (wpAny_typeOf hT2 ?_)
  have h1 : Builtin.List.listSameRef (.ref S) (.ref I) = false := by simp [Builtin.List.listSameRef, hSI]
  have h2 : (Value.type "list_iterator" == Value.type "list") = false := by decide
  have h3 : (Value.type "list_iterator" == Value.type "tuple") = false := by decide
  simp only [h1, h2, h3, Bool.or_false, Bool.false_eq_true, if_false]
  refine wpAny_bind (Wk.self 0 _ _ _ hst₂ ?_)
  refine wpAny_bind (wpAny_holding (wp_hint_li hT2 ?_))
  show wpAny _ _ (again _) _ _ _
  refine wpAny_pure ⟨plainId_quiet F.plain_extend_loop _, extend_loop La Wk hn S hSf _ n 0 _ #[] _ rfl (Nat.zero_le _) hst₂ hS₂ (ItemsOf.nil P) fun h' tk acc' c' hk hl hS' hacc => ?_⟩
  exact hR h' tk acc' c' (fun b o hbS hbI e => hk b o hbS hbI (oth b o hbS e)) hl hS' hacc

theorem call_list_li {L : Heap → Prop} {Q : Value → Shared → Prop} {E : Value → Shared → Prop} (La : LastX prog w A.in1.in1 I n W L) (Wk : Walks prog w A.in1.in1 I fp [I] n P W) (hT : ∀ i h, W i h → ∃ o, h.get? I = some o ∧ o.cls = .type "list_iterator") (hst : W 0 s.heap) (hfp : ∀ b ∈ fp, b < s.heap.objs.size)
    (hQ : ∀ h' tk acc' c', (∀ b o, b ≠ I → s.heap.get? b = some o → h'.get? b = some o) → L h' →
      h'.get? s.heap.objs.size = some { cls := .type "list", dict := none, data := .seq acc' c', slots := #[] } → ItemsOf P acc' n → Q (.ref s.heap.objs.size) { s with heap := h', toks := tk }) (hn : n ≤ sizeLine) :
    wpAny (model prog w) A (call (.type "list") [.ref I]) Q E s := by
  have hSf : s.heap.objs.size ∉ fp := fun hm => Nat.lt_irrefl _ (hfp _ hm)
  refine callType_codes (Q₁ := fun obj s₁ => obj = .ref s.heap.objs.size ∧ s₁ = { s with heap := s.heap.push { cls := .type "list", data := .seq #[] } }) F.called_list (F.typeCall_list_1 _) F.entry_list_init
    (code_list_new _ ⟨rfl, rfl⟩) fun obj s₁ h₁ => ?_
  obtain ⟨rfl, rfl⟩ := h₁
  have hS : (s.heap.push { cls := .type "list", data := .seq #[] }).get? s.heap.objs.size = some { cls := .type "list", data := .seq #[] } := Heap.get?_push_size _ rfl
  refine ⟨⟨_, hS, rfl⟩, F.args_list_init_2 _ _, list_init_li La Wk hT _ (Wk.frame 0 _ _ hst fun b _ o e => Heap.get?_push_of_some _ e) hSf hS (fun h' tk acc' c' hk hl hS' hacc => ?_) hn⟩
  refine ⟨rfl, hQ h' tk acc' c' (fun b o hb e => hk b o (fun z => ?_) hb (Heap.get?_push_of_some _ e)) hl hS' hacc⟩
  exact absurd (z ▸ Heap.lt_size e) (Nat.lt_irrefl _)
end
end Mine
end
section
open PySem PySem.W PyProof.Rows
set_option linter.unusedVariables false
set_option maxRecDepth 100000
namespace Mine
section
variable {Γ : Cx} {loc loc' : Loc} {Q : V → Loc → Prop} {QL : LV → Loc → Prop} {QB : Bool → Loc → Prop} {X : Exc → Loc → Prop} {x y : Str} {As Bs : List V}

/- an iterator of the frame's own is let go: nobody speaks of it any more -/
theorem StH.release {H : Hm} {O : OSet} {h : Heap} {os : OsState} {g : Array GenState} (st : StH Γ H O loc h os g) {a : Addr} (hx : loc.lookup x = some (.itr a As)) (hw : ∀ y lv, loc'.lookup y = some lv → loc.lookup y = some lv) (hn : loc'.lookup x = none) :
    VarIs Γ.env h x (.ref a) ∧ ItrL H h a As ∧ O a ∧ Foreign Γ H (fun b => O b ∧ b ≠ a) a ∧ StH Γ H (fun b => O b ∧ b ≠ a) loc' h os g := by
  obtain ⟨v, hv, a, rfl, hO, rfl, hi⟩ := st.vars x _ hx
  have ap := st.apart x a _ hx rfl hv
  have ne : ∀ y lv, loc'.lookup y = some lv → lv.mine = true → ∀ b, VarIs Γ.env h y (.ref b) → b ≠ a := fun y lv ey m b hb z => by
    subst z
    have := st.sep y x b lv _ (hw y lv ey) hx m rfl hb hv
    subst this; rw [hn] at ey; cases ey
  have hobj : ∃ o vs, h.get? a = some o ∧ o.data = .fields vs := by
    obtain ⟨o', vs, e1, e3⟩ := hi.obj; exact ⟨o', vs, e1, e3⟩
  refine ⟨hv, hi, hO, ⟨st.obase a hO, st.ohm a hO, fun z => z.2 rfl, fun y e => ap.2 y a e rfl, fun l hl env he ef => ?_, st.otab a hO⟩, ?_⟩
  · obtain ⟨l', hl', hf⟩ := st.frames
    rw [hl] at hl'; cases hl'
    obtain ⟨_, L, o, es, ep, e1, e2, e3, _⟩ := hf env he
    rw [ef] at e1; cases e1
    obtain ⟨o', vs, e4, e5⟩ := hobj
    rw [e4] at e2; cases e2
    rw [e5] at e3; cases e3
  · exact
    { base := st.base, agree := st.agree, nofr := st.nofr, os := st.os, gens := st.gens
      obase := fun b hb => st.obase b hb.1
      otab := fun b hb => st.otab b hb.1
      tabs := st.tabs
      ohm := fun b hb => st.ohm b hb.1
      othere := fun b hb => st.othere b hb.1
      kind := st.kind, ns := st.ns
      onsO := ⟨st.onsO, fun z => ap.1 z.symm⟩
      vars := fun y lv e => by
        obtain ⟨w, hw', hl⟩ := st.vars y lv (hw y lv e)
        refine ⟨w, hw', ?_⟩
        cases lv with
        | val B => exact hl
        | own c Bs =>
          obtain ⟨b, rfl, hb, rfl, l⟩ := hl
          exact ⟨c, rfl, ⟨hb, ne y _ e rfl _ hw'⟩, rfl, l⟩
        | itr c Bs =>
          obtain ⟨b, rfl, hb, rfl, l⟩ := hl
          exact ⟨c, rfl, ⟨hb, ne y _ e rfl _ hw'⟩, rfl, l⟩
      sep := fun y z b l1 l2 e1 e2 => st.sep y z b l1 l2 (hw _ _ e1) (hw _ _ e2)
      apart := fun y b l1 e1 => st.apart y b l1 (hw _ _ e1)
      cells := fun y c e' => ⟨fun m => ⟨(st.cells y c e').1 m, fun z => ap.2 y c e' z.symm⟩, (st.cells y c e').2⟩
      cne := st.cne, cinj := st.cinj, frames := st.frames }

/- a builtin function is called with names -/
theorem ev_call1 {f : Str} {p px pos : Pos} {id : String} {v : Value} {H : Hm} {O : OSet} {s : Shared} {Qv Ev' : Value → Shared → Prop} (g : GlobAt Γ.F f (.builtin id)) (st : St Γ H O loc s) (hv : VarIs Γ.env s.heap x v) (h : wpAny Γ.M Γ.A (call (.builtin id) [v]) Qv Ev' s)
    (hk : Γ.env.kindOf f = some .globalImplicit := by rfl) (hg : Γ.env.globals = mainGlobals := by rfl) (hb : Γ.env.builtins = builtinsNs := by rfl)
    (hd : (f == ("__debug__" : Str)) = false := by decide) (hdx : (x == ("__debug__" : Str)) = false := by decide) (hn : notPlain x = false := by decide) :
    wpAny Γ.M Γ.A (eval (.Call (.Name f p) [.Name x px] [] pos) Γ.env) Qv Ev' s := by
  refine wpAny_Call_Name_kw (Calls.Name_function_global st.kind hk (wp_glob st g ?_ hg hb) hd)
  show wpAny _ _ (callWith pos (.builtin id) [] _ []) _ _ _
  refine Calls.callWith_builtin (by rfl) (Calls.evalArgs_plain ?_)
  exact wpAny_items_cons (wpAny_Name (wp_var st.kind hv (wpAny_items_nil h) hn) hdx)
end
end Mine
end
section
open PySem PySem.W PyProof.Rows
set_option linter.unusedVariables false
set_option maxRecDepth 100000
namespace Mine
theorem it_entry : entryFor table "iter" = some Builtin.«iter» := entryFor_of_tree (by kernel_rfl)
theorem it_args (a : Value) : argsOk "iter" ⟨[a], []⟩ := by unfold argsOk; kernel_rfl
theorem ty_list : typeOf (.type "list") = pure (.type "type") := by first | rfl | kernel_rfl
theorem ty_tuple : typeOf (.type "tuple") = pure (.type "type") := by first | rfl | kernel_rfl
theorem sub_ll : isSubtype (.type "list") (.type "list") = pure true := by rw [isSubtype_type]; kernel_rfl
theorem sub_tt : isSubtype (.type "tuple") (.type "tuple") = pure true := by rw [isSubtype_type]; kernel_rfl
theorem sub_lt : isSubtype (.type "list") (.type "tuple") = pure false := by rw [isSubtype_type]; kernel_rfl
theorem sub_tl : isSubtype (.type "tuple") (.type "list") = pure false := by rw [isSubtype_type]; kernel_rfl
theorem sub_il : isSubtype (.type "list_iterator") (.type "list") = pure false := by rw [isSubtype_type]; kernel_rfl
theorem sub_it : isSubtype (.type "list_iterator") (.type "tuple") = pure false := by rw [isSubtype_type]; kernel_rfl
theorem isi_l (a : Addr) : AnswersAll (fun s => s.TypeIs (.ref a) "list") (.ref a) [.type "list", .type "tuple"] [true, false] :=
  .cons (Answers.of_true ty_list sub_ll) (.cons (Answers.of_false_list (by decide) ty_tuple sub_lt) .nil)
theorem isi_t (a : Addr) : AnswersAll (fun s => s.TypeIs (.ref a) "tuple") (.ref a) [.type "list", .type "tuple"] [false, true] :=
  .cons (Answers.of_false_tuple (by decide) ty_list sub_tl) (.cons (Answers.of_true ty_tuple sub_tt) .nil)
theorem isi_i (a : Addr) : AnswersAll (fun s => s.TypeIs (.ref a) "list_iterator") (.ref a) [.type "list", .type "tuple"] [false, false] :=
  .cons (li_answers (by decide) ty_list sub_il) (.cons (li_answers (by decide) ty_tuple sub_it) .nil)
section
variable {Γ : Cx} {loc loc' : Loc} {Q : V → Loc → Prop} {QL : LV → Loc → Prop} {QB : Bool → Loc → Prop} {X : Exc → Loc → Prop} {x y : Str} {As Bs : List V}

noncomputable def LV.isSeq : LV → Option Bool
  | .val (.lst _) => some true
  | .val (.tup _) => some true
  | _ => none

/- isinstance(x, (list, tuple)) -/
theorem ev_isinstance {p px pl pt ptup pos : Pos} {k : Nat} {lv : LV} {b : Bool} (g : GlobAt Γ.F "isinstance" (.builtin "isinstance")) (gl : GlobAt Γ.F "list" (.type "list")) (gt : GlobAt Γ.F "tuple" (.type "tuple")) (hx : loc.lookup x = some lv) (hb : lv.isSeq = some b) (h : Q (.bool b) loc)
    (hk : Γ.env.kindOf "isinstance" = some .globalImplicit := by rfl) (hkl : Γ.env.kindOf "list" = some .globalImplicit := by rfl) (hkt : Γ.env.kindOf "tuple" = some .globalImplicit := by rfl) (hg : Γ.env.globals = mainGlobals := by rfl) (hbi : Γ.env.builtins = builtinsNs := by rfl) (hd : (x == ("__debug__" : Str)) = false := by decide) (hn : notPlain x = false := by decide) :
    Ev Γ loc (.Call (.Name "isinstance" p) [.Name x px, .Tuple [.Name "list" pl, .Name "tuple" pt] k ptup] [] pos) (VQ Q) X := by
  intro H O s st
  obtain ⟨v, hv, hl⟩ := st.vars x _ hx
  refine wpAny_Call_Name_kw (Calls.Name_function_global st.kind hk (wp_glob st g ?_ hg hbi) (by decide))
  show wpAny _ _ (callWith pos (.builtin "isinstance") [] _ []) _ _ _
  refine Calls.callWith_builtin (by rfl) (Calls.evalArgs_plain ?_)
  refine wpAny_items_cons (wpAny_Name (wp_var st.kind hv (wpAny_items_cons (wpAny_Tuple ?_)) hn) hd)
  refine wpAny_items_cons (Calls.Name_function_global st.kind hkl (wp_glob st gl ?_ hg hbi) (by decide))
  refine wpAny_items_cons (Calls.Name_function_global st.kind hkt (wp_glob st gt ?_ hg hbi) (by decide))
  refine wpAny_items_nil ⟨by show 2 ≤ sizeLine; decide, wpAny_items_nil ?_⟩
  have fin : ∀ tk, PostV Γ H O s (VQ Q) (.bool b) { s with heap := s.heap.push { cls := .type "tuple", data := .seq #[.type "list", .type "tuple"] }, toks := tk } := fun tk =>
    ⟨H, O, loc, .val (.bool b), ⟨fun b o e _ => ⟨o, Heap.get?_push_of_some _ e, .refl ..⟩, fun b o e => ⟨o, Heap.get?_push_of_some _ e⟩, .refl _, fun b o e => .inl e, fun b e => .inl e⟩,
      st.ext (fun b o e => ⟨o, Heap.get?_push_of_some _ e, .refl ..⟩) st.gens (.refl _) (fun b o e => .inl e), rep_bool H b, h⟩
  have key : ∀ (a : Addr) (T : String) (vs : List Bool), v = .ref a → (∃ o, s.heap.get? a = some o ∧ o.cls = .type T) → AnswersAll (fun s => s.TypeIs (.ref a) T) (.ref a) [.type "list", .type "tuple"] vs → vs.any id = b →
      wpAny Γ.M Γ.A (call (.builtin "isinstance") [v, .ref s.heap.objs.size]) (PostV Γ H O s (VQ Q)) (PostX Γ H O s X) { s with heap := s.heap.push { cls := .type "tuple", data := .seq #[.type "list", .type "tuple"] } } := by
    intro a T vs ev ⟨o, eo, ec⟩ an hvs
    subst ev
    exact IsiPair.tupleOfB (Tx := T) an ⟨o, Heap.get?_push_of_some _ eo, ec⟩ (Heap.get?_push_size _ rfl) hvs fin
  cases lv with
  | own _ _ => cases hb
  | itr _ Cs => cases hb
  | val A =>
    cases A with
    | lst Cs =>
      cases hb
      obtain ⟨a, o, xs, n, rfl, h2, h3, _⟩ := (show Rep H (.lst Cs) v from hl).lst_of
      exact key a _ _ rfl ⟨o, st.agree _ _ h2, h3⟩ (isi_l a) rfl
    | tup Cs =>
      cases hb
      obtain ⟨a, o, xs, n, rfl, h2, h3, _⟩ := (show Rep H (.tup Cs) v from hl).tup_of
      exact key a _ _ rfl ⟨o, st.agree _ _ h2, h3⟩ (isi_t a) rfl
    | _ => cases hb

end
end Mine
end
section
open PySem PySem.W PyProof.Rows
set_option linter.unusedVariables false
set_option maxRecDepth 100000
namespace Mine
/- what the law stands on -/
structure Land (K : Frag) (F : Fix) : Prop where
  kin : K.In F.h₁
  g : ∃ mg, F.h₁.Ns mainGlobals mg
  b : ∃ mb, F.h₁.Ns builtinsNs mb ∧ ∀ x : Str, x ≠ "__name__" → mb x = bootBuiltins x
  lim : F.h₁.NoLimit
section
variable {K : Frag} {F : Fix}
theorem Land.glob (l : Land K F) {x : Str} {v : Value} (e : nsIn K mainGlobals x = some (some v)) : GlobAt F x v :=
  let ⟨mg, hg⟩ := l.g
  .inl ⟨mg, hg, mg_of l.kin hg e⟩
theorem Land.bi (l : Land K F) {x : Str} {v : Value} (e : nsIn K mainGlobals x = some none) (e' : bootBuiltins x = some v) (hn : x ≠ "__name__") : GlobAt F x v :=
  let ⟨mg, hg⟩ := l.g
  let ⟨mb, hb, hb'⟩ := l.b
  .inr ⟨mg, mb, hg, mg_none_of l.kin hg e, hb, (hb' x hn).trans e'⟩
noncomputable def fnOk (K : Frag) (a : Addr) (fd : FuncData) (body : List Stmt) : Prop :=
  (∃ o, K.lookup a = some o ∧ o.data = .func fd) ∧ (∃ c o vs t, fd.code = .ref c ∧ K.lookup c = some o ∧ o.data = .fields vs ∧ vs[1]? = some (.str fd.qualname t)) ∧ fd.body = .stmts body ∧ fd.closure = [] ∧ fd.scope.isCoroutine = false ∧ fd.scope.isGenerator = false ∧ fd.scope.kind = .function
theorem Land.fn (l : Land K F) {a : Addr} {fd : FuncData} {body : List Stmt} (h : fnOk K a fd body) : FnAt F a fd body := by
  obtain ⟨⟨o, e1, e2⟩, ⟨c, oc, vs, t, c1, c2, c3, c4⟩, h3, h4, h5, h6, h7⟩ := h
  exact { o := ⟨o, l.kin _ _ e1, e2⟩, lim := l.lim, cd := ⟨c, oc, vs, t, c1, l.kin _ _ c2, c3, c4⟩, body := h3, clos := h4, co := h5, gen := h6, kind := h7 }
end
noncomputable def dummyFn : FuncData := { name := "", qualname := "", params := { posonlyargs := [], args := [], vararg := none, kwonlyargs := [], kw_defaults := [], kwarg := none, defaults := [] }, body := .stmts [], scope := { kind := .function, names := [], isGenerator := false, isCoroutine := false }, globals := 0, closure := [], defaults := .none, kwdefaults := .none }
/- the function that lies at a place of the fragment -/
noncomputable def fdAt (K : Frag) (k : Nat) : FuncData :=
  match (K.getD k (0, { cls := .none, data := .plain })).2.data with
  | .func fd => fd
  | _ => dummyFn
noncomputable def bdAt (K : Frag) (k : Nat) : List Stmt :=
  match (fdAt K k).body with
  | .stmts b => b
  | _ => []
end Mine
end
section
open PySem PySem.W PyProof.Rows
set_option linter.unusedVariables false
set_option maxRecDepth 100000
namespace Mine
/- a contract out of the body -/
theorem calls_of {F : Fix} {fd : FuncData} {a : Addr} {body : List Stmt} {names : List Str} {lvs klvs : List LV} {kn : List Str} {Q : V → Prop} {X : Exc → Prop} {d : Nat} (fn : FnAt F a fd body) (hn : names.Nodup)
    (hk : ∀ x ∈ names, fd.scope.names.lookup x = some .local ∨ fd.scope.names.lookup x = some .cell) (hlen : names.length = lvs.length + klvs.length)
    (hbind : ∀ (s : Shared) (vals kvals : List Value), (∀ b o, F.h₁.get? b = some o → s.heap.get? b = some o) → vals.length = lvs.length → kvals.length = klvs.length → BindsTo s fd ⟨vals, kn.zip kvals⟩ (names.zip (vals ++ kvals)))
    (h : ∀ A L, Room A (d + 1) → Exs (F.fn A fd a L) (names.zip (lvs ++ klvs)) body (FnQ Q) (fun x _ => X x)) : Calls F (.ref a) (d + 1) lvs kn klvs Q X := by
  intro A H O s vals kvals hr ws hl ar
  have hl2 : (vals ++ kvals).length = (lvs ++ klvs).length := ar.len
  have hl3 : kvals.length = klvs.length := by simp at hl2; omega
  refine call_fn fn (by have := hr.depth; omega) ws ar hn hk (by rw [hl2]; simp; omega) (fun Q' E' q => hbind s vals kvals ws.base hl hl3 _ _ _ _ q) fun L => h A L hr
end Mine
end
section
open PySem PySem.W PyProof.Rows
set_option linter.unusedVariables false
set_option maxRecDepth 100000
namespace Mine
theorem rangeSize_one (a b : Int) : (Builtin.Range.rangeSize a b 1).toNat = (b - a).toNat := by
  unfold Builtin.Range.rangeSize
  simp only [show (0 : Int) < 1 by decide, if_true, Int.ediv_one]
  split <;> lia
theorem items_rng (a b : Int) : V.items (.rng a b 1) = (List.range (b - a).toNat).map fun i => .int (a + (i : Nat)) := by
  simp only [V.items, rangeSize_one, Int.mul_one]
theorem items_rng0 (n : Nat) : V.items (.rng 0 n 1) = (List.range n).map fun i => .int (i : Nat) := by
  rw [items_rng]; simp
end Mine
namespace Mine
theorem fitsLong {i : Int} (h : i.natAbs < 2 ^ 62) : Builtin.Range.rangeFitsLong i = true := by
  unfold Builtin.Range.rangeFitsLong
  simp
  omega
theorem small_one {a b : Int} (h : a.natAbs < 2 ^ 60) (h' : b.natAbs < 2 ^ 60) : Builtin.Range.small a b 1 = true := by
  have e := rangeSize_nonneg a b 1
  have e' := rangeSize_one a b
  unfold Builtin.Range.small
  rw [fitsLong (i := a) (by lia), fitsLong (i := b) (by lia), fitsLong (i := 1) (by decide), fitsLong (i := Builtin.Range.rangeSize a b 1) (by omega), if_pos (by decide), fitsLong (i := b + (1 - 1)) (by lia)]
  simp
end Mine
namespace Mine
section
variable {Γ : Cx} {loc : Loc} {QF : Fl → Loc → Prop} {X : Exc → Loc → Prop} {x : Str}
/- x = value, and on -/
theorem exs_let {pos' pos : Pos} {value : Expr} {rest : List Stmt} (hx : Γ.stores x) (h : Ev Γ loc value (VQ fun A l => Exs Γ ((x, .val A) :: l) rest QF X) X)
    (hs : swapsWith value (some (.Name x pos')) pos.line Γ.env = pure false := by rfl) : Exs Γ loc (.Assign [.Name x pos'] value pos :: rest) QF X := by
  refine exs_cons (ex_assign (h.mono (fun lv l q => ?_) fun _ _ q => q) hx hs)
  cases lv with
  | val A => exact q
  | own _ _ => exact q.elim
  | itr _ _ => exact q.elim
theorem exs_ret {pos : Pos} {value : Expr} {rest : List Stmt} (h : Ev Γ loc value (VQ fun A l => QF (.ret A) l) X) : Exs Γ loc (.Return (some value) pos :: rest) QF X :=
  exs_cons (ex_return h)
end
theorem loc_put {l : Loc} {x y : Str} {lv : LV} {w : Option LV} (h : l.lookup y = w) (hne : (y == x) = false) : List.lookup y ((x, lv) :: l) = w := by
  rw [List.lookup_cons, hne]; exact h
theorem len6 {n : Nat} (h : n ≤ 70) : n ≤ sizeLine := Nat.le_trans h (by decide)
end Mine
namespace Mine
/- a name holds a value -/
noncomputable abbrev Has (l : Loc) (x : Str) (A : V) : Prop := l.lookup x = some (.val A)
end Mine
end
section
open PySem PySem.W PyProof.Rows
set_option linter.unusedVariables false
namespace Mine
section
variable {Γ : Cx} {loc : Loc} {QL : LV → Loc → Prop} {X : Exc → Loc → Prop}
theorem ev_val {e : Expr} (h : Ev Γ loc e (VQ fun A l => QL (.val A) l) X) : Ev Γ loc e QL X := h.mono (fun lv l q => by
  cases lv with
  | val A => exact q
  | own _ _ => exact q.elim
  | itr _ _ => exact q.elim) fun _ _ q => q
end
end Mine
end
section
open PySem PySem.W PyProof.Rows
set_option linter.unusedVariables false
set_option maxRecDepth 100000
namespace Mine
section
variable {Γ : Cx} {loc : Loc} {Q : V → Loc → Prop} {X : Exc → Loc → Prop}
noncomputable def V.isFlt : V → Option Bool
  | .flt _ => some true
  | .str _ => some false
  | _ => Option.none
/- isinstance(v, float) -/
theorem bi_isfloat {A : V} {b : Bool} (hA : A.isFlt = some b) (h : Q (.bool b) loc) : OpN Γ loc (fun vs => call (.builtin "isinstance") vs) [A, .con (.type "float")] (VQ Q) X := fun H O s vs st r => by
  obtain ⟨y, _, rfl, hy, z, _, rfl, hz, rfl⟩ := r
  cases hz.con_of
  cases A with
  | flt x => cases hA; obtain ⟨t, rfl⟩ := hy.flt_of; exact IsiPair.float_float (PostV.here' st (rep_bool H true) h)
  | str x => cases hA; obtain ⟨t, rfl⟩ := hy.str_of; exact IsiPair.str_float (PostV.here st (rep_bool H false) h _)
  | _ => cases hA
/- list + list -/
theorem op_add_lst {As Bs : List V} (hz : As.length + Bs.length ≤ sizeLine) (h : Q (.lst (As ++ Bs)) loc) : Op2 Γ loc (binaryOp .Add) (.lst As) (.lst Bs) Q X := fun H O s va vb st ra rb => by
  obtain ⟨a, o, xs, n, rfl, h2, h3, h4, h5⟩ := ra.lst_of
  obtain ⟨a', o', xs', n', rfl, h2', h3', h4', h5'⟩ := rb.lst_of
  have hl : xs.size = As.length := by rw [← h5.length]; simp
  have hl' : xs'.size = Bs.length := by rw [← h5'.length]; simp
  have fa := st.foreign (fresh_none s.heap)
  obtain ⟨cls, dd, data, sl⟩ := o
  obtain ⟨cls2, dd2, data2, sl2⟩ := o'
  simp only at h3 h4 h3' h4'
  subst h3 h4 h3' h4'
  have ho := st.agree _ _ h2
  have ho2 := st.agree _ _ h2'
  refine concat_meets ⟨_, ho, rfl⟩ ⟨_, ho2, rfl⟩ noFill_list_add seq_list_add PySem.F.slot_list_add PySem.F.entry_list_add (PySem.F.args_list_add_2 _ _) (list_addW a a' xs xs' n n' dd dd2 sl sl2 (by omega)) ⟨ho, ho2, ?_⟩
  exact PostV.made (tk := s.toks) st (fun b o e => Heap.get?_push_of_some _ e) (fresh_none _) (Heap.get?_push_size _ rfl) (seq_nodict rfl) (rep_new_lst fa.hm rfl rfl (by simpa using h5.append h5')) h
end
end Mine
end
section
open PySem PySem.W PyProof.Rows
set_option linter.unusedVariables false
set_option maxRecDepth 100000
namespace Mine
theorem reps_ints {H : Hm} : ∀ {vs : List Value} {ns : List Int}, IntsAre vs ns → Reps H (ns.map .int) vs
  | vs, ns, h => by
    induction h with
    | nil => exact reps_nil H
    | cons _ _ _ ih => exact reps_cons (rep_int ..) ih
end Mine
end
section
open PySem PySem.W PyProof.Rows
set_option linter.unusedVariables false
set_option maxRecDepth 100000
namespace Mine

/-! ## the text's own exceptions -/
noncomputable abbrev veMro : List Value := [.type "ValueError", .type "Exception", .type "BaseException", .type "object"]
/- a class of the text's whose base is ValueError -/
structure ExcCls (F : Fix) (C : Addr) : Prop where
  mk ::
  is : ∃ nm q N bs hdct sn sub ab col dd k0 k1 k2 k3 k5 mN, F.h₁.get? C = some (excClassObj nm q C N bs veMro hdct sn sub ab col dd k0 k1 k2 k3 k5 "ValueError.__new__") ∧ F.h₁.Ns N mN ∧
    mN "__init__" = none ∧ mN "__str__" = none
theorem ve_base : ExcBaseFacts "ValueError" "ValueError.__new__" "ValueError.__init__" veMro := PySem.F.excBase_ValueError
theorem ve_str : ExcStrFacts "ValueError" "ValueError" := PySem.F.excStr_ValueError
theorem uc_entry : entryFor table "proto.unchain" = some Builtin.«proto.unchain» := entryFor_of_tree (by kernel_rfl)
section
variable {prog : Program} {w : World} {A : Around} {E : Value → Shared → Prop} {s : Shared}
theorem wp_unchain {e h : Addr} {oh : Obj} {vs : Array Value} {Q : Value → Shared → Prop} (ho : s.heap.get? h = some oh) (hd : oh.data = .fields vs) (h2 : vs[2]? = some .none) (k : Q .none s) :
    wpAny (model prog w) A (runValue (.builtin "proto.unchain" ⟨[.ref e, .ref h, .ref h, .bool false], []⟩)) Q E s := by
  refine wpAny_runValue (codeAny_builtin uc_entry ?_)
  unfold Builtin.«proto.unchain»
  refine wpAny_bind (wpAny_field ho hd h2 ?_)
  rw [if_pos (by decide)]
  repeat wp_step
  exact k
theorem wp_raiseNew_in {e h : Addr} {oh oe : Obj} {vs us : Array Value} {α : Type} {Q : α → Shared → Prop} (hA : A.handled = some (.ref h)) (hne : h ≠ e) (ho : s.heap.get? h = some oh) (hd : oh.data = .fields vs) (h2 : vs[2]? = some .none)
    (he : s.heap.get? e = some oe) (hde : oe.data = .fields us) (hz : 2 < us.size) (k : E (.ref e) { s with heap := s.heap.update e (Obj.mapFields (·.setIfInBounds 2 (.ref h))) }) : wpAny (model prog w) A (raiseNew (.ref e) : Sem α) Q E s := by
  unfold raiseNew
  refine wpAny_bind (wpAny_handled ?_)
  rw [hA]
  show wpAny _ _ (if (Value.ref h != Value.ref e) = true then _ else _) _ _ _
  rw [if_pos (by simpa using hne)]
  refine wpAny_bind (wpAny_holding (wp_unchain ho hd h2 ?_))
  unfold updateField
  refine wpAny_bind (wpAny_bind (wpAny_load he ?_))
  rw [hde]
  simp only [hz, if_true]
  exact wpAny_update he (wpAny_throw k)
variable {nm q : Str} {C N : Addr} {bs : List Value} {hdct : Bool} {sn : List Str} {sub : List Value} {ab : Bool} {col : Option Bool} {dd : Option Addr} {k0 k1 k2 k3 k5 : Option Value} {env : Env}
theorem wp_raiseStmt {x : Sem Value} {Q : Flow → Shared → Prop}
    (h : wpAny (model prog w) A x (fun v s₁ => ∃ e t, v = .ref e ∧ s₁.heap.get? C = some (excClassObj nm q C N bs veMro hdct sn sub ab col dd k0 k1 k2 k3 k5 "ValueError.__new__") ∧
      s₁.heap.get? e = some { cls := .ref C, data := .fields #[.ref t, .none, .none, .none, .bool false, .none] } ∧ wpAny (model prog w) A (raiseNew (.ref e) : Sem Flow) Q E s₁) E s) :
    wpAny (model prog w) A (raiseStmt env (some x) none) Q E s := by
  have hcB : (Value.ref C :: veMro).contains (.type "BaseException") = true := by rw [List.contains_cons]; exact (Bool.or_true _ ▸ rfl)
  unfold raiseStmt
  refine wpAny_bind (wpAny_mono h (fun v s₁ h₁ => ?_) fun _ _ x => x)
  obtain ⟨e, t, rfl, hC, he, hE⟩ := h₁
  obtain ⟨hp, g, d, tk, os⟩ := s₁
  repeat (first | with_reducible refine wpAny_loadPart_at he ?_ | with_reducible refine wpAny_loadPart_at hC ?_ | (with_reducible refine wpAny_isSubtype_exc hC ?_; rw [hcB]) | wp_step)
  exact hE
end
section
variable {Γ : Cx} {loc : Loc} {Q : V → Loc → Prop} {QL : LV → Loc → Prop} {QF : Fl → Loc → Prop} {X : Exc → Loc → Prop}
theorem wp_raise {c m : Str} {C : Addr} {k : Nat} {np mp cpos pos : Pos} {H : Hm} {O : OSet} {s : Shared} {Qf : Flow → Shared → Prop} {E : Value → Shared → Prop} (cls : ExcCls Γ.F C) (g : GlobAt Γ.F c (.ref C)) (st : St Γ H O loc s)
    (hk : Γ.env.kindOf c = some .globalImplicit) (hg : Γ.env.globals = mainGlobals) (hb : Γ.env.builtins = builtinsNs) (hd : (c == ("__debug__" : Str)) = false)
    (hr : ∀ H₁ O₁ s₁ h' e tk, Nx Γ.F H O s.heap H₁ O₁ s₁.heap → St Γ H₁ O₁ loc s₁ → Heap.MadeExcOf s₁.heap h' e (.ref C) [.str m tk] → wpAny Γ.M Γ.A (raiseNew (.ref e) : Sem Flow) Qf E { s₁ with heap := h' }) :
    wpAny Γ.M Γ.A (exec (.Raise (some (.Call (.Name c np) [.Constant (.str m) k mp] [] cpos)) none pos) Γ.env) Qf E s := by
  refine gg fun GG hGG => ?_
  obtain ⟨nm, q, N, bs, hdct, sn, sub, ab, col, dd, k0, k1, k2, k3, k5, mN, hC, hN, hi, hs⟩ := cls.is
  refine hGG ?_
  have hh : Args' Γ loc cpos [.Constant (.str m) k mp] (AllVal fun As l => As = [.str m] ∧ l = loc) NoX := args_val (ev_str (args_val_nil ⟨rfl, rfl⟩))
  rw [arm_exec_Raise]
  refine wpAny_bind (wpAny_standAt ?_)
  show wpAny Γ.M Γ.A (raiseStmt Γ.env (some (do let v ← eval (.Call (.Name c np) [.Constant (.str m) k mp] [] cpos) Γ.env; standAt pos; pure v)) none) _ _ _
  refine wp_raiseStmt (nm := nm) (q := q) (C := C) (N := N) (bs := bs) (hdct := hdct) (sn := sn) (sub := sub) (ab := ab) (col := col) (dd := dd) (k0 := k0) (k1 := k1) (k2 := k2) (k3 := k3) (k5 := k5) ?_
  refine wpAny_bind (wpAny_mono (Q := fun v s₁ => ∃ e t, v = .ref e ∧ s₁.heap.get? C = some (excClassObj nm q C N bs veMro hdct sn sub ab col dd k0 k1 k2 k3 k5 "ValueError.__new__") ∧
      s₁.heap.get? e = some { cls := .ref C, data := .fields #[.ref t, .none, .none, .none, .bool false, .none] } ∧ wpAny Γ.M Γ.A (raiseNew (.ref e) : Sem Flow) Qf E s₁) ?_ (fun v s₁ p => wpAny_bind (wpAny_standAt (wpAny_pure p))) fun _ _ p => p)
  refine wpAny_Call_ofName (Calls.Name_function_global st.kind hk (wp_glob st g ?_ hg hb) hd)
  unfold callWith
  refine wpAny_bind (wpAny_holding (Calls.evalArgs_plain (wpAny_mono (hh H O s st) (fun vs s₁ p => ?_) fun _ _ p => p.no.elim)))
  refine gg fun GG hGG => ?_
  obtain ⟨H₁, O₁, l₁, lvs, n₁, st₁, t₁, As, rfl, rfl, rfl⟩ := p
  refine hGG ?_
  obtain ⟨y, ys, rfl, ⟨tk, rfl⟩, rfl⟩ : ∃ y ys, vs = y :: ys ∧ (∃ tk, y = .str m tk) ∧ ys = [] := by
    have := t₁.reps
    refine gg fun GG hGG => ?_
    obtain ⟨y, ys, h1, h2, h3⟩ := this
    refine hGG ?_
    exact ⟨y, ys, h1, h2.str_of, h3⟩
  have hC₁ := st₁.base _ _ hC
  have hN₁ := hN.keeps st₁.base
  refine wpAny_bind (wpAny_standAt ?_)
  refine gg fun GG hGG => ?_
  obtain ⟨hp, gg, d, tks, os⟩ := s₁
  refine hGG ?_
  refine wpAny_bind (wpAny_keeperOf_exc hC₁ ?_)
  refine wpAny_bind (wpAny_call_exc_sub ve_base hC₁ hN₁ hi (fun h' e hm => wpAny_bind (wpAny_holding (wpAny_point (wpAny_pure ?_)))))
  obtain ⟨t, ht, _, _⟩ := hm.there
  exact ⟨e, t, rfl, hm.keeps _ _ hC₁, ht, hr H₁ O₁ _ h' e tk n₁ st₁ hm⟩
/- an exception of the text's, just made -/
theorem PostX.made {H : Hm} {O : OSet} {s : Shared} {h' : Heap} {e t C : Addr} {oe ot : Obj} {us : Array Value} {n : Nat} {tk : Tok} {m : Str} (st : St Γ H O loc s) (hk : ∀ b o, s.heap.get? b = some o → h'.get? b = some o) (hne : s.heap.get? e = none) (hnt : s.heap.get? t = none) (het : e ≠ t)
    (he : h'.get? e = some oe) (hc : oe.cls = .ref C) (hd : oe.data = .fields us) (h0 : us[0]? = some (.ref t)) (h1 : us[1]? = some .none) (ht : h'.get? t = some ot) (htc : ot.cls = .type "tuple") (htd : ot.data = .seq #[.str m tk] n)
    (hx : X ⟨.ref C, some m⟩ loc) : PostX Γ H O s X (.ref e) { s with heap := h' } := by
  have fe := st.foreign hne
  have ft := st.foreign hnt
  have st₁ : StH Γ H O loc h' s.os s.gens := st.ext (fun b o e => ⟨o, hk b o e, .refl ..⟩) st.gens (.refl _) fun b o e => .inl e
  have n₁ : Nx Γ.F H O s.heap H O h' := ⟨fun b o e _ => ⟨o, hk b o e, .refl ..⟩, fun b o e => ⟨o, hk b o e⟩, .refl _, fun b o e => .inl e, fun b e => .inl e⟩
  refine ⟨Hset H t ot, O, loc, ⟨.ref C, some m⟩, n₁.freeze ft.hm hnt, st₁.freeze ht ⟨fun es ep z => (by rw [htd] at z; cases z), by rw [htc]; simp⟩ ft.o ft.hm,
    ⟨e, oe, us, rfl, hne, fe.o, ?_, he, hc, hd, ⟨fun m' hm' => ?_, fun z => by cases z⟩, .inl h1⟩, hx⟩
  · unfold Hset; rw [if_neg het]; exact fe.hm
  · cases hm'
    exact ⟨t, ot, n, tk, h0, Hset.self _ _ _, htc, htd⟩
/- raise C('m') -/
theorem ex_raise {c m : Str} {C : Addr} {k : Nat} {np mp cpos pos : Pos} (cls : ExcCls Γ.F C) (g : GlobAt Γ.F c (.ref C)) (hh : Γ.A.handled = none) (hx : X ⟨.ref C, some m⟩ loc)
    (hk : Γ.env.kindOf c = some .globalImplicit := by rfl) (hg : Γ.env.globals = mainGlobals := by rfl) (hb : Γ.env.builtins = builtinsNs := by rfl) (hd : (c == ("__debug__" : Str)) = false := by decide) :
    Ex1 Γ loc (.Raise (some (.Call (.Name c np) [.Constant (.str m) k mp] [] cpos)) none pos) QF X := by
  intro H O s st
  refine wp_raise cls g st hk hg hb hd fun H₁ O₁ s₁ h' e tk n₁ st₁ hm => wpAny_raiseNew_none hh ?_
  obtain ⟨t, h1, h2, h3⟩ := hm.there
  exact (PostX.made (X := X) st₁ hm.keeps hm.new h2 (fun z => by rw [z, h3] at h1; cases h1) h1 rfl rfl rfl rfl h3 rfl rfl hx).back n₁
end
end Mine
end
section
open PySem PySem.W PyProof.Rows
set_option linter.unusedVariables false
set_option maxRecDepth 100000
namespace Mine
theorem matches_own {F : Fix} {C : Addr} (cls : ExcCls F C) : Matches F (.ref C) (.ref C) true := by
  intro M A E s e o Q hb he hc hq
  refine gg fun GG hGG => ?_
  obtain ⟨nm, q, N, bs, hdct, sn, sub, ab, col, dd, k0, k1, k2, k3, k5, mN, hC, hN, hi, hs⟩ := cls.is
  obtain ⟨hp, gg, d, tks, os⟩ := s
  refine hGG ?_
  exact wpAny_excMatches_sub_self (hb _ _ hC) he hc (by decide) hq
section
variable {Γ : Cx} {loc : Loc} {Q : V → Loc → Prop} {QL : LV → Loc → Prop} {QB : Bool → Loc → Prop} {QF : Fl → Loc → Prop} {X : Exc → Loc → Prop} {x : Exc}
/- except T: raise C('m') -/
theorem hd_raise {t c m : Str} {C : Addr} {k : Nat} {tp np mp cpos rpos pos : Pos} {tv : Value} {hs : List ExceptHandler} (hf : Γ.isFn) (g : GlobAt Γ.F t tv) (mt : Matches Γ.F x.cls tv true) (hmsg : x.msg = none) (cls : ExcCls Γ.F C) (gc : GlobAt Γ.F c (.ref C)) (hx : X ⟨.ref C, some m⟩ loc)
    (hk : Γ.env.kindOf t = some .globalImplicit := by rfl) (hkc : Γ.env.kindOf c = some .globalImplicit := by rfl) (hg : Γ.env.globals = mainGlobals := by rfl) (hb : Γ.env.builtins = builtinsNs := by rfl)
    (hd : (t == ("__debug__" : Str)) = false := by decide) (hdc : (c == ("__debug__" : Str)) = false := by decide) :
    Hd Γ loc x (.ExceptHandler (some (.Name t tp)) none [.Raise (some (.Call (.Name c np) [.Constant (.str m) k mp] [] cpos)) none rpos] pos :: hs) QF X := by
  intro H₀ O₀ s₀ loc₀ H O s e st₀ nx st fl
  refine gg fun GG hGG => ?_
  obtain ⟨a, o, rfl, ho, hc⟩ := fl.ref
  obtain ⟨l, hl, _⟩ := st.frames
  obtain ⟨outer, rfl⟩ := hf.1 l hl
  obtain ⟨L, hL⟩ := hf.2
  refine hGG ?_
  refine wpAny_handleBy_cons (codeAny_handlers_test ?_) (by intro q; cases q)
  refine Calls.Name_function_global st.kind hk (wp_glob st g ?_ hg hb) hd
  refine mt _ _ _ s a o _ st.base ho hc ?_
  refine codeAny_handlers_suite ?_
  refine wp_setFlight (Γ := Γ.mark (.ref a)) (st₀.mark _) nx (st.mark _) fl fun h₁ n₁ st₁ fl₁ => ?_
  refine gg fun GG hGG => ?_
  obtain ⟨a', o', vs, tb, otb, tvs, ea, i2, i3, i4, i5, i6, i7, i8, _⟩ := id fl₁.is
  refine hGG ?_
  cases ea
  refine wpAny_execs_cons ?_
  refine wp_raise (Γ := Γ.mark (.ref a)) (s := { s with heap := h₁ }) cls gc st₁ hkc hg hb hdc fun H₂ O₂ s₂ h' e' tk n₂ st₂ hm => ?_
  have ha₂ : s₂.heap.get? a = some o' := by
    obtain ⟨o'', e1, e2⟩ := n₂.kp a o' i5 i3
    rw [e1, e2.eq_of_notab (fun es ep z => by rw [i7] at z; cases z) (st₀.foreign i2).tab]
  obtain ⟨t', h1, h2, h3⟩ := hm.there
  have hne : a ≠ e' := fun z => by rw [z, hm.new] at ha₂; cases ha₂
  refine wp_raiseNew_in (s := { s₂ with heap := h' }) rfl hne (hm.keeps _ _ ha₂) i7 (i8.2 hmsg) h1 rfl (show 2 < 6 by decide) ?_
  have hte : t' ≠ e' := fun z => by rw [z, h1] at h3; cases h3
  have hdm := Obj.data_mapFields (o := { cls := .ref C, data := .fields #[.ref t', .none, .none, .none, .bool false, .none] }) rfl (·.setIfInBounds 2 (Value.ref a))
  have hself := Heap.get?_update_self (Obj.mapFields (·.setIfInBounds 2 (Value.ref a))) h1 (Obj.isFreed_of_fields hdm)
  have px : PostX (Γ.mark (.ref a)) H₂ O₂ s₂ X (.ref e') { s₂ with heap := h'.update e' (Obj.mapFields (·.setIfInBounds 2 (Value.ref a))) } :=
    PostX.made st₂ (fun b q e => (Heap.get?_update_other _ _ (fun z => by rw [← z, hm.new] at e; cases e)).trans (hm.keeps _ _ e)) hm.new h2 (Ne.symm hte) hself (Obj.cls_mapFields _ _) hdm rfl rfl
      ((Heap.get?_update_other _ _ (Ne.symm hte)).trans h3) rfl rfl hx
  refine gg fun GG hGG => ?_
  obtain ⟨H₃, O₃, l₃, x', n₃, st₃, f₃, q₃⟩ := px
  refine hGG ?_
  have n₁₂ : Nx Γ.F H₀ O₀ s₀.heap H₂ O₂ s₂.heap := n₁.trans n₂
  exact wp_came st₀ (n₁₂.trans n₃) st₃ (f₃.back n₁₂) q₃ hl hL
/- the frame's names are forgotten -/
theorem StH.forget {H : Hm} {O : OSet} {h h' : Heap} {os : OsState} {g : Array GenState} {m' : Str → Option Value} (st : StH Γ H O loc h os g) (hsb : Heap.SameBut Γ.env.locals h h') (hn : h'.Ns Γ.env.locals m') : StH Γ H O [] h' os g where
  base := fun b o e => (hsb.2 b fun z => by subst z; rw [st.obase _ st.onsO] at e; cases e).trans (st.base b o e)
  agree := fun b o e => (hsb.2 b fun z => by subst z; rw [st.ohm _ st.onsO] at e; cases e).trans (st.agree b o e)
  nofr := st.nofr
  os := st.os
  gens := st.gens
  obase := st.obase
  otab := st.otab
  tabs := fun b hb => ⟨(st.tabs b hb).1, (st.tabs b hb).2.same (F := Γ.F) fun o e => ⟨o, (hsb.2 b fun z => st.otab _ st.onsO (z ▸ hb)).trans e, .refl ..⟩⟩
  ohm := st.ohm
  othere := fun b hb => by
    by_cases hbc : b = Γ.env.locals
    · obtain ⟨o, _, _, e, _⟩ := hn; exact ⟨o, hbc ▸ e⟩
    · obtain ⟨o, e⟩ := st.othere b hb; exact ⟨o, (hsb.2 b hbc).trans e⟩
  kind := st.kind
  ns := ⟨_, hn⟩
  onsO := st.onsO
  vars := fun x lv e => by cases e
  sep := fun x y a lv lv' e => by cases e
  apart := fun x a lv e => by cases e
  cells := fun x c e => ⟨(st.cells x c e).1, let ⟨o, v, h1, h2⟩ := (st.cells x c e).2; ⟨o, v, (hsb.2 c (st.cne x c e)).trans h1, h2⟩⟩
  cne := st.cne
  cinj := st.cinj
  frames := by
    obtain ⟨l, hl, r⟩ := st.frames
    refine ⟨l, hl, fun env he => ?_⟩
    refine gg fun GG hGG => ?_
    obtain ⟨h1, L, o, es, ep, h2, h3, h4, h5⟩ := r env he
    refine hGG ?_
    by_cases hL : L = Γ.env.locals
    · obtain ⟨o', es', ep', e1, e2, _⟩ := hn
      exact ⟨h1, L, o', es', ep', h2, hL ▸ e1, e2, h5⟩
    · exact ⟨h1, L, o, es, ep, h2, (hsb.2 L hL).trans h3, h4, h5⟩
theorem Nx.names {F : Fix} {H₀ H : Hm} {O₀ O : OSet} {h₀ h h' : Heap} {c : Addr} (n : Nx F H₀ O₀ h₀ H O h) (hc : O c) (hsb : Heap.SameBut c h h') (ht : ∃ o, h'.get? c = some o) : Nx F H₀ O₀ h₀ H O h' := n.ownSet hc hsb ht
noncomputable def V.plain : V → Prop
  | .none => True
  | .bool _ => True
  | .int _ => True
  | .flt _ => True
  | .str _ => True
  | _ => False
end
end Mine
end
section
open PySem PySem.W PyProof.Rows
set_option linter.unusedVariables false
set_option maxRecDepth 100000
namespace Mine

/-! ## str of an exception of the text's -/
open Builtin Builtin.Str Builtin.BaseException Builtin.Exceptions in
section
variable {prog : Program} {w : World} {A : Around} {E : Value → Shared → Prop} {h : Heap} {g : Array GenState} {d : Drawn} {t : Nat} {os : OsState} {a t0 : Addr} {o : Obj} {vs : Array Value} {m : Str} {tk : Tok}
variable {nm q : Str} {C N : Addr} {bs : List Value} {hdct : Bool} {sn : List Str} {sub : List Value} {ab : Bool} {col : Option Bool} {dd : Option Addr} {k0 k1 k2 k3 k5 : Option Value} {mN : Str → Option Value}
theorem check_str_own {M : Model} {Q : Unit → Shared → Prop} (hC : h.get? C = some (excClassObj nm q C N bs veMro hdct sn sub ab col dd k0 k1 k2 k3 k5 "ValueError.__new__"))
    (hx : h.get? a = some o) (hc : o.cls = .ref C) (hq : Q () ⟨h, g, d, t, os⟩) : wpAny M A (checkBuiltinCall "BaseException.__str__" ⟨[.ref a], []⟩) Q E ⟨h, g, d, t, os⟩ := by
  have hk : builtinKind "BaseException.__str__" = some .slot := by decide +kernel
  have hsplit : splitId "BaseException.__str__" = some ("BaseException", "__str__") := by decide +kernel
  have hcB : (Value.ref C :: veMro).contains (.type "BaseException") = true := by rw [List.contains_cons]; exact (Bool.or_true _ ▸ rfl)
  have ha := F.args_bexc_str (.ref a)
  simp only [checkBuiltinCall, hk, hsplit]
  refine wpAny_bind ?_
  · unfold isInstance
    repeat (first | (with_reducible refine wpAny_loadPart_at hx ?_; rw [hc]) | (with_reducible refine wpAny_isSubtype_exc hC ?_; rw [hcB]) | wp_step)
    exact hq
theorem bexcArgs_own {M : Model} {items : List Value} {Q : Value × List Value → Shared → Prop} (hx : h.get? a = some o) (hd : o.data = .fields vs) (h0 : vs[0]? = some (.ref t0)) (ht : h.TupAt t0 items) (hq : Q (.ref t0, items) ⟨h, g, d, t, os⟩) :
    wpAny M A (bexcArgs (.ref a)) Q E ⟨h, g, d, t, os⟩ := by
  refine gg fun GG hGG => ?_
  obtain ⟨ot, k, hto, _, htd⟩ := ht
  refine hGG ?_
  unfold bexcArgs
  refine wpAny_bind (wpAny_field hx hd h0 (wpAny_bind (wpAny_seqItems hto htd ?_)))
  have : items.toArray.toList = items := by simp
  show wpAny M A (pure (Value.ref t0, items.toArray.toList)) Q E _
  rw [this]; exact wpAny_pure hq
theorem entry_str_own {Q : PySem.Fin → Shared → Prop} (hx : h.get? a = some o) (hd : o.data = .fields vs) (h0 : vs[0]? = some (.ref t0)) (ht : h.TupAt t0 [.str m tk]) (hq : Q (.done (.ret (.str m tk))) ⟨h, g, d, t, os⟩) :
    wpAny (model prog w) A (Builtin.«BaseException.__str__» ⟨[.ref a], []⟩) Q E ⟨h, g, d, t, os⟩ := by
  unfold Builtin.«BaseException.__str__»
  repeat (first | with_reducible refine bexcArgs_own hx hd h0 ht ?_ | wp_step)
  exact hq
theorem special_str_own {Q : Option Value → Shared → Prop} (hC : h.get? C = some (excClassObj nm q C N bs veMro hdct sn sub ab col dd k0 k1 k2 k3 k5 "ValueError.__new__")) (hN : h.Ns N mN) (hs : mN "__str__" = none)
    (hx : h.get? a = some o) (hc : o.cls = .ref C) (hd : o.data = .fields vs) (h0 : vs[0]? = some (.ref t0)) (ht : h.TupAt t0 [.str m tk]) (hq : Q (some (.str m tk)) ⟨h, g, d, t, os⟩) :
    wpAny (model prog w) A (callSpecial? (.ref a) "__str__" [] []) Q E ⟨h, g, d, t, os⟩ := by
  simp only [callSpecial?]
  refine wpAny_bind ?_
  unfold specialOf
  repeat (first | (with_reducible refine wpAny_loadPart_at hx ?_; rw [hc]) | with_reducible refine wpAny_typeLookup_exc hC hN ve_base.mroIs ve_str.str.lookup ?_ | wp_step)
  rw [hs]
  simp only [ve_str.str.bind]
  refine wpAny_holding (wpAny_bind (wpAny_pure (wpAny_bind (wpAny_mono (Q := fun v s' => Q (some v) s') ?_ (fun v s' h' => wpAny_pure h') fun _ _ h' => h'))))
  exact wpAny_call (codeAny_call_builtin ve_str.str.plain F.entry_bexc_str (check_str_own hC hx hc (entry_str_own hx hd h0 ht hq)))
theorem strOf_own (hu : A.units < cLine) {Q : Value → Shared → Prop} (hC : h.get? C = some (excClassObj nm q C N bs veMro hdct sn sub ab col dd k0 k1 k2 k3 k5 "ValueError.__new__")) (hN : h.Ns N mN) (hs : mN "__str__" = none)
    (hx : h.get? a = some o) (hc : o.cls = .ref C) (hd : o.data = .fields vs) (h0 : vs[0]? = some (.ref t0)) (ht : h.TupAt t0 [.str m tk]) (hq : Q (.str m tk) ⟨h, g, d, t, os⟩) :
    wpAny (model prog w) A (Builtin.Str.strOf (.ref a)) Q E ⟨h, g, d, t, os⟩ := by
  unfold Builtin.Str.strOf
  repeat (first | with_reducible refine wpAny_cRoomFor hu ?_ | with_reducible refine special_str_own hC hN hs hx hc hd h0 ht ?_ | wp_step)
  exact hq
end
theorem call_str_own {prog : Program} {w : World} {A : Around} {E : Value → Shared → Prop} {s : Shared} {a t0 C N : Addr} {o : Obj} {vs : Array Value} {m : Str} {tk : Tok} {nm q : Str} {bs : List Value} {hdct : Bool} {sn : List Str} {sub : List Value} {ab : Bool} {col : Option Bool} {dd : Option Addr} {k0 k1 k2 k3 k5 : Option Value} {mN : Str → Option Value}
    (hu : A.units + 2 < cLine) {Q : Value → Shared → Prop} (hC : s.heap.get? C = some (excClassObj nm q C N bs veMro hdct sn sub ab col dd k0 k1 k2 k3 k5 "ValueError.__new__")) (hN : s.heap.Ns N mN) (hs : mN "__str__" = none)
    (hx : s.heap.get? a = some o) (hc : o.cls = .ref C) (hd : o.data = .fields vs) (h0 : vs[0]? = some (.ref t0)) (ht : s.heap.TupAt t0 [.str m tk]) (h : Q (.str m tk) s) :
    wpAny (model prog w) A (call (.type "str") [.ref a]) Q E s :=
  callType_new F.called_str (by decide) (F.typeCall_str_1 _) (F.newCall_str_1 _) (fun obj => F.args_object_init_2 obj _) F.entry_str_new
    (meets_str_new (S := fun A' R s' => A'.units + 1 < cLine ∧ s'.heap.get? C = some (excClassObj nm q C N bs veMro hdct sn sub ab col dd k0 k1 k2 k3 k5 "ValueError.__new__") ∧ s'.heap.Ns N mN ∧ s'.heap.get? a = some o ∧ s'.heap.TupAt t0 [.str m tk] ∧ R (.ok (.ret (.str m tk))) s')
      fun _ _ A' _ s' hq => by
        refine gg fun GG hGG => ?_
        obtain ⟨q1, q2, q3, q4, q5, q6⟩ := hq
        refine hGG ?_
        exact strOf_own (A := A'.in1) q1 q2 q3 hs q4 hc hd h0 q5 q6)
    ⟨(show A.units + 1 + 1 < cLine from hu), hC, hN, hx, ht, typeIs_str _ _ _, h⟩
section
variable {Γ : Cx} {loc : Loc} {Q : V → Loc → Prop} {X : Exc → Loc → Prop}
/- str(error) -/
theorem bi_str_exc {C : Addr} {m : Str} (cls : ExcCls Γ.F C) (hu : Γ.A.units + 2 < cLine) (h : Q (.str m) loc) : OpN Γ loc (fun vs => call (.type "str") vs) [.exc (.ref C) m] (VQ Q) X := by
  intro H O s vs st r
  refine gg fun GG hGG => ?_
  obtain ⟨nm, q, N, bs, hdct, sn, sub, ab, col, dd, k0, k1, k2, k3, k5, mN, hC, hN, hi, hs⟩ := cls.is
  refine hGG ?_
  refine gg fun GG hGG => ?_
  obtain ⟨y, ys, rfl, r1, rfl⟩ := r
  refine hGG ?_
  refine gg fun GG hGG => ?_
  obtain ⟨a, o, us, t, ot, n, tk, rfl, j1, j2, j3, j4, j5, j6, j7⟩ := r1
  refine hGG ?_
  refine call_str_own hu (st.base _ _ hC) (hN.keeps st.base) hs (st.agree _ _ j1) j2 j3 j4 ⟨ot, n, st.agree _ _ j5, j6, j7⟩ ?_
  exact PostV.here' st (rep_str H m tk) h
end
end Mine
end
section
open PySem PySem.W PyProof.Rows
set_option linter.unusedVariables false
set_option maxRecDepth 100000
namespace Mine

/-! ## and, or as values; equality; values told to the object -/
section
variable {Γ : Cx} {loc : Loc} {Q : V → Loc → Prop} {QL : LV → Loc → Prop} {QB : Bool → Loc → Prop} {QF : Fl → Loc → Prop} {X : Exc → Loc → Prop}
end
/- told to the object -/
noncomputable def Sub (A B : V) : Prop := ∀ H v, Rep H A v → Rep H B v
section
variable {Γ : Cx} {loc : Loc} {Q : V → Loc → Prop} {QL : LV → Loc → Prop} {QB : Bool → Loc → Prop} {QF : Fl → Loc → Prop} {X : Exc → Loc → Prop} {x : Str} {As : List V}
end
/- values that are equal to themselves -/
inductive EqS : Nat → V → Prop
  | none (d : Nat) : EqS d .none
  | bool (d : Nat) (b : Bool) : EqS d (.bool b)
  | int (d : Nat) (i : Int) : EqS d (.int i)
  | str (d : Nat) (x : Str) : EqS d (.str x)
  | con (d : Nat) (v : Value) : EqS d (.con v)
  | tup {d : Nat} {As : List V} : (∀ B ∈ As, EqS d B) → EqS (d + 1) (.tup As)
  | lst {d : Nat} {As : List V} : (∀ B ∈ As, EqS d B) → EqS (d + 1) (.lst As)
open SeqAt EqBoolInt in
theorem items_eq {H : Hm} {s : Shared} {Ar : Around} {As : List V} {xs ys : Array Value} (ih : ∀ B ∈ As, ∀ a b, Rep H B a → Rep H B b → EqAt Ar.in1 s a b true) (h : Reps H As xs.toList) (h' : Reps H As ys.toList) :
    ∀ j (h1 : j < xs.size) (h2 : j < ys.size), EqAt Ar.in1 s xs[j] ys[j] true := by
  intro j h1 h2
  have hl : xs.size = As.length := by rw [← h.length]; simp
  have hA : As[j]? = some (As[j]'(by lia)) := List.getElem?_eq_getElem (by lia)
  refine gg fun GG hGG => ?_
  obtain ⟨a, ea, ra⟩ := h.get hA
  obtain ⟨b, eb, rb⟩ := h'.get hA
  refine hGG ?_
  have ea' : xs[j]? = some a := by simpa using ea
  have eb' : ys[j]? = some b := by simpa using eb
  rw [Array.getElem?_eq_getElem h1] at ea'
  rw [Array.getElem?_eq_getElem h2] at eb'
  cases ea'; cases eb'
  exact ih _ (List.getElem_mem _) _ _ ra rb
theorem all_true (n : Nat) : (List.range n).all (fun _ => true) = true := by simp
open SeqAt EqBoolInt in
theorem eqAt_same {H : Hm} {s : Shared} (ag : ∀ b o, H b = some o → s.heap.get? b = some o) {d : Nat} {A : V} (h : EqS d A) : ∀ (Ar : Around) (a b : Value), Ar.units + d < cLine → Rep H A a → Rep H A b → EqAt Ar s a b true := by
  induction h with
  | none d => intro Ar a b _ ra rb; cases ra.none_of; cases rb.none_of; exact EqAt.same _
  | bool d x => intro Ar a b _ ra rb; cases ra.bool_of; cases rb.bool_of; exact EqAt.same _
  | con d v => intro Ar a b _ ra rb; cases ra.con_of; cases rb.con_of; exact EqAt.same _
  | int d i => intro Ar a b _ ra rb; obtain ⟨t, rfl⟩ := ra.int_of; obtain ⟨u, rfl⟩ := rb.int_of; have := EqAt.int_int (A := Ar) (s := s) i t i u; rwa [beq_self_eq_true] at this
  | str d i => intro Ar a b _ ra rb; obtain ⟨t, rfl⟩ := ra.str_of; obtain ⟨u, rfl⟩ := rb.str_of; have := EqAt.str_str (A := Ar) (s := s) i t i u; rwa [beq_self_eq_true] at this
  | @tup d As _ ih =>
    intro Ar a b hu ra rb
    obtain ⟨x, o, xs, n, rfl, h2, h3, h4, h5⟩ := ra.tup_of
    obtain ⟨y, o', ys, n', rfl, k2, k3, k4, k5⟩ := rb.tup_of
    by_cases hxy : x = y
    · subst hxy; exact EqAt.same _
    have hl : xs.size = As.length := by rw [← h5.length]; simp
    have hl' : ys.size = As.length := by rw [← k5.length]; simp
    have := RcAt.tuples (A := Ar) (e := fun _ => true) ⟨o, ag _ _ h2, h3, n, h4⟩ ⟨o', ag _ _ k2, k3, n', k4⟩ (by lia) (items_eq (fun B hB a b ra rb => ih B hB Ar.in1 a b (by show Ar.units + 1 + d < cLine; lia) ra rb) h5 k5)
    rw [all_true, hl, hl', beq_self_eq_true] at this
    exact EqAt.of_refs hxy this
  | @lst d As _ ih =>
    intro Ar a b hu ra rb
    obtain ⟨x, o, xs, n, rfl, h2, h3, h4, h5⟩ := ra.lst_of
    obtain ⟨y, o', ys, n', rfl, k2, k3, k4, k5⟩ := rb.lst_of
    by_cases hxy : x = y
    · subst hxy; exact EqAt.same _
    have hl : xs.size = As.length := by rw [← h5.length]; simp
    have hl' : ys.size = As.length := by rw [← k5.length]; simp
    have := RcAt.lists (A := Ar) (e := fun _ => true) ⟨o, ag _ _ h2, h3, n, h4⟩ ⟨o', ag _ _ k2, k3, n', k4⟩ (by lia) (by lia) (items_eq (fun B hB a b ra rb => ih B hB Ar.in1 a b (by show Ar.units + 1 + d < cLine; lia) ra rb) h5 k5)
    rw [all_true] at this
    exact EqAt.of_refs hxy this
section
variable {Γ : Cx} {loc : Loc} {Q : V → Loc → Prop} {X : Exc → Loc → Prop} {As Bs : List V} {d : Nat}
open SeqAt EqBoolInt in
theorem cmp_neL (he : ∀ B ∈ As, EqS d B) (hu : Γ.A.units + 1 + d < cLine) (h : Q (.bool false) loc) : Op2 Γ loc (compareOp .NotEq) (.lst As) (.lst As) Q X := fun H O s va vb st ra rb => by
  refine gg fun GG hGG => ?_
  obtain ⟨x, o, xs, n, rfl, h2, h3, h4, h5⟩ := ra.lst_of
  obtain ⟨y, o', ys, n', rfl, k2, k3, k4, k5⟩ := rb.lst_of
  refine hGG ?_
  have hl : xs.size = As.length := by rw [← h5.length]; simp
  have hl' : ys.size = As.length := by rw [← k5.length]; simp
  refine of_rcne (RcNeAt.lists (e := fun _ => true) ⟨o, st.agree _ _ h2, h3, n, h4⟩ ⟨o', st.agree _ _ k2, k3, n', k4⟩ (by lia) (by lia) (items_eq (fun B hB a b ra rb => eqAt_same st.agree (he B hB) _ a b (by show Γ.A.units + 1 + d < cLine; omega) ra rb) h5 k5)) ?_
  rw [all_true]; exact PostV.here' st (rep_bool ..) h
end
end Mine
end
section
open PySem PySem.W PyProof.Rows
set_option linter.unusedVariables false
set_option maxRecDepth 100000
set_option exponentiation.threshold 3000
namespace Mine
open PySem.Float64 (decode val add sub mul div fma neg abs cmp isZero isFinite isInf ofInt Right pack infMag zero sgn)

/- a float of that value, in units of 2 ** -1074 -/
noncomputable def FV (x : UInt64) (v : Int) : Prop := (∃ a m e, decode x = .fin a m e) ∧ val x = v
/- a value that some float has -/
noncomputable def Rp (v : Int) : Prop := ∃ t, t < infMag ∧ Float64.V t = v.natAbs

/- the float nearest to what a float has is that -/
theorem right_exact {r : UInt64} {ng : Bool} {W D : Nat} {v : Int} (h : Right r ng W D) (hv : Rp v) (hD : 0 < D) (hW : W = D * v.natAbs) (hs : v ≠ 0 → ng = decide (v < 0)) : FV r v := by
  obtain ⟨t', ht', hV⟩ := hv
  obtain ⟨t, rfl, hle, hov, hnear⟩ := h
  have hlt : t < infMag := by
    rcases Nat.lt_or_ge t infMag with c | c
    · exact c
    · exfalso
      have : t = infMag := by lia
      have hh := hov.mp this
      have hmax : Float64.V t' ≤ (2 ^ 53 - 1) * 2 ^ 2045 := by
        have e0 : infMag - 1 = 2045 * 2 ^ 52 + (2 ^ 53 - 1) := rfl
        have e1 := PySem.Float64.V_at (k := 2045) (q := 2 ^ 53 - 1) (by lia) (.inl (by lia))
        rw [← e0] at e1
        rw [← e1]
        exact PySem.Float64.V_mono (by lia)
      rw [hW, ← hV] at hh
      have h2 : D * (2 * Float64.V t') ≤ D * (2 * ((2 ^ 53 - 1) * 2 ^ 2045)) := Nat.mul_le_mul_left _ (Nat.mul_le_mul_left _ hmax)
      have h3 : D * (2 * ((2 ^ 53 - 1) * 2 ^ 2045)) < D * ((2 ^ 54 - 1) * 2 ^ 2045) := Nat.mul_lt_mul_of_pos_left (by decide +kernel) hD
      have h4 : 2 * (D * Float64.V t') = D * (2 * Float64.V t') := by rw [Nat.mul_left_comm]
      lia
  have hd := (hnear hlt t').1
  have hz : PySem.Float64.dist W (D * Float64.V t') = 0 := by rw [hW, hV]; unfold PySem.Float64.dist; lia
  rw [hz] at hd
  have hz2 : PySem.Float64.dist W (D * Float64.V t) = 0 := by lia
  have heq : D * Float64.V t = D * v.natAbs := by rw [← hW]; unfold PySem.Float64.dist at hz2; grind
  have hVt : Float64.V t = v.natAbs := Nat.eq_of_mul_eq_mul_left hD heq
  obtain ⟨m, ex, hdec, _⟩ := PySem.Float64.decode_pack ng hlt
  refine ⟨⟨_, _, _, hdec⟩, ?_⟩
  rw [PySem.Float64.val_pack ng hlt, hVt]
  unfold sgn
  by_cases c : v = 0
  · subst c; cases ng <;> simp
  · have := hs c
    subst this
    by_cases c2 : v < 0
    · simp [c2]; grind
    · simp [c2]; lia

theorem fv_zero (b : Bool) : FV (zero b) 0 := by
  cases b
  · exact ⟨⟨false, 0, -1074, by kernel_rfl⟩, by decide +kernel⟩
  · exact ⟨⟨true, 0, -1074, by kernel_rfl⟩, by decide +kernel⟩

section
variable {x y z : UInt64} {a b c : Int}
theorem FV.sub (hx : FV x a) (hy : FV y b) (hr : Rp (a - b)) : FV (sub x y) (a - b) := by
  obtain ⟨⟨_, _, _, hx⟩, rfl⟩ := hx
  obtain ⟨⟨_, _, _, hy⟩, rfl⟩ := hy
  obtain ⟨h0, h1⟩ := PySem.Float64.sub_right hx hy
  by_cases c : val x - val y = 0
  · rw [h0 c, c]; exact fv_zero _
  · exact right_exact (h1 c) hr (by decide) (by simp) fun _ => rfl
theorem sgn_neg_of {x : UInt64} {s : Bool} {m : Nat} {e : Int} (h : decode x = .fin s m e) (hz : val x ≠ 0) : s = decide (val x < 0) := by
  have := PySem.Float64.val_eq h
  generalize m * 2 ^ (e + 1074).toNat = M at this
  unfold sgn at this
  cases s
  · simp only [Bool.false_eq_true, if_false] at this
    exact (decide_eq_false (by lia)).symm
  · simp only [if_true] at this
    exact (decide_eq_true (by lia)).symm

theorem FV.mul (hx : FV x a) (hy : FV y b) (he : a * b = c * 2 ^ 1074) (hr : Rp c) : FV (mul x y) c := by
  obtain ⟨⟨s, m, e, hx⟩, rfl⟩ := hx
  obtain ⟨⟨s', m', e', hy⟩, rfl⟩ := hy
  refine right_exact (PySem.Float64.mul_right hx hy) hr (Nat.two_pow_pos _) ?_ fun hc => ?_
  · rw [← Int.natAbs_mul, he, Int.natAbs_mul, Nat.mul_comm]
    congr 1
  · have hne : val x * val y ≠ 0 := by rw [he]; exact Int.mul_ne_zero hc (by decide +kernel)
    have hx0 : val x ≠ 0 := fun z => hne (by rw [z, Int.zero_mul])
    have hy0 : val y ≠ 0 := fun z => hne (by rw [z, Int.mul_zero])
    rw [sgn_neg_of hx hx0, sgn_neg_of hy hy0]
    have hp : (0 : Int) < 2 ^ 1074 := by decide +kernel
    have hc2 : c < 0 ↔ val x * val y < 0 := by
      rw [he]
      constructor
      · intro h; exact Int.mul_neg_of_neg_of_pos h hp
      · intro h
        rcases Int.lt_or_le c 0 with q | q
        · exact q
        · have := Int.mul_nonneg q (Int.le_of_lt hp); grind
    rcases Int.lt_or_gt_of_ne hx0 with h1 | h1 <;> rcases Int.lt_or_gt_of_ne hy0 with h2 | h2
    · have := Int.mul_pos_of_neg_of_neg h1 h2
      have hcn : ¬ c < 0 := fun z => by have := hc2.mp z; grind
      simp [h1, h2, hcn]
    · have := Int.mul_neg_of_neg_of_pos h1 h2
      have hcn : c < 0 := hc2.mpr this
      have h2' : ¬ val y < 0 := by lia
      simp [h1, h2', hcn]
    · have := Int.mul_neg_of_pos_of_neg h1 h2
      have hcn : c < 0 := hc2.mpr this
      have h1' : ¬ val x < 0 := by lia
      simp [h1', h2, hcn]
    · have := Int.mul_pos h1 h2
      have hcn : ¬ c < 0 := fun z => by have := hc2.mp z; grind
      have h1' : ¬ val x < 0 := by lia
      have h2' : ¬ val y < 0 := by lia
      simp [h1', h2', hcn]
end
end Mine
end
section
open PySem PySem.W PyProof.Rows
set_option linter.unusedVariables false
set_option maxRecDepth 100000
set_option exponentiation.threshold 3000
namespace Mine
open PySem.Float64 (decode val add sub mul div fma neg abs cmp isZero isFinite isInf ofInt Right pack infMag zero sgn)
section
variable {x y z : UInt64} {a b c : Int}
theorem neg_iff_mul {c p : Int} (hp : 0 < p) : c < 0 ↔ c * p < 0 := by
  constructor
  · intro h; exact Int.mul_neg_of_neg_of_pos h hp
  · intro h
    rcases Int.lt_or_le c 0 with q | q
    · exact q
    · have := Int.mul_nonneg q (Int.le_of_lt hp); omega
theorem FV.ofInt {i : Int} (hr : Rp (i * 2 ^ 1074)) : FV (ofInt i) (i * 2 ^ 1074) := by
  refine right_exact (PySem.Float64.ofInt_right i) hr (by decide) ?_ fun hc => ?_
  · rw [Int.natAbs_mul, Nat.one_mul]; congr 1
  · have hp : (0 : Int) < 2 ^ 1074 := by decide +kernel
    exact decide_eq_decide.mpr (neg_iff_mul hp)
theorem FV.isZero (hx : FV x a) : isZero x = decide (a = 0) := by
  obtain ⟨⟨s, m, e, hx⟩, rfl⟩ := hx
  unfold PySem.Float64.isZero
  have := PySem.Float64.val_natAbs hx
  rw [hx]
  cases m with
  | zero => simp at this; simp [this]
  | succ m =>
    have hp : 0 < 2 ^ (e + 1074).toNat := Nat.two_pow_pos _
    have : 0 < (m + 1) * 2 ^ (e + 1074).toNat := Nat.mul_pos (by omega) hp
    exact (decide_eq_false (by omega)).symm
theorem FV.fin (hx : FV x a) : isFinite x = true := by
  obtain ⟨⟨s, m, e, hx⟩, rfl⟩ := hx
  unfold PySem.Float64.isFinite; rw [hx]
theorem FV.notInf (hx : FV x a) : isInf x = false := by
  obtain ⟨⟨s, m, e, hx⟩, rfl⟩ := hx
  unfold PySem.Float64.isInf; rw [hx]
theorem FV.cmp (hx : FV x a) (hy : FV y b) : cmp x y = some (compare a b) := by
  obtain ⟨⟨s, m, e, hx⟩, rfl⟩ := hx
  obtain ⟨⟨s', m', e', hy⟩, rfl⟩ := hy
  exact PySem.Float64.cmp_right hx hy
/-! ### fsum of exact sums -/
theorem rp_zero : Rp 0 := ⟨0, by decide, by decide⟩
noncomputable def isum : List Int → Int
  | [] => 0
  | a :: as => a + isum as
end
end Mine
end
section
open PySem PySem.W PyProof.Rows
set_option linter.unusedVariables false
set_option maxRecDepth 100000
set_option exponentiation.threshold 3000
namespace Mine
open PySem.Float64 (decode val add sub mul div fma neg abs cmp isZero isFinite isInf ofInt Right pack infMag zero sgn)
theorem two_pos : (0 : Int) < 2 ^ 1074 := by decide +kernel
section
variable {x y z : UInt64} {a b c p s : Int} {t : Tri}
end

variable {u : Nat}
noncomputable def asum : List Int → Nat
  | [] => 0
  | k :: ks => k.natAbs + asum ks
end Mine
end
section
open PySem PySem.W PyProof.Rows
set_option linter.unusedVariables false
set_option maxRecDepth 100000
set_option exponentiation.threshold 3000
namespace Mine
open PySem.Float64 (decode val add sub mul div fma neg abs cmp isZero isFinite isInf ofInt Right pack infMag zero sgn)
theorem isInf_pack (ng : Bool) {t : Nat} (h : t ≤ infMag) : isInf (pack ng t) = decide (t = infMag) := by
  rcases Nat.lt_or_ge t infMag with c | c
  · obtain ⟨m, e, hd, _⟩ := PySem.Float64.decode_pack ng c
    unfold PySem.Float64.isInf
    rw [hd]
    exact (decide_eq_false (by omega)).symm
  · have : t = infMag := by omega
    subst this
    cases ng <;> decide +kernel
theorem mag_le (i : Int) : Float64.roundMag i.natAbs 1 ≤ infMag := by rw [PySem.Float64.roundMag_min]; omega
theorem ofInt_eq (i : Int) : ofInt i = pack (decide (i < 0)) (Float64.roundMag i.natAbs 1) := by
  unfold PySem.Float64.ofInt PySem.Float64.ofFrac
  rfl
theorem isInf_ofInt (i : Int) : isInf (ofInt i) = decide (Float64.roundMag i.natAbs 1 = infMag) := by rw [ofInt_eq]; exact isInf_pack _ (mag_le i)
end Mine
end
section
open PySem PySem.W PyProof.Rows
set_option linter.unusedVariables false
set_option maxRecDepth 100000
namespace Mine

/-! ## lists of the frame's own: pop, == [], comprehensions; sum -/
theorem preSum_isum : ∀ (ns : List Int), preSum (fun i => ns.getD i 0) ns.length = isum ns := by
  have gen : ∀ (ns : List Int) (k : Nat), k ≤ ns.length → preSum (fun i => ns.getD i 0) k = isum (ns.take k) := by
    intro ns k
    induction k with
    | zero => intro _; simp [preSum, isum]
    | succ k ih =>
      intro h
      have app : ∀ (a : List Int) (x : Int), isum (a ++ [x]) = isum a + x := by
        intro a x
        induction a with
        | nil => simp [isum]
        | cons y a ih => simp only [List.cons_append, isum, ih]; lia
      rw [preSum, ih (by lia), List.take_succ_eq_append_getElem (by lia), app]
      show _ + ns.getD k 0 = _
      rw [List.getD_eq_getElem?_getD, List.getElem?_eq_getElem (by lia)]; rfl
  intro ns
  rw [gen ns ns.length (Nat.le_refl _), List.take_length]
section
variable {Γ : Cx} {loc : Loc} {Q : V → Loc → Prop} {QL : LV → Loc → Prop} {QB : Bool → Loc → Prop} {QF : Fl → Loc → Prop} {X : Exc → Loc → Prop} {x : Str} {As : List V} {a : Addr}
/- sum(xs) of ints -/
theorem bi_sum {ns : List Int} (hh : Γ.A.handled = none) (h : Q (.int (isum ns)) loc) : OpN Γ loc (fun vs => call (.builtin "sum") vs) [.lst (ns.map .int)] (VQ Q) X := fun H O s vs st r => by
  refine gg fun GG hGG => ?_
  obtain ⟨y, _, rfl, hy, rfl⟩ := r
  obtain ⟨a, o, xs, n, rfl, h2, h3, h4, h5⟩ := hy.lst_of
  refine hGG ?_
  have fresh := fresh_none s.heap
  have hl : s.heap.IsList a xs := ⟨o, st.agree _ _ h2, h3, n, h4⟩
  have hne : a ≠ s.heap.objs.size := fun e => by rw [e] at h2; have := st.agree _ _ h2; rw [fresh] at this; cases this
  have hlen : xs.size = ns.length := by have := h5.length; simpa using this
  refine call_sum_walkG (wpAny_pyIter_list hl ?_)
  refine ⟨_, _, _, _, _, _, fun i => ns.getD i 0, rfl, Walks.list (prog := Γ.F.prog) (w := Γ.F.w) (A := Γ.A.in1) hh s.heap.objs.size a hne xs, ⟨⟨_, Heap.get?_push_size _ rfl, rfl, rfl⟩, hl.at fun o e => Heap.get?_push_of_some _ e⟩, fun b hb => ?_, fun i v hv => ?_, fun h' tk t' hk => ?_⟩
  · rcases List.mem_cons.mp hb with rfl | hb
    · exact Heap.lt_size (Heap.get?_push_size _ rfl)
    · obtain rfl := List.mem_singleton.mp hb
      exact Heap.lt_size (Heap.get?_push_of_some _ (st.agree _ _ h2))
  · have hv' : xs.toList[i]? = some v := by simpa using hv
    have hi : i < ns.length := by have := (Array.getElem?_eq_some_iff.mp hv).1; lia
    obtain ⟨y, e, r⟩ := h5.get (show (ns.map V.int)[i]? = some (.int (ns.getD i 0)) by rw [List.getElem?_map, List.getD_eq_getElem?_getD, List.getElem?_eq_getElem hi]; rfl)
    rw [e] at hv'; cases hv'
    exact r.int_of
  · rw [hlen, preSum_isum]
    have keep : ∀ b o, s.heap.get? b = some o → h'.get? b = some o := fun b o e => hk b o (fun hb => absurd (Heap.lt_size e) ((List.mem_singleton.mp hb) ▸ Nat.lt_irrefl _)) (Heap.get?_push_of_some _ e)
    exact ⟨H, O, loc, .val (.int (isum ns)), ⟨fun b o e _ => ⟨o, keep b o e, .refl ..⟩, fun b o e => ⟨o, keep b o e⟩, .refl _, fun b o e => .inl e, fun b e => .inl e⟩, st.ext (fun b o e => ⟨o, keep b o e, .refl ..⟩) st.gens (.refl _) fun b o e => .inl e, rep_int H _ _, h⟩
open SeqAt EqBoolInt in
/- x == [], x != [] of a list of the frame's own -/
theorem tst_own_nil {op : CmpOp} {px pl pos : Pos} (hop : op = .Eq) (hx : loc.lookup x = some (.own a As)) (hu : Γ.A.units + 1 < cLine) (h : QB (if op = .Eq then As.isEmpty else !As.isEmpty) loc)
    (hd : (x == ("__debug__" : Str)) = false := by decide) (hn : notPlain x = false := by decide)
    (hm : behindInMarks op (.List [] pl) = false := by with_unfolding_all rfl) : Tst Γ loc (.Compare (.Name x px) [op] [.List [] pl] pos) QB X := by
  intro H O s st
  refine gg fun GG hGG => ?_
  obtain ⟨v, hv, b, rfl, hO, rfl, _⟩ := st.vars x _ hx
  refine hGG ?_
  refine wpAny_isTrue_Compare1 (wpAny_Name (wp_var st.kind hv ?_ hn) hd) hm
  have hnil : Ev Γ loc (.List [] pl) (VQ fun B l => B = .lst [] ∧ l = loc) X := ev_list (args_val_nil ⟨len6 (by simp), rfl, rfl⟩)
  refine wpAny_mono (hnil H O s st) (fun w s₁ p => ?_) fun _ _ p => p
  refine gg fun GG hGG => ?_
  obtain ⟨H₁, O₁, l₁, lv, n₁, st₁, r₁, q₁⟩ := p
  refine hGG ?_
  cases lv with
  | own _ _ => exact q₁.elim
  | itr _ _ => exact q₁.elim
  | val B =>
    obtain ⟨rfl, rfl⟩ := q₁
    have hv₁ : VarIs Γ.env s₁.heap x (.ref a) := by
      refine gg fun GG hGG => ?_
      obtain ⟨v', hv', b', rfl, _, rfl, _⟩ := st₁.vars x _ hx
      refine hGG ?_
      exact hv'
    refine gg fun GG hGG => ?_
    obtain ⟨v', hv', b', rfl, hO', rfl, o, xs, n, e, hc, hdat, hp, hr⟩ := st₁.vars x _ hx
    obtain ⟨y, o', ys, n', rfl, k2, k3, k4, k5⟩ := Rep.lst_of (H := H₁) r₁
    refine hGG ?_
    have hl : xs.size = As.length := by rw [← hr.length]; simp
    have hl' : ys.size = 0 := by have := k5.length; simpa using this
    have fin : ∀ c : Bool, c = (if op = .Eq then As.isEmpty else !As.isEmpty) → wpAny Γ.M Γ.A (truthy (.bool c)) (PostB Γ H O s QB) (PostX Γ H O s X) s₁ := fun c hc => by
      refine wpAny_truthy_bool ⟨H₁, O₁, l₁, n₁, st₁, ?_⟩
      rw [hc]; exact h
    subst hop
    · cases As with
      | nil =>
        refine eq_listAt (e := fun _ => true) ⟨o, e, hc, n, hdat⟩ ⟨o', st₁.agree _ _ k2, k3, n', k4⟩ (by simp [hl, hl']) (by lia) (fun j h1 h2 => by lia) ?_
        rw [all_true]; exact fin _ rfl
      | cons A As => exact eq_list_lengthsAt ⟨o, e, hc, n, hdat⟩ ⟨o', st₁.agree _ _ k2, k3, n', k4⟩ (by simp [hl, hl']) (by lia) (fin _ rfl)
end
end Mine
end
section
open PySem PySem.W PyProof.Rows
set_option linter.unusedVariables false
set_option maxRecDepth 100000
namespace Mine
section
variable {Γ : Cx} {loc fr : Loc} {Q : V → Loc → Prop} {X : Exc → Loc → Prop} {x y : Str} {As : List V} {a : Addr} {scope : Scope}
end
end Mine
end
section
open PySem PySem.W PyProof.Rows
set_option linter.unusedVariables false
set_option maxRecDepth 100000
namespace Mine

/-! ## generator expressions that sumprod walks along -/
/- what the land must have for a generator expression of a function whose code lies at c -/
structure GenLand (F : Fix) (c P : Addr) : Prop where
  tab : F.tab P
  code : ∃ o vs file tf flags tg inF text tt, F.h₁.get? c = some o ∧ o.cls = .type "code" ∧ o.data = .fields vs ∧ vs[11]? = some (.ref P) ∧ vs.getD 18 .none = .str file tf ∧ vs.getD 7 .none = .int flags tg ∧ vs.getD 9 .none = .bool inF ∧ vs.getD 10 .none = .int text tt
  bm : ∃ mg bm ob, BMod F.h₁ mainGlobals mg bm ob
  lim : F.h₁.NoLimit
section
variable {prog : Program} {w : World} {A : Around} {E : Value → Shared → Prop} {s : Shared}
end
section
variable {prog : Program} {w : World} {A : Around} {E : Value → Shared → Prop} {s : Shared}
end
section
variable {Γ : Cx} {loc : Loc} {Q : V → Loc → Prop} {X : Exc → Loc → Prop}
end
end Mine
end
section
open PySem PySem.W PyProof.Rows
set_option linter.unusedVariables false
set_option maxRecDepth 100000
namespace Mine
/- a generator's places -/
structure GP where
  a : Addr
  C : Addr
  I : Addr
  l : Addr
  cb : Addr
  g : Nat
noncomputable def GP.fp (p : GP) : List Addr := [cStatics, p.I, p.l, p.cb]
noncomputable def GP.wr (p : GP) : List Addr := [p.C, p.I]
section
variable {F : Fix} {A : Around} {n : Nat} {ds es : List UInt64} {i j : Nat} {s s' : Shared} {E : Value → Shared → Prop} {Q : Option Value → Shared → Prop}
end
section
variable {Γ : Cx} {loc : Loc} {Q : V → Loc → Prop} {X : Exc → Loc → Prop}
end
end Mine
end
section
open PySem PySem.W PyProof.Rows
set_option linter.unusedVariables false
set_option maxRecDepth 100000
namespace Mine
/- the land with hidden tables -/
noncomputable abbrev fixT (prog : Program) (w : World) (s₁ : Shared) (tabs : List (Addr × Addr)) : Fix := ⟨prog, w, ghostOf s₁.heap tabs, s₁.os, fun b => b ∈ tabs.map (·.2)⟩
theorem genLand_of {p prog : Program} {w : World} {loose : List Str} {mean : ExcName → Option Value} {mg mb : Str → Option Value} {s₁ : Shared} {tabs : List (Addr × Addr)} {c P : Addr} (T : Top p loose mean mg mb s₁.heap) (hT : TabsAt tabs s₁.heap) (hm : (c, P) ∈ tabs) : GenLand (fixT prog w s₁ tabs) c P where
  tab := List.mem_map.mpr ⟨_, hm, rfl⟩
  code := by
    obtain ⟨o, vs, file, tf, flags, tg, inF, text, tt, e1, r1, r2, r3, r4, r5, r6, r7, r8, hne⟩ := (hT _ hm).1
    exact ⟨o, vs, file, tf, flags, tg, inF, text, tt, ghost_get hT e1 (fun q => by rw [q] at r1; cases r1), r1, r2, r3, r5, r6, r7, r8⟩
  bm := by
    obtain ⟨bm, ob, a1, a2, a3, a4, a5, a6⟩ := T.bmain
    exact ⟨mg, bm, ob, ghost_ns hT T.g, a1, a2, ghost_get hT a3 (fun q => by rw [q] at a4; cases a4), a4, a5, a6⟩
  lim := let ⟨mc, a, r⟩ := T.nolimit; ⟨mc, ghost_ns hT a, r⟩
end Mine
end
section
open PySem PySem.W PyProof.Rows
set_option linter.unusedVariables false
set_option maxRecDepth 100000
namespace Mine
section
variable {Γ : Cx} {loc : Loc} {Q : V → Loc → Prop} {QL : LV → Loc → Prop} {QB : Bool → Loc → Prop} {QF : Fl → Loc → Prop} {X : Exc → Loc → Prop} {x : Str} {As : List V} {a : Addr}
/-! ## comparisons -/
/-! ## several names at once -/
noncomputable def stored (loc : Loc) : List Str → List V → Loc
  | x :: xs, B :: Bs => stored ((x, .val B) :: loc) xs Bs
  | _, _ => loc
end
end Mine
end
section
open PySem PySem.W PyProof.Rows
set_option linter.unusedVariables false
set_option maxRecDepth 100000
namespace Mine
section
variable {Γ : Cx} {loc loc' : Loc} {Q : V → Loc → Prop} {QL : LV → Loc → Prop} {QB : Bool → Loc → Prop} {QF : Fl → Loc → Prop} {X : Exc → Loc → Prop} {x : Str} {As : List V} {a : Addr}
/- f(x), f a builtin function, x a list of the frame's own -/
theorem ev_bi_own {f : Str} {R : V} {p px pos : Pos} {id : String} (g : GlobAt Γ.F f (.builtin id)) (hx : loc.lookup x = some (.own a As)) (hR : Q R loc)
    (w : ∀ (H : Hm) (s : Shared) (xs : Array Value) (Qv : Value → Shared → Prop) (E : Value → Shared → Prop), s.heap.IsList a xs → Reps H As xs.toList → (∀ v h' tk, (∀ b o, s.heap.get? b = some o → h'.get? b = some o) → Rep H R v → Qv v { s with heap := h', toks := tk }) → wpAny Γ.M Γ.A (call (.builtin id) [.ref a]) Qv E s)
    (hk : Γ.env.kindOf f = some .globalImplicit := by rfl) (hg : Γ.env.globals = mainGlobals := by rfl) (hb : Γ.env.builtins = builtinsNs := by rfl)
    (hd : (f == ("__debug__" : Str)) = false := by decide) (hdx : (x == ("__debug__" : Str)) = false := by decide) (hn : notPlain x = false := by decide) :
    Ev Γ loc (.Call (.Name f p) [.Name x px] [] pos) (VQ Q) X := by
  intro H O s st
  obtain ⟨v, hv, b, rfl, hO, rfl, o, xs, n, e, hc, hdt, hp, hr⟩ := st.vars x _ hx
  refine ev_call1 g st hv (w H s xs _ _ ⟨o, e, hc, n, hdt⟩ hr fun v h' tk keep r => ?_) hk hg hb hd hdx hn
  exact ⟨H, O, loc, .val R, ⟨fun b o e _ => ⟨o, keep b o e, .refl ..⟩, fun b o e => ⟨o, keep b o e⟩, .refl _, fun b o e => .inl e, fun b e => .inl e⟩, st.ext (fun b o e => ⟨o, keep b o e, .refl ..⟩) st.gens (.refl _) fun b o e => .inl e, r, hR⟩
theorem own_len {H : Hm} {s : Shared} {xs : Array Value} {Qv : Value → Shared → Prop} {E : Value → Shared → Prop} (hz : As.length ≤ sizeLine) (hl : s.heap.IsList a xs) (hr : Reps H As xs.toList) (k : ∀ v h' tk, (∀ b o, s.heap.get? b = some o → h'.get? b = some o) → Rep H (.int As.length) v → Qv v { s with heap := h', toks := tk }) : wpAny Γ.M Γ.A (call (.builtin "len") [.ref a]) Qv E s := by
  have hl' : xs.size = As.length := by rw [← hr.length]; simp
  have hz' : As.length ≤ 2 ^ 24 := hz
  refine len_list hl (by rw [hl']; omega) ?_
  rw [hl']; exact k _ s.heap _ (fun _ _ e => e) (rep_int ..)
theorem own_sum {H : Hm} {s : Shared} {xs : Array Value} {ns : List Int} {Qv : Value → Shared → Prop} {E : Value → Shared → Prop} (hh : Γ.A.handled = none) (hl : s.heap.IsList a xs) (h5 : Reps H (ns.map .int) xs.toList) (k : ∀ v h' tk, (∀ b o, s.heap.get? b = some o → h'.get? b = some o) → Rep H (.int (isum ns)) v → Qv v { s with heap := h', toks := tk }) : wpAny Γ.M Γ.A (call (.builtin "sum") [.ref a]) Qv E s := by
  obtain ⟨o, eo, _⟩ := id hl
  have hne : a ≠ s.heap.objs.size := Nat.ne_of_lt (Heap.lt_size eo)
  have hlen : xs.size = ns.length := by have := h5.length; simpa using this
  refine call_sum_walkG (wpAny_pyIter_list hl ?_)
  refine ⟨_, _, _, _, _, _, fun i => ns.getD i 0, rfl, Walks.list (prog := Γ.F.prog) (w := Γ.F.w) (A := Γ.A.in1) hh s.heap.objs.size a hne xs, ⟨⟨_, Heap.get?_push_size _ rfl, rfl, rfl⟩, hl.at fun o e => Heap.get?_push_of_some _ e⟩, fun b hb => ?_, fun i v hv => ?_, fun h' tk t' hk => ?_⟩
  · rcases List.mem_cons.mp hb with rfl | hb
    · exact Heap.lt_size (Heap.get?_push_size _ rfl)
    · obtain rfl := List.mem_singleton.mp hb
      exact Heap.lt_size (Heap.get?_push_of_some _ eo)
  · have hv' : xs.toList[i]? = some v := by simpa using hv
    have hi : i < ns.length := by have := (Array.getElem?_eq_some_iff.mp hv).1; omega
    obtain ⟨y, e, r⟩ := h5.get (show (ns.map V.int)[i]? = some (.int (ns.getD i 0)) by rw [List.getElem?_map, List.getD_eq_getElem?_getD, List.getElem?_eq_getElem hi]; rfl)
    rw [e] at hv'; cases hv'
    exact r.int_of
  · rw [hlen, preSum_isum]
    exact k _ h' tk (fun b o e => hk b o (fun hb => absurd (Heap.lt_size e) ((List.mem_singleton.mp hb) ▸ Nat.lt_irrefl _)) (Heap.get?_push_of_some _ e)) (rep_int ..)
theorem ev_sum_own {p px pos : Pos} {ns : List Int} (g : GlobAt Γ.F "sum" (.builtin "sum")) (hh : Γ.A.handled = none) (hx : loc.lookup x = some (.own a (ns.map .int))) (hR : Q (.int (isum ns)) loc)
    (hk : Γ.env.kindOf "sum" = some .globalImplicit := by rfl) (hg : Γ.env.globals = mainGlobals := by rfl) (hb : Γ.env.builtins = builtinsNs := by rfl) (hdx : (x == ("__debug__" : Str)) = false := by decide) (hn : notPlain x = false := by decide) :
    Ev Γ loc (.Call (.Name "sum" p) [.Name x px] [] pos) (VQ Q) X :=
  ev_bi_own g hx hR (fun H s xs Qv E hl hr k => own_sum hh hl hr k) hk hg hb (by decide) hdx hn
theorem ev_len_own {p px pos : Pos} (g : GlobAt Γ.F "len" (.builtin "len")) (hz : As.length ≤ sizeLine) (hx : loc.lookup x = some (.own a As)) (hR : Q (.int As.length) loc)
    (hk : Γ.env.kindOf "len" = some .globalImplicit := by rfl) (hg : Γ.env.globals = mainGlobals := by rfl) (hb : Γ.env.builtins = builtinsNs := by rfl) (hdx : (x == ("__debug__" : Str)) = false := by decide) (hn : notPlain x = false := by decide) :
    Ev Γ loc (.Call (.Name "len" p) [.Name x px] [] pos) (VQ Q) X :=
  ev_bi_own g hx hR (fun H s xs Qv E hl hr k => own_len hz hl hr k) hk hg hb (by decide) hdx hn
end
end Mine
end
section
open PySem PySem.W PyProof.Rows
set_option linter.unusedVariables false
set_option maxRecDepth 100000
namespace Mine
section
variable {Γ : Cx} {loc loc' : Loc} {Q : V → Loc → Prop} {QL : LV → Loc → Prop} {QB : Bool → Loc → Prop} {QF : Fl → Loc → Prop} {X : Exc → Loc → Prop} {x : Str} {As : List V} {a : Addr}
end
end Mine
end
section
open PySem PySem.W PyProof.Rows
set_option linter.unusedVariables false
set_option maxRecDepth 100000
namespace Mine
section
variable {prog : Program} {w : World} {A : Around} {E : Value → Shared → Prop} {s : Shared}
end
section
variable {Γ : Cx} {loc : Loc} {Q : V → Loc → Prop} {QF : Fl → Loc → Prop} {X : Exc → Loc → Prop} {a b : Int} {x y : Str} {As Bs : List V}
end
end Mine
end
section
open PySem PySem.W PyProof.Rows
set_option linter.unusedVariables false
set_option maxRecDepth 100000
namespace Mine
section
variable {prog : Program} {w : World} {A : Around} {E : Value → Shared → Prop} {s : Shared}
end
section
variable {Γ : Cx} {loc : Loc} {Q : V → Loc → Prop} {X : Exc → Loc → Prop} {x y : Str}
end
end Mine
end
section
open PySem PySem.W PyProof.Rows
set_option linter.unusedVariables false
set_option maxRecDepth 100000
namespace Mine
theorem none_float : typeLookup (.type "NoneType") "__float__" = pure none := by rw [typeLookup_type, builtinLookup_eq_fast]; kernel_rfl
theorem none_index : typeLookup (.type "NoneType") "__index__" = pure none := by rw [typeLookup_type, builtinLookup_eq_fast]; kernel_rfl
theorem none_mul : typeLookup (.type "NoneType") (dunder "mul") = pure none := by rw [typeLookup_type, builtinLookup_eq_fast]; kernel_rfl
theorem none_rmul : typeLookup (.type "NoneType") (dunderR "mul") = pure none := by rw [typeLookup_type, builtinLookup_eq_fast]; kernel_rfl
theorem none_fill : fillsNumberSlot (.type "NoneType") "mul" = pure false := by simp only [fillsNumberSlot, none_mul, none_rmul, pure_bind]; rfl
theorem none_rep : seqRepeat? (.type "NoneType") = pure none := by kernel_rfl
theorem int_rep : seqRepeat? (.type "int") = pure none := by kernel_rfl
section
variable {prog : Program} {w : World} {A : Around} {s : Shared} {E : Value → Shared → Prop}
theorem wp_real_none {Q : UInt64 → Shared → Prop} (hA : A.handled = none) (h : ∀ h' tk e, Heap.NewExc s.heap h' e "TypeError" → E (.ref e) { s with heap := h', toks := tk }) : wpAny (model prog w) A (Builtin.Math.realArg .none) Q E s := by
  have hT : s.TypeIs .none "NoneType" := rfl
  have f1 := none_float
  have f2 := none_index
  obtain ⟨hp, g, d, tk, os⟩ := s
  unfold Builtin.Math.realArg
  wp_walk
  all_goals exact_raiseError plainExc_TypeError hA h
theorem decl_mul {i : Int} {t : Tok} {Q : Value → Shared → Prop} (h : Q .notImplemented s) : wpAny (model prog w) A (call (.builtin "int.__mul__") [.int i t, .none]) Q E s := by
  have hT : s.TypeIs (.int i t) "int" := rfl
  refine wpAny_call_entry PySem.F.slot_int_mul hT PySem.F.entry_int_mul ?_ (PySem.F.args_int_mul_2 _ _)
  obtain ⟨hp, g, d, tk, os⟩ := s
  wp_walk
  exact ⟨_, rfl, h⟩
theorem decl_rmul {i : Int} {t : Tok} {Q : Value → Shared → Prop} (h : Q .notImplemented s) : wpAny (model prog w) A (call (.builtin "int.__rmul__") [.int i t, .none]) Q E s := by
  have hT : s.TypeIs (.int i t) "int" := rfl
  refine wpAny_call_entry PySem.F.slot_int_rmul hT PySem.F.entry_int_rmul ?_ (PySem.F.args_int_rmul_2 _ _)
  obtain ⟨hp, g, d, tk, os⟩ := s
  wp_walk
  exact ⟨_, rfl, h⟩
/- behind binaryOp1 of numbers and None -/
theorem mul_te {a b : Value} {T U : String} {Q : Value → Shared → Prop} (ha : s.TypeIs a T) (hb : s.TypeIs b U) (e1 : seqRepeat? (.type T) = pure none) (e2 : seqRepeat? (.type U) = pure none)
    (h1 : ∀ Q' : Option Value → Shared → Prop, Q' none s → wpAny (model prog w) A (binaryOp1 "mul" a b) Q' E s)
    (h : wpAny (model prog w) A (binopTypeError "*" a b : Sem Value) Q E s) : wpAny (model prog w) A (binaryOp .Mult a b) Q E s := by
  unfold binaryOp
  refine wpAny_holding (wpAny_bind (h1 _ ?_))
  refine wpAny_bind (wpAny_typeOf ha (wpAny_bind (wpAny_of_eq e1 ?_)))
  refine wpAny_bind (wpAny_typeOf hb (wpAny_bind (wpAny_of_eq e2 ?_)))
  exact h
theorem mul_none_int {i : Int} {t : Tok} {Q : Value → Shared → Prop} (hA : A.handled = none) (h : ∀ h' tk e, Heap.NewExc s.heap h' e "TypeError" → E (.ref e) { s with heap := h', toks := tk }) : wpAny (model prog w) A (binaryOp .Mult .none (.int i t)) Q E s := by
  have hT : s.TypeIs .none "NoneType" := rfl
  have hU : s.TypeIs (.int i t) "int" := rfl
  refine mul_te hT hU none_rep int_rep (fun Q' q => ?_) ?_
  · have hTU : (Value.type "NoneType" == Value.type "int") = false := by decide
    have hc : wpAny (model prog w) A (call (.builtin "int.__rmul__") [.int i t, .none]) (fun v s' => v = .notImplemented ∧ Q' none s') E s := decl_rmul ⟨rfl, q⟩
    refine wpAny_binaryOp1_right_declines (T := "NoneType") (U := "int") (nm := "mul") (id := "int.__rmul__") hTU hT hU none_fill ?_ ?_ hc
    · exact PySem.F.fills_int_mul
    · exact PySem.F.slot_int_rmul
  · unfold binopTypeError
    refine wpAny_bind (wpAny_rule (wpAny_bind (wpAny_typeNameOf' hT (by decide) (wpAny_bind (wpAny_typeNameOf' hU (by decide) ?_)))))
    exact @wpAny_raiseErrorMade _ _ _ _ _ _ _ _ plainExc_TypeError hA h (by size_fits)
theorem mul_none_none {Q : Value → Shared → Prop} (hA : A.handled = none) (h : ∀ h' tk e, Heap.NewExc s.heap h' e "TypeError" → E (.ref e) { s with heap := h', toks := tk }) : wpAny (model prog w) A (binaryOp .Mult .none .none) Q E s := by
  have hT : s.TypeIs .none "NoneType" := rfl
  refine mul_te hT hT none_rep none_rep (fun Q' q => ?_) ?_
  · exact wpAny_binaryOp1_none (T := "NoneType") (nm := "mul") hT hT none_fill q
  · unfold binopTypeError
    refine wpAny_bind (wpAny_rule (wpAny_bind (wpAny_typeNameOf' hT (by decide) (wpAny_bind (wpAny_typeNameOf' hT (by decide) ?_)))))
    exact @wpAny_raiseErrorMade _ _ _ _ _ _ _ _ plainExc_TypeError hA h (by size_fits)
theorem wp_iteN {α : Type} {M : Model} {A : Around} {c : Bool} {x y : Sem α} {Q : α → Shared → Prop} {E : Value → Shared → Prop} {s : Shared} (hc : c = false) (h : wpAny M A y Q E s) : wpAny M A (if c = true then x else y) Q E s := by
  subst hc; exact h
theorem wp_iteP {α : Type} {M : Model} {A : Around} {c : Bool} {x y : Sem α} {Q : α → Shared → Prop} {E : Value → Shared → Prop} {s : Shared} (hc : c = true) (h : wpAny M A x Q E s) : wpAny M A (if c = true then x else y) Q E s := by
  subst hc; exact h
/- the left one declines, the right one knows nothing of it -/
theorem bin_left_none {a b : Value} {T U nm id : String} {Q : Option Value → Shared → Prop} (hTU : (Value.type T == Value.type U) = false) (ha : s.TypeIs a T) (hb : s.TypeIs b U) (hfT : fillsNumberSlot (.type T) nm = pure true) (hfU : fillsNumberSlot (.type U) nm = pure false) (h : Slot T (dunder nm) id)
    (hc : wpAny (model prog w) A (call (.builtin id) [a, b]) (fun v s' => v = .notImplemented ∧ Q none s') E s) : wpAny (model prog w) A (binaryOp1 nm a b) Q E s := by
  unfold binaryOp1
  refine wpAny_bind (wpAny_typeOf ha (wpAny_bind (wpAny_typeOf hb (wpAny_bind (wpAny_of_eq hfT ?_)))))
  refine wp_iteN hTU ?_
  refine wpAny_bind (wpAny_of_eq hfU ?_)
  refine wp_iteN rfl ?_
  refine wp_iteN rfl ?_
  refine wp_iteN rfl ?_
  refine wpAny_bind (wpAny_pure ?_)
  refine wp_iteN rfl ?_
  refine wp_iteP rfl ?_
  refine wpAny_bind (wpAny_tryMethod_declines ha h (wpAny_mono hc (fun v s' h' => ⟨h'.1, ?_⟩) fun _ _ e => e))
  refine wp_iteN rfl ?_
  exact wp_iteN rfl (wpAny_pure h'.2)
theorem mul_int_none {i : Int} {t : Tok} {Q : Value → Shared → Prop} (hA : A.handled = none) (h : ∀ h' tk e, Heap.NewExc s.heap h' e "TypeError" → E (.ref e) { s with heap := h', toks := tk }) : wpAny (model prog w) A (binaryOp .Mult (.int i t) .none) Q E s := by
  have hT : s.TypeIs .none "NoneType" := rfl
  have hU : s.TypeIs (.int i t) "int" := rfl
  refine mul_te hU hT int_rep none_rep (fun Q' q => ?_) ?_
  · exact bin_left_none (T := "int") (U := "NoneType") (nm := "mul") (id := "int.__mul__") (by decide) hU hT PySem.F.fills_int_mul none_fill PySem.F.slot_int_mul (decl_mul ⟨rfl, q⟩)
  · unfold binopTypeError
    refine wpAny_bind (wpAny_rule (wpAny_bind (wpAny_typeNameOf' hU (by decide) (wpAny_bind (wpAny_typeNameOf' hT (by decide) ?_)))))
    exact @wpAny_raiseErrorMade _ _ _ _ _ _ _ _ plainExc_TypeError hA h (by size_fits)
end
end Mine
end
section
open PySem PySem.W PyProof.Rows
set_option linter.unusedVariables false
set_option maxRecDepth 100000
set_option exponentiation.threshold 3000
namespace Mine
open PySem.Float64 (decode val add sub mul div fma neg abs cmp isZero isFinite isInf ofInt Right pack infMag zero sgn)
theorem V_ofe {q k : Nat} (hq : q ≤ 2 ^ 53) (hk : k ≤ 2044) : ∃ t, t < infMag ∧ Float64.V t = q * 2 ^ k := by
  induction k generalizing q with
  | zero =>
    refine ⟨q, ?_, ?_⟩
    · have : infMag = 2047 * 2 ^ 52 := rfl
      omega
    · have := PySem.Float64.V_at (k := 0) (q := q) hq (.inr rfl)
      simpa using this
  | succ k ih =>
    by_cases h : 2 ^ 52 ≤ q
    · refine ⟨(k + 1) * 2 ^ 52 + q, ?_, PySem.Float64.V_at hq (.inl h)⟩
      have : infMag = 2047 * 2 ^ 52 := rfl
      omega
    · obtain ⟨t, h1, h2⟩ := ih (q := q * 2) (by omega) (by omega)
      exact ⟨t, h1, by rw [h2, Nat.pow_succ, Nat.mul_assoc, Nat.mul_comm 2]⟩
theorem rp_e {e : Nat} (he : e ≤ 2044) {k : Int} (hk : k.natAbs ≤ 2 ^ 53) : Rp (k * 2 ^ e) := by
  obtain ⟨t, h1, h2⟩ := V_ofe hk he
  refine ⟨t, h1, ?_⟩
  rw [h2, Int.natAbs_mul, Int.natAbs_pow]
  rfl
/- floats and their values -/
inductive FVs : List UInt64 → List Int → Prop
  | nil : FVs [] []
  | cons {d : UInt64} {ds : List UInt64} {a : Int} {as : List Int} : FV d a → FVs ds as → FVs (d :: ds) (a :: as)
end Mine
end
section
open PySem PySem.W PyProof.Rows
set_option linter.unusedVariables false
set_option maxRecDepth 100000
set_option exponentiation.threshold 3000
namespace Mine
open PySem.Float64 (decode val add sub mul div fma neg abs cmp isZero isFinite isInf ofInt Right pack infMag zero sgn)
end Mine
end
section
open PySem PySem.W PyProof.Rows
set_option linter.unusedVariables false
set_option maxRecDepth 100000
set_option exponentiation.threshold 3000
namespace Mine
open PySem.Float64 (decode val add sub mul div fma neg abs cmp isZero isFinite isInf ofInt Right pack infMag zero sgn)
end Mine
end
section
open PySem PySem.W PyProof.Rows
set_option linter.unusedVariables false
set_option maxRecDepth 100000
namespace Mine
theorem isum_snoc (a : List Int) (x : Int) : isum (a ++ [x]) = isum a + x := by
  induction a with
  | nil => simp [isum]
  | cons y a ih => simp only [List.cons_append, isum, ih]; omega
end Mine
end
section
open PySem PySem.W PyProof.Rows
set_option linter.unusedVariables false
set_option maxRecDepth 100000
set_option exponentiation.threshold 3000
namespace Mine
open PySem.Float64 (decode val add sub mul div fma neg abs cmp isZero isFinite isInf ofInt Right pack infMag zero sgn dist V_at V_form V_lt V_mono V_succ)
theorem d_le {a b : Nat} (h : a ≤ b) : a + dist a b = b := by unfold dist; omega
theorem d_ge {a b : Nat} (h : b ≤ a) : b + dist a b = a := by unfold dist; omega
/- t tells the float nearest to W, of two as near the even one -/
noncomputable def RN (W t : Nat) : Prop := ∀ t', dist W (Float64.V t) ≤ dist W (Float64.V t') ∧ (Float64.V t' ≠ Float64.V t → dist W (Float64.V t) = dist W (Float64.V t') → t % 2 = 0)
theorem V_any : ∀ {k q : Nat}, q ≤ 2 ^ 53 → ∃ t, Float64.V t = q * 2 ^ k
  | 0, q, h => ⟨_, V_at (k := 0) h (.inr rfl)⟩
  | k + 1, q, h => by
    by_cases c : 2 ^ 52 ≤ q
    · exact ⟨_, V_at (k := k + 1) h (.inl c)⟩
    · obtain ⟨t, ht⟩ := V_any (k := k) (q := 2 * q) (by lia)
      exact ⟨t, by rw [ht, Nat.pow_succ]; ac_rfl⟩
theorem V_inj' {t t' : Nat} (h : Float64.V t = Float64.V t') : t = t' := by
  rcases Nat.lt_trichotomy t t' with c | c | c
  · have := V_lt c; lia
  · exact c
  · have := V_lt c; lia
theorem RN.exact {u t : Nat} (h : RN (Float64.V u) t) : t = u := by
  have := (h u).1
  unfold dist at this
  exact V_inj' (by lia)
theorem RN.self (u : Nat) : RN (Float64.V u) u := fun t' => by
  unfold dist
  exact ⟨by lia, fun h1 h2 => by lia⟩
theorem RN.le {W t u : Nat} (h : RN W t) (hu : W ≤ Float64.V u) : Float64.V t ≤ Float64.V u := by
  have a := (h u).1
  have e := d_le hu
  rcases Nat.le_total W (Float64.V t) with c | c
  · have := d_le c; omega
  · exact Nat.le_trans c hu
theorem RN.ge {W t u : Nat} (h : RN W t) (hu : Float64.V u ≤ W) : Float64.V u ≤ Float64.V t := by
  have a := (h u).1
  have e := d_ge hu
  rcases Nat.le_total W (Float64.V t) with c | c
  · exact Nat.le_trans hu c
  · have := d_ge c; omega
theorem RN.unique {W t t' : Nat} (h : RN W t) (h' : RN W t') : t = t' := by
  have key : ∀ {t t' : Nat}, RN W t → RN W t' → ¬ t < t' := by
    intro t t' h h' c
    have l1 := V_lt c
    have a1 := h t'
    have a2 := h' t
    have e : dist W (Float64.V t) = dist W (Float64.V t') := Nat.le_antisymm a1.1 a2.1
    have p1 := a1.2 (by lia) e
    have p2 := a2.2 (by lia) e.symm
    have c2 : t + 1 < t' := by lia
    have l2 := V_lt c2
    have l3 := V_succ t
    have a3 := (h (t + 1)).1
    clear h h' a1 a2 p1 p2 c c2
    rcases Nat.le_total W (Float64.V t) with w | w
    · have x := d_le w
      have y := d_le (Nat.le_trans w (Nat.le_of_lt l1))
      omega
    · have y := d_ge w
      rcases Nat.le_total W (Float64.V t') with w' | w'
      · have z := d_le w'
        rcases Nat.le_total W (Float64.V (t + 1)) with v | v
        · have x := d_le v; omega
        · have x := d_ge v; omega
      · have z := d_ge w'; omega
  rcases Nat.lt_trichotomy t t' with c | c | c
  · exact (key h h' c).elim
  · exact c
  · exact (key h' h c).elim
/- the neighbour below -/
theorem V_below {k q : Nat} (hq : 0 < q) (hq2 : q < 2 ^ 53) (h2 : 2 ^ 52 ≤ q ∨ k = 0) : ∃ u, (q - 1) * 2 ^ k ≤ Float64.V u ∧ Float64.V u < q * 2 ^ k ∧ (∀ W, Float64.V u < W → W < q * 2 ^ k → ∀ u', Float64.V u' ≠ W) := by
  have hp : 0 < 2 ^ k := Nat.two_pow_pos k
  have ht : Float64.V (k * 2 ^ 52 + q) = q * 2 ^ k := V_at (by lia) h2
  refine ⟨k * 2 ^ 52 + q - 1, ?_, ?_, ?_⟩
  · rcases Nat.lt_or_ge q (2 ^ 52 + 1) with c | c
    · rcases h2 with h | rfl
      · have hq' : q = 2 ^ 52 := by lia
        subst hq'
        cases k with
        | zero =>
          have := V_at (k := 0) (q := 2 ^ 52 - 1) (by lia) (.inr rfl)
          rw [show 0 * 2 ^ 52 + 2 ^ 52 - 1 = 0 * 2 ^ 52 + (2 ^ 52 - 1) by lia, this]
          exact Nat.le_refl _
        | succ k =>
          rw [show (k + 1) * 2 ^ 52 + 2 ^ 52 - 1 = k * 2 ^ 52 + (2 ^ 53 - 1) by (clear ht hp h c hq2 hq; omega), V_at (by lia) (.inl (by lia)), show 2 ^ (k + 1) = 2 ^ k * 2 from Nat.pow_succ 2 k]
          clear ht hp
          generalize 2 ^ k = P
          lia
      · rw [show 0 * 2 ^ 52 + q - 1 = 0 * 2 ^ 52 + (q - 1) by lia, V_at (by lia) (.inr rfl)]; exact Nat.le_refl _
    · rw [show k * 2 ^ 52 + q - 1 = k * 2 ^ 52 + (q - 1) by lia, V_at (by lia) (.inl (by lia))]
      exact Nat.le_refl _
  · rw [← ht]
    exact V_lt (by (clear ht hp h2 hq2; omega))
  · intro W h1 h3 u' e
    rw [← e] at h1 h3
    rw [← ht] at h3
    have a1 : k * 2 ^ 52 + q - 1 < u' := by
      rcases Nat.lt_or_ge (k * 2 ^ 52 + q - 1) u' with c | c
      · exact c
      · have := V_mono c; grind
    have a2 : u' < k * 2 ^ 52 + q := by
      rcases Nat.lt_or_ge u' (k * 2 ^ 52 + q) with c | c
      · exact c
      · have := V_mono c; grind
    lia
theorem RN.half {W t : Nat} (h : RN W t) : ∃ k q, Float64.V t = q * 2 ^ k ∧ q < 2 ^ 53 ∧ (2 ^ 52 ≤ q ∨ k = 0) ∧ 2 * dist W (Float64.V t) ≤ 2 ^ k := by
  obtain ⟨k, q, rfl, hq, h2, hV⟩ := V_form t
  refine ⟨k, q, hV, hq, h2, ?_⟩
  have up := (h (k * 2 ^ 52 + (q + 1))).1
  have hU : Float64.V (k * 2 ^ 52 + (q + 1)) = q * 2 ^ k + 2 ^ k := by rw [V_at (by lia) (by lia), Nat.add_mul, Nat.one_mul]
  rw [hU, hV] at up
  rw [hV]
  have hp : 0 < 2 ^ k := Nat.two_pow_pos k
  by_cases c : q * 2 ^ k ≤ W
  · generalize q * 2 ^ k = X at *
    generalize 2 ^ k = P at *
    have d1 := d_ge c
    clear h hU hV h2 hq
    rcases Nat.le_total W (X + P) with v | v
    · have d2 := d_le v; omega
    · have d2 := d_ge v; omega
  · have hq0 : 0 < q := by
      rcases Nat.eq_zero_or_pos q with z | z
      · subst z; simp at c
      · exact z
    obtain ⟨u, b1, b2, _⟩ := V_below hq0 hq h2
    have dn := (h u).1
    rw [hV] at dn
    have b3 : (q - 1) * 2 ^ k + 2 ^ k = q * 2 ^ k := by rw [← Nat.succ_mul]; congr 1; lia
    clear h up hU hp h2 hq
    generalize q * 2 ^ k = X at *
    generalize (q - 1) * 2 ^ k = Y at *
    generalize 2 ^ k = P at *
    have d1 := d_le (Nat.le_of_lt (Nat.lt_of_not_le c))
    rcases Nat.le_total W (Float64.V u) with v | v
    · have d2 := d_le v; omega
    · have d2 := d_ge v; omega
theorem RN.dvd {W t j : Nat} (h : RN W t) (hd : 2 ^ j ∣ W) : 2 ^ j ∣ Float64.V t := by
  obtain ⟨k, q, hV, hq, h2, _⟩ := h.half
  by_cases c : j ≤ k
  · rw [hV]
    exact Nat.dvd_trans (Nat.pow_dvd_pow 2 c) (Nat.dvd_mul_left _ _)
  · obtain ⟨w, rfl⟩ := hd
    rcases Nat.lt_or_ge w (2 ^ 53) with hw | hw
    · obtain ⟨u, hu⟩ := V_any (k := j) (q := w) (by lia)
      rw [Nat.mul_comm, ← hu] at h
      have := h.exact
      subst this
      exact ⟨w, by rw [hu, Nat.mul_comm]⟩
    · exfalso
      obtain ⟨u, hu⟩ := V_any (k := j) (q := 2 ^ 53) (Nat.le_refl _)
      have h3 : Float64.V u ≤ 2 ^ j * w := by rw [hu, Nat.mul_comm (2 ^ j)]; exact Nat.mul_le_mul_right _ hw
      have h4 := h.ge h3
      rw [hu, hV] at h4
      have h5 : 2 ^ k < 2 ^ j := Nat.pow_lt_pow_right (by decide) (by lia)
      have h6 : q * 2 ^ k < 2 ^ 53 * 2 ^ j := Nat.lt_of_lt_of_le (Nat.mul_lt_mul_of_pos_right hq (Nat.two_pow_pos _)) (Nat.mul_le_mul_left _ (Nat.le_of_lt h5))
      grind
end Mine
end
section
open PySem PySem.W PyProof.Rows
set_option linter.unusedVariables false
set_option maxRecDepth 100000
set_option exponentiation.threshold 3000
namespace Mine
open PySem.Float64 (decode val add sub mul div fma neg abs cmp isZero isFinite isInf ofInt Right pack infMag zero sgn dist V_at V_form V_lt V_mono V_succ)
theorem word_of {x : UInt64} {a : Int} (h : FV x a) : ∃ ng t, x = pack ng t ∧ t < infMag ∧ a = sgn ng (Float64.V t) := by
  obtain ⟨⟨s, m, e, hd⟩, hv⟩ := h
  have hlt : x.toNat % 2 ^ 63 < infMag := by
    have hi : infMag = 2047 * 2 ^ 52 := rfl
    unfold decode at hd
    simp only at hd
    split at hd
    · split at hd <;> cases hd
    · rename_i h1
      have h1' : x.toNat / 2 ^ 52 % 2048 ≠ 2047 := by simpa using h1
      omega
  have hx : x = pack (x.toNat / 2 ^ 63 == 1) (x.toNat % 2 ^ 63) := by
    apply UInt64.toNat_inj.mp
    rw [PySem.Float64.pack_toNat _ (Nat.mod_lt _ (by decide))]
    have := x.toNat_lt
    by_cases c : x.toNat / 2 ^ 63 = 1
    · rw [if_pos (by simpa using c)]; lia
    · rw [if_neg (by simpa using c)]; lia
  refine ⟨_, _, hx, hlt, ?_⟩
  rw [← hv]
  conv => lhs; rw [hx]
  exact PySem.Float64.val_pack _ hlt
theorem fv_mag {x : UInt64} {a : Int} (h : FV x a) : ∃ t, t < infMag ∧ Float64.V t = a.natAbs := by
  obtain ⟨ng, t, _, ht, e⟩ := word_of h
  exact ⟨t, ht, by rw [e]; exact (PySem.Float64.sgn_natAbs _ _).symm⟩
theorem fv_rp {x : UInt64} {a : Int} (h : FV x a) : Rp a := fv_mag h
/- bounds -/
noncomputable def Bf : Nat := 2 ^ 2090
noncomputable def Bg : Nat := 2 ^ 2092
theorem bf_bg : Bf + Bf + Bf + Bf ≤ Bg := by decide +kernel
theorem big_lt {t : Nat} (h : Float64.V t ≤ Bg) : t < infMag := by
  rcases Nat.lt_or_ge t infMag with c | c
  · exact c
  · exfalso
    have h1 := V_mono c
    have h2 : Float64.V infMag = 2 ^ 52 * 2 ^ 2046 := by
      have := V_at (k := 2046) (q := 2 ^ 52) (by decide) (.inl (Nat.le_refl _))
      rw [← this]; rfl
    have h3 : Bg < 2 ^ 52 * 2 ^ 2046 := by decide +kernel
    lia
/- a sum, rounded -/
theorem add_rn {x y : UInt64} {a b : Int} (hx : FV x a) (hy : FV y b) (hb : (a + b).natAbs ≤ Bf) : ∃ t, t < infMag ∧ RN (a + b).natAbs t ∧ FV (add x y) (sgn (decide (a + b < 0)) (Float64.V t)) := by
  obtain ⟨⟨sx, mx, ex, dx⟩, vx⟩ := hx
  obtain ⟨⟨sy, my, ey, dy⟩, vy⟩ := hy
  have R := PySem.Float64.add_right dx dy
  rw [vx, vy] at R
  by_cases h0 : a + b = 0
  · rw [R.1 h0, h0]
    refine ⟨0, by decide, ?_, ?_⟩
    · have := RN.self 0
      rwa [PySem.Float64.V_zero] at this
    · rw [PySem.Float64.V_zero]
      exact fv_zero _
  · obtain ⟨t, ht, hle, hov, hnear⟩ := R.2 h0
    have hlt : t < infMag := by
      rcases Nat.lt_or_ge t infMag with c | c
      · exact c
      · exfalso
        have h1 := hov.mp (by lia)
        have h2 : 2 * Bf < 1 * ((2 ^ 54 - 1) * 2 ^ 2045) := by decide +kernel
        lia
    refine ⟨t, hlt, fun t' => ?_, ?_⟩
    · have := hnear hlt t'
      rw [Nat.one_mul, Nat.one_mul] at this
      exact this
    · rw [ht]
      obtain ⟨m, e, hd, _⟩ := PySem.Float64.decode_pack (decide (a + b < 0)) hlt
      exact ⟨⟨_, _, _, hd⟩, PySem.Float64.val_pack _ hlt⟩
theorem sg_abs (s : Int) (n : Nat) : (s - sgn (decide (s < 0)) n).natAbs = dist s.natAbs n := by
  have key : ∀ m : Nat, ((m : Int) - (n : Int)).natAbs = dist m n := fun m => by
    rcases Nat.le_total m n with h | h
    · have e := d_le h
      rw [show (m : Int) - n = -((dist m n : Nat) : Int) by clear h; omega, Int.natAbs_neg, Int.natAbs_natCast]
    · have e := d_ge h
      rw [show (m : Int) - n = ((dist m n : Nat) : Int) by clear h; omega, Int.natAbs_natCast]
  unfold sgn
  by_cases c : s < 0
  · rw [decide_eq_true c, if_pos rfl]
    obtain ⟨m, rfl⟩ : ∃ m : Nat, s = -(m : Int) := ⟨s.natAbs, by rw [Int.ofNat_natAbs_of_nonpos (Int.le_of_lt c), Int.neg_neg]⟩
    rw [Int.natAbs_neg, Int.natAbs_natCast, ← key m, show -(m : Int) - -(n : Int) = -((m : Int) - n) by lia, Int.natAbs_neg]
  · rw [decide_eq_false c, if_neg (by decide)]
    obtain ⟨m, rfl⟩ : ∃ m : Nat, s = (m : Int) := ⟨s.natAbs, (Int.natAbs_of_nonneg (Int.not_lt.mp c)).symm⟩
    rw [Int.natAbs_natCast, ← key m]
/- 2 ** j divides -/
noncomputable def Dv (j : Nat) (a : Int) : Prop := 2 ^ j ∣ a.natAbs
theorem Dv.add {j : Nat} {a b : Int} (h : Dv j a) (h' : Dv j b) : Dv j (a + b) := by
  have h1 : ((2 ^ j : Nat) : Int) ∣ a := Int.ofNat_dvd_left.mpr h
  have h2 : ((2 ^ j : Nat) : Int) ∣ b := Int.ofNat_dvd_left.mpr h'
  exact Int.ofNat_dvd_left.mp (Int.dvd_add h1 h2)
theorem Dv.sub {j : Nat} {a b : Int} (h : Dv j a) (h' : Dv j b) : Dv j (a - b) := by
  have h1 : ((2 ^ j : Nat) : Int) ∣ a := Int.ofNat_dvd_left.mpr h
  have h2 : ((2 ^ j : Nat) : Int) ∣ b := Int.ofNat_dvd_left.mpr h'
  exact Int.ofNat_dvd_left.mp (Int.dvd_sub h1 h2)
theorem Dv.less {i j : Nat} {a : Int} (h : Dv j a) (hij : i ≤ j) : Dv i a := Nat.dvd_trans (Nat.pow_dvd_pow 2 hij) h
theorem Dv.zero (j : Nat) : Dv j 0 := ⟨0, by simp⟩
theorem Dv.sgn {j n : Nat} (b : Bool) (h : 2 ^ j ∣ n) : Dv j (sgn b n) := by unfold Dv; rw [PySem.Float64.sgn_natAbs]; exact h
theorem rp_dv {j : Nat} {a : Int} (h : Dv j a) (hb : a.natAbs ≤ 2 ^ 53 * 2 ^ j) (hB : a.natAbs ≤ Bg) : Rp a := by
  obtain ⟨w, hw⟩ := h
  have hw53 : w ≤ 2 ^ 53 := by
    rw [hw, Nat.mul_comm] at hb
    exact Nat.le_of_mul_le_mul_right hb (Nat.two_pow_pos _)
  obtain ⟨t, ht⟩ := V_any (k := j) hw53
  rw [Nat.mul_comm, ← hw] at ht
  exact ⟨t, big_lt (by rw [ht]; exact hB), ht⟩
theorem bf_V : ∃ u, Float64.V u = Bf := by
  obtain ⟨u, hu⟩ := V_any (k := 2090) (q := 1) (by decide)
  exact ⟨u, by rw [hu, Nat.one_mul]; rfl⟩
/- what is told of a sum and its error -/
structure TwoS (a b s e : Int) : Prop where
  sum : a + b = s + e
  rn : ∃ t, s = sgn (decide (a + b < 0)) (Float64.V t) ∧ RN (a + b).natAbs t
  le : e.natAbs ≤ b.natAbs
  half : ∃ k, Dv k s ∧ 2 * e.natAbs ≤ 2 ^ k ∧ (k = 0 ∨ 2 ^ 52 * 2 ^ k ≤ s.natAbs)
  dvd : ∀ j, Dv j a → Dv j b → Dv j s
theorem TwoS.dvde {a b s e : Int} (h : TwoS a b s e) {j : Nat} (ha : Dv j a) (hb : Dv j b) : Dv j e := by
  have : e = a + b - s := by have := h.sum; grind
  rw [this]
  exact (ha.add hb).sub (h.dvd j ha hb)
set_option maxHeartbeats 2000000 in
theorem dist_ge {a b : Nat} (h : b ≤ a) : dist a b = a - b := by unfold dist; rw [Nat.sub_eq_zero_of_le h, Nat.add_zero]
theorem dist_le {a b : Nat} (h : a ≤ b) : dist a b = b - a := by unfold dist; rw [Nat.sub_eq_zero_of_le h, Nat.zero_add]
theorem dist_add (a b : Int) : dist (a + b).natAbs a.natAbs ≤ b.natAbs := by
  rcases Nat.le_total (a + b).natAbs a.natAbs with c | c
  · rw [dist_le c]
    have := Int.natAbs_add_le (a + b) (-b)
    rw [show a + b + -b = a by lia, Int.natAbs_neg] at this
    exact Nat.sub_le_of_le_add (by rw [Nat.add_comm]; exact this)
  · rw [dist_ge c]
    exact Nat.sub_le_of_le_add (by rw [Nat.add_comm]; exact Int.natAbs_add_le a b)
theorem sa_tri (a b s : Int) : (s - a).natAbs ≤ b.natAbs + (a + b - s).natAbs := by
  have := Int.natAbs_add_le b (-(a + b - s))
  rw [show b + -(a + b - s) = s - a by lia, Int.natAbs_neg] at this
  exact this
theorem sa_b1 {a b s : Int} {K : Nat} (h9 : (a + b - s).natAbs ≤ K) (hb : b.natAbs ≤ (2 ^ 53 - 1) * K) : (s - a).natAbs ≤ 2 ^ 53 * K := by
  have h := Nat.add_le_add hb h9
  rw [← Nat.succ_mul] at h
  exact Nat.le_trans (sa_tri a b s) h
theorem sa_b2 {a b s : Int} {K : Nat} (h9 : (a + b - s).natAbs ≤ b.natAbs) (hb : b.natAbs ≤ (2 ^ 53 - 1) * K) : (s - a).natAbs ≤ 2 ^ 53 * K + 2 ^ 53 * K := by
  have h2 : b.natAbs ≤ 2 ^ 53 * K := Nat.le_trans hb (Nat.mul_le_mul_right _ (by decide))
  exact Nat.le_trans (sa_tri a b s) (Nat.add_le_add h2 (Nat.le_trans h9 h2))
theorem sa_b3 {a b s : Int} {M N : Nat} (h9 : (a + b - s).natAbs ≤ b.natAbs) (hB : a.natAbs + b.natAbs ≤ M) (hN : M + M + M + M ≤ N) : (s - a).natAbs ≤ N := by
  have hb : b.natAbs ≤ M := Nat.le_trans (Nat.le_add_left ..) hB
  have := Nat.add_le_add hb (Nat.le_trans h9 hb)
  exact Nat.le_trans (sa_tri a b s) (Nat.le_trans this (Nat.le_trans (Nat.le_trans (Nat.le_add_right _ M) (Nat.le_add_right _ M)) hN))
theorem two_sum {x y : UInt64} {a b : Int} (hx : FV x a) (hy : FV y b) (hab : b.natAbs ≤ a.natAbs) (hB : a.natAbs + b.natAbs ≤ Bf) :
    ∃ s e, TwoS a b s e ∧ FV (add x y) s ∧ FV (sub y (sub (add x y) x)) e ∧ FV (sub (add x y) x) (s - a) := by
  have hW : (a + b).natAbs ≤ Bf := Nat.le_trans (Int.natAbs_add_le ..) hB
  obtain ⟨t, ht, rn, hs⟩ := add_rn hx hy hW
  obtain ⟨ta, hta, ea⟩ := fv_mag hx
  obtain ⟨tb, htb, eb⟩ := fv_mag hy
  generalize hsv : sgn (decide (a + b < 0)) (Float64.V t) = s at hs
  have hsn : s.natAbs = Float64.V t := by rw [← hsv]; exact PySem.Float64.sgn_natAbs _ _
  have hee : (a + b - s).natAbs = dist (a + b).natAbs (Float64.V t) := by rw [← hsv]; exact sg_abs _ _
  have hle : (a + b - s).natAbs ≤ b.natAbs := by
    have h1 := (rn ta).1
    rw [hee]
    rw [ea] at h1
    exact Nat.le_trans h1 (dist_add a b)
  have hdv : ∀ j, Dv j a → Dv j b → Dv j s := fun j h1 h2 => by
    rw [← hsv]
    exact Dv.sgn _ (rn.dvd (Dv.add h1 h2))
  obtain ⟨k, q, hV, hq, hq2, hh⟩ := rn.half
  have two : TwoS a b s (a + b - s) := by
    refine ⟨by lia, ⟨t, hsv.symm, rn⟩, hle, ⟨k, ?_, by rw [hee]; exact hh, ?_⟩, hdv⟩
    · unfold Dv; rw [hsn, hV]; exact Nat.dvd_mul_left _ _
    · rcases hq2 with h | h
      · right; rw [hsn, hV]; exact Nat.mul_le_mul_right _ h
      · exact .inl h
  have hsB : s.natAbs ≤ Bf := by
    rw [hsn]
    obtain ⟨u, hu⟩ := bf_V
    rw [← hu]
    exact rn.le (by rw [hu]; exact hW)
  have hp91 := bf_bg
  have hsaB : (s - a).natAbs ≤ Bg := sa_b3 hle hB hp91
  have heB : (a + b - s).natAbs ≤ Bg := by lia
  by_cases hb0 : b = 0
  · subst hb0
    have e0 : a + 0 - s = 0 := by lia
    have hsa : s = a := by lia
    have f1 := hs.sub hx (by rw [hsa, Int.sub_self]; exact rp_zero)
    have f2 := hy.sub f1 (by rw [hsa]; simpa using rp_zero)
    exact ⟨s, _, two, hs, by rw [e0]; rw [hsa] at f2; simpa using f2, f1⟩
  · -- b = qb * 2 ** kb
    obtain ⟨kb, qb, _, hqb, hqb2, hVb⟩ := V_form tb
    obtain ⟨ka, qa, _, hqa, hqa2, hVa⟩ := V_form ta
    rw [eb] at hVb
    rw [ea] at hVa
    have hkab : kb ≤ ka := by
      rcases Nat.lt_or_ge ka kb with c | c
      · exfalso
        have hq52 : 2 ^ 52 ≤ qb := by rcases hqb2 with h | h; exact h; lia
        have h1 : a.natAbs < 2 ^ 53 * 2 ^ ka := by rw [hVa]; exact Nat.mul_lt_mul_of_pos_right hqa (Nat.two_pow_pos _)
        have h2 : 2 ^ 53 * 2 ^ ka ≤ 2 ^ 52 * 2 ^ kb := by
          rw [show kb = (kb - 1) + 1 by lia, Nat.pow_succ 2 (kb - 1), show 2 ^ 52 * (2 ^ (kb - 1) * 2) = 2 ^ 53 * 2 ^ (kb - 1) by rw [Nat.mul_comm (2 ^ (kb - 1)), ← Nat.mul_assoc]]
          exact Nat.mul_le_mul_left _ (Nat.pow_le_pow_right (by decide) (by lia))
        have h3 : 2 ^ 52 * 2 ^ kb ≤ b.natAbs := by rw [hVb]; exact Nat.mul_le_mul_right _ hq52
        lia
      · exact c
    have dvb : Dv kb b := by unfold Dv; rw [hVb]; exact Nat.dvd_mul_left _ _
    have dva : Dv ka a := by unfold Dv; rw [hVa]; exact Nat.dvd_mul_left _ _
    have dva' : Dv kb a := dva.less hkab
    have dvs := hdv kb dva' dvb
    have hbb : b.natAbs ≤ (2 ^ 53 - 1) * 2 ^ kb := by rw [hVb]; exact Nat.mul_le_mul_right _ (by grind)
    have hpk : 0 < 2 ^ kb := Nat.two_pow_pos kb
    have h53 : (2 ^ 53 - 1) * 2 ^ kb + 2 ^ kb = 2 ^ 53 * 2 ^ kb := by rw [← Nat.succ_mul]
    have re : Rp (a + b - s) := by
      exact rp_dv (Dv.sub (Dv.add dva' dvb) dvs) (by lia) heB
    have rsa : Rp (s - a) := by
      by_cases he0 : a + b - s = 0
      · rw [show s - a = b by grind]
        exact fv_rp hy
      · by_cases hk : ka = kb
        · subst hk
          have haa : a.natAbs ≤ (2 ^ 53 - 1) * 2 ^ ka := by rw [hVa]; exact Nat.mul_le_mul_right _ (by grind)
          obtain ⟨u, hu⟩ := V_any (k := ka + 1) (q := 2 ^ 53 - 1) (by lia)
          have hW2 : (a + b).natAbs ≤ Float64.V u := by
            rw [hu, Nat.pow_succ 2 ka, show (2 ^ 53 - 1) * (2 ^ ka * 2) = (2 ^ 53 - 1) * 2 ^ ka + (2 ^ 53 - 1) * 2 ^ ka by lia]
            exact Nat.le_trans (Int.natAbs_add_le a b) (Nat.add_le_add haa (Nat.le_trans hab haa))
          have h4 := rn.le hW2
          rw [hu, hV] at h4
          have hk1 : k ≤ ka + 1 := by
            rcases Nat.lt_or_ge (ka + 1) k with c | c
            · exfalso
              have hq52 : 2 ^ 52 ≤ q := by rcases hq2 with h | h; exact h; lia
              have h5 : 2 ^ 52 * 2 ^ k ≤ q * 2 ^ k := Nat.mul_le_mul_right _ hq52
              have h6 : 2 ^ (ka + 1) * 2 ≤ 2 ^ k := by rw [← Nat.pow_succ]; exact Nat.pow_le_pow_right (by decide) c
              have h7 : (2 ^ 53 - 1) * 2 ^ (ka + 1) < 2 ^ 53 * 2 ^ (ka + 1) := Nat.mul_lt_mul_of_pos_right (by decide) (Nat.two_pow_pos _)
              lia
            · exact c
          have h8 : 2 ^ k ≤ 2 ^ ka * 2 := by rw [← Nat.pow_succ]; exact Nat.pow_le_pow_right (by decide) hk1
          have h9 : (a + b - s).natAbs ≤ 2 ^ ka := by rw [hee]; lia
          exact rp_dv (j := ka) (dvs.sub dva) (sa_b1 h9 hbb) hsaB
        · have hk1 : kb + 1 ≤ ka := by lia
          have dva1 : Dv (kb + 1) a := dva.less hk1
          have hno : 2 ^ 53 * 2 ^ kb ≤ (a + b).natAbs := by
            rcases Nat.lt_or_ge (a + b).natAbs (2 ^ 53 * 2 ^ kb) with c | c
            · exfalso
              obtain ⟨w, hw⟩ := Dv.add dva' dvb
              have hw53 : w ≤ 2 ^ 53 := by
                rw [hw, Nat.mul_comm] at c
                exact Nat.le_of_lt (Nat.lt_of_mul_lt_mul_right c)
              obtain ⟨u, hu⟩ := V_any (k := kb) hw53
              rw [Nat.mul_comm, ← hw] at hu
              rw [← hu] at rn
              have := rn.exact
              subst this
              apply he0
              have : (a + b - s).natAbs = 0 := by rw [hee, ← hu]; unfold dist; lia
              lia
            · exact c
          obtain ⟨u, hu⟩ := V_any (k := kb) (q := 2 ^ 53) (Nat.le_refl _)
          have h4 := rn.ge (u := u) (by rw [hu]; exact hno)
          rw [hu, hV] at h4
          have hk2 : kb + 1 ≤ k := by
            rcases Nat.lt_or_ge k (kb + 1) with c | c
            · exfalso
              have h5 : q * 2 ^ k < 2 ^ 53 * 2 ^ k := Nat.mul_lt_mul_of_pos_right hq (Nat.two_pow_pos _)
              have h6 : 2 ^ 53 * 2 ^ k ≤ 2 ^ 53 * 2 ^ kb := Nat.mul_le_mul_left _ (Nat.pow_le_pow_right (by decide) (by lia))
              grind
            · exact c
          have dvs1 : Dv (kb + 1) s := by
            have : Dv k s := by unfold Dv; rw [hsn, hV]; exact Nat.dvd_mul_left _ _
            exact this.less hk2
          refine rp_dv (j := kb + 1) (dvs1.sub dva1) ?_ hsaB
          rw [Nat.pow_succ 2 kb, show 2 ^ 53 * (2 ^ kb * 2) = 2 ^ 53 * 2 ^ kb + 2 ^ 53 * 2 ^ kb by lia]
          exact sa_b2 hle hbb
    have f1 := hs.sub hx rsa
    have f2 := hy.sub f1 (by rw [show b - (s - a) = a + b - s by lia]; exact re)
    rw [show b - (s - a) = a + b - s by lia] at f2
    exact ⟨s, _, two, hs, f2, f1⟩
end Mine
end
section
open PySem PySem.W PyProof.Rows
set_option linter.unusedVariables false
set_option maxRecDepth 100000
set_option exponentiation.threshold 3000
namespace Mine
open PySem.Float64 (decode val add sub mul div fma neg abs cmp isZero isFinite isInf ofInt Right pack infMag zero sgn dist V_at V_form V_lt V_mono V_succ fsumAdd lt gt)
theorem fv_pack (ng : Bool) {t : Nat} (h : t < infMag) : FV (pack ng t) (sgn ng (Float64.V t)) := by
  obtain ⟨m, e, hd, _⟩ := PySem.Float64.decode_pack ng h
  exact ⟨⟨_, _, _, hd⟩, PySem.Float64.val_pack _ h⟩
theorem FV.abs {x : UInt64} {a : Int} (h : FV x a) : FV (abs x) (a.natAbs : Int) := by
  obtain ⟨ng, t, rfl, ht, e⟩ := word_of h
  have hi : infMag = 2047 * 2 ^ 52 := rfl
  have hn : (pack ng t).toNat % 2 ^ 63 = t := by
    rw [PySem.Float64.pack_toNat ng (by lia)]
    cases ng <;> simp <;> lia
  have : PySem.Float64.abs (pack ng t) = pack false t := by
    unfold PySem.Float64.abs
    rw [PySem.W.isNaN_pack ng (Nat.le_of_lt ht), if_neg (by decide), hn]
  rw [this]
  have h2 := fv_pack false ht
  have h3 : (a.natAbs : Int) = sgn false (Float64.V t) := by
    rw [e, PySem.Float64.sgn_natAbs]; rfl
  rw [h3]; exact h2
theorem lt_abs {x y : UInt64} {a b : Int} (hx : FV x a) (hy : FV y b) : lt (abs x) (abs y) = decide (a.natAbs < b.natAbs) := by
  unfold lt
  rw [hx.abs.cmp hy.abs]
  by_cases c : a.natAbs < b.natAbs
  · rw [show compare (a.natAbs : Int) (b.natAbs : Int) = .lt from Int.compare_eq_lt.mpr (by omega), decide_eq_true c]; rfl
  · rw [decide_eq_false c]
    have : compare (a.natAbs : Int) (b.natAbs : Int) ≠ .lt := fun z => c (by have := Int.compare_eq_lt.mp z; omega)
    cases h : compare (a.natAbs : Int) (b.natAbs : Int) with
    | lt => exact absurd h this
    | eq => rfl
    | gt => rfl
noncomputable def Uu : Nat := 2 ^ 2039
theorem uu_one : 1 ≤ Uu := by decide +kernel
theorem uu_bf {k : Nat} (h : 2 ^ 52 * 2 ^ k ≤ Bf + Bf) : 2 ^ k ≤ Uu := by
  rcases Nat.lt_or_ge 2039 k with c | c
  · exfalso
    have h1 : 2 ^ 2040 ≤ 2 ^ k := Nat.pow_le_pow_right (by decide) c
    have h2 : Bf + Bf < 2 ^ 52 * 2 ^ 2040 := by decide +kernel
    have h3 : 2 ^ 52 * 2 ^ 2040 ≤ 2 ^ 52 * 2 ^ k := Nat.mul_le_mul_left _ h1
    lia
  · exact Nat.pow_le_pow_right (by decide) c
theorem TwoS.grow {a b s e : Int} (h : TwoS a b s e) (hB : a.natAbs + b.natAbs ≤ Bf) : 2 * e.natAbs ≤ Uu ∧ s.natAbs + e.natAbs ≤ a.natAbs + b.natAbs + Uu := by
  have hs : s.natAbs ≤ a.natAbs + b.natAbs + e.natAbs := by
    have : s = (a + b) - e := by have := h.sum; omega
    rw [this]
    exact Nat.le_trans (Int.natAbs_sub_le _ _) (Nat.add_le_add_right (Int.natAbs_add_le _ _) _)
  have h2 := h.le
  have he : 2 * e.natAbs ≤ Uu := by
    obtain ⟨k, _, h3, h4⟩ := h.half
    rcases h4 with rfl | h4
    · have := uu_one
      simp at h3
      clear h2 hs hB h
      generalize e.natAbs = E at *
      omega
    · refine Nat.le_trans h3 (uu_bf ?_)
      clear h3 h
      generalize s.natAbs = S at *
      generalize a.natAbs = A at *
      generalize b.natAbs = B at *
      generalize e.natAbs = E at *
      generalize 2 ^ 52 * 2 ^ k = P at *
      omega
  refine ⟨he, Nat.le_trans (Nat.add_le_add_right hs _) ?_⟩
  rw [Nat.add_assoc, ← Nat.two_mul]
  exact Nat.add_le_add_left he _
/- partials: none 0, each below what divides all greater ones -/
noncomputable def NOv : List Int → Prop
  | [] => True
  | p :: ps => p ≠ 0 ∧ (∃ r, p.natAbs < 2 ^ r ∧ ∀ q ∈ ps, Dv r q) ∧ NOv ps
noncomputable def outv (hs : List Int) (q : Int) : List Int := if q = 0 then hs else hs ++ [q]
theorem outv_cons (e : Int) (hs : List Int) (q : Int) : outv (e :: hs) q = e :: outv hs q := by unfold outv; split <;> rfl
theorem outv_mem {hs : List Int} {q z : Int} (h : z ∈ outv hs q) : z ∈ hs ∨ z = q := by
  unfold outv at h
  split at h
  · exact .inl h
  · simpa using h
theorem outv_sum (hs : List Int) (q : Int) : isum (outv hs q) = isum hs + q := by
  unfold outv
  split
  · rename_i h; rw [h, Int.add_zero]
  · exact isum_snoc _ _
/- what a turn of fsum leaves -/
structure Turned (es hs : List Int) (a q : Int) : Prop where
  sum : isum hs + q = isum es + a
  no : NOv (outv hs q)
  grow : asum hs + q.natAbs ≤ asum es + a.natAbs + es.length * Uu
  len : hs.length ≤ es.length
  dvd : ∀ j, Dv j a → (∀ e ∈ es, Dv j e) → Dv j q ∧ ∀ h ∈ hs, Dv j h
theorem fa_bd {A B C D X L U M : Nat} (h : B + X + A + (L + U) ≤ M) (e : C + D = B + A) : C + D ≤ M := by omega
theorem fa_nx {A B C D E S X L U M : Nat} (g : S + E ≤ C + D + U) (e : C + D = B + A) (h : B + X + A + (L + U) ≤ M) : X + S + L ≤ M := by omega
theorem fa_gr {A B C D E S X L U H Q : Nat} (t : H + Q ≤ X + S + L) (g : S + E ≤ C + D + U) (e : C + D = B + A) : E + H + Q ≤ B + X + A + (L + U) := by omega
theorem fa_i {e I s b a : Int} (h : s + e = b + a) : e + (I + s) = b + I + a := by omega
theorem fsumAdd_ok : ∀ {ps : List UInt64} {es : List Int}, FVs ps es → NOv es → ∀ {x : UInt64} {a : Int}, FV x a → asum es + a.natAbs + es.length * Uu ≤ Bf → ∃ hs q, FVs (fsumAdd ps x).1 hs ∧ FV (fsumAdd ps x).2 q ∧ Turned es hs a q := by
  intro ps es hf
  induction hf with
  | nil =>
    intro _ x a hx _
    refine ⟨[], a, .nil, hx, ?_⟩
    refine ⟨by simp [isum], ?_, by simp [asum], Nat.le_refl _, fun j h _ => ⟨h, fun _ hh => by cases hh⟩⟩
    unfold outv
    split
    · trivial
    · rename_i h0
      obtain ⟨r, hr⟩ : ∃ r, a.natAbs < 2 ^ r := ⟨a.natAbs, Nat.lt_two_pow_self⟩
      exact ⟨h0, ⟨r, hr, fun _ hh => by cases hh⟩, trivial⟩
  | @cons y ps b es hy hfs ih =>
    intro hno x a hx hB
    refine gg fun GG hGG => ?_
    obtain ⟨hb0, ⟨r', hr', hd'⟩, hno'⟩ := hno
    refine hGG ?_
    simp only [asum, List.length_cons, Nat.succ_mul] at hB
    have huu := uu_one
    -- the two numbers, the greater first
    have main : ∀ (u v : UInt64) (c d : Int), FV u c → FV v d → d.natAbs ≤ c.natAbs → c + d = b + a → c.natAbs + d.natAbs = b.natAbs + a.natAbs → (∀ j, (Dv j a → Dv j b → Dv j c ∧ Dv j d)) → d.natAbs ≤ b.natAbs →
        ∃ hs q, FVs (if isZero (sub v (sub (add u v) u)) = true then (fsumAdd ps (add u v)).1 else sub v (sub (add u v) u) :: (fsumAdd ps (add u v)).1) hs ∧ FV (fsumAdd ps (add u v)).2 q ∧ Turned (b :: es) hs a q := by
      intro u v c d hu hv hdc hcd habs hdvs hdb
      refine gg fun GG hGG => ?_
      obtain ⟨s, e, ts, fs, fe, _⟩ := two_sum hu hv hdc (fa_bd hB habs)
      obtain ⟨g1, g2⟩ := ts.grow (fa_bd hB habs)
      obtain ⟨hs, q, f1, f2, T⟩ := ih hno' fs (fa_nx g2 habs hB)
      refine hGG ?_
      have hse := ts.sum
      have hle := ts.le
      by_cases he : e = 0
      · subst he
        rw [if_pos (by rw [fe.isZero]; rfl)]
        refine ⟨hs, q, f1, f2, ?_, T.no, ?_, Nat.le_trans T.len (by simp), fun j h1 h2 => ?_⟩
        · show _ = b + isum es + a
          rw [T.sum, ← fa_i (hse.symm.trans hcd), Int.zero_add]
        · simp only [asum, List.length_cons, Nat.succ_mul]
          exact Nat.le_trans (Nat.add_le_add_right (Nat.le_add_left _ _) _) (fa_gr T.grow g2 habs)
        · have hb := h2 b List.mem_cons_self
          obtain ⟨dc, dd⟩ := hdvs j h1 hb
          exact T.dvd j (ts.dvd j dc dd) fun e he => h2 e (List.mem_cons_of_mem _ he)
      · rw [if_neg (by rw [fe.isZero, decide_eq_false he]; decide)]
        refine ⟨e :: hs, q, .cons fe f1, f2, ?_, ?_, ?_, by simpa using T.len, fun j h1 h2 => ?_⟩
        · show e + isum hs + q = b + isum es + a
          rw [Int.add_assoc, T.sum, fa_i (hse.symm.trans hcd)]
        · rw [outv_cons]
          refine ⟨he, ?_, T.no⟩
          obtain ⟨k, hk1, hk2, _⟩ := ts.half
          refine ⟨min r' k, ?_, fun z hz => ?_⟩
          · rcases Nat.le_total r' k with c | c
            · rw [Nat.min_eq_left c]; exact Nat.lt_of_le_of_lt (Nat.le_trans hle hdb) hr'
            · rw [Nat.min_eq_right c]; exact Nat.lt_of_lt_of_le (by rw [Nat.two_mul]; exact Nat.lt_add_of_pos_left (Int.natAbs_pos.mpr he)) hk2
          · have := T.dvd (min r' k) (hk1.less (Nat.min_le_right _ _)) fun e he => (hd' e he).less (Nat.min_le_left _ _)
            rcases outv_mem hz with h | h
            · exact this.2 z h
            · rw [h]; exact this.1
        · simp only [asum, List.length_cons, Nat.succ_mul]
          exact fa_gr T.grow g2 habs
        · have hb := h2 b List.mem_cons_self
          obtain ⟨dc, dd⟩ := hdvs j h1 hb
          have h3 := T.dvd j (ts.dvd j dc dd) fun e he => h2 e (List.mem_cons_of_mem _ he)
          refine ⟨h3.1, fun h hh => ?_⟩
          rcases List.mem_cons.mp hh with rfl | hh
          · exact ts.dvde dc dd
          · exact h3.2 h hh
    simp only [fsumAdd]
    rw [lt_abs hx hy]
    by_cases c : a.natAbs < b.natAbs
    · simp only [decide_eq_true c, if_true]
      exact main y x b a hy hx (Nat.le_of_lt c) rfl rfl (fun j h1 h2 => ⟨h2, h1⟩) (Nat.le_of_lt c)
    · simp only [decide_eq_false c, Bool.false_eq_true, if_false]
      exact main x y a b hx hy (Nat.not_lt.mp c) (Int.add_comm _ _) (Nat.add_comm _ _) (fun j h1 h2 => ⟨h1, h2⟩) (Nat.le_refl _)
end Mine
end
section
open PySem PySem.W PyProof.Rows
set_option linter.unusedVariables false
set_option maxRecDepth 100000
set_option exponentiation.threshold 3000
namespace Mine
open PySem.Float64 (decode val add sub mul div fma neg abs cmp isZero isFinite isInf ofInt Right pack infMag zero sgn dist V_at V_form V_lt V_mono V_succ fsumAdd fsumTop fsumEnd lt gt)
theorem V_gap (u : Nat) : ∃ j, Float64.V (u + 1) = Float64.V u + 2 ^ j := by
  obtain ⟨k, q, rfl, hq, h2, hV⟩ := V_form u
  refine ⟨k, ?_⟩
  rw [hV, show k * 2 ^ 52 + q + 1 = k * 2 ^ 52 + (q + 1) by lia, V_at (by lia) (by lia), Nat.add_mul, Nat.one_mul]
theorem dist_up {W U N T : Nat} (h1 : U ≤ W) (h2 : 2 * (W - U) < N - U) (h3 : N ≤ T) : dist W U < dist W T := by
  obtain ⟨x, rfl⟩ := Nat.exists_eq_add_of_le h1
  rw [Nat.add_sub_cancel_left] at h2
  have hN : U + 2 * x < T := by lia
  rw [dist_ge h1, dist_le (by lia), Nat.add_sub_cancel_left]
  lia
theorem dist_dn {W U T : Nat} (h1 : U ≤ W) (h : T < U) : dist W U < dist W T := by
  rw [dist_ge h1, dist_ge (Nat.le_trans (Nat.le_of_lt h) h1)]
  exact Nat.sub_lt_sub_left (Nat.lt_of_lt_of_le h h1) h
theorem dist_up' {W N T : Nat} (h1 : W ≤ N) (h : N < T) : dist W N < dist W T := by
  rw [dist_le h1, dist_le (Nat.le_trans h1 (Nat.le_of_lt h))]
  exact Nat.sub_lt_sub_right h1 h
theorem dist_dn' {W U N T : Nat} (h1 : W ≤ N) (h2 : 2 * (N - W) < N - U) (h3 : T ≤ U) : dist W N < dist W T := by
  obtain ⟨x, rfl⟩ := Nat.exists_eq_add_of_le h1
  rw [Nat.add_sub_cancel_left] at h2
  have hT : T + x < W := by lia
  rw [dist_le h1, dist_ge (by lia), Nat.add_sub_cancel_left]
  lia
theorem rn_low {W u : Nat} (h1 : Float64.V u ≤ W) (h2 : 2 * (W - Float64.V u) < Float64.V (u + 1) - Float64.V u) : RN W u := fun t' => by
  rcases Nat.lt_or_ge u t' with c | c
  · have hs := dist_up h1 h2 (V_mono (show u + 1 ≤ t' from c))
    exact ⟨Nat.le_of_lt hs, fun _ h => absurd h (Nat.ne_of_lt hs)⟩
  · rcases Nat.eq_or_lt_of_le (V_mono c) with e | e
    · exact ⟨by rw [e]; exact Nat.le_refl _, fun h3 _ => absurd e h3⟩
    · have hs := dist_dn h1 e
      exact ⟨Nat.le_of_lt hs, fun _ h => absurd h (Nat.ne_of_lt hs)⟩
theorem rn_high {W u : Nat} (h1 : W ≤ Float64.V (u + 1)) (h2 : 2 * (Float64.V (u + 1) - W) < Float64.V (u + 1) - Float64.V u) : RN W (u + 1) := fun t' => by
  rcases Nat.lt_or_ge u t' with c | c
  · rcases Nat.eq_or_lt_of_le (V_mono (show u + 1 ≤ t' from c)) with e | e
    · exact ⟨by rw [e]; exact Nat.le_refl _, fun h3 _ => absurd e.symm h3⟩
    · have hs := dist_up' h1 e
      exact ⟨Nat.le_of_lt hs, fun _ h => absurd h (Nat.ne_of_lt hs)⟩
  · have hs := dist_dn' h1 h2 (V_mono c)
    exact ⟨Nat.le_of_lt hs, fun _ h => absurd h (Nat.ne_of_lt hs)⟩
theorem no_between {u t : Nat} (h1 : Float64.V u < Float64.V t) (h2 : Float64.V t ≤ Float64.V (u + 1)) : Float64.V t = Float64.V (u + 1) := by
  have a : u < t := by
    rcases Nat.lt_or_ge u t with c | c
    · exact c
    · have := V_mono c; grind
  have := V_mono (show u + 1 ≤ t from a)
  lia
/- room under half of a gap -/
theorem half_room {r j E ρ : Nat} (hE : 2 ^ r ∣ E) (hE0 : 0 < E) (h : 2 * E < 2 ^ j) (hρ : ρ < 2 ^ r) : 2 * (E + ρ) < 2 ^ j := by
  obtain ⟨w, rfl⟩ := hE
  have hw : 0 < w := Nat.pos_of_mul_pos_left hE0 |> fun h => by
    rcases Nat.eq_zero_or_pos w with z | z
    · subst z; simp at hE0
    · exact z
  have h1 : 2 ^ (r + 1) ≤ 2 * (2 ^ r * w) := by
    rw [Nat.pow_succ, Nat.mul_comm (2 ^ r) 2]
    exact Nat.mul_le_mul_left _ (Nat.le_mul_of_pos_right _ hw)
  have h2 : 2 ^ (r + 1) < 2 ^ j := Nat.lt_of_le_of_lt h1 h
  have h3 := (Nat.pow_lt_pow_iff_right (by decide)).mp h2
  obtain ⟨i, rfl⟩ : ∃ i, j = r + 1 + i := ⟨j - (r + 1), by lia⟩
  rw [Nat.pow_add, Nat.pow_succ] at h ⊢
  have h4 : 2 ^ r * 2 * w < 2 ^ r * 2 * 2 ^ i := by rw [show 2 ^ r * 2 * w = 2 * (2 ^ r * w) by ac_rfl]; exact h
  have h5 : w < 2 ^ i := Nat.lt_of_mul_lt_mul_left h4
  have h6 : 2 ^ r * 2 * (w + 1) ≤ 2 ^ r * 2 * 2 ^ i := Nat.mul_le_mul_left _ h5
  have h7 : 2 ^ r * 2 * (w + 1) = 2 * (2 ^ r * w) + 2 * 2 ^ r := by rw [Nat.mul_add, Nat.mul_one]; congr 1; ac_rfl; ac_rfl
  rw [h7] at h6
  generalize 2 ^ r * w = X at *
  (clear h7; grind)
/- the float that fsum ends with -/
noncomputable def IsF (z : Int) : Prop := ∃ u, Float64.V u = z.natAbs
theorem abs_same {a b : Int} (ha : a ≠ 0) (hb : b ≠ 0) (h : 0 < a ↔ 0 < b) : (a + b).natAbs = a.natAbs + b.natAbs ∧ (0 < a + b ↔ 0 < a) ∧ a + b ≠ 0 := by
  rcases Int.lt_or_gt_of_ne ha with c | c
  · have d : b < 0 := (Int.lt_or_gt_of_ne hb).resolve_right fun q => absurd (h.mpr q) (Int.not_lt.mpr (Int.le_of_lt c))
    have s : a + b < 0 := Int.add_neg_of_neg_of_nonpos c (Int.le_of_lt d)
    refine ⟨?_, ⟨fun z => absurd z (Int.not_lt.mpr (Int.le_of_lt s)), fun z => absurd z (Int.not_lt.mpr (Int.le_of_lt c))⟩, Int.ne_of_lt s⟩
    have na := Int.ofNat_natAbs_of_nonpos (Int.le_of_lt c)
    have nb := Int.ofNat_natAbs_of_nonpos (Int.le_of_lt d)
    have ns := Int.ofNat_natAbs_of_nonpos (Int.le_of_lt s)
    clear s c d h ha hb
    generalize (a + b).natAbs = C at *
    generalize a.natAbs = A at *
    generalize b.natAbs = B at *
    omega
  · have d : 0 < b := h.mp c
    have s : 0 < a + b := Int.add_pos c d
    exact ⟨Int.natAbs_add_of_nonneg (Int.le_of_lt c) (Int.le_of_lt d), ⟨fun _ => c, fun _ => s⟩, Int.ne_of_gt s⟩
theorem abs_opp {a b : Int} (ha : a ≠ 0) (hb : b ≠ 0) (h : ¬ (0 < a ↔ 0 < b)) (hl : b.natAbs < a.natAbs) : (a + b).natAbs = a.natAbs - b.natAbs ∧ (0 < a + b ↔ 0 < a) ∧ a + b ≠ 0 := by
  have hl' := Int.ofNat_lt.mpr hl
  clear hl
  rcases Int.lt_or_gt_of_ne ha with c | c
  · have d : 0 < b := Int.not_le.mp fun z => h ⟨fun q => absurd q (Int.not_lt.mpr (Int.le_of_lt c)), fun q => absurd q (Int.not_lt.mpr z)⟩
    have na := Int.ofNat_natAbs_of_nonpos (Int.le_of_lt c)
    have nb := Int.natAbs_of_nonneg (Int.le_of_lt d)
    have s : a + b < 0 := by rw [na, nb] at hl'; omega
    have ns := Int.ofNat_natAbs_of_nonpos (Int.le_of_lt s)
    clear h ha hb hl'
    refine ⟨?_, ⟨fun z => absurd z (Int.not_lt.mpr (Int.le_of_lt s)), fun z => absurd z (Int.not_lt.mpr (Int.le_of_lt c))⟩, Int.ne_of_lt s⟩
    clear s c d
    generalize (a + b).natAbs = C at *
    generalize a.natAbs = A at *
    generalize b.natAbs = B at *
    omega
  · have d : b < 0 := Int.not_le.mp fun z => h ⟨fun _ => Int.lt_iff_le_and_ne.mpr ⟨z, hb.symm⟩, fun _ => c⟩
    have na := Int.natAbs_of_nonneg (Int.le_of_lt c)
    have nb := Int.ofNat_natAbs_of_nonpos (Int.le_of_lt d)
    have s : 0 < a + b := by rw [na, nb] at hl'; omega
    have ns := Int.natAbs_of_nonneg (Int.le_of_lt s)
    clear h ha hb hl'
    refine ⟨?_, ⟨fun _ => c, fun _ => s⟩, Int.ne_of_gt s⟩
    clear s c d
    generalize (a + b).natAbs = C at *
    generalize a.natAbs = A at *
    generalize b.natAbs = B at *
    omega
theorem sg_same {z s : Int} (hz : z ≠ 0) (hs : s ≠ 0) (h : 0 < z ↔ 0 < s) : z = sgn (decide (s < 0)) z.natAbs := by
  unfold sgn
  by_cases c : s < 0
  · rw [decide_eq_true c, if_pos rfl]
    have : ¬ 0 < s := by lia
    simp only [this, iff_false] at h
    grind
  · rw [decide_eq_false c, if_neg (by decide)]
    have : 0 < s := by lia
    simp only [this, iff_true] at h
    lia
theorem sg_dec {z s : Int} (hz : z ≠ 0) (hs : s ≠ 0) (h : 0 < z ↔ 0 < s) : decide (z < 0) = decide (s < 0) := by
  apply decide_eq_decide.mpr
  by_cases c : 0 < s <;> simp only [c, iff_true, iff_false] at h <;> lia
theorem up_half {t j M E : Nat} (rn : RN (M + E) t) (hM : Float64.V t = M) (hj : Float64.V (t + 1) = M + 2 ^ j) : 2 * E ≤ 2 ^ j := by
  have a := (rn (t + 1)).1
  have hp : 0 < 2 ^ j := Nat.two_pow_pos j
  rw [hM, hj] at a
  clear rn hM hj
  generalize 2 ^ j = J at *
  have d1 := d_ge (Nat.le_add_right M E)
  rcases Nat.le_total (M + E) (M + J) with v | v
  · have d2 := d_le v; clear v hp; omega
  · have d2 := d_ge v; omega
theorem dn_half {u j M E : Nat} (hE : E < M) (rn : RN (M - E) (u + 1)) (hM : Float64.V (u + 1) = M) (hj : Float64.V (u + 1) = Float64.V u + 2 ^ j) : 2 * E ≤ 2 ^ j := by
  have a := (rn u).1
  have hp : 0 < 2 ^ j := Nat.two_pow_pos j
  rw [hM] at hj a
  clear rn hM
  generalize 2 ^ j = J at *
  generalize Float64.V u = U at *
  obtain ⟨W, rfl⟩ : ∃ W, M = W + E := ⟨M - E, (Nat.sub_add_cancel (Nat.le_of_lt hE)).symm⟩
  rw [Nat.add_sub_cancel] at a
  have d1 := d_le (Nat.le_add_right W E)
  clear hE
  rcases Nat.le_total W U with v | v
  · have d2 := d_le v; omega
  · have d2 := d_ge v; clear v hp; omega
theorem low_up {t j M E : Nat} (hM : Float64.V t = M) (hj : Float64.V (t + 1) = M + 2 ^ j) (h : 2 * E < 2 ^ j) : RN (M + E) t := by
  apply rn_low
  · rw [hM]; exact Nat.le_add_right _ _
  · rw [hj, hM, Nat.add_sub_cancel_left, Nat.add_sub_cancel_left]; exact h
theorem high_dn {u j M E : Nat} (hE : E < M) (hM : Float64.V (u + 1) = M) (hj : Float64.V (u + 1) = Float64.V u + 2 ^ j) (h : 2 * E < 2 ^ j) : RN (M - E) (u + 1) := by
  apply rn_high
  · rw [hM]; exact Nat.sub_le _ _
  · rw [hM] at hj ⊢
    rw [Nat.sub_sub_self (Nat.le_of_lt hE), show M - Float64.V u = 2 ^ j by rw [hj]; exact Nat.add_sub_cancel_left _ _]
    exact h
theorem to_up {t j u M E ρ : Nat} (hM : Float64.V t = M) (hj : Float64.V (t + 1) = M + 2 ^ j) (hE0 : 0 < E) (hE : 2 * E ≤ 2 ^ j) (hu : Float64.V u = M + 2 * E) (hρ : 0 < ρ) (hρE : ρ < E) : Float64.V (t + 1) = Float64.V u ∧ RN (M + (E + ρ)) (t + 1) := by
  have h := no_between (u := t) (t := u) (by rw [hM, hu]; exact Nat.lt_add_of_pos_right (Nat.mul_pos (by decide) hE0)) (by rw [hj, hu]; exact Nat.add_le_add_left hE _)
  rw [hu] at h
  clear hj hE hE0
  obtain ⟨δ, rfl⟩ : ∃ δ, E = ρ + δ := ⟨E - ρ, (Nat.add_sub_cancel' (Nat.le_of_lt hρE)).symm⟩
  refine ⟨by rw [hu]; exact h.symm, rn_high ?_ ?_⟩
  · rw [← h]; exact Nat.add_le_add_left (by clear h hM hu; omega) _
  · rw [← h, hM, Nat.add_sub_add_left, Nat.add_sub_cancel_left, show 2 * (ρ + δ) - (ρ + δ + ρ) = δ from Nat.sub_eq_of_eq_add (by clear h hM hu; omega)]
    clear h hM hu
    omega
theorem to_dn {u w j M E ρ : Nat} (hM : Float64.V (u + 1) = M) (hj : Float64.V (u + 1) = Float64.V u + 2 ^ j) (hE0 : 0 < E) (hEM : 4 * E ≤ M) (hE : 2 * E ≤ 2 ^ j) (hw : Float64.V w = M - 2 * E) (hρ : 0 < ρ) (hρE : ρ < E) : Float64.V u = Float64.V w ∧ RN (M - (E + ρ)) u := by
  have hwu : Float64.V w = Float64.V u := by
    rcases Nat.lt_trichotomy (Float64.V u) (Float64.V w) with c | c | c
    · have := no_between (u := u) (t := w) c (by rw [hw, hM]; (clear c hρE hρ hw hE hEM hE0 hj hM; omega))
      lia
    · exact c.symm
    · lia
  refine ⟨hwu.symm, ?_⟩
  rw [hwu] at hw
  clear hwu hj hE
  obtain ⟨δ, rfl⟩ : ∃ δ, E = ρ + δ := ⟨E - ρ, (Nat.add_sub_cancel' (Nat.le_of_lt hρE)).symm⟩
  obtain ⟨N, rfl⟩ : ∃ N, M = N + 2 * (ρ + δ) := ⟨M - 2 * (ρ + δ), (Nat.sub_add_cancel (by omega)).symm⟩
  have e1 : N + 2 * (ρ + δ) - (ρ + δ + ρ) = N + δ := Nat.sub_eq_of_eq_add (by omega)
  rw [Nat.add_sub_cancel] at hw
  rw [e1]
  refine rn_low (by rw [hw]; exact Nat.le_add_right _ _) ?_
  rw [hw, hM, Nat.add_sub_cancel_left, Nat.add_sub_cancel_left]
  clear hEM hM e1 hw
  omega
theorem end_num {A B s e R : Int} {r : Nat} (ts : TwoS A B s e) (he : e ≠ 0) (hR : R ≠ 0) (hRr : R.natAbs < 2 ^ r) (hs : Dv r s) (hde : Dv r e) {out : Int}
    (h1 : (0 < e ↔ 0 < R) → IsF (s + 2 * e) → out = s + 2 * e) (h2 : (0 < e ↔ 0 < R) → ¬ IsF (s + 2 * e) → out = s) (h3 : ¬ (0 < e ↔ 0 < R) → out = s) :
    ∃ t, out = sgn (decide (s + e + R < 0)) (Float64.V t) ∧ RN (s + e + R).natAbs t := by
  obtain ⟨t, hst, rn⟩ := ts.rn
  have hsum := ts.sum
  rw [hsum] at rn
  obtain ⟨k, _, hk2, hk3⟩ := ts.half
  have hM : Float64.V t = s.natAbs := by rw [hst]; exact (PySem.Float64.sgn_natAbs _ _).symm
  have hE0 : 0 < e.natAbs := Int.natAbs_pos.mpr he
  have hρ0 : 0 < R.natAbs := Int.natAbs_pos.mpr hR
  have hEr : 2 ^ r ≤ e.natAbs := Nat.le_of_dvd hE0 hde
  have hρE : R.natAbs < e.natAbs := Nat.lt_of_lt_of_le hRr hEr
  have hbig : 4 * e.natAbs ≤ s.natAbs := by
    rcases hk3 with rfl | h
    · simp at hk2; lia
    · have : 2 * 2 ^ k ≤ 2 ^ 52 * 2 ^ k := Nat.mul_le_mul_right _ (by decide)
      clear h1 h2 h3 rn hst hM
      lia
  have hs0 : s ≠ 0 := fun z => by rw [z] at hbig; simp at hbig; lia
  -- e + R
  have eR : ∃ E', (e + R).natAbs = E' ∧ (0 < e + R ↔ 0 < e) ∧ e + R ≠ 0 ∧ (if (0 < e ↔ 0 < R) then E' = e.natAbs + R.natAbs else E' = e.natAbs - R.natAbs) := by
    by_cases c : (0 < e ↔ 0 < R)
    · have := abs_same he hR c
      exact ⟨_, this.1, this.2.1, this.2.2, by rw [if_pos c]⟩
    · have := abs_opp he hR c hρE
      exact ⟨_, this.1, this.2.1, this.2.2, by rw [if_neg c]⟩
  obtain ⟨E', hE', sE', nE', cE'⟩ := eR
  have hE'lt : E' < 2 * e.natAbs := by
    split at cE' <;> lia
  have hEM : e.natAbs < s.natAbs := by lia
  have h2e0 : 2 * e ≠ 0 := by lia
  have s2e : (0 < 2 * e ↔ 0 < e) := by lia
  have n2e : (2 * e).natAbs = 2 * e.natAbs := by rw [Int.natAbs_mul]; rfl
  rw [show s + e + R = s + (e + R) by lia]
  by_cases aw : (0 < s ↔ 0 < e)
  · have z1 := abs_same hs0 he aw
    have z2 := abs_same hs0 nE' (aw.trans sE'.symm)
    have z3 := abs_same hs0 h2e0 (aw.trans s2e.symm)
    rw [z1.1] at rn
    rw [z2.1, hE', sg_dec z2.2.2 hs0 z2.2.1]
    rw [n2e] at z3
    obtain ⟨j, hj⟩ := V_gap t
    rw [hM] at hj
    have hE := up_half rn hM hj
    have outs : out = s → out = sgn (decide (s < 0)) (Float64.V t) := fun h => by rw [h, hM]; exact sg_same hs0 hs0 Iff.rfl
    by_cases sm : (0 < e ↔ 0 < R)
    · rw [if_pos sm] at cE'
      rw [cE']
      by_cases hf : IsF (s + 2 * e)
      · have ho := h1 sm hf
        obtain ⟨u, hu⟩ := hf
        rw [z3.1] at hu
        obtain ⟨e1, e2⟩ := to_up hM hj hE0 hE hu hρ0 hρE
        refine ⟨t + 1, ?_, e2⟩
        rw [e1, hu, ← z3.1, ho]
        exact sg_same z3.2.2 hs0 z3.2.1
      · have hlt : 2 * e.natAbs < 2 ^ j := by
          rcases Nat.lt_or_ge (2 * e.natAbs) (2 ^ j) with c | c
          · exact c
          · exact (hf ⟨t + 1, by rw [hj, z3.1, Nat.le_antisymm hE c]⟩).elim
        exact ⟨t, outs (h2 sm hf), low_up hM hj (half_room hde hE0 hlt hRr)⟩
    · rw [if_neg sm] at cE'
      rw [cE']
      exact ⟨t, outs (h3 sm), low_up hM hj (by grind)⟩
  · have z1 := abs_opp hs0 he aw hEM
    have z2 := abs_opp hs0 nE' (fun h => aw (h.trans sE')) (by rw [hE']; lia)
    have z3 := abs_opp hs0 h2e0 (fun h => aw (h.trans s2e)) (by rw [n2e]; lia)
    rw [z1.1] at rn
    rw [z2.1, hE', sg_dec z2.2.2 hs0 z2.2.1]
    rw [n2e] at z3
    have ht0 : t ≠ 0 := fun z => by subst z; rw [PySem.Float64.V_zero] at hM; lia
    obtain ⟨u, rfl⟩ : ∃ u, t = u + 1 := ⟨t - 1, by lia⟩
    obtain ⟨j, hj⟩ := V_gap u
    have hE := dn_half hEM rn hM hj
    have outs : out = s → out = sgn (decide (s < 0)) (Float64.V (u + 1)) := fun h => by rw [h, hM]; exact sg_same hs0 hs0 Iff.rfl
    by_cases sm : (0 < e ↔ 0 < R)
    · rw [if_pos sm] at cE'
      rw [cE']
      by_cases hf : IsF (s + 2 * e)
      · have ho := h1 sm hf
        obtain ⟨w, hw⟩ := hf
        rw [z3.1] at hw
        obtain ⟨e1, e2⟩ := to_dn hM hj hE0 hbig hE hw hρ0 hρE
        refine ⟨u, ?_, e2⟩
        rw [e1, hw, ← z3.1, ho]
        exact sg_same z3.2.2 hs0 z3.2.1
      · have hlt : 2 * e.natAbs < 2 ^ j := by
          rcases Nat.lt_or_ge (2 * e.natAbs) (2 ^ j) with c | c
          · exact c
          · exact (hf ⟨u, by rw [z3.1, ← hM, hj, Nat.le_antisymm hE c, Nat.add_sub_cancel]⟩).elim
        exact ⟨u + 1, outs (h2 sm hf), high_dn (by lia) hM hj (half_room hde hE0 hlt hRr)⟩
    · rw [if_neg sm] at cE'
      rw [cE']
      exact ⟨u + 1, outs (h3 sm), high_dn (by lia) hM hj (by grind)⟩
end Mine
end
section
open PySem PySem.W PyProof.Rows
set_option linter.unusedVariables false
set_option maxRecDepth 100000
set_option exponentiation.threshold 3000
namespace Mine
open PySem.Float64 (decode val add sub mul div fma neg abs cmp isZero isFinite isInf ofInt Right pack infMag zero sgn dist V_at V_form V_lt V_mono V_succ fsumAdd fsumTop fsumEnd lt gt)
theorem Dv.isum {j : Nat} : ∀ {l : List Int}, (∀ q ∈ l, Dv j q) → Dv j (isum l)
  | [], _ => Dv.zero j
  | q :: l, h => (h q List.mem_cons_self).add (Dv.isum fun z hz => h z (List.mem_cons_of_mem _ hz))
theorem Dv.le {j : Nat} {a : Int} (h : Dv j a) (h0 : a ≠ 0) : 2 ^ j ≤ a.natAbs := Nat.le_of_dvd (Int.natAbs_pos.mpr h0) h
theorem add_room {i r : Nat} {p z : Int} (hi : i ≤ r) (hp : p.natAbs < 2 ^ i) (hz : Dv i z) (hzr : z.natAbs < 2 ^ r) : (p + z).natAbs < 2 ^ r := by
  obtain ⟨w, hw⟩ := hz
  obtain ⟨d, rfl⟩ : ∃ d, r = i + d := ⟨r - i, by grind⟩
  rw [Nat.pow_add] at hzr ⊢
  have h1 : w < 2 ^ d := by rw [hw] at hzr; exact Nat.lt_of_mul_lt_mul_left hzr
  have h2 : 2 ^ i * (w + 1) ≤ 2 ^ i * 2 ^ d := Nat.mul_le_mul_left _ h1
  rw [Nat.mul_add, Nat.mul_one] at h2
  have h3 : (p + z).natAbs ≤ p.natAbs + z.natAbs := Int.natAbs_add_le _ _
  lia
/- what lies at and below one of the parts -/
theorem nov_at : ∀ {l : List Int} {d : Int} {us : List Int}, NOv (l ++ d :: us) → d ≠ 0 ∧ ∃ r, d.natAbs < 2 ^ r ∧ (isum l + d).natAbs < 2 ^ r ∧ ∀ u ∈ us, Dv r u
  | [], d, us, h => by
    refine gg fun GG hGG => ?_
    obtain ⟨h0, ⟨r, h1, h2⟩, _⟩ := h
    refine hGG ?_
    exact ⟨h0, r, h1, by simpa [isum] using h1, h2⟩
  | p :: l, d, us, h => by
    refine gg fun GG hGG => ?_
    obtain ⟨h0, ⟨i, h1, h2⟩, h3⟩ := h
    obtain ⟨d0, r, r1, r2, r3⟩ := nov_at (l := l) h3
    refine hGG ?_
    have dd : Dv i d := h2 d (List.mem_append_right _ List.mem_cons_self)
    have dl : Dv i (isum l) := Dv.isum fun q hq => h2 q (List.mem_append_left _ hq)
    have hi : i ≤ r := by
      have h4 := dd.le d0
      have h5 : 2 ^ i < 2 ^ r := Nat.lt_of_le_of_lt h4 r1
      exact Nat.le_of_lt ((Nat.pow_lt_pow_iff_right (by decide)).mp h5)
    refine ⟨d0, r, r1, ?_, r3⟩
    have := add_room hi h1 (dl.add dd) r2
    rw [← Int.add_assoc] at this
    exact this
/- the partials, the greatest first, under what has been taken -/
noncomputable def Dn (us : List Int) : List Int → Prop
  | [] => True
  | d :: ds => d ≠ 0 ∧ (∃ r, d.natAbs < 2 ^ r ∧ (isum (d :: ds)).natAbs < 2 ^ r ∧ ∀ u ∈ us, Dv r u) ∧ Dn (d :: us) ds
theorem isum_rev : ∀ l : List Int, isum l.reverse = isum l
  | [] => rfl
  | x :: l => by rw [List.reverse_cons, isum_snoc, isum_rev l]; simp only [isum]; lia
theorem dn_of : ∀ {ds us : List Int}, NOv (ds.reverse ++ us) → Dn us ds
  | [], _, _ => trivial
  | d :: ds, us, h => by
    rw [List.reverse_cons, List.append_assoc] at h
    obtain ⟨h0, r, r1, r2, r3⟩ := nov_at (l := ds.reverse) (d := d) (us := us) h
    refine ⟨h0, ⟨r, r1, ?_, r3⟩, dn_of (ds := ds) (us := d :: us) h⟩
    rw [isum_rev] at r2
    rw [show isum (d :: ds) = isum ds + d by simp only [isum]; lia]
    exact r2
/- how fsumTop ends -/
inductive TopE (S : Int) : UInt64 × UInt64 × List UInt64 → Prop
  | all {hi lo : UInt64} (t : Nat) : RN S.natAbs t → FV hi (sgn (decide (S < 0)) (Float64.V t)) → TopE S (hi, lo, [])
  | cut {hi lo n : UInt64} {ns : List UInt64} {A B s e d R : Int} {r : Nat} : TwoS A B s e → FV hi s → FV lo e → FV n d → e ≠ 0 → d ≠ 0 → R ≠ 0 → (0 < R ↔ 0 < d) → R.natAbs < 2 ^ r → Dv r s → Dv r e → S = s + e + R → s.natAbs + (2 * e).natAbs ≤ Bf → TopE S (hi, lo, n :: ns)
theorem fv_sgn {x : UInt64} {a : Int} (h : FV x a) : ∃ t, RN a.natAbs t ∧ FV x (sgn (decide (a < 0)) (Float64.V t)) := by
  obtain ⟨t, _, ht⟩ := fv_mag h
  refine ⟨t, by rw [← ht]; exact RN.self t, ?_⟩
  have : sgn (decide (a < 0)) (Float64.V t) = a := by
    rw [ht]; unfold sgn
    by_cases c : a < 0
    · rw [decide_eq_true c, if_pos rfl]; grind
    · rw [decide_eq_false c, if_neg (by decide)]; lia
  rw [this]; exact h
theorem sum_sg {d z : Int} (h : z.natAbs < d.natAbs) : d + z ≠ 0 ∧ (0 < d + z ↔ 0 < d) := by
  have h1 := Int.le_natAbs (a := z)
  have h2 := Int.le_natAbs (a := -z)
  rw [Int.natAbs_neg] at h2
  have h' := Int.ofNat_lt.mpr h
  clear h
  rcases (Int.lt_or_le d 0) with c | c
  · rw [Int.ofNat_natAbs_of_nonpos (Int.le_of_lt c)] at h'
    generalize (z.natAbs : Int) = Z at *
    exact ⟨by omega, by omega⟩
  · rw [Int.natAbs_of_nonneg c] at h'
    generalize (z.natAbs : Int) = Z at *
    exact ⟨by omega, by omega⟩
theorem room_next {S A D X L U B : Nat} (g : S ≤ A + D + U) (hB : A + (D + X) + (L + U) ≤ B) : S + X + L ≤ B := by omega
theorem room_end {S E A D X L U B : Nat} (g1 : 2 * E ≤ U) (g2 : S + E ≤ A + D + U) (hB : A + (D + X) + (L + U + U) ≤ B) : S + 2 * E ≤ B := by omega
theorem top_ok : ∀ {ps : List UInt64} {ds : List Int}, FVs ps ds → ∀ {us : List Int}, Dn us ds → ∀ {x : UInt64} {a : Int}, FV x a → a ≠ 0 → (∀ r, (∀ u ∈ us, Dv r u) → Dv r a) → a.natAbs + asum ds + ds.length * Uu ≤ Bf → TopE (a + isum ds) (fsumTop x ps) := by
  intro ps ds hf
  induction hf with
  | nil =>
    intro us _ x a hx h0 _ _
    obtain ⟨t, h1, h2⟩ := fv_sgn hx
    rw [show a + isum [] = a by simp [isum]]
    exact .all t h1 h2
  | @cons y ps d ds hy hfs ih =>
    intro us hd x a hx h0 hsp hB
    obtain ⟨d0, ⟨r, r1, r2, r3⟩, hd'⟩ := hd
    simp only [asum, List.length_cons, Nat.succ_mul] at hB
    have ha := (hsp r r3).le h0
    have bd : a.natAbs + d.natAbs ≤ Bf := Nat.le_trans (Nat.le_trans (Nat.add_le_add_left (Nat.le_add_right _ _) _) (Nat.le_add_right _ _)) hB
    obtain ⟨s, e, ts, fs, fe, _⟩ := two_sum hx hy (Nat.le_of_lt (Nat.lt_of_lt_of_le r1 ha)) bd
    have hsum := ts.sum
    obtain ⟨g1, g2⟩ := ts.grow bd
    show TopE _ (if isZero (sub y (sub (add x y) x)) = true then fsumTop (add x y) ps else (add x y, sub y (sub (add x y) x), ps))
    by_cases he : e = 0
    · subst he
      rw [if_pos (by rw [fe.isZero]; rfl)]
      have hs0 : s ≠ 0 := fun z => by
        have q : a = -d := by rw [z, Int.add_zero] at hsum; clear hB ha g1 g2 bd r1; omega
        rw [q, Int.natAbs_neg] at ha
        exact absurd (Nat.lt_of_lt_of_le r1 ha) (Nat.lt_irrefl _)
      have := ih (us := d :: us) hd' fs hs0 (fun r' hr' => by
        have h1 := hsp r' fun u hu => hr' u (List.mem_cons_of_mem _ hu)
        have h2 := hr' d List.mem_cons_self
        exact ts.dvd r' h1 h2) (room_next (Nat.le_trans (Nat.le_add_right _ _) g2) hB)
      rw [show a + isum (d :: ds) = s + isum ds by show a + (d + isum ds) = _; rw [← Int.add_assoc, hsum, Int.add_zero]]
      exact this
    · rw [if_neg (by rw [fe.isZero, decide_eq_false he]; decide)]
      cases hfs with
      | nil =>
        obtain ⟨t, h1, h2⟩ := ts.rn
        rw [show a + isum [d] = a + d by simp [isum]]
        refine .all t h2 ?_
        rw [← h1]; exact fs
      | @cons n ns d' ds' hn hns =>
        obtain ⟨d1, ⟨r', q1, q2, q3⟩, hd''⟩ := hd'
        have da := hsp r' fun u hu => q3 u (List.mem_cons_of_mem _ hu)
        have dd := q3 d List.mem_cons_self
        have sgn_ok : isum (d' :: ds') ≠ 0 ∧ (0 < isum (d' :: ds') ↔ 0 < d') := by
          cases ds' with
          | nil => exact ⟨by simpa [isum] using d1, by simp [isum]⟩
          | cons d2 ds2 =>
            obtain ⟨_, ⟨r'', _, w2, w3⟩, _⟩ := hd''
            have h5 := (w3 d' List.mem_cons_self).le d1
            have : isum (d' :: d2 :: ds2) = d' + isum (d2 :: ds2) := rfl
            rw [this]
            exact sum_sg (Nat.lt_of_lt_of_le w2 h5)
        refine .cut ts fs fe hn he d1 sgn_ok.1 sgn_ok.2 q2 (ts.dvd r' da dd) (ts.dvde da dd) ?_ ?_
        · show a + (d + isum (d' :: ds')) = _
          rw [← Int.add_assoc, hsum]
        · rw [Int.natAbs_mul]
          show s.natAbs + 2 * e.natAbs ≤ Bf
          simp only [asum, List.length_cons, Nat.succ_mul] at hB
          exact room_end g1 g2 hB
theorem rp_two {x : UInt64} {e : Int} (h : FV x e) (hb : (2 * e).natAbs ≤ Bg) : Rp (2 * e) := by
  refine gg fun GG hGG => ?_
  obtain ⟨t, _, ht⟩ := fv_mag h
  obtain ⟨k, q, _, hq, _, hV⟩ := V_form t
  refine hGG ?_
  rw [ht] at hV
  have hn : (2 * e).natAbs = q * 2 ^ (k + 1) := by rw [Int.natAbs_mul, hV, Nat.pow_succ]; show 2 * _ = _; ac_rfl
  obtain ⟨u, hu⟩ := V_any (k := k + 1) (q := q) (by grind)
  exact ⟨u, big_lt (by rw [hu, ← hn]; exact hb), by rw [hu, hn]⟩
theorem cmp_zero {x : UInt64} {a : Int} (h : FV x a) : lt x (zero false) = decide (a < 0) ∧ gt x (zero false) = decide (0 < a) := by
  unfold lt gt
  rw [h.cmp (fv_zero false)]
  rcases Int.lt_trichotomy a 0 with c | c | c
  · rw [show compare a 0 = .lt from Int.compare_eq_lt.mpr c, decide_eq_true c, decide_eq_false (by lia)]; exact ⟨rfl, rfl⟩
  · rw [show compare a 0 = .eq from Int.compare_eq_eq.mpr c, decide_eq_false (by lia), decide_eq_false (by omega)]; exact ⟨rfl, rfl⟩
  · rw [show compare a 0 = .gt from Int.compare_eq_gt.mpr c, decide_eq_false (by lia), decide_eq_true c]; exact ⟨rfl, rfl⟩
theorem same_sign {e d : Int} (he : e ≠ 0) (hd : d ≠ 0) : ((decide (e < 0) && decide (d < 0)) || (decide (0 < e) && decide (0 < d))) = decide (0 < e ↔ 0 < d) := by
  rcases Int.lt_trichotomy e 0 with c | c | c
  · rcases Int.lt_trichotomy d 0 with c' | c' | c'
    · simp [c, c', show ¬ 0 < e by lia, show ¬ 0 < d by lia]
    · exact absurd c' hd
    · simp [c, c', show ¬ 0 < e by lia, show ¬ d < 0 by lia]
  · exact absurd c he
  · rcases Int.lt_trichotomy d 0 with c' | c' | c'
    · simp [c, c', show ¬ e < 0 by lia, show ¬ 0 < d by lia]
    · exact absurd c' hd
    · simp [c, c', show ¬ e < 0 by lia, show ¬ d < 0 by lia]
theorem no_half {E : Nat} (h : 2 * E ≤ 2 ^ 0) : E = 0 := by omega
/- fsum's end: the float nearest to the sum -/
theorem end_ok {ps : List UInt64} {es : List Int} (hf : FVs ps es) (hno : NOv es) (hB : asum es + es.length * Uu ≤ Bf) : ∃ t, RN (isum es).natAbs t ∧ FV (fsumEnd ps) (sgn (decide (isum es < 0)) (Float64.V t)) := by
  have rev : ∀ {ps : List UInt64} {es : List Int}, FVs ps es → FVs ps.reverse es.reverse := by
    intro ps es h
    have app : ∀ {a : List UInt64} {b : List Int} {c : List UInt64} {d : List Int}, FVs a b → FVs c d → FVs (a ++ c) (b ++ d) := by
      intro a b c d h1 h2
      induction h1 with
      | nil => exact h2
      | cons h _ ih => exact .cons h ih
    induction h with
    | nil => exact .nil
    | cons h _ ih => rw [List.reverse_cons, List.reverse_cons]; exact app ih (.cons h .nil)
  have hr := rev hf
  have as_rev : ∀ l : List Int, asum l.reverse = asum l := by
    have snoc : ∀ (l : List Int) (x : Int), asum (l ++ [x]) = asum l + x.natAbs := by
      intro l x
      induction l with
      | nil => simp [asum]
      | cons y l ih => simp only [List.cons_append, asum, ih]; lia
    intro l
    induction l with
    | nil => rfl
    | cons x l ih => rw [List.reverse_cons, snoc, ih]; simp only [asum]; lia
  rw [← isum_rev es]
  rw [← as_rev es, ← List.length_reverse] at hB
  have hno' : NOv es.reverse.reverse := by rw [List.reverse_reverse]; exact hno
  unfold fsumEnd
  generalize es.reverse = ds at *
  generalize ps.reverse = qs at *
  cases hr with
  | nil =>
    refine ⟨0, ?_, ?_⟩
    · have := RN.self 0
      rwa [PySem.Float64.V_zero] at this
    · rw [PySem.Float64.V_zero]; exact fv_zero false
  | @cons x rest a ds hx hrest =>
    rw [List.reverse_cons] at hno'
    have hdn := dn_of hno'
    have ha0 := (nov_at (l := ds.reverse) (d := a) (us := []) hno').1
    simp only [asum, List.length_cons, Nat.succ_mul] at hB
    have T := top_ok hrest hdn hx ha0 (fun r h => h a List.mem_cons_self) (Nat.le_trans (Nat.add_le_add_left (Nat.le_add_right _ _) _) hB)
    have hS : isum (a :: ds) = a + isum ds := rfl
    rw [hS]
    generalize a + isum ds = S at *
    dsimp only
    generalize fsumTop x rest = W at *
    cases T with
    | all t h1 h2 => exact ⟨t, h1, h2⟩
    | @cut hi lo n ns A B s e d R r ts fhi flo fn he hd hR hsg hRr ds' de' hSe hsB =>
      subst hSe
      dsimp only
      have hb2 : (2 * e).natAbs ≤ s.natAbs := by
        obtain ⟨k, _, hk2, hk3⟩ := ts.half
        rw [Int.natAbs_mul]
        show 2 * _ ≤ _
        rcases hk3 with rfl | h
        · exact absurd (Int.natAbs_eq_zero.mp (no_half hk2)) he
        · have q : 1 * 2 ^ k ≤ 2 ^ 52 * 2 ^ k := Nat.mul_le_mul_right _ (by decide)
          rw [Nat.one_mul] at q
          exact Nat.le_trans hk2 (Nat.le_trans q h)
      have f2 : FV (mul lo (ofInt 2)) (2 * e) := by
        have h2 : FV (ofInt 2) (2 * 2 ^ 1074) := FV.ofInt (i := 2) (rp_e (by decide) (by decide))
        refine flo.mul h2 ?_ (rp_two flo ?_)
        · rw [Int.mul_comm 2 e, ← Int.mul_assoc]
        · exact Nat.le_trans (Nat.le_trans (Nat.le_add_left _ _) hsB) (Nat.le_trans (Nat.le_add_left _ _) bf_bg)
      refine gg fun GG hGG => ?_
      obtain ⟨z, w, ts2, fz, _, fzs⟩ := two_sum fhi f2 hb2 hsB
      refine hGG ?_
      rw [(cmp_zero flo).1, (cmp_zero fn).1, (cmp_zero flo).2, (cmp_zero fn).2, same_sign he hd, f2.cmp fzs]
      obtain ⟨t2, e2, rn2⟩ := ts2.rn
      have isz : IsF (s + 2 * e) ↔ z = s + 2 * e := by
        constructor
        · rintro ⟨u, hu⟩
          rw [← hu] at rn2
          have := rn2.exact
          subst this
          rw [e2, hu]
          unfold sgn
          by_cases c : s + 2 * e < 0
          · rw [decide_eq_true c, if_pos rfl]; omega
          · rw [decide_eq_false c, if_neg (by decide)]; omega
        · intro h
          refine ⟨t2, ?_⟩
          rw [← h, e2]
          exact (PySem.Float64.sgn_natAbs _ _).symm
      have cmpz : (some (compare (2 * e) (z - s)) == some Ordering.eq) = decide (z = s + 2 * e) := by
        by_cases c : z = s + 2 * e
        · rw [decide_eq_true c, show compare (2 * e) (z - s) = .eq from Int.compare_eq_eq.mpr (by omega)]; rfl
        · rw [decide_eq_false c]
          have : compare (2 * e) (z - s) ≠ .eq := fun h => c (by have := Int.compare_eq_eq.mp h; omega)
          cases h : compare (2 * e) (z - s) with
          | eq => exact absurd h this
          | lt => rfl
          | gt => rfl
      rw [cmpz]
      have hsd : (0 < e ↔ 0 < R) ↔ (0 < e ↔ 0 < d) := by rw [hsg]
      obtain ⟨t, ho, hrn⟩ := end_num ts he hR hRr ds' de' (out := if (0 < e ↔ 0 < d) then (if z = s + 2 * e then s + 2 * e else s) else s)
        (fun h1 h2 => by rw [if_pos (hsd.mp h1), if_pos (isz.mp h2)]) (fun h1 h2 => by rw [if_pos (hsd.mp h1), if_neg fun q => h2 (isz.mpr q)]) (fun h1 => by rw [if_neg fun q => h1 (hsd.mpr q)])
      refine ⟨t, hrn, ?_⟩
      rw [← ho]
      by_cases c1 : (0 < e ↔ 0 < d)
      · rw [decide_eq_true c1, if_pos rfl, if_pos c1]
        by_cases c2 : z = s + 2 * e
        · rw [decide_eq_true c2, if_pos rfl, if_pos c2, ← c2]; exact fz
        · rw [decide_eq_false c2, if_neg (by decide), if_neg c2]; exact fhi
      · rw [decide_eq_false c1, if_neg (by decide), if_neg c1]; exact fhi
end Mine
end
section
open PySem PySem.W PyProof.Rows
set_option linter.unusedVariables false
set_option maxRecDepth 100000
set_option exponentiation.threshold 3000
namespace Mine
open PySem.Float64 (decode val add sub mul div fma neg abs cmp isZero isFinite isInf ofInt Right pack infMag zero sgn dist V_at V_form V_lt V_mono V_succ fsumAdd fsumTop fsumEnd lt gt)
/- what fsum comes to, and what is left -/
noncomputable def fsumX : List UInt64 → List V → Except String UInt64 × List V
  | ps, [] => (.ok (fsumEnd ps), [])
  | ps, A :: As =>
    if A.isNone then (.error "TypeError", As) else
    match A.real with
    | none => (.error "OverflowError", As)
    | some x => if isFinite (fsumAdd ps x).2 then fsumX (nextPs ps x) As else (.error "OverflowError", As)
theorem fsumX_cons (ps : List UInt64) (A : V) (As : List V) : fsumX ps (A :: As) = if A.isNone then (.error "TypeError", As) else
    match A.real with
    | none => (.error "OverflowError", As)
    | some x => if isFinite (fsumAdd ps x).2 then fsumX (nextPs ps x) As else (.error "OverflowError", As) := rfl
/- the int that float(i) is -/
noncomputable def rnd (i : Int) : Int := val (ofInt i) / 2 ^ 1074
theorem rnd_rn {i : Int} (h : isInf (ofInt i) = false) : FV (ofInt i) (rnd i * 2 ^ 1074) ∧ ∃ t, t < infMag ∧ RN (i * 2 ^ 1074).natAbs t ∧ rnd i * 2 ^ 1074 = sgn (decide (i < 0)) (Float64.V t) := by
  refine gg fun GG hGG => ?_
  obtain ⟨t, ht, hle, hov, hnear⟩ := PySem.Float64.ofInt_right i
  refine hGG ?_
  have hlt : t < infMag := by
    rcases Nat.lt_or_ge t infMag with c | c
    · exact c
    · exfalso
      have : t = infMag := by lia
      rw [ht, isInf_pack _ hle, this] at h
      simp at h
  have hn : (i * 2 ^ 1074).natAbs = i.natAbs * 2 ^ 1074 := by rw [Int.natAbs_mul, Int.natAbs_pow]; rfl
  have rn : RN (i * 2 ^ 1074).natAbs t := fun t' => by
    have := hnear hlt t'
    rw [Nat.one_mul, Nat.one_mul] at this
    rw [hn]
    exact this
  have fv : FV (ofInt i) (sgn (decide (i < 0)) (Float64.V t)) := by rw [ht]; exact fv_pack _ hlt
  have hd : Dv 1074 (sgn (decide (i < 0)) (Float64.V t)) := Dv.sgn _ (rn.dvd (by rw [hn]; exact Nat.dvd_mul_left _ _))
  have hr : rnd i * 2 ^ 1074 = sgn (decide (i < 0)) (Float64.V t) := by
    unfold rnd
    rw [fv.2]
    exact Int.ediv_mul_cancel (Int.ofNat_dvd_left.mpr hd)
  exact ⟨by rw [hr]; exact fv, t, hlt, rn, hr⟩
theorem rnd_le {i : Int} {n : Nat} (h : isInf (ofInt i) = false) (hb : i.natAbs ≤ 2 ^ n) : (rnd i).natAbs ≤ 2 ^ n := by
  refine gg fun GG hGG => ?_
  obtain ⟨_, t, _, rn, e⟩ := rnd_rn h
  obtain ⟨u, hu⟩ := V_any (k := n + 1074) (q := 1) (by decide)
  refine hGG ?_
  rw [Nat.one_mul, Nat.pow_add] at hu
  have hp : 0 < 2 ^ 1074 := Nat.two_pow_pos _
  have h1 := rn.le (u := u) (by rw [hu, Int.natAbs_mul, Int.natAbs_pow]; exact Nat.mul_le_mul_right _ hb)
  have h2 : (rnd i * 2 ^ 1074).natAbs = Float64.V t := by rw [e]; exact PySem.Float64.sgn_natAbs _ _
  rw [Int.natAbs_mul, Int.natAbs_pow] at h2
  rw [hu, ← h2] at h1
  exact Nat.le_of_mul_le_mul_right h1 hp
theorem fits_small {i : Int} {n : Nat} (hn : n ≤ 1016) (hb : i.natAbs ≤ 2 ^ n) : isInf (ofInt i) = false := by
  rw [isInf_ofInt]
  rw [decide_eq_false_iff_not]
  intro h
  have h1 := (PySem.Float64.roundMag_over (n := i.natAbs) (d := 1) (by decide)).mp h
  have h2 : i.natAbs ≤ 2 ^ 1016 := Nat.le_trans hb (Nat.pow_le_pow_right (by decide) hn)
  have h3 : 2 * (2 ^ 1016 * 2 ^ 1074) < 1 * ((2 ^ 54 - 1) * 2 ^ 2045) := by decide +kernel
  have h4 : 2 * (i.natAbs * 2 ^ 1074) ≤ 2 * (2 ^ 1016 * 2 ^ 1074) := Nat.mul_le_mul_left _ (Nat.mul_le_mul_right _ h2)
  exact absurd (Nat.lt_of_le_of_lt (Nat.le_trans h1 h4) h3) (Nat.lt_irrefl _)
theorem rnd_same {P : Int} {d : UInt64} {t : Nat} (hP : isInf (ofInt P) = false) (rn : RN (P * 2 ^ 1074).natAbs t) (hd : FV d (sgn (decide (P * 2 ^ 1074 < 0)) (Float64.V t))) : FV d (rnd P * 2 ^ 1074) := by
  obtain ⟨_, t', _, rn', e⟩ := rnd_rn hP
  have := rn.unique rn'
  subst this
  have hp : (0 : Int) < 2 ^ 1074 := two_pos
  rw [e, ← decide_eq_decide.mpr (neg_iff_mul hp).symm]
  exact hd
noncomputable def Um : Nat := 2 ^ 2082
theorem room80 : 80 * Um + 80 * 80 * Uu + 80 * Uu ≤ Bf := by decide +kernel
/- the state behind m items -/
structure FsAt (ps : List UInt64) (S : Int) (m : Nat) : Prop where
  mk ::
  is : ∃ es, FVs ps es ∧ NOv es ∧ isum es = S ∧ es.length ≤ m ∧ asum es ≤ m * Um + m * 80 * Uu
theorem fvs_snoc {a : List UInt64} {b : List Int} {x : UInt64} {v : Int} (h : FVs a b) (hx : FV x v) : FVs (a ++ [x]) (b ++ [v]) := by
  induction h with
  | nil => exact .cons hx .nil
  | cons h _ ih => exact .cons h ih
theorem asum_outv (hs : List Int) (q : Int) : asum (outv hs q) = asum hs + q.natAbs := by
  have snoc : ∀ (l : List Int) (x : Int), asum (l ++ [x]) = asum l + x.natAbs := by
    intro l x
    induction l with
    | nil => simp [asum]
    | cons y l ih => simp only [List.cons_append, asum, ih]; lia
  unfold outv
  split
  · rename_i h; rw [h]; rfl
  · exact snoc _ _
theorem FsAt.step {ps : List UInt64} {S : Int} {m : Nat} (h : FsAt ps S m) (hm : m < 80) {x : UInt64} {a : Int} (hx : FV x a) (ha : a.natAbs ≤ Um) : isFinite (fsumAdd ps x).2 = true ∧ FsAt (nextPs ps x) (S + a) (m + 1) := by
  refine gg fun GG hGG => ?_
  obtain ⟨es, f, no, hs, hl, hb⟩ := h.is
  have r80 := room80
  have l1 : es.length * Uu ≤ 80 * Uu := Nat.mul_le_mul_right _ (by lia)
  have l2 : m * Um + Um ≤ 80 * Um := by rw [← Nat.succ_mul]; exact Nat.mul_le_mul_right _ (by lia)
  have l3 : m * 80 * Uu + 80 * Uu ≤ 80 * 80 * Uu := by rw [← Nat.add_mul, ← Nat.succ_mul]; exact Nat.mul_le_mul_right _ (Nat.mul_le_mul_right _ (by lia))
  obtain ⟨hs', q, f1, f2, T⟩ := fsumAdd_ok f no hx (by omega)
  refine hGG ?_
  refine ⟨f2.fin, outv hs' q, ?_, T.no, ?_, ?_, ?_⟩
  · unfold nextPs outv
    by_cases c : q = 0
    · rw [if_pos (by rw [f2.isZero, decide_eq_true c]), if_pos c]; exact f1
    · rw [if_neg (by rw [f2.isZero, decide_eq_false c]; decide), if_neg c]; exact fvs_snoc f1 f2
  · rw [outv_sum, T.sum, hs]
  · have := T.len
    unfold outv
    split
    · lia
    · simp; lia
  · rw [asum_outv]
    have := T.grow
    rw [Nat.succ_mul, Nat.succ_mul, Nat.add_mul (m * 80) 80 Uu]
    omega
theorem FsAt.run : ∀ (l : List Int) {ps : List UInt64} {S : Int} {m : Nat}, FsAt ps S m → m + l.length ≤ 80 → (∀ i ∈ l, i.natAbs ≤ 2 ^ 1008) → ∃ ps', FsAt ps' (S + isum (l.map rnd) * 2 ^ 1074) (m + l.length) ∧ ∀ r, fsumX ps (l.map .int ++ r) = fsumX ps' r
  | [], ps, S, m, h, _, _ => ⟨ps, by simpa [isum] using h, fun r => rfl⟩
  | i :: l, ps, S, m, h, hm, hb => by
    have hi := hb i List.mem_cons_self
    have hf := fits_small (n := 1008) (by decide) hi
    have hr := rnd_rn hf
    have hle := rnd_le hf hi
    have ha : (rnd i * 2 ^ 1074).natAbs ≤ Um := by
      rw [Int.natAbs_mul, Int.natAbs_pow]
      exact Nat.le_trans (Nat.mul_le_mul_right _ hle) (by decide +kernel)
    obtain ⟨h1, h2⟩ := h.step (by simp at hm; lia) hr.1 ha
    obtain ⟨ps', h3, h4⟩ := FsAt.run l h2 (by simp at hm ⊢; lia) fun k hk => hb k (List.mem_cons_of_mem _ hk)
    refine ⟨ps', ?_, fun r => ?_⟩
    · have e1 : S + isum ((i :: l).map rnd) * 2 ^ 1074 = S + rnd i * 2 ^ 1074 + isum (l.map rnd) * 2 ^ 1074 := by
        simp only [List.map_cons, isum, Int.add_mul]; lia
      have e2 : m + (i :: l).length = m + 1 + l.length := by simp; lia
      rw [e1, e2]; exact h3
    · rw [← h4 r]
      show fsumX ps (V.int i :: (l.map .int ++ r)) = _
      have hre : V.real (.int i) = some (ofInt i) := by simp only [V.real]; rw [if_neg (by rw [hf]; decide)]
      rw [fsumX_cons, if_neg (by simp [V.isNone]), hre]
      dsimp only
      rw [if_pos h1]
theorem fsAt0 : FsAt [] 0 0 := ⟨[], .nil, trivial, rfl, Nat.le_refl _, by simp [asum]⟩
theorem isum_rnd_le {l : List Int} (hl : l.length ≤ 80) (hb : ∀ i ∈ l, i.natAbs ≤ 2 ^ 1008) : (isum (l.map rnd)).natAbs ≤ 2 ^ 1015 := by
  have : ∀ l : List Int, (∀ i ∈ l, i.natAbs ≤ 2 ^ 1008) → (isum (l.map rnd)).natAbs ≤ l.length * 2 ^ 1008 := by
    intro l hb
    induction l with
    | nil => simp [isum]
    | cons i l ih =>
      have h1 := ih fun k hk => hb k (List.mem_cons_of_mem _ hk)
      have hi := hb i List.mem_cons_self
      have h2 := rnd_le (fits_small (n := 1008) (by decide) hi) hi
      simp only [List.map_cons, isum, List.length_cons, Nat.succ_mul]
      have := Int.natAbs_add_le (rnd i) (isum (l.map rnd))
      lia
  refine Nat.le_trans (this l hb) (Nat.le_trans (Nat.mul_le_mul_right _ hl) (by decide +kernel))
/- fsum of ints -/
theorem fsumX_ok {l : List Int} (hl : l.length ≤ 80) (hb : ∀ i ∈ l, i.natAbs ≤ 2 ^ 1008) : ∃ d, fsumX [] (l.map .int) = (.ok d, []) ∧ isInf (ofInt (isum (l.map rnd))) = false ∧ FV d (rnd (isum (l.map rnd)) * 2 ^ 1074) := by
  obtain ⟨ps, h, e⟩ := FsAt.run l fsAt0 (by lia) hb
  have e0 := e []
  rw [List.append_nil] at e0
  rw [Int.zero_add, Nat.zero_add] at h
  refine gg fun GG hGG => ?_
  obtain ⟨es, f, no, hs, hle, hba⟩ := h.is
  have r80 := room80
  have l1 : es.length * Uu ≤ 80 * Uu := Nat.mul_le_mul_right _ (by lia)
  have l2 : l.length * Um ≤ 80 * Um := Nat.mul_le_mul_right _ hl
  have l3 : l.length * 80 * Uu ≤ 80 * 80 * Uu := Nat.mul_le_mul_right _ (Nat.mul_le_mul_right _ hl)
  obtain ⟨t, rn, fv⟩ := end_ok f no (by omega)
  refine hGG ?_
  rw [hs] at rn fv
  have hi := fits_small (n := 1015) (by decide) (isum_rnd_le hl hb)
  exact ⟨_, e0, hi, rnd_same hi rn fv⟩
theorem fsumX_none {l : List Int} (hl : l.length ≤ 80) (hb : ∀ i ∈ l, i.natAbs ≤ 2 ^ 1008) (r : List V) : fsumX [] (l.map .int ++ .none :: r) = (.error "TypeError", r) := by
  obtain ⟨ps, _, e⟩ := FsAt.run l fsAt0 (by lia) hb
  rw [e]
  rw [fsumX_cons, if_pos (by rfl)]
theorem fsumX_big {l : List Int} (hl : l.length ≤ 80) (hb : ∀ i ∈ l, i.natAbs ≤ 2 ^ 1008) {b : Int} (hB : isInf (ofInt b) = true) (r : List V) : fsumX [] (l.map .int ++ .int b :: r) = (.error "OverflowError", r) := by
  obtain ⟨ps, _, e⟩ := FsAt.run l fsAt0 (by lia) hb
  rw [e]
  have hre : V.real (.int b) = none := by simp only [V.real]; rw [if_pos hB]
  rw [fsumX_cons, if_neg (by simp [V.isNone]), hre]
end Mine
end
section
open PySem PySem.W PyProof.Rows
set_option linter.unusedVariables false
set_option maxRecDepth 100000
namespace Mine
/- one step of fsum -/
noncomputable def fsum1 (ps : List UInt64) (B : V) : Except String (List UInt64) :=
  if B.isNone then .error "TypeError" else
  match B.real with
  | none => .error "OverflowError"
  | some x => if Float64.isFinite (Float64.fsumAdd ps x).2 then .ok (nextPs ps x) else .error "OverflowError"
theorem fsumX_step (ps : List UInt64) (B : V) (As : List V) : fsumX ps (B :: As) = match fsum1 ps B with | .error c => (.error c, As) | .ok ps' => fsumX ps' As := by
  rw [fsumX_cons]
  unfold fsum1
  split
  · rfl
  · cases B.real with
    | none => rfl
    | some x =>
      dsimp only
      split <;> rfl
noncomputable abbrev tupOf (ps : List UInt64) : Obj := { cls := .type "tuple", data := .seq (ps.map fun x => rawInt x.toNat).toArray }
noncomputable abbrev zeros : Array Value := #[rawInt (Float64.zero false).toNat, rawInt (Float64.zero false).toNat]
section
variable {prog : Program} {w : World} {A : Around} {H : Hm} {I : Addr} {Q : Value → Shared → Prop} {E : Value → Shared → Prop}
/- one turn of fsum's loop -/
theorem fsum_turn {s : Shared} {ps : List UInt64} {tp ts : Addr} {op os : Obj} {n₁ n₂ : Nat} (hA : A.handled = none) (hl : ps.length < sizeLine) (htp : s.heap.get? tp = some op) (dtp : op.data = .seq (ps.map fun x => rawInt x.toNat).toArray n₁) (hts : s.heap.get? ts = some os) (dts : os.data = .seq zeros n₂)
    (h : wpAny (model prog w) A.in1 (pyNext (.ref I)) (fun r s' => match r with
      | none => ∀ t tk, Q (.float (Float64.fsumEnd ps) t) { s' with toks := tk }
      | some v => ∃ B, Rep H B v ∧ (B.fin ∨ B = .none) ∧ (∀ c h'' tk e, fsum1 ps B = .error c → Heap.NewExc s'.heap h'' e c → E (.ref e) { s' with heap := h'', toks := tk }) ∧
        (∀ ps' tk, fsum1 ps B = .ok ps' → ps'.length ≤ ps.length + 1 → codeAny (model prog w) A (.builtin "math.fsum.loop" ⟨[.ref I, .ref s'.heap.objs.size, .ref ts], []⟩) (Answer Q E) { s' with heap := s'.heap.push (tupOf ps'), toks := tk })) E s) :
    codeAny (model prog w) A (.builtin "math.fsum.loop" ⟨[.ref I, .ref tp, .ref ts], []⟩) (Answer Q E) s := by
  refine codeAny_builtin fs_entry_loop ?_
  rw [Around.under_plainId fs_plain_loop _]
  show wpAny _ A.in1 ((seqItems? (.ref tp) >>= _) >>= _) _ _ s
  refine wpAny_bind (wpAny_bind (wpAny_seqItems htp dtp (wpAny_pure ?_)))
  show wpAny _ A.in1 ((seqItems? (.ref ts) >>= _) >>= _) _ _ s
  refine wpAny_bind (wpAny_bind (wpAny_seqItems hts dts (wpAny_pure ?_)))
  show wpAny _ A.in1 (pyNext (.ref I) >>= _) _ _ s
  refine wpAny_bind (wpAny_mono h (fun r s' k => ?_) fun _ _ e => e)
  cases r with
  | none =>
    dsimp only [Option.getD]
    rw [if_neg (by decide +kernel), pack_back ps fun x => bits_back x]
    exact wpAny_bind (wpAny_mkFloat (wpAny_pure (k _ _)))
  | some v =>
    obtain ⟨B, rB, fB, kE, kN⟩ := k
    dsimp only [Option.getD]
    rcases fB with fB | rfl
    · have hnn : B.isNone = false := by cases B <;> first | rfl | exact fB.elim
      refine wpAny_bind (wpAny_holding (wp_real (by exact hA) fB rB (fun c => ?_) fun x tk' c => ?_))
      · intro h₂ tk₂ e ne
        exact kE _ h₂ tk₂ e (by unfold fsum1; rw [hnn, c]; rfl) ne
      · rw [pack_back ps fun x => bits_back x]
        by_cases hf : Float64.isFinite (Float64.fsumAdd ps x).2 = true
        · rw [if_pos hf]
          show wpAny _ _ (newTuple ((nextPs ps x).map fun x => rawInt x.toNat) >>= _) _ _ _
          have hl' := nextPs_length ps x
          refine wpAny_bind (wpAny_newTuple (wpAny_pure ⟨plainId_quiet fs_plain_loop _, ?_⟩) (by simp; omega))
          exact kN (nextPs ps x) _ (by unfold fsum1; rw [hnn, c]; simp only [hf]; rfl) hl'
        · rw [if_neg hf, if_pos (real_fin fB c)]
          refine wpAny_bind (wpAny_rule (wpAny_bind (wpAny_raiseErrorWords plainExc_OverflowError hA fun h₂ tk₂ e ne => ?_)))
          exact kE _ h₂ tk₂ e (by unfold fsum1; rw [hnn, c]; simp only [hf]; rfl) ne
    · cases rB.none_of
      exact wpAny_bind (wpAny_holding (wp_real_none (by exact hA) fun h₂ tk₂ e ne => kE _ h₂ tk₂ e rfl ne))
end
/- what has moved -/
structure Mvd (wr : Addr → Prop) (s s' : Shared) : Prop where
  heap : ∀ b o, ¬ wr b → s.heap.get? b = some o → s'.heap.get? b = some o
  there : ∀ b o, s.heap.get? b = some o → ∃ o', s'.heap.get? b = some o'
  gens : AllBare s.gens → AllBare s'.gens
  os : s'.os = s.os
theorem Mvd.trans {wr : Addr → Prop} {s s' s'' : Shared} (x : Mvd wr s s') (y : Mvd wr s' s'') : Mvd wr s s'' :=
  ⟨fun b o hb e => y.heap b o hb (x.heap b o hb e), fun b o e => by obtain ⟨o', e'⟩ := x.there b o e; exact y.there b o' e', fun h => y.gens (x.gens h), y.os.trans x.os⟩
theorem Mvd.grow {wr : Addr → Prop} {s : Shared} {h' : Heap} {tk : Nat} (k : ∀ b o, s.heap.get? b = some o → h'.get? b = some o) : Mvd wr s { s with heap := h', toks := tk } :=
  ⟨fun b o _ e => k b o e, fun b o e => ⟨o, k b o e⟩, id, rfl⟩
/- an iterator that gives n items -/
structure Feed (prog : Program) (w : World) (A : Around) (I : Addr) (n : Nat) (P : Nat → Value → Prop) (W : Nat → Shared → Prop) (We : Shared → Prop) (wr : Addr → Prop) : Prop where
  item : ∀ i (s : Shared) (Q : Option Value → Shared → Prop) (E : Value → Shared → Prop), i < n → W i s → (∀ v s', P i v → W (i + 1) s' → Mvd wr s s' → Q (some v) s') → wpAny (model prog w) A (pyNext (.ref I)) Q E s
  done : ∀ (s : Shared) (Q : Option Value → Shared → Prop) (E : Value → Shared → Prop), W n s → (∀ s', We s' → Mvd wr s s' → Q none s') → wpAny (model prog w) A (pyNext (.ref I)) Q E s
  frame : ∀ i (s : Shared) h' tk, W i s → (∀ b o, s.heap.get? b = some o → h'.get? b = some o) → W i { s with heap := h', toks := tk }
  frameE : ∀ (s : Shared) h' tk, We s → (∀ b o, s.heap.get? b = some o → h'.get? b = some o) → We { s with heap := h', toks := tk }
  old : ∀ i s b, W i s → wr b → ∃ o, s.heap.get? b = some o
section
variable {prog : Program} {w : World} {A : Around} {H : Hm} {I : Addr} {n : Nat} {P : Nat → Value → Prop} {W : Nat → Shared → Prop} {We : Shared → Prop} {wr : Addr → Prop} {As : List V} {Q : Value → Shared → Prop} {E : Value → Shared → Prop}
theorem fsumF_loop (hA : A.handled = none) (Fd : Feed prog w A.in1 I n P W We wr) (hn : As.length = n) (hz : n < sizeLine) (hi : ∀ i v, i < n → P i v → ∃ B, As[i]? = some B ∧ Rep H B v ∧ (B.fin ∨ B = .none)) :
    ∀ (k i : Nat) (s : Shared) (ps : List UInt64) (tp ts : Addr) (op os : Obj) (n₁ n₂ : Nat), n - i = k → i ≤ n → ps.length ≤ i → W i s → ¬ wr tp → ¬ wr ts →
    s.heap.get? tp = some op → op.data = .seq (ps.map fun x => rawInt x.toNat).toArray n₁ → s.heap.get? ts = some os → os.data = .seq #[rawInt (Float64.zero false).toNat, rawInt (Float64.zero false).toNat] n₂ →
    (∀ r t s', fsumX ps (As.drop i) = (.ok r, []) → We s' → Mvd wr s s' → Q (.float r t) s') →
    (∀ c j s' h'' tk e, i ≤ j → j < n → fsumX ps (As.drop i) = (.error c, As.drop (j + 1)) → W (j + 1) s' → Mvd wr s s' → Heap.NewExc s'.heap h'' e c → E (.ref e) { s' with heap := h'', toks := tk }) →
    codeAny (model prog w) A (.builtin "math.fsum.loop" ⟨[.ref I, .ref tp, .ref ts], []⟩) (Answer Q E) s := by
  intro k
  induction k with
  | zero =>
    intro i s ps tp ts op os n₁ n₂ hk hile hpl hw h1 h2 htp dtp hts dts hQ hE
    have hin : i = n := by grind
    subst hin
    have hd : As.drop i = [] := List.drop_of_length_le (by lia)
    exact fsum_turn (H := H) hA (by lia) htp dtp hts dts (Fd.done s _ _ hw fun s' hwe hm => fun t tk => hQ _ _ _ (by rw [hd]; rfl) (Fd.frameE s' _ _ hwe fun b o e => e) (hm.trans (.grow fun b o e => e)))
  | succ k ih =>
    intro i s ps tp ts op os n₁ n₂ hk hile hpl hw h1 h2 htp dtp hts dts hQ hE
    have hlt : i < n := by lia
    refine fsum_turn (H := H) hA (by lia) htp dtp hts dts (Fd.item i s _ _ hlt hw fun v s' hP hw' hm => ?_)
    obtain ⟨B, hB, rB, fB⟩ := hi i v hlt hP
    have hd : As.drop i = B :: As.drop (i + 1) := by
      have hil : i < As.length := by lia
      rw [List.drop_eq_getElem_cons hil]
      rw [List.getElem?_eq_getElem hil] at hB; cases hB; rfl
    refine ⟨B, rB, fB, fun c h'' tk e he ne => hE c i s' h'' tk e (Nat.le_refl _) hlt (by rw [hd, fsumX_step, he]) hw' hm ne, fun ps' tk hok hl' => ?_⟩
    have hrun : fsumX ps (As.drop i) = fsumX ps' (As.drop (i + 1)) := by rw [hd, fsumX_step, hok]
    have gr : Mvd wr s { s' with heap := s'.heap.push (tupOf ps'), toks := tk } := hm.trans (.grow fun b o e => Heap.get?_push_of_some _ e)
    refine ih (i + 1) _ ps' s'.heap.objs.size ts _ os 0 n₂ (by grind) (by lia) (by lia) (Fd.frame _ s' _ _ hw' fun b o e => Heap.get?_push_of_some _ e) ?_ h2 (Heap.get?_push_size _ rfl) rfl (Heap.get?_push_of_some _ (hm.heap ts os h2 hts)) dts ?_ ?_
    · intro z
      obtain ⟨o, e⟩ := Fd.old _ _ _ hw' z
      rw [fresh_none] at e; cases e
    · intro r t s₂ hr hwe hm₂
      exact hQ r t s₂ (by rw [hrun]; exact hr) hwe (gr.trans hm₂)
    · intro c j s₂ h₃ tk₂ e hij hj hr hwj hm₂ ne
      exact hE c j s₂ h₃ tk₂ e (by lia) hj (by rw [hrun]; exact hr) hwj (gr.trans hm₂) ne
/- fsum(v), v something that may be walked along -/
theorem wp_fsumF {v : Value} {s : Shared} (hA : A.handled = none) (hz : As.length < sizeLine)
    (h : wpAny (model prog w) A.in1 (pyIter v) (fun I' s₁ => ∃ I P W We wr, I' = .ref I ∧ Feed prog w A.in1 I As.length P W We wr ∧ W 0 s₁ ∧ (∀ i v, i < As.length → P i v → ∃ B, As[i]? = some B ∧ Rep H B v ∧ (B.fin ∨ B = .none)) ∧
      (∀ r t s', fsumX [] As = (.ok r, []) → We s' → Mvd wr s₁ s' → Q (.float r t) s') ∧
      (∀ c j s' h'' tk e, j < As.length → fsumX [] As = (.error c, As.drop (j + 1)) → W (j + 1) s' → Mvd wr s₁ s' → Heap.NewExc s'.heap h'' e c → E (.ref e) { s' with heap := h'', toks := tk })) E s) :
    wpAny (model prog w) A (call (.builtin "math.fsum") [v]) Q E s := by
  refine wpAny_call (codeAny_call_builtin fs_plain fs_entry (@wp_check _ _ _ _ _ _ _ _ fs_kind (fs_args v) ?_))
  show wpAny _ A.in1 (pyIter v >>= _) _ _ s
  refine wpAny_bind (wpAny_mono h (fun I' s₁ h₁ => ?_) fun _ _ e => e)
  refine gg fun GG hGG => ?_
  obtain ⟨I, P, W, We, wr, rfl, Fd, w0, hi, hQ, hE⟩ := h₁
  refine hGG ?_
  show wpAny _ A.in1 (newTuple [] >>= _) _ _ _
  refine wpAny_bind (wpAny_newTuple ?_ (by decide))
  show wpAny _ A.in1 (newTuple [rawInt (Float64.zero false).toNat, rawInt (Float64.zero false).toNat] >>= _) _ _ _
  refine wpAny_bind (wpAny_newTuple (wpAny_pure ⟨plainId_quiet fs_plain_loop _, ?_⟩) (by show 2 ≤ sizeLine; decide))
  have kp : ∀ b o, s₁.heap.get? b = some o → ((s₁.heap.push { cls := .type "tuple", data := .seq ([] : List Value).toArray }).push { cls := .type "tuple", data := .seq [rawInt (Float64.zero false).toNat, rawInt (Float64.zero false).toNat].toArray }).get? b = some o := fun b o e => Heap.get?_push_of_some _ (Heap.get?_push_of_some _ e)
  refine fsumF_loop (H := H) hA Fd rfl hz hi As.length 0 _ [] _ _ _ _ 0 0 rfl (Nat.zero_le _) (Nat.le_refl _) (Fd.frame _ s₁ _ _ w0 kp) ?_ ?_ (Heap.get?_push_of_some _ (Heap.get?_push_size _ rfl)) rfl (Heap.get?_push_size _ rfl) rfl ?_ ?_
  · intro z
    obtain ⟨o, e⟩ := Fd.old _ _ _ w0 z
    rw [fresh_none] at e; cases e
  · intro z
    obtain ⟨o, e⟩ := Fd.old _ _ _ w0 z
    have := Heap.lt_size e
    rw [Heap.size_push] at this
    exact absurd this (Nat.not_lt_of_lt (Nat.lt_succ_self _))
  · intro r t s' hr hwe hm
    exact hQ r t s' hr hwe ((Mvd.grow kp).trans hm)
  · intro c j s' h₃ tk e _ hj hr hwj hm ne
    exact hE c j s' h₃ tk e hj hr hwj ((Mvd.grow kp).trans hm) ne
/- an iterator of a list is a feed -/
theorem feed_itr {a : Addr} (hh : A.handled = none) (ha : H a = none) :
    Feed prog w A a As.length (fun i v => ∃ B, As[i]? = some B ∧ Rep H B v) (fun i s => ItrN H s.heap a (As.drop i) ∧ ∀ b o, H b = some o → s.heap.get? b = some o) (fun s => Dead s.heap a) (· = a) where
  item := fun i s Q E hi hw k => by
    obtain ⟨hI, ag⟩ := hw
    have hd : As.drop i = As[i] :: As.drop (i + 1) := List.drop_eq_getElem_cons hi
    rw [hd] at hI
    rcases hI with ⟨l, j, o, xs, m, hit, hl, hc, hdt, rs⟩ | ⟨z, _⟩
    · simp only [Reps] at rs
      obtain ⟨y, ys, e1, r1, r2⟩ := rs
      have hy : xs[j]? = some y := by
        have := congrArg (fun l => l[0]?) e1
        simpa using this
      have hne : l ≠ a := fun z => by rw [z, ha] at hl; cases hl
      refine wpAny_pyNext_list_item hit ⟨o, ag _ _ hl, hc, m, hdt⟩ hy fun h' hit' hs' => ?_
      refine k y _ ⟨As[i], List.getElem?_eq_getElem hi, r1⟩ ⟨.inl ⟨l, j + 1, o, xs, m, hit', hl, hc, hdt, ?_⟩, fun b o e => hs'.extBut b o (fun z => by subst z; rw [ha] at e; cases e) (ag b o e)⟩ ⟨fun b o hb e => hs'.extBut b o hb e, fun b o e => ?_, id, rfl⟩
      · have : xs.toList.drop (j + 1) = ys := by
          have := congrArg List.tail e1
          simpa using this
        rw [this]; exact r2
      · by_cases z : b = a
        · subst z; obtain ⟨q, e', _⟩ := hit'; exact ⟨q, e'⟩
        · exact ⟨o, hs'.extBut b o z e⟩
    · cases z
  done := fun s Q E hw k => by
    obtain ⟨hI, ag⟩ := hw
    rw [List.drop_length] at hI
    have fin : ∀ h', Heap.ExtBut a s.heap h' → Dead h' a → Q none { s with heap := h' } := fun h' he hd => k _ hd ⟨fun b o hb e => he b o hb e, fun b o e => by
      by_cases z : b = a
      · subst z; obtain ⟨q, _, e', _⟩ := hd; exact ⟨q, e'⟩
      · exact ⟨o, he b o z e⟩, id, rfl⟩
    rcases hI with ⟨l, j, o, xs, m, hit, hl, hc, hdt, rs⟩ | ⟨_, hd⟩
    · refine li_end hh hit ⟨o, ag _ _ hl, hc, m, hdt⟩ ?_ fin
      have : xs.toList.drop j = [] := rs
      have h2 := congrArg List.length this
      simp at h2
      simp
      omega
    · exact li_dead hh hd fin
  frame := fun i s h' tk hw k => ⟨hw.1.at fun o e => k a o e, fun b o e => k b o (hw.2 b o e)⟩
  frameE := fun s h' tk hw k => by obtain ⟨o, i, e, r⟩ := hw; exact ⟨o, i, k a o e, r⟩
  old := fun i s b hw hb => by subst hb; obtain ⟨o, _, e, _⟩ := hw.1.obj; exact ⟨o, e⟩
end
end Mine
end
section
open PySem PySem.W PyProof.Rows
set_option linter.unusedVariables false
set_option linter.unusedSimpArgs false
set_option maxRecDepth 100000
namespace Mine
/- how far sumprod of ints has come -/
noncomputable def SpAt (h : Heap) (tt : Addr) (T : Int) (vs : List Value) : Prop :=
  (∃ t z u, vs = [.int 0 t, .bool true, rawInt z, .bool u, .bool true, .ref tt, .bool false] ∧ (u = false → z = 0) ∧ z = T ∧ TriAt h tt zero3) ∨
  (∃ t tri, vs = [.int T t, .bool false, rawInt 0, .bool false, .bool false, .ref tt, .bool false] ∧ TriAt h tt tri)
/- an int or None -/
noncomputable def IntOrNone (v : Value) : Prop := v = .none ∨ ∃ i t, v = .int i t
/- what is asked of two items -/
noncomputable def SpGo (I J tt : Addr) (T : Int) (Qf : PySem.Fin → Shared → Prop) (E : Value → Shared → Prop) (s₂ : Shared) : Option Value → Option Value → Prop
  | none, none => ∀ t tk, Qf (.done (.ret (.int T t))) { s₂ with toks := tk }
  | some vp, some vq => (∃ a b t u, vp = .int a t ∧ vq = .int b u ∧ IntMulOk a b ∧ ∀ vs' tk, SpAt s₂.heap tt (T + a * b) vs' → Qf (.again (.builtin "math.sumprod.loop" ⟨.ref I :: .ref J :: vs', []⟩)) { s₂ with toks := tk }) ∨
      (IntOrNone vp ∧ IntOrNone vq ∧ (vp = .none ∨ vq = .none) ∧ ∀ h' tk e, Heap.NewExc s₂.heap h' e "TypeError" → E (.ref e) { s₂ with heap := h', toks := tk })
  | _, _ => ∀ h' tk e, Heap.NewExc s₂.heap h' e "ValueError" → E (.ref e) { s₂ with heap := h', toks := tk }
section
variable {prog : Program} {w : World} {A : Around} {s : Shared} {H : Hm} {I J tt : Addr} {Qf : PySem.Fin → Shared → Prop} {E : Value → Shared → Prop} {vs : List Value} {T : Int}
theorem mul_te_any {vp vq : Value} {Q : Value → Shared → Prop} (hA : A.handled = none) (h1 : IntOrNone vp) (h2 : IntOrNone vq) (h3 : vp = .none ∨ vq = .none) (h : ∀ h' tk e, Heap.NewExc s.heap h' e "TypeError" → E (.ref e) { s with heap := h', toks := tk }) : wpAny (model prog w) A (binaryOp .Mult vp vq) Q E s := by
  rcases h1 with rfl | ⟨i, t, rfl⟩
  · rcases h2 with rfl | ⟨j, u, rfl⟩
    · exact mul_none_none hA h
    · exact mul_none_int hA h
  · rcases h2 with rfl | ⟨j, u, rfl⟩
    · exact mul_int_none hA h
    · rcases h3 with h3 | h3 <;> cases h3
/- the two numbers are multiplied and added -/
theorem sp_gen {vp vq : Value} {t : Tok} {tri : Tri} (hA : A.handled = none) (ht : TriAt s.heap tt tri) (h : SpGo I J tt T Qf E s (some vp) (some vq)) {l1 : List Value} {l2 : Value → List Value} :
    wpAny (model prog w) A (do
      let term ← holding l1 (binaryOp .Mult vp vq)
      let total ← holding (l2 term) (binaryOp .Add (.int T t) term)
      again (.builtin "math.sumprod.loop" ⟨[.ref I, .ref J, total, .bool false, rawInt 0, .bool false, .bool false, .ref tt, .bool false], []⟩)) Qf E s := by
  rcases h with ⟨a, b, ta, tb, rfl, rfl, hm, k⟩ | ⟨h1, h2, h3, k⟩
  · refine wpAny_bind (wpAny_holding (PyProof.Rows.mul_int ?_ hm))
    refine wpAny_bind (wpAny_holding (PyProof.Rows.add_int ?_))
    exact wpAny_pure (k _ _ (.inr ⟨_, tri, rfl, ht⟩))
  · exact wpAny_bind (wpAny_holding (mul_te_any hA h1 h2 h3 k))
theorem not_flt (vp vq : Value) : IntOrNone vp → IntOrNone vq → ((match vp with | Value.float _ _ => true | _ => false) || (match vq with | Value.float _ _ => true | _ => false)) = false := by
  rintro (rfl | ⟨i, t, rfl⟩) (rfl | ⟨j, u, rfl⟩) <;> rfl
/- two items: the fast way takes them, or not -/
theorem wp_either {prog : Program} {w : World} {A : Around} {s : Shared} {Qf : PySem.Fin → Shared → Prop} {E : Value → Shared → Prop} {vp vq : Value} {c : Int → Int → Bool} {X : Int → Int → Sem PySem.Fin} {R : Sem PySem.Fin} (h1 : IntOrNone vp) (h2 : IntOrNone vq)
    (fast : ∀ a b ta tb, vp = .int a ta → vq = .int b tb → wpAny (model prog w) A (X a b) Qf E s) (slow : wpAny (model prog w) A R Qf E s) :
    wpAny (model prog w) A (match (some vp, some vq) with | (some (.int a _), some (.int b _)) => if c a b = true then X a b else R | _ => R) Qf E s := by
  rcases h1 with rfl | ⟨i, t, rfl⟩
  · exact slow
  · rcases h2 with rfl | ⟨j, u, rfl⟩
    · exact slow
    · show wpAny _ _ (if c i j = true then X i j else R) _ _ _
      by_cases hc : c i j = true
      · rw [if_pos hc]; exact fast i j t u rfl rfl
      · rw [if_neg hc]; exact slow
theorem SpGo.ints {s₂ : Shared} {vp vq : Value} {a b : Int} {ta tb : Tok} (h : SpGo I J tt T Qf E s₂ (some vp) (some vq)) (e1 : vp = .int a ta) (e2 : vq = .int b tb) : ∀ vs' tk, SpAt s₂.heap tt (T + a * b) vs' → Qf (.again (.builtin "math.sumprod.loop" ⟨.ref I :: .ref J :: vs', []⟩)) { s₂ with toks := tk } := by
  subst e1 e2
  rcases h with ⟨a', b', t, u', e1, e2, hm, k⟩ | ⟨_, _, h3, _⟩
  · cases e1; cases e2; exact k
  · rcases h3 with h3 | h3 <;> cases h3
theorem SpGo.toks {s₂ : Shared} {p q : Option Value} (h : SpGo I J tt T Qf E s₂ p q) (tk : Nat) : SpGo I J tt T Qf E { s₂ with toks := tk } p q := by
  cases p <;> cases q
  · exact fun t tk => h t tk
  · exact fun h' tk e ne => h h' tk e ne
  · exact fun h' tk e ne => h h' tk e ne
  · rcases h with ⟨a, b, t, u, e1, e2, hm, k⟩ | ⟨h1, h2, h3, k⟩
    · exact .inl ⟨a, b, t, u, e1, e2, hm, fun vs' tk hs => k vs' tk hs⟩
    · exact .inr ⟨h1, h2, h3, fun h' tk e ne => k h' tk e ne⟩
/- both are asked for their next one -/
theorem sp_two {K : Option Value → Option Value → Sem PySem.Fin} {l : Option Value → List Value}
    (two : wpAny (model prog w) A (pyNext (.ref I)) (fun p s₁ => wpAny (model prog w) A (pyNext (.ref J)) (fun q s₂ => (∀ tri, TriAt s.heap tt tri → TriAt s₂.heap tt tri) ∧ (∀ vp, p = some vp → IntOrNone vp) ∧ (∀ vq, q = some vq → IntOrNone vq) ∧ SpGo I J tt T Qf E s₂ p q) E s₁) E s)
    (rest : ∀ p q s₂, (∀ tri, TriAt s.heap tt tri → TriAt s₂.heap tt tri) → (∀ vp, p = some vp → IntOrNone vp) → (∀ vq, q = some vq → IntOrNone vq) → SpGo I J tt T Qf E s₂ p q → wpAny (model prog w) A (K p q) Qf E s₂) :
    wpAny (model prog w) A (pyNext (.ref I) >>= fun p => holding (l p) (pyNext (.ref J)) >>= fun q => K p q) Qf E s :=
  wpAny_bind (wpAny_mono two (fun p s₁ h => wpAny_bind (wpAny_holding (wpAny_mono h (fun q s₂ h => rest p q s₂ h.1 h.2.1 h.2.2.1 h.2.2.2) fun _ _ e => e))) fun _ _ h => h)
set_option maxHeartbeats 1000000 in
theorem sp_turn (hA : A.handled = none) (hS : SpAt s.heap tt T vs)
    (two : wpAny (model prog w) A (pyNext (.ref I)) (fun p s₁ => wpAny (model prog w) A (pyNext (.ref J)) (fun q s₂ => (∀ tri, TriAt s.heap tt tri → TriAt s₂.heap tt tri) ∧ (∀ vp, p = some vp → IntOrNone vp) ∧ (∀ vq, q = some vq → IntOrNone vq) ∧ SpGo I J tt T Qf E s₂ p q) E s₁) E s) :
    wpAny (model prog w) A (Builtin.«math.sumprod.loop» ⟨.ref I :: .ref J :: vs, []⟩) Qf E s := by
  rcases hS with ⟨t0, z, u, rfl, hu, rfl, ot, n, ht, hd⟩ | ⟨t0, tri, rfl, ot, n, ht, hd⟩
  · show wpAny _ _ (seqItems? (.ref tt) >>= _) _ _ s
    refine wpAny_bind (wpAny_seqItems ht hd ?_)
    show wpAny _ _ (pyNext (.ref I) >>= _) _ _ s
    refine sp_two two fun p q s₂ kt ip iq go => ?_
    have ht' := kt _ ⟨ot, n, ht, hd⟩
    cases p with
    | none =>
      cases q with
      | some vq =>
        (repeat (first | refine wp_iteP rfl ?_ | refine wp_iteN rfl ?_))
        exact wpAny_bind (wpAny_rule (wpAny_bind (wpAny_raiseErrorWords plainExc_ValueError hA fun h' tk e ne => go h' tk e ne)))
      | none =>
        dsimp only [Option.isSome, bne, Option.toList]
        (repeat (first | refine wp_iteP rfl ?_ | refine wp_iteN rfl ?_))
        refine wpAny_bind (wpAny_rule ?_)
        cases u with
        | true =>
          (repeat (first | refine wp_iteP rfl ?_ | refine wp_iteN rfl ?_))
          refine wpAny_bind (wpAny_mkInt (wpAny_bind (wpAny_holding (PyProof.Rows.add_int ?_))))
          (repeat (first | refine wp_iteP rfl ?_ | refine wp_iteN rfl ?_))
          refine wpAny_bind (wpAny_rule ?_)
          (repeat (first | refine wp_iteP rfl ?_ | refine wp_iteN rfl ?_)); rw [Int.zero_add]
          exact wpAny_pure (go _ _)
        | false =>
          cases hu rfl
          (repeat (first | refine wp_iteP rfl ?_ | refine wp_iteN rfl ?_))
          refine wpAny_bind (wpAny_rule ?_)
          (repeat (first | refine wp_iteP rfl ?_ | refine wp_iteN rfl ?_))
          exact wpAny_pure (go _ s₂.toks)
    | some vp =>
      cases q with
      | none =>
        (repeat (first | refine wp_iteP rfl ?_ | refine wp_iteN rfl ?_))
        exact wpAny_bind (wpAny_rule (wpAny_bind (wpAny_raiseErrorWords plainExc_ValueError hA fun h' tk e ne => go h' tk e ne)))
      | some vq =>
        dsimp only [Option.isSome, bne, Option.toList]
        (repeat (first | refine wp_iteP rfl ?_ | refine wp_iteN rfl ?_))
        -- the ints are left
        have leave : ∀ (Tt : Value) (tk : Nat), (∃ t, Tt = .int z t) → ∀ {l1 : List Value} {l2 : Value → List Value}, wpAny (model prog w) A (do
            let term ← holding l1 (binaryOp .Mult vp vq)
            let total ← holding (l2 term) (binaryOp .Add Tt term)
            again (.builtin "math.sumprod.loop" ⟨[.ref I, .ref J, total, .bool false, rawInt 0, .bool false, .bool false, .ref tt, .bool false], []⟩)) Qf E { s₂ with toks := tk } := by
          rintro _ tk ⟨t, rfl⟩ l1 l2
          exact sp_gen (s := { s₂ with toks := tk }) hA ht' (go.toks tk)
        refine wp_either (ip vp rfl) (iq vq rfl) (fun a b ta tb e1 e2 => ?_) ?_
        · exact wpAny_pure (go.ints e1 e2 _ s₂.toks (.inl ⟨t0, z + a * b, true, rfl, (fun z => by cases z), rfl, ht'⟩))
        · have hnf := not_flt vp vq (ip vp rfl) (iq vq rfl)
          refine wpAny_bind (wpAny_rule ?_)
          cases u with
          | true =>
            (repeat (first | refine wp_iteP rfl ?_ | refine wp_iteN rfl ?_))
            refine wpAny_bind (wpAny_mkInt (wpAny_bind (wpAny_holding (PyProof.Rows.add_int ?_))))
            (repeat (first | refine wp_iteP rfl ?_ | refine wp_iteN rfl ?_))
            refine wp_iteN hnf ?_
            (repeat (first | refine wp_iteP rfl ?_ | refine wp_iteN rfl ?_))
            refine wpAny_bind (wpAny_rule ?_); (repeat (first | refine wp_iteP rfl ?_ | refine wp_iteN rfl ?_)); rw [Int.zero_add]; exact leave _ _ ⟨_, rfl⟩
          | false =>
            cases hu rfl
            (repeat (first | refine wp_iteP rfl ?_ | refine wp_iteN rfl ?_))
            refine wp_iteN hnf ?_
            (repeat (first | refine wp_iteP rfl ?_ | refine wp_iteN rfl ?_))
            refine wpAny_bind (wpAny_rule ?_); (repeat (first | refine wp_iteP rfl ?_ | refine wp_iteN rfl ?_)); exact leave _ s₂.toks ⟨_, rfl⟩
  · show wpAny _ _ (seqItems? (.ref tt) >>= _) _ _ s
    refine wpAny_bind (wpAny_seqItems ht hd ?_)
    show wpAny _ _ (pyNext (.ref I) >>= _) _ _ s
    refine sp_two two fun p q s₂ kt ip iq go => ?_
    have ht' := kt _ ⟨ot, n, ht, hd⟩
    cases p with
    | none =>
      cases q with
      | some vq =>
        (repeat (first | refine wp_iteP rfl ?_ | refine wp_iteN rfl ?_))
        exact wpAny_bind (wpAny_rule (wpAny_bind (wpAny_raiseErrorWords plainExc_ValueError hA fun h' tk e ne => go h' tk e ne)))
      | none =>
        dsimp only [Option.isSome, bne, Option.toList]
        rw [if_neg (by simp), if_neg (by simp), if_neg (by simp)]
        exact wpAny_pure (go _ s₂.toks)
    | some vp =>
      cases q with
      | none =>
        (repeat (first | refine wp_iteP rfl ?_ | refine wp_iteN rfl ?_))
        exact wpAny_bind (wpAny_rule (wpAny_bind (wpAny_raiseErrorWords plainExc_ValueError hA fun h' tk e ne => go h' tk e ne)))
      | some vq =>
        dsimp only [Option.isSome, bne, Option.toList]
        rw [if_neg (by simp), if_neg (by simp), if_neg (by simp)]
        exact sp_gen hA ht' go
end
end Mine
end
section
open PySem PySem.W PyProof.Rows
set_option linter.unusedVariables false
set_option maxRecDepth 100000
namespace Mine
/- what sumprod of ints and None comes to, and what is left of the first -/
noncomputable def spX : Int → List V → List V → Except String V × List V
  | T, [], [] => (.ok (.int T), [])
  | _, [], _ :: _ => (.error "ValueError", [])
  | _, _ :: As, [] => (.error "ValueError", As)
  | T, A :: As, B :: Bs =>
    match A, B with
    | .int a, .int b => spX (T + a * b) As Bs
    | _, _ => (.error "TypeError", As)
/- an int or None -/
noncomputable def V.ion (A : V) : Prop := A = .none ∨ ∃ i, A = .int i
theorem Rep.ion {H : Hm} {A : V} {v : Value} (h : A.ion) (r : Rep H A v) : IntOrNone v := by
  rcases h with rfl | ⟨i, rfl⟩
  · exact .inl r.none_of
  · obtain ⟨t, rfl⟩ := r.int_of; exact .inr ⟨i, t, rfl⟩
theorem Mvd.wider {wr wr' : Addr → Prop} {s s' : Shared} (x : Mvd wr s s') (h : ∀ b, wr b → wr' b) : Mvd wr' s s' := ⟨fun b o hb e => x.heap b o (fun z => hb (h b z)) e, x.there, x.gens, x.os⟩
section
variable {prog : Program} {w : World} {A : Around} {H : Hm} {I J : Addr} {n m : Nat} {PI PJ : Nat → Value → Prop} {WI WJ : Nat → Shared → Prop} {WeI WeJ : Shared → Prop} {As Bs : List V} {Q : Value → Shared → Prop} {E : Value → Shared → Prop}
/- two feeds that do not meet -/
structure Feeds (prog : Program) (w : World) (A : Around) (H : Hm) (I J : Addr) (PI PJ : Nat → Value → Prop) (WI WJ : Nat → Shared → Prop) (WeI WeJ : Shared → Prop) (As Bs : List V) : Prop where
  fi : Feed prog w A I As.length PI WI WeI (· = I)
  fj : Feed prog w A J Bs.length PJ WJ WeJ (· = J)
  ne : I ≠ J
  ki : ∀ i s s', WI i s → Mvd (· = J) s s' → WI i s'
  ke : ∀ s s', WeI s → Mvd (· = J) s s' → WeI s'
  kj : ∀ i s s', WJ i s → Mvd (· = I) s s' → WJ i s'
  hi : ∀ i v, i < As.length → PI i v → ∃ B, As[i]? = some B ∧ Rep H B v ∧ B.ion
  hj : ∀ i v, i < Bs.length → PJ i v → ∃ B, Bs[i]? = some B ∧ Rep H B v ∧ B.ion
  mo : ∀ (i : Nat) (a b : Int), As[i]? = some (.int a) → Bs[i]? = some (.int b) → IntMulOk a b
noncomputable abbrev IJ (I J : Addr) : Addr → Prop := fun b => b = I ∨ b = J
theorem spF_loop (hA : A.handled = none) (F : Feeds prog w A.in1 H I J PI PJ WI WJ WeI WeJ As Bs) :
    ∀ (k i : Nat) (s : Shared) (T : Int) (tt : Addr) (vs : List Value), As.length - i = k → i ≤ As.length → i ≤ Bs.length → WI i s → WJ i s → SpAt s.heap tt T vs → tt ≠ I → tt ≠ J →
    (∀ T' t s', spX T (As.drop i) (Bs.drop i) = (.ok (.int T'), []) → WeI s' → Mvd (IJ I J) s s' → Q (.int T' t) s') →
    (∀ c left s' h'' tk e, spX T (As.drop i) (Bs.drop i) = (.error c, left) → ((left = [] ∧ WeI s') ∨ ∃ j, j < As.length ∧ left = As.drop (j + 1) ∧ WI (j + 1) s') → Mvd (IJ I J) s s' → Heap.NewExc s'.heap h'' e c → E (.ref e) { s' with heap := h'', toks := tk }) →
    codeAny (model prog w) A (.builtin "math.sumprod.loop" ⟨.ref I :: .ref J :: vs, []⟩) (Answer Q E) s := by
  intro k
  induction k with
  | zero =>
    intro i s T tt vs hk hi hj hwI hwJ hS hti htj hQ hE
    have hin : i = As.length := by grind
    subst hin
    refine codeAny_builtin sp_entry_loop ?_
    rw [Around.under_plainId sp_plain_loop _]
    have hdA : As.drop As.length = [] := List.drop_of_length_le (Nat.le_refl _)
    refine sp_turn (s := s) hA hS (F.fi.done s _ _ hwI fun s₁ hwe m₁ => ?_)
    have hwJ₁ := F.kj _ _ _ hwJ m₁
    have k1 : ∀ tri, TriAt s.heap tt tri → TriAt s₁.heap tt tri := fun tri h => h.keep fun o e => m₁.heap tt o hti e
    by_cases hb : As.length < Bs.length
    · refine F.fj.item _ s₁ _ _ hb hwJ₁ fun v s₂ hP hw₂ m₂ => ?_
      obtain ⟨B, hB, rB, iB⟩ := F.hj _ _ hb hP
      refine ⟨fun tri h => (k1 tri h).keep fun o e => m₂.heap tt o htj e, fun vp z => (by cases z), fun vq z => (by cases z; exact Rep.ion iB rB), ?_⟩
      intro h' tk e ne
      refine hE "ValueError" [] s₂ h' tk e ?_ (.inl ⟨rfl, F.ke _ _ hwe m₂⟩) ((m₁.wider fun b z => .inl z).trans (m₂.wider fun b z => .inr z)) ne
      rw [hdA, List.drop_eq_getElem_cons hb]; rfl
    · have hbl : Bs.length = As.length := by lia
      have hdB : Bs.drop As.length = [] := List.drop_of_length_le (by lia)
      refine F.fj.done s₁ _ _ (hbl ▸ hwJ₁) fun s₂ _ m₂ => ?_
      refine ⟨fun tri h => (k1 tri h).keep fun o e => m₂.heap tt o htj e, fun vp z => (by cases z), fun vq z => (by cases z), ?_⟩
      intro t tk
      have mm := ((m₁.wider fun b z => Or.inl z).trans (m₂.wider fun b z => Or.inr z) : Mvd (IJ I J) s s₂)
      exact hQ T t _ (by rw [hdA, hdB]; rfl) (F.fi.frameE _ _ _ (F.ke _ _ hwe m₂) fun b o e => e) (mm.trans (.grow fun b o e => e))
  | succ k ih =>
    intro i s T tt vs hk hi hj hwI hwJ hS hti htj hQ hE
    have hlt : i < As.length := by omega
    refine codeAny_builtin sp_entry_loop ?_
    rw [Around.under_plainId sp_plain_loop _]
    have dA : As.drop i = As[i] :: As.drop (i + 1) := List.drop_eq_getElem_cons hlt
    refine sp_turn (s := s) hA hS (F.fi.item i s _ _ hlt hwI fun v s₁ hP hw₁ m₁ => ?_)
    have hwJ₁ := F.kj _ _ _ hwJ m₁
    have k1 : ∀ tri, TriAt s.heap tt tri → TriAt s₁.heap tt tri := fun tri h => h.keep fun o e => m₁.heap tt o hti e
    obtain ⟨X, hX, rX, iX⟩ := F.hi i v hlt hP
    by_cases hb : i < Bs.length
    · refine F.fj.item i s₁ _ _ hb hwJ₁ fun u s₂ hPu hw₂ m₂ => ?_
      obtain ⟨Y, hY, rY, iY⟩ := F.hj i u hb hPu
      have dB : Bs.drop i = Bs[i] :: Bs.drop (i + 1) := List.drop_eq_getElem_cons hb
      have eX : As[i] = X := by rw [List.getElem?_eq_getElem hlt] at hX; cases hX; rfl
      have eY : Bs[i] = Y := by rw [List.getElem?_eq_getElem hb] at hY; cases hY; rfl
      rw [eX] at dA
      rw [eY] at dB
      have mm := ((m₁.wider fun b z => Or.inl z).trans (m₂.wider fun b z => Or.inr z) : Mvd (IJ I J) s s₂)
      have hw₁' := F.ki _ _ _ hw₁ m₂
      refine ⟨fun tri h => (k1 tri h).keep fun o e => m₂.heap tt o htj e, fun vp z => (by cases z; exact Rep.ion iX rX), fun vq z => (by cases z; exact Rep.ion iY rY), ?_⟩
      have te : ∀ {Qf : PySem.Fin → Shared → Prop}, (X = .none ∨ Y = .none) → SpGo I J tt T Qf (fun e s' => Answer Q E (.error e) s') s₂ (some v) (some u) := by
        intro Qf hxy
        refine .inr ⟨Rep.ion iX rX, Rep.ion iY rY, ?_, fun h' tk e ne => ?_⟩
        · rcases hxy with rfl | rfl
          · exact .inl rX.none_of
          · exact .inr rY.none_of
        · refine hE "TypeError" (As.drop (i + 1)) s₂ h' tk e ?_ (.inr ⟨i, hlt, rfl, hw₁'⟩) mm ne
          rw [dA, dB]
          rcases hxy with rfl | rfl
          · rfl
          · rcases iX with rfl | ⟨a, rfl⟩ <;> rfl
      rcases iX with rfl | ⟨a, rfl⟩
      · exact te (.inl rfl)
      · rcases iY with rfl | ⟨b, rfl⟩
        · exact te (.inr rfl)
        · obtain ⟨ta, rfl⟩ := rX.int_of
          obtain ⟨tb, rfl⟩ := rY.int_of
          refine .inl ⟨a, b, ta, tb, rfl, rfl, F.mo i a b hX hY, fun vs' tk hS' => ?_⟩
          refine ⟨plainId_quiet sp_plain_loop _, ?_⟩
          have hsp : spX T (As.drop i) (Bs.drop i) = spX (T + a * b) (As.drop (i + 1)) (Bs.drop (i + 1)) := by rw [dA, dB]; rfl
          refine ih (i + 1) { s₂ with toks := tk } (T + a * b) tt vs' (by grind) (by lia) (by lia) (F.fi.frame _ _ _ _ hw₁' fun b o e => e) (F.fj.frame _ _ _ _ hw₂ fun b o e => e) hS' hti htj ?_ ?_
          · intro T' t s' h1 h2 h3
            exact hQ T' t s' (by rw [hsp]; exact h1) h2 ((mm.trans (.grow fun b o e => e)).trans h3)
          · intro c left s' h'' tk' e h1 h2 h3 ne
            exact hE c left s' h'' tk' e (by rw [hsp]; exact h1) h2 ((mm.trans (.grow fun b o e => e)).trans h3) ne
    · have hbl : Bs.length = i := by lia
      have hdB : Bs.drop i = [] := List.drop_of_length_le (by lia)
      refine F.fj.done s₁ _ _ (hbl ▸ hwJ₁) fun s₂ _ m₂ => ?_
      refine ⟨fun tri h => (k1 tri h).keep fun o e => m₂.heap tt o htj e, fun vp z => (by cases z; exact Rep.ion iX rX), fun vq z => (by cases z), ?_⟩
      intro h' tk e ne
      refine hE "ValueError" (As.drop (i + 1)) s₂ h' tk e ?_ (.inr ⟨i, hlt, rfl, F.ki _ _ _ hw₁ m₂⟩) ((m₁.wider fun b z => .inl z).trans (m₂.wider fun b z => .inr z)) ne
      rw [dA, hdB]; rfl
/- sumprod(v, u) -/
theorem wp_sumprodF {v u : Value} {s : Shared} (hA : A.handled = none)
    (h : wpAny (model prog w) A.in1 (pyIter v) (fun I' s₁ => wpAny (model prog w) A.in1 (pyIter u) (fun J' s₂ => ∃ I J PI PJ WI WJ WeI WeJ, I' = .ref I ∧ J' = .ref J ∧ Feeds prog w A.in1 H I J PI PJ WI WJ WeI WeJ As Bs ∧ WI 0 s₂ ∧ WJ 0 s₂ ∧
      (∀ T' t s', spX 0 As Bs = (.ok (.int T'), []) → WeI s' → Mvd (IJ I J) s₂ s' → Q (.int T' t) s') ∧
      (∀ c left s' h'' tk e, spX 0 As Bs = (.error c, left) → ((left = [] ∧ WeI s') ∨ ∃ j, j < As.length ∧ left = As.drop (j + 1) ∧ WI (j + 1) s') → Mvd (IJ I J) s₂ s' → Heap.NewExc s'.heap h'' e c → E (.ref e) { s' with heap := h'', toks := tk })) E s₁) E s) :
    wpAny (model prog w) A (call (.builtin "math.sumprod") [v, u]) Q E s := by
  refine wpAny_call (codeAny_call_builtin (id := "math.sumprod") (args := ⟨[v, u], []⟩) sp_plain sp_entry ?_)
  refine @wp_check _ _ _ "math.sumprod" [v, u] _ _ _ sp_kind (sp_args v u) ?_
  show wpAny _ A.in1 (pyIter v >>= _) _ _ s
  refine wpAny_bind (wpAny_mono h (fun I' s₁ h₁ => wpAny_bind (wpAny_holding (wpAny_mono h₁ (fun J' s₂ h₂ => ?_) fun _ _ e => e))) fun _ _ e => e)
  refine gg fun GG hGG => ?_
  obtain ⟨I, J, PI, PJ, WI, WJ, WeI, WeJ, rfl, rfl, F, wi, wj, hQ, hE⟩ := h₂
  refine hGG ?_
  refine wpAny_bind (wpAny_mkInt ?_)
  show wpAny _ A.in1 (newTuple [rawInt (Float64.zero false).toNat, rawInt (Float64.zero false).toNat, rawInt (Float64.zero false).toNat] >>= _) _ _ _
  refine wpAny_bind (wpAny_newTuple (wpAny_pure ⟨plainId_quiet sp_plain_loop _, ?_⟩) (by show 3 ≤ sizeLine; decide))
  have kp : ∀ b o, s₂.heap.get? b = some o → (s₂.heap.push { cls := .type "tuple", data := .seq #[rawInt (Float64.zero false).toNat, rawInt (Float64.zero false).toNat, rawInt (Float64.zero false).toNat] }).get? b = some o := fun b o e => Heap.get?_push_of_some _ e
  have nI : s₂.heap.objs.size ≠ I := fun z => by
    obtain ⟨o, e⟩ := F.fi.old _ _ I wi rfl
    rw [← z, fresh_none] at e; cases e
  have nJ : s₂.heap.objs.size ≠ J := fun z => by
    obtain ⟨o, e⟩ := F.fj.old _ _ J wj rfl
    rw [← z, fresh_none] at e; cases e
  refine spF_loop hA F As.length 0 _ 0 s₂.heap.objs.size _ rfl (Nat.zero_le _) (Nat.zero_le _) (F.fi.frame _ s₂ _ _ wi kp) (F.fj.frame _ s₂ _ _ wj kp) (.inl ⟨_, 0, false, rfl, fun _ => rfl, rfl, _, 0, Heap.get?_push_size _ rfl, rfl⟩) nI nJ ?_ ?_
  · intro T' t s' h1 h2 h3
    exact hQ T' t s' h1 h2 ((Mvd.grow kp).trans h3)
  · intro c left s' h'' tk e h1 h2 h3 ne
    exact hE c left s' h'' tk e h1 h2 ((Mvd.grow kp).trans h3) ne
end
end Mine
end
section
open PySem PySem.W PyProof.Rows
set_option linter.unusedVariables false
set_option maxRecDepth 100000
namespace Mine
/- iterators and what is left in them -/
noncomputable abbrev Gs := List (Addr × List V)
noncomputable abbrev Gs.adr (gs : Gs) : OSet := fun b => b ∈ gs.map (·.1)
noncomputable abbrev Gs.loc (gs : Gs) : Loc := gs.map fun p => (gh p.1, .itr p.1 p.2)
/- a frame that knows no ghosts -/
noncomputable def NoGh (Γ : Cx) : Prop := ∀ a, Γ.env.kindOf (gh a) = none
theorem gh_beq {a b : Addr} (h : a ≠ b) : (gh a == gh b) = false := by
  rw [beq_eq_false_iff_ne]; exact fun z => h (gh_inj z)
section
variable {Γ : Cx} {H : Hm} {O : OSet} {loc : Loc} {h : Heap} {os : OsState} {g : Array GenState} {a : Addr} {As : List V}
/- an iterator is taken under a ghost name -/
theorem StH.adopt (st : StH Γ H O loc h os g) (hg : NoGh Γ) (fa : Foreign Γ H O a) (hi : ItrL H h a As) : StH Γ H (fun b => O b ∨ b = a) ((gh a, .itr a As) :: loc) h os g := by
  obtain ⟨o, vs, e1, e3⟩ := hi.obj
  have hv : VarIs Γ.env h (gh a) (.ref a) := .inr (.inr ⟨hg a, a, rfl, rfl⟩)
  have nl : a ≠ Γ.env.locals := fun z => fa.o (z ▸ st.onsO)
  have nm : ∀ y lv, loc.lookup y = some lv → lv.mine = true → ∀ b, VarIs Γ.env h y (.ref b) → b ≠ a := fun y lv e m b hb z => by
    subst z
    obtain ⟨w, hw, hl⟩ := st.vars y lv e
    obtain ⟨c, ec, hO⟩ := hl.isO m
    have := hw.inj hb
    rw [ec] at this; cases this
    exact fa.o hO
  exact
  { base := st.base, agree := st.agree, nofr := st.nofr, os := st.os, gens := st.gens
    obase := fun b hb => hb.elim (st.obase b) fun z => z ▸ fa.base
    otab := fun b hb => hb.elim (st.otab b) fun z => z ▸ fa.tab
    tabs := st.tabs
    ohm := fun b hb => hb.elim (st.ohm b) fun z => z ▸ fa.hm
    othere := fun b hb => hb.elim (st.othere b) fun z => ⟨o, z ▸ e1⟩
    kind := st.kind, ns := st.ns, onsO := .inl st.onsO
    vars := fun y lv e => by
      by_cases hy : y = gh a
      · subst hy
        rw [lookup_cons_self] at e; cases e
        exact ⟨_, hv, a, rfl, .inr rfl, rfl, hi⟩
      · rw [lookup_cons_ne hy] at e
        obtain ⟨w, hw, hl⟩ := st.vars y lv e
        exact ⟨w, hw, hl.keep (fun _ q => .inl q) fun _ _ _ _ e => e⟩
    sep := fun y z b l1 l2 f1 f2 m1 m2 v1 v2 => by
      by_cases hy : y = gh a
      · subst hy
        have hb : b = a := by have := hv.inj v1; cases this; rfl
        by_cases hz : z = gh a
        · exact hz.symm
        · rw [lookup_cons_ne hz] at f2
          exact absurd hb (nm z l2 f2 m2 b v2)
      · rw [lookup_cons_ne hy] at f1
        by_cases hz : z = gh a
        · subst hz
          have hb : b = a := by have := hv.inj v2; cases this; rfl
          exact absurd hb (nm y l1 f1 m1 b v1)
        · rw [lookup_cons_ne hz] at f2
          exact st.sep y z b l1 l2 f1 f2 m1 m2 v1 v2
    apart := fun y b l1 f1 m1 v1 => by
      by_cases hy : y = gh a
      · subst hy
        have hb : b = a := by have := hv.inj v1; cases this; rfl
        subst hb
        exact ⟨nl, fun y c e z => fa.cell y (z ▸ e)⟩
      · rw [lookup_cons_ne hy] at f1
        exact st.apart y b l1 f1 m1 v1
    cells := fun y c e => ⟨fun m => .inl ((st.cells y c e).1 m), (st.cells y c e).2⟩
    cne := st.cne, cinj := st.cinj, frames := st.frames }
theorem Foreign.wider {Γ : Cx} {H : Hm} {O O' : OSet} {b : Addr} (f : Foreign Γ H O b) (h : ¬ O' b) : Foreign Γ H O' b := ⟨f.base, f.hm, h, f.cell, f.fr, f.tab⟩
theorem StH.oeq {O' : OSet} (st : StH Γ H O loc h os g) (e : ∀ b, O b ↔ O' b) : StH Γ H O' loc h os g := by
  have : O = O' := funext fun b => propext (e b)
  subst this; exact st
theorem StH.adopts (hg : NoGh Γ) : ∀ (gs : Gs) {O : OSet}, StH Γ H O loc h os g → (∀ p ∈ gs, Foreign Γ H O p.1 ∧ ItrL H h p.1 p.2) → (gs.map (·.1)).Nodup → StH Γ H (fun b => O b ∨ gs.adr b) (gs.loc ++ loc) h os g
  | [], O, st, _, _ => st.oeq fun b => by simp
  | (a, As) :: gs, O, st, hf, nd => by
    rw [List.map_cons, List.nodup_cons] at nd
    have ih := StH.adopts hg gs st (fun p hp => hf p (List.mem_cons_of_mem _ hp)) nd.2
    have h1 := hf (a, As) List.mem_cons_self
    have := ih.adopt hg (a := a) (As := As) (h1.1.wider fun z => z.elim h1.1.o nd.1) h1.2
    exact this.oeq fun b => by
      show (O b ∨ Gs.adr gs b) ∨ b = a ↔ O b ∨ b ∈ ((a, As) :: gs).map (·.1)
      simp only [List.map_cons, List.mem_cons]
      constructor
      · rintro ((h | h) | h)
        · exact .inl h
        · exact .inr (.inr h)
        · exact .inr (.inl h)
      · rintro (h | h | h)
        · exact .inl (.inl h)
        · exact .inr h
        · exact .inl (.inr h)
/- loc without the ghosts of gs -/
noncomputable def unGh (gs : Gs) (loc : Loc) : Loc := loc.filter fun q => decide (∀ p ∈ gs, q.1 ≠ gh p.1)
theorem unGh_lookup (gs : Gs) : ∀ (loc : Loc) (y : Str), (unGh gs loc).lookup y = if (∀ p ∈ gs, y ≠ gh p.1) then loc.lookup y else none
  | [], y => by simp [unGh]
  | (x, lv) :: loc, y => by
    have ih := unGh_lookup gs loc y
    unfold unGh at ih ⊢
    by_cases hx : ∀ p ∈ gs, x ≠ gh p.1
    · rw [List.filter_cons_of_pos (by simpa using hx)]
      by_cases hy : y = x
      · subst hy
        rw [lookup_cons_self, lookup_cons_self, if_pos hx]
      · rw [lookup_cons_ne hy, lookup_cons_ne hy, ih]
    · rw [List.filter_cons_of_neg (by simpa using hx), ih]
      by_cases hy : y = x
      · subst hy; rw [if_neg hx, if_neg hx]
      · rw [lookup_cons_ne hy]
theorem StH.releases : ∀ (gs : Gs) {O : OSet} {loc : Loc}, StH Γ H O loc h os g → (∀ p ∈ gs, loc.lookup (gh p.1) = some (.itr p.1 p.2)) → (gs.map (·.1)).Nodup →
    StH Γ H (fun b => O b ∧ ¬ gs.adr b) (unGh gs loc) h os g ∧ ∀ p ∈ gs, O p.1 ∧ Foreign Γ H (fun b => O b ∧ ¬ gs.adr b) p.1 ∧ ItrL H h p.1 p.2
  | [], O, loc, st, _, _ => by
    refine ⟨(st.less fun x lv e => ?_).oeq fun b => by simp, fun p hp => by cases hp⟩
    rw [unGh_lookup, if_pos (by simp)] at e; exact e
  | (a, As) :: gs, O, loc, st, hl, nd => by
    rw [List.map_cons, List.nodup_cons] at nd
    have h0 := hl (a, As) List.mem_cons_self
    have lk : ∀ y, (unGh [(a, As)] loc).lookup y = if y ≠ gh a then loc.lookup y else none := fun y => by rw [unGh_lookup]; simp
    obtain ⟨hv, hi, hO, fa, st'⟩ := st.release (loc' := unGh [(a, As)] loc) h0 (fun y lv e => by
      rw [lk] at e
      split at e
      · exact e
      · cases e) (by rw [lk, if_neg (by simp)])
    obtain ⟨r1, r2⟩ := StH.releases gs st' (fun p hp => by
      rw [lk, if_pos (fun z => nd.1 (by rw [← gh_inj z]; exact List.mem_map.mpr ⟨p, hp, rfl⟩))]
      exact hl p (List.mem_cons_of_mem _ hp)) nd.2
    have oe : ∀ b, ((O b ∧ b ≠ a) ∧ ¬ Gs.adr gs b) ↔ (O b ∧ ¬ (Gs.adr ((a, As) :: gs)) b) := fun b => by
      show _ ↔ O b ∧ ¬ b ∈ ((a, As) :: gs).map (·.1)
      simp only [List.map_cons, List.mem_cons, not_or]
      constructor
      · rintro ⟨⟨h1, h2⟩, h3⟩; exact ⟨h1, h2, h3⟩
      · rintro ⟨h1, h2, h3⟩; exact ⟨⟨h1, h2⟩, h3⟩
    refine ⟨(r1.less fun x lv e => ?_).oeq oe, fun p hp => ?_⟩
    · rw [unGh_lookup] at e ⊢
      split at e
      · rename_i hh
        rw [if_pos fun p hp => hh p (List.mem_cons_of_mem _ hp), lk, if_pos (hh (a, As) List.mem_cons_self)]; exact e
      · cases e
    · rcases List.mem_cons.mp hp with rfl | hp
      · exact ⟨hO, fa.wider fun z => z.2 (by simp), hi⟩
      · obtain ⟨h1, h2, h3⟩ := r2 p hp
        exact ⟨h1.1, h2.wider fun z => h2.o ((oe _).mpr z), h3⟩
end
/- ghosts, as a function's caller hands them over -/
structure GsAt (F : Fix) (H : Hm) (h : Heap) (gs : Gs) : Prop where
  nd : (gs.map (·.1)).Nodup
  at_ : ∀ p ∈ gs, ItrL H h p.1 p.2 ∧ F.h₁.get? p.1 = none ∧ H p.1 = none ∧ ¬ F.tab p.1
/- a contract of a function that is lent iterators -/
noncomputable def CallsG (F : Fix) (fv : Value) (d : Nat) (lvs : List V) (kn : List Str) (klvs : List V) (gs : Gs) (Q : V → Gs → Prop) (X : Exc → Gs → Prop) : Prop :=
  ∀ A H s vals kvals, Room A d → Wsp F A H s.heap s.os s.gens → Reps H lvs vals → Reps H klvs kvals → GsAt F H s.heap gs →
    wpAny (model F.prog F.w) A (call fv vals (kn.zip kvals))
      (fun v s' => ∃ H' R gs', gs'.map (·.1) = gs.map (·.1) ∧ Nx F H gs.adr s.heap H' gs.adr s'.heap ∧ Wsp F A H' s'.heap s'.os s'.gens ∧ Rep H' R v ∧ GsAt F H' s'.heap gs' ∧ Q R gs')
      (fun e s' => ∃ H' x gs', gs'.map (·.1) = gs.map (·.1) ∧ Nx F H gs.adr s.heap H' gs.adr s'.heap ∧ Wsp F A H' s'.heap s'.os s'.gens ∧ Fly H' gs.adr s.heap s'.heap e x ∧ GsAt F H' s'.heap gs' ∧ X x gs') s
/- how a function's end is told, with its ghosts -/
noncomputable def GsIn (gs gs' : Gs) (loc : Loc) : Prop := gs'.map (·.1) = gs.map (·.1) ∧ ∀ p ∈ gs', loc.lookup (gh p.1) = some (.itr p.1 p.2)
noncomputable def FnQG (gs : Gs) (Q : V → Gs → Prop) : Fl → Loc → Prop
  | .ret R, loc => ∃ gs', GsIn gs gs' loc ∧ Q R gs'
  | .next, loc => ∃ gs', GsIn gs gs' loc ∧ Q .none gs'
  | _, _ => False
noncomputable def FnXG (gs : Gs) (X : Exc → Gs → Prop) : Exc → Loc → Prop := fun x loc => ∃ gs', GsIn gs gs' loc ∧ X x gs'
theorem reps_get {H : Hm} {As : List V} {vs : List Value} {i : Nat} {A : V} {v : Value} (r : Reps H As vs) (e : As[i]? = some A) (e' : vs[i]? = some v) : Rep H A v := by
  obtain ⟨y, ey, ry⟩ := r.get e
  rw [e'] at ey; cases ey; exact ry
section
variable {F : Fix} {A : Around} {H : Hm} {s s₁ : Shared} {fd : FuncData} {a : Addr} {body : List Stmt} {names : List Str}
theorem callsG_of {lvs klvs dlvs : List V} {defs : List Value} {kn : List Str} {gs : Gs} {Q : V → Gs → Prop} {X : Exc → Gs → Prop} {d : Nat} (fn : FnAt F a fd body) (hn : names.Nodup)
    (hk : ∀ x ∈ names, fd.scope.names.lookup x = some .local ∨ fd.scope.names.lookup x = some .cell) (hlen : names.length = lvs.length + klvs.length + dlvs.length) (hdef : ∀ H, Reps H dlvs defs) (hgh : ∀ b, fd.scope.names.lookup (gh b) = none)
    (hbind : ∀ (s : Shared) (vals kvals : List Value), (∀ b o, F.h₁.get? b = some o → s.heap.get? b = some o) → vals.length = lvs.length → kvals.length = klvs.length → BindsTo s fd ⟨vals, kn.zip kvals⟩ (names.zip (vals ++ kvals ++ defs)))
    (h : ∀ A L, Room A (d + 1) → Exs (F.fn A fd a L) (gs.loc ++ names.zip ((lvs ++ klvs ++ dlvs).map .val)) body (FnQG gs Q) (FnXG gs X)) : CallsG F (.ref a) (d + 1) lvs kn klvs gs Q X := by
  intro A H s vals kvals hr ws rv rk ga
  have hl : vals.length = lvs.length := rv.length
  have hl3 : kvals.length = klvs.length := rk.length
  have hl4 : defs.length = dlvs.length := (hdef H).length
  have rr : Reps H (lvs ++ klvs ++ dlvs) (vals ++ kvals ++ defs) := (rv.append rk).append (hdef H)
  have ar : ArgsAt F A H (fun _ => False) s.heap ((lvs ++ klvs ++ dlvs).map .val) (vals ++ kvals ++ defs) := by
    refine ⟨by simp [hl, hl3, hl4], fun i lv v e e' => ?_, fun i j lv lv' b e _ m => ?_, fun b z => z.elim⟩
    · rw [List.getElem?_map] at e
      cases q : (lvs ++ klvs ++ dlvs)[i]? with
      | none => rw [q] at e; cases e
      | some B => rw [q] at e; cases e; exact reps_get rr q e'
    · rw [List.getElem?_map] at e
      cases q : (lvs ++ klvs ++ dlvs)[i]? with
      | none => rw [q] at e; cases e
      | some B => rw [q] at e; cases e; cases m
  obtain ⟨o, ho, hd⟩ := fn.o
  have hroom : A.depth < recursionLimit := by have := hr.depth; omega
  refine wpAny_call (codeAny_call_function hroom (ws.base _ _ ho) hd fn.co fn.gen fn.body (fn.cd.keeps ws.base) (hbind s vals kvals ws.base hl hl3 _ _ _ _ ?_))
  rw [fn.clos]
  refine wpAny_newFunctionEnv_cells fn.kind (fun x hx => ?_) fun env he s₁ hin => ?_
  · obtain ⟨y, v⟩ := x
    rcases hk y (List.of_mem_zip hx).1 with h1 | h1
    · exact .inl h1
    · exact .inr ⟨h1, cellsFrom_some _ _ _ _ (.inl (mem_of_lookup h1))⟩
  subst he
  refine ⟨(fn.lim.keeps ws.base).keeps hin.toInCall.keep, codeAny_func ?_⟩
  have st₀ := enter ws ar fn hn hk (by simp only [List.length_append, List.length_map]; omega) hin
  have keep := hin.toInCall.keep
  have og : ∀ p ∈ gs, ∃ o, s.heap.get? p.1 = some o ∧ True := fun p hp => by
    obtain ⟨o, vs, e1, _⟩ := (ga.at_ p hp).1.obj; exact ⟨o, e1, trivial⟩
  have og3 : ∀ p ∈ gs, ∃ o vs, s.heap.get? p.1 = some o ∧ o.data = .fields vs := fun p hp => by
    obtain ⟨o, vs, e1, e3⟩ := (ga.at_ p hp).1.obj; exact ⟨o, vs, e1, e3⟩
  have fo : ∀ p ∈ gs, Foreign (F.fn A fd a s.heap.objs.size) H (fun b => False ∨ (s.heap.get? b = none ∧ ∃ o, s₁.heap.get? b = some o)) p.1 := fun p hp => by
    refine gg fun GG hGG => ?_
    obtain ⟨_, g1, g2, g3⟩ := ga.at_ p hp
    obtain ⟨o, vs, e1, e3⟩ := og3 p hp
    refine hGG ?_
    refine ⟨g1, g2, fun z => z.elim id fun q => (by rw [e1] at q; cases q.1), fun y e => ?_, fun l hl env he ef => ?_, g3⟩
    · have := hin.above y p.1 (mem_of_lookup e)
      exact absurd (Heap.lt_size e1) (Nat.not_lt.mpr (Nat.le_of_lt this))
    · obtain ⟨l', hl', hf⟩ := st₀.frames
      rw [hl] at hl'; cases hl'
      refine gg fun GG hGG => ?_
      obtain ⟨_, L, oL, es, ep, f1, f2, f3, _⟩ := hf env he
      refine hGG ?_
      rw [ef] at f1; cases f1
      rw [keep _ _ e1] at f2; cases f2
      rw [e3] at f3; cases f3
  have st := StH.adopts (Γ := F.fn A fd a s.heap.objs.size) hgh gs st₀ (fun p hp => ⟨fo p hp, (ga.at_ p hp).1.at fun o e => keep _ o e⟩) ga.nd
  have out : ∀ (H' : Hm) (O' : OSet) (h' : Heap), Nx F H (fun b => (False ∨ (s.heap.get? b = none ∧ ∃ o, s₁.heap.get? b = some o)) ∨ gs.adr b) s₁.heap H' O' h' → Nx F H gs.adr s.heap H' gs.adr h' := by
    intro H' O' h' n
    refine ⟨fun b o e hb => ?_, fun b o e => n.there b o (keep b o e), n.hle, fun b o e => ?_, fun b z => .inl z⟩
    · refine n.kp b o (keep b o e) fun z => ?_
      rcases z with (z | z) | z
      · exact z
      · rw [z.1] at e; cases e
      · exact hb z
    · rcases n.hnew b o e with h1 | h1 | h1
      · exact .inl h1
      · rcases h1 with (z | z) | z
        · exact z.elim
        · exact .inr (.inr z.1)
        · exact .inr (.inl z)
      · refine .inr (.inr ?_)
        cases e' : s.heap.get? b with
        | none => rfl
        | some q => rw [keep b q e'] at h1; cases h1
  obtain ⟨l, hl', _⟩ := ws.frames
  have hfr : (F.fn A fd a s.heap.objs.size).A.frames = some ((F.fn A fd a s.heap.objs.size).env :: l) := Around.frames_deeper hl'
  have wout : ∀ (H' : Hm) (O' : OSet) (loc : Loc) (h' : Heap) (os : OsState) (g : Array GenState), StH (F.fn A fd a s.heap.objs.size) H' O' loc h' os g → Wsp F A H' h' os g :=
    fun H' O' loc h' os g st => ⟨st.base, st.agree, st.nofr, st.os, st.gens, frOk_out st.frames hfr hl', st.tabs⟩
  have gout : ∀ (H' : Hm) (O' : OSet) (loc : Loc) (h' : Heap) (os : OsState) (g : Array GenState) (gs' : Gs), StH (F.fn A fd a s.heap.objs.size) H' O' loc h' os g → GsIn gs gs' loc → GsAt F H' h' gs' := by
    intro H' O' loc h' os g gs' st hg
    refine ⟨by rw [hg.1]; exact ga.nd, fun p hp => ?_⟩
    refine gg fun GG hGG => ?_
    obtain ⟨v, _, b, _, hO, hb, hi⟩ := st.vars _ _ (hg.2 p hp)
    refine hGG ?_
    subst hb
    exact ⟨hi, st.obase _ hO, st.ohm _ hO, st.otab _ hO⟩
  refine wpAny_mono (h A s.heap.objs.size hr H _ s₁ st) (fun f s' p => ?_) fun e s' p => ?_
  · obtain ⟨H', O', l', fl, n, st', r, q⟩ := p
    cases fl with
    | ret R =>
      refine gg fun GG hGG => ?_
      obtain ⟨v, rfl, hr⟩ := r
      obtain ⟨gs', hg, q⟩ := q
      refine hGG ?_
      exact ⟨H', R, gs', hg.1, out _ _ _ n, wout _ _ _ _ _ _ st', hr, gout _ _ _ _ _ _ _ st' hg, q⟩
    | next =>
      cases r
      obtain ⟨gs', hg, q⟩ := q
      exact ⟨H', .none, gs', hg.1, out _ _ _ n, wout _ _ _ _ _ _ st', rep_none _, gout _ _ _ _ _ _ _ st' hg, q⟩
    | brk => exact q.elim
    | cont => exact q.elim
  · obtain ⟨H', O', l', x, n, st', fl, gs', hg, q⟩ := p
    refine wp_leaving (Γ := F.fn A fd a s.heap.objs.size) (L := s.heap.objs.size) st n st' fl hfr rfl fun h' n' st'' fl' => ?_
    refine ⟨H', x, gs', hg.1, out _ _ _ n', wout _ _ _ _ _ _ st'', ?_, gout _ _ _ _ _ _ _ st'' hg, q⟩
    refine gg fun GG hGG => ?_
    obtain ⟨b, o, vs, tb, otb, tvs, e1, e2, e3, e4, e5, e6, e7, e8, k1, k2, k3⟩ := fl'.is
    refine hGG ?_
    have nb : ∀ b, s₁.heap.get? b = none → s.heap.get? b = none := fun b e => by
      cases e' : s.heap.get? b with
      | none => rfl
      | some q => rw [keep b q e'] at e; cases e
    have ng : ∀ b, s₁.heap.get? b = none → ¬ gs.adr b := fun b e z => by
      refine gg fun GG hGG => ?_
      obtain ⟨p, hp, rfl⟩ := List.mem_map.mp z
      obtain ⟨o, e', _⟩ := og p hp
      refine hGG ?_
      rw [nb _ e] at e'; cases e'
    exact ⟨b, o, vs, e1, nb b e2, ng b e2, e4, e5, e6, e7, e8, .inr ⟨tb, otb, tvs, k1, nb tb k2, ng tb k2, k3.2⟩⟩
end
end Mine
namespace Mine
theorem gloc_lookup_in : ∀ {gs : Gs}, (gs.map (·.1)).Nodup → ∀ p ∈ gs, List.lookup (gh p.1) gs.loc = some (.itr p.1 p.2)
  | (a, As) :: gs, nd, p, hp => by
    rw [List.map_cons, List.nodup_cons] at nd
    show List.lookup (gh p.1) ((gh a, LV.itr a As) :: Gs.loc gs) = _
    rcases List.mem_cons.mp hp with rfl | hp
    · exact lookup_cons_self ..
    · rw [lookup_cons_ne fun z => nd.1 (by rw [← gh_inj z]; exact List.mem_map.mpr ⟨p, hp, rfl⟩)]
      exact gloc_lookup_in nd.2 p hp
theorem gloc_lookup_not : ∀ {gs : Gs} {y : Str}, (∀ p ∈ gs, y ≠ gh p.1) → List.lookup y gs.loc = none
  | [], y, _ => rfl
  | (a, As) :: gs, y, h => by
    show List.lookup y ((gh a, LV.itr a As) :: Gs.loc gs) = _
    rw [lookup_cons_ne (h (a, As) List.mem_cons_self)]
    exact gloc_lookup_not fun p hp => h p (List.mem_cons_of_mem _ hp)
theorem lookup_app {α : Type} (a b : List (Str × α)) (y : Str) : List.lookup y (a ++ b) = (List.lookup y a).or (List.lookup y b) := by
  induction a with
  | nil => simp
  | cons p a ih =>
    obtain ⟨x, v⟩ := p
    rw [List.cons_append, List.lookup_cons, List.lookup_cons]
    split <;> simp_all
theorem gloc_or (gs gs' : Gs) (l : Loc) (hm : gs'.map (·.1) = gs.map (·.1)) (nd : (gs.map (·.1)).Nodup) : ∀ y lv, List.lookup y (gs'.loc ++ l) = some lv → List.lookup y (gs'.loc ++ unGh gs l) = some lv := by
  intro y lv e
  rw [lookup_app] at e ⊢
  by_cases hy : ∃ p ∈ gs', y = gh p.1
  · obtain ⟨p, hp, rfl⟩ := hy
    have := gloc_lookup_in (gs := gs') (by rw [hm]; exact nd) p hp
    rw [this] at e ⊢; exact e
  · have hn : ∀ p ∈ gs', y ≠ gh p.1 := fun p hp z => hy ⟨p, hp, z⟩
    rw [gloc_lookup_not hn] at e ⊢
    rw [Option.none_or] at e ⊢
    rw [unGh_lookup, if_pos]
    · exact e
    · intro p hp z
      have : p.1 ∈ gs'.map (·.1) := by rw [hm]; exact List.mem_map_of_mem hp
      obtain ⟨q, hq, eq⟩ := List.mem_map.mp this
      exact hn q hq (by rw [eq]; exact z)
section
variable {Γ : Cx} {loc : Loc} {Q : V → Loc → Prop} {X : Exc → Loc → Prop}
/- behind a call that was lent iterators -/
theorem lent_back {H H' : Hm} {O : OSet} {s s' : Shared} {gs gs' : Gs} (hg : NoGh Γ) (st : St Γ H O loc s) (hl : ∀ p ∈ gs, loc.lookup (gh p.1) = some (.itr p.1 p.2)) (nd : (gs.map (·.1)).Nodup)
    (hm : gs'.map (·.1) = gs.map (·.1)) (n : Nx Γ.F H gs.adr s.heap H' gs.adr s'.heap) (ws : Wsp Γ.F Γ.A H' s'.heap s'.os s'.gens) (ga : GsAt Γ.F H' s'.heap gs') :
    Nx Γ.F H O s.heap H' O s'.heap ∧ St Γ H' O (gs'.loc ++ loc) s' := by
  obtain ⟨st₁, r⟩ := st.releases gs hl nd
  have n₀ : Nx Γ.F H gs.adr s.heap H' (fun _ => False) s'.heap := ⟨n.kp, n.there, n.hle, n.hnew, fun b z => z.elim⟩
  have gO : ∀ b, gs.adr b → O b := fun b hb => by obtain ⟨p, hp, rfl⟩ := List.mem_map.mp hb; exact (r p hp).1
  have st₂ := st₁.after n₀ ws fun b hb => by obtain ⟨p, hp, rfl⟩ := List.mem_map.mp hb; exact (r p hp).2.1
  have st₃ := StH.adopts hg gs' st₂ (fun p hp => by
    refine gg fun GG hGG => ?_
    obtain ⟨g0, g1, g2, g3⟩ := ga.at_ p hp
    have : p.1 ∈ gs.map (·.1) := by rw [← hm]; exact List.mem_map_of_mem hp
    obtain ⟨q, hq, eq⟩ := List.mem_map.mp this
    refine hGG ?_
    have f := (r q hq).2.1
    rw [eq] at f
    exact ⟨⟨g1, g2, f.o, f.cell, f.fr, g3⟩, g0⟩) ga.nd
  refine ⟨⟨fun b o e hb => n.kp b o e fun z => hb (gO b z), n.there, n.hle, fun b o e => ?_, fun b z => .inl z⟩, ?_⟩
  · rcases n.hnew b o e with h1 | h1 | h1
    · exact .inl h1
    · exact .inr (.inl (gO b h1))
    · exact .inr (.inr h1)
  · refine (st₃.oeq fun b => ?_).less (gloc_or gs gs' loc hm nd)
    show (O b ∧ ¬ gs.adr b) ∨ b ∈ gs'.map (·.1) ↔ O b
    rw [hm]
    constructor
    · rintro (h | h)
      · exact h.1
      · exact gO b h
    · intro h
      by_cases z : gs.adr b
      · exact .inr z
      · exact .inl ⟨h, z⟩
/- f(args, name=value ..), iterators lent -/
theorem ev_callG {x : Str} {p pos : Pos} {e : Expr} {es : List Expr} {ks : List Keyword} {a : Addr} {fd : FuncData} {body : List Stmt} (hgh : NoGh Γ) (g : GlobAt Γ.F x (.ref a)) (fn : FnAt Γ.F a fd body)
    (h : Args' Γ loc pos (e :: es) (AllVal fun As l => Kws Γ l ((backToKw pos (keywordEach ks Γ.env)).map (·.2)) (AllVal fun Ks l' =>
      ∃ d gs Q' X', Room Γ.A d ∧ (∀ p ∈ gs, List.lookup (gh p.1) l' = some (.itr p.1 p.2)) ∧ (gs.map (·.1)).Nodup ∧ CallsG Γ.F (.ref a) d As ((backToKw pos (keywordEach ks Γ.env)).filterMap (·.1)) Ks gs Q' X' ∧
        (∀ R gs', gs'.map (·.1) = gs.map (·.1) → Q' R gs' → Q R (Gs.loc gs' ++ l')) ∧ (∀ x gs', gs'.map (·.1) = gs.map (·.1) → X' x gs' → X x (Gs.loc gs' ++ l'))) X) X)
    (hk : Γ.env.kindOf x = some .globalImplicit := by rfl) (hg : Γ.env.globals = mainGlobals := by rfl) (hb : Γ.env.builtins = builtinsNs := by rfl)
    (hd : (x == ("__debug__" : Str)) = false := by decide) (he : ∃ r, backTo pos (starEach (e :: es) Γ.env) = (false, eval e Γ.env) :: r := by exact ⟨_, rfl⟩)
    (hkw : (backToKw pos (keywordEach ks Γ.env)).all (·.1.isSome) = true := by rfl) : Ev Γ loc (.Call (.Name x p) (e :: es) ks pos) (VQ Q) X := by
  intro H O s st
  refine wpAny_Call_Name_kw (Calls.Name_function_global st.kind hk (wp_glob st g ?_ hg hb) hd)
  obtain ⟨o, ho, hdat⟩ := fn.o
  obtain ⟨r, hr⟩ := he
  have hh := h H O s st
  refine callWith_function_kw (o := o) (fd := fd) ?_
  rw [hr] at hh ⊢
  refine evalArgs_kw hkw (wpAny_mono hh (fun vs s₁ p => ?_) fun _ _ p => p)
  refine gg fun GG hGG => ?_
  obtain ⟨H₁, O₁, l₁, lvs, n₁, st₁, t₁, As, rfl, q₁⟩ := p
  refine hGG ?_
  refine wpAny_mono (q₁ H₁ O₁ s₁ st₁) (fun kvs s₂ p => ?_) fun _ _ p => p.back n₁
  refine gg fun GG hGG => ?_
  obtain ⟨H₂, O₂, l₂, klvs, n₂, st₂, t₂, Ks, rfl, d, gs, Q', X', hroom, hl, nd, hc, hQ, hX⟩ := p
  have nn := n₁.trans n₂
  obtain ⟨_, rel⟩ := st₂.releases gs hl nd
  refine hGG ?_
  have ga : GsAt Γ.F H₂ s₂.heap gs := ⟨nd, fun p hp => ⟨(rel p hp).2.2, (rel p hp).2.1.base, (rel p hp).2.1.hm, (rel p hp).2.1.tab⟩⟩
  refine ⟨⟨st₂.base _ _ ho, hdat⟩, ?_⟩
  refine wpAny_mono (hc Γ.A H₂ s₂ vs kvs hroom st₂.wsp (t₁.reps.mono n₂.hle) t₂.reps ga) (fun v s₃ p => ?_) fun ex s₃ p => ?_
  · obtain ⟨H₃, R, gs', hm, n₃, ws, hr, ga', hq⟩ := p
    obtain ⟨n₄, st₄⟩ := lent_back hgh st₂ hl nd hm n₃ ws ga'
    exact ⟨H₃, O₂, _, .val R, nn.trans n₄, st₄, hr, hQ R gs' hm hq⟩
  · obtain ⟨H₃, x', gs', hm, n₃, ws, fl, ga', hq⟩ := p
    obtain ⟨n₄, st₄⟩ := lent_back hgh st₂ hl nd hm n₃ ws ga'
    refine ⟨H₃, O₂, _, x', nn.trans n₄, st₄, ?_, hX _ gs' hm hq⟩
    refine gg fun GG hGG => ?_
    obtain ⟨b, o, ws', e1, e2, e3, e4, e5, e6, e7, e8, e9⟩ := fl.is
    refine hGG ?_
    have nO : ∀ b, s₂.heap.get? b = none → ¬ O₂ b := fun b e z => by obtain ⟨o, e'⟩ := st₂.othere b z; rw [e] at e'; cases e'
    refine ⟨b, o, ws', e1, nn.none_back e2, nO b e2, e4, e5, e6, e7, e8, e9.imp id ?_⟩
    intro hRR
    refine gg fun GG hGG => ?_
    obtain ⟨tb, otb, tvs, k1, k2, k3, k4⟩ := hRR
    refine hGG ?_
    exact ⟨tb, otb, tvs, k1, nn.none_back k2, nO tb k2, k4⟩
end
end Mine
end
section
open PySem PySem.W PyProof.Rows
set_option linter.unusedVariables false
set_option maxRecDepth 100000
namespace Mine
theorem sub_te_own (C : Addr) : isSubtype (.type "TypeError") (.ref C) = pure false := by rw [isSubtype_type]; kernel_rfl
theorem sub_oe_own (C : Addr) : isSubtype (.type "OverflowError") (.ref C) = pure false := by rw [isSubtype_type]; kernel_rfl
theorem matches_type_own {F : Fix} {C : Addr} (cls : ExcCls F C) {X : String} (hs : isSubtype (.type X) (.ref C) = pure false) : Matches F (.type X) (.ref C) false := by
  intro M A E s e o Q hb he hc hq
  refine gg fun GG hGG => ?_
  obtain ⟨nm, q, N, bs, hdct, sn, sub, ab, col, dd, k0, k1, k2, k3, k5, mN, hC, hN, hi, hss⟩ := cls.is
  obtain ⟨hp, gg, d, tks, os⟩ := s
  refine hGG ?_
  replace hC := hb _ _ hC
  have hcB : (Value.ref C :: veMro).contains (.type "BaseException") = true := by rw [List.contains_cons, show veMro.contains (.type "BaseException") = true by decide, Bool.or_true]
  have f := tc_notTuple
  unfold excMatches
  repeat (first | (with_reducible refine wpAny_loadPart_at he ?_; rw [hc]) | with_reducible refine wpAny_loadPart_at hC ?_ | (with_reducible refine wpAny_isSubtype_exc hC ?_; rw [hcB]) | (with_reducible refine wpAny_bind (wpAny_of_eq hs ?_)) | wp_step)
  exact hq
theorem matches_te {F : Fix} : Matches F (.type "TypeError") (.type "TypeError") true :=
  @matches_types _ _ _ _ (by rw [isSubtype_type]; kernel_rfl) (by rw [isSubtype_type]; kernel_rfl) (by rw [isSubtype_type]; kernel_rfl)
theorem matches_oe_te {F : Fix} : Matches F (.type "OverflowError") (.type "TypeError") false :=
  @matches_types _ _ _ _ (by rw [isSubtype_type]; kernel_rfl) (by rw [isSubtype_type]; kernel_rfl) (by rw [isSubtype_type]; kernel_rfl)
theorem len7 {n : Nat} (h : n ≤ 100) : n ≤ sizeLine := Nat.le_trans h (by decide)
theorem trunc_val {a : Bool} {m N : Nat} {e i : Int} (he : -(N : Int) ≤ e) (h : Float64.sgn a (m * 2 ^ (e + N).toNat) = i * 2 ^ N) : Float64.truncOf a m e = i := by
  have hp : ∀ k : Nat, (2 : Int) ^ k ≠ 0 := fun k => Int.pow_ne_zero (by decide)
  have key : ∀ j : Int, ((m * 2 ^ (e + N).toNat : Nat) : Int) = j * 2 ^ N → Float64.floorOf false m e = j := by
    intro j hj
    rw [Int.natCast_mul, Int.natCast_pow] at hj
    have hs : Float64.sgn false m = (m : Int) := rfl
    unfold Float64.floorOf
    rw [hs]
    split
    · obtain ⟨n, rfl⟩ := Int.eq_ofNat_of_zero_le (show 0 ≤ e by omega)
      rw [show ((n : Int) + (N : Int)).toNat = n + N by lia, Int.pow_add, ← Int.mul_assoc] at hj
      exact Int.eq_of_mul_eq_mul_right (hp N) hj
    · obtain ⟨k, hk⟩ := Int.eq_ofNat_of_zero_le (show 0 ≤ -e by lia)
      obtain rfl : e = -(k : Int) := by grind
      have hkN : k ≤ N := by lia
      obtain ⟨q, rfl⟩ := Nat.exists_eq_add_of_le hkN
      rw [show (-(k : Int) + ((k + q : Nat) : Int)).toNat = q by lia, Int.pow_add, ← Int.mul_assoc] at hj
      have := Int.eq_of_mul_eq_mul_right (hp q) hj
      rw [this, show (-(-(k : Int))).toNat = k by lia]
      exact Int.mul_fdiv_cancel j (hp k)
  cases a with
  | false => exact key i h
  | true =>
    have h' : -((m * 2 ^ (e + N).toNat : Nat) : Int) = i * 2 ^ N := h
    have := key (-i) (by rw [Int.neg_mul, ← h', Int.neg_neg])
    show -Float64.floorOf false m e = i
    rw [this, Int.neg_neg]
section
variable {Γ : Cx} {loc : Loc} {Q : V → Loc → Prop} {QL : LV → Loc → Prop} {QB : Bool → Loc → Prop} {QF : Fl → Loc → Prop} {X : Exc → Loc → Prop} {As : List V}
/- int(x), x a float whose value is an int -/
theorem bi_intF {d : UInt64} {i : Int} (hv : FV d (i * 2 ^ 1074)) (h : Q (.int i) loc) : OpN Γ loc (fun vs => call (.type "int") vs) [.flt d] (VQ Q) X := by
  intro H O s vs st r
  refine gg fun GG hGG => ?_
  obtain ⟨y, _, rfl, hy, rfl⟩ := r
  obtain ⟨t, rfl⟩ := Rep.flt_of (H := H) hy
  obtain ⟨⟨a, m, e, hd⟩, hval⟩ := hv
  refine hGG ?_
  refine call_int_float hd ?_
  have hge := Float64.decode_ge hd
  have : Float64.truncOf a m e = i := by
    refine trunc_val (N := 1074) (by simpa using hge) ?_
    unfold Float64.val at hval
    rw [hd] at hval
    exact hval
  rw [this]
  exact ⟨H, O, loc, .val (.int i), ⟨fun b o e _ => ⟨o, e, .refl ..⟩, fun b o e => ⟨o, e⟩, .refl _, fun b o e => .inl e, fun b e => .inl e⟩, st.ext (fun b o e => ⟨o, e, .refl ..⟩) st.gens (.refl _) (fun b o e => .inl e), rep_int H i _, h⟩
/- min(a, b) -/
theorem bi_min2 {a b : Int} (hh : Γ.A.handled = none) (h : Q (.int (if b < a then b else a)) loc) : OpN Γ loc (fun vs => call (.builtin "min") vs) [.int a, .int b] (VQ Q) X := by
  intro H O s vs st r
  obtain ⟨y, _, rfl, hy, z, _, rfl, hz, rfl⟩ := r
  obtain ⟨t, rfl⟩ := Rep.int_of hy
  obtain ⟨u, rfl⟩ := Rep.int_of hz
  refine min_two_ints hh fun h' tk hk => ?_
  refine ⟨H, O, loc, .val (.int (if b < a then b else a)), ⟨fun b o e _ => ⟨o, hk b o e, .refl ..⟩, fun b o e => ⟨o, hk b o e⟩, .refl _, fun b o e => .inl e, fun b e => .inl e⟩, st.ext (fun b o e => ⟨o, hk b o e, .refl ..⟩) st.gens (.refl _) (fun b o e => .inl e), ?_, h⟩
  show Rep H _ _
  split <;> exact rep_int ..
/- None in xs -/
theorem cmp_in_none (hi : ∀ A ∈ As, A.ion) (h : Q (.bool (As.any V.isNone)) loc) : Op2 Γ loc (compareOp .In) .none (.lst As) Q X := by
  intro H O s a b st ra rb
  cases ra.none_of
  refine gg fun GG hGG => ?_
  obtain ⟨l, o, xs, n, rfl, h2, h3, h4, h5⟩ := rb.lst_of
  refine hGG ?_
  have hy : ∀ y ∈ xs, IntOrNone y := fun y hy => by
    obtain ⟨i, hi', e⟩ := List.mem_iff_getElem.mp (Array.mem_toList_iff.mpr hy)
    have e' : xs.toList[i]? = some y := by rw [List.getElem?_eq_getElem hi', e]
    have hl := h5.length
    cases eA : As[i]? with
    | none => rw [List.getElem?_eq_none_iff] at eA; lia
    | some A =>
      obtain ⟨y', ey, ry⟩ := h5.get eA
      rw [e'] at ey; cases ey
      exact Rep.ion (hi A (List.mem_of_getElem? eA)) ry
  refine SeqInW.in_listW (fun y => y == .none) (fun y hm => ?_) ⟨o, st.agree _ _ h2, h3, n, h4⟩ ?_
  · rcases hy y hm with rfl | ⟨i, t, rfl⟩
    · exact fun prog w A E s Q h => SeqAt.EqAt.same Value.none prog w E Q h
    · exact fun prog w A E s Q h => SeqAt.EqAt.int_none i t prog w E Q h
  · have : xs.any (fun y => y == .none) = As.any V.isNone := by
      rw [← Array.any_toList]
      clear hy h4 hi rb h
      generalize xs.toList = ys at h5
      induction As generalizing ys with
      | nil => cases h5; rfl
      | cons A As ih =>
        refine gg fun GG hGG => ?_
        obtain ⟨y, ys', rfl, r1, r2⟩ := h5
        refine hGG ?_
        simp only [List.any_cons, r1.isNone]
        rw [ih _ r2]
    rw [this]
    exact ⟨H, O, loc, .val (.bool (As.any V.isNone)), .refl .., st, rep_bool H _, h⟩
/- what is left of the names: ghosts -/
noncomputable def GhSub (l₀ l : Loc) : Prop := ∀ x lv, l₀.lookup x = some lv → l.lookup x = some lv ∧ ∃ a As, x = gh a ∧ lv = .itr a As
theorem StH.forgetG {H : Hm} {O : OSet} {h h' : Heap} {os : OsState} {g : Array GenState} {m' : Str → Option Value} {l₀ : Loc} (hg : NoGh Γ) (st : StH Γ H O loc h os g) (hsb : Heap.SameBut Γ.env.locals h h') (hn : h'.Ns Γ.env.locals m') (hl : GhSub l₀ loc) : StH Γ H O l₀ h' os g := by
  have hv3 : ∀ a, VarIs Γ.env h' (gh a) (.ref a) := fun a => .inr (.inr ⟨hg a, a, rfl, rfl⟩)
  have hv4 : ∀ a, VarIs Γ.env h (gh a) (.ref a) := fun a => .inr (.inr ⟨hg a, a, rfl, rfl⟩)
  exact { st.forget hsb hn with
    vars := fun x lv e => by
      refine gg fun GG hGG => ?_
      obtain ⟨e', a, As, rfl, rfl⟩ := hl x lv e
      obtain ⟨v, hv, b, rfl, hO, hb, hi⟩ := st.vars _ _ e'
      refine hGG ?_
      subst hb
      have ne := (st.apart _ a _ e' rfl (hv4 a)).1
      exact ⟨.ref a, hv3 a, a, rfl, hO, rfl, hi.at fun o e => (hsb.2 a ne).trans e⟩
    sep := fun x y b l1 l2 e1 e2 _ _ v1 v2 => by
      refine gg fun GG hGG => ?_
      obtain ⟨_, a, _, rfl, _⟩ := hl x l1 e1
      obtain ⟨_, c, _, rfl, _⟩ := hl y l2 e2
      refine hGG ?_
      have h1 := (hv3 a).inj v1
      have h2 := (hv3 c).inj v2
      cases h1; cases h2; rfl
    apart := fun x b l1 e1 m v1 => by
      refine gg fun GG hGG => ?_
      obtain ⟨e', a, _, rfl, _⟩ := hl x l1 e1
      refine hGG ?_
      have h1 := (hv3 a).inj v1
      cases h1
      exact st.apart _ _ _ e' m (hv4 _) }
/- except T as n: a suite that returns; the ghosts stay -/
theorem hd_namedG {x : Exc} {t n m : Str} {tp pos : Pos} {tv : Value} {b₀ : Stmt} {suite : List Stmt} {hs : List ExceptHandler} (hgh : NoGh Γ) (hf : Γ.isFn) (g : GlobAt Γ.F t tv) (mt : Matches Γ.F x.cls tv true) (hmsg : x.msg = some m) (hn : Γ.env.kindOf n = some .local)
    (h : ∀ e, Exs (Γ.mark e) ((n, .val (.exc x.cls m)) :: loc) (b₀ :: suite) (fun fl l => ∃ l₀, GhSub l₀ l ∧ QF fl l₀) NoX)
    (hk : Γ.env.kindOf t = some .globalImplicit := by rfl) (hg : Γ.env.globals = mainGlobals := by rfl) (hb : Γ.env.builtins = builtinsNs := by rfl)
    (hd : (t == ("__debug__" : Str)) = false := by decide) (hcl : x.cls ≠ .none := by intro z; cases z) : Hd Γ loc x (.ExceptHandler (some (.Name t tp)) (some n) (b₀ :: suite) pos :: hs) QF X := by
  intro H₀ O₀ s₀ loc₀ H O s e st₀ nx st fl
  refine gg fun GG hGG => ?_
  obtain ⟨a, o, rfl, ho, hc⟩ := fl.ref
  refine hGG ?_
  refine wpAny_handleBy_cons (codeAny_handlers_test ?_) (by intro q; cases q)
  refine Calls.Name_function_global st.kind hk (wp_glob st g ?_ hg hb) hd
  refine mt _ _ _ s a o _ st.base ho hc ?_
  refine codeAny_handlers_suite_as ?_
  refine wp_setFlight (Γ := Γ.mark (.ref a)) (st₀.mark _) nx (st.mark _) fl fun h₁ n₁ st₁ fl₁ => ?_
  refine gg fun GG hGG => ?_
  obtain ⟨a', o', vs, tb, otb, tvs, ea, i2, i3, i4, i5, i6, i7, i8, _⟩ := id fl₁.is
  refine hGG ?_
  cases ea
  refine gg fun GG hGG => ?_
  obtain ⟨t', ot, k, tk, j1, j2, j3, j4⟩ := i8.1 m hmsg
  refine hGG ?_
  have hta : t' ≠ a := fun z => by rw [z, i4] at j2; cases j2
  have hod : Solid o' := ⟨fun es ep z => (by rw [i7] at z; cases z), by rw [i6]; exact hcl⟩
  have st₁' := st₁.freeze i5 hod i3 i4
  have n₁' := n₁.freeze i4 i2 (o := o')
  have rp : Rep (Hset H a o') (.exc x.cls m) (.ref a) := by
    simp only [Rep]
    exact ⟨a, o', vs, t', ot, k, tk, rfl, Hset.self _ _ _, i6, i7, j1, Hset.le i4 _ _ j2, j3, j4⟩
  refine wp_store (Γ := Γ.mark (.ref a)) (s := s₀) (s₁ := { s with heap := h₁ }) (x := n) (lv := .val (.exc x.cls m)) n₁' (st₀.mark _) st₁' rp (.inl hn) fun O₂ s₂ n₂ st₂ _ _ => ?_
  refine wpAny_mono (h (.ref a) (Hset H a o') O₂ s₂ st₂) (fun f s₃ p => ?_) fun ex s₃ p => p.no.elim
  refine gg fun GG hGG => ?_
  obtain ⟨H₃, O₃, l₃, flw, n₃, st₃, r₃, l₀, hsub, q₃⟩ := p
  have st₃' := st₃.unmark
  obtain ⟨mm, hmm⟩ := st₃'.ns
  refine hGG ?_
  refine wpAny_nameGoes hn hmm (by rw [st₃'.kind]; rfl) fun h' m' hn' hsb => ?_
  exact ⟨H₃, O₃, l₀, flw, (n₂.trans n₃).names st₃'.onsO hsb (let ⟨o, _, _, e, _⟩ := hn'; ⟨o, e⟩), st₃'.forgetG hgh hsb hn' hsub, r₃, q₃⟩
/- iter(xs): the iterator's state is told under a ghost name -/
theorem bi_iter (hgh : NoGh Γ) (h : ∀ a, (∀ Bs, loc.lookup (gh a) ≠ some (.itr a Bs)) → Q (.con (.ref a)) ((gh a, .itr a As) :: loc)) : OpN Γ loc (fun vs => call (.builtin "iter") vs) [.lst As] (VQ Q) X := by
  intro H O s vs st r
  obtain ⟨y, _, rfl, hy, rfl⟩ := r
  obtain ⟨a, o, xs, n, rfl, h2, h3, h4, h5⟩ := hy.lst_of
  refine Calls.call_function_entry (by decide +kernel) (by decide +kernel) it_entry (it_args _) ?_
  unfold Builtin.«iter»
  refine wpAny_bind (m := someArgs "iter" 1 2 _) (wpAny_of_eq (a := [Value.ref a]) (by first | rfl | kernel_rfl!) ?_)
  show wpAny _ _ (pyIter (.ref a) >>= _) _ _ _
  refine wpAny_bind (wpAny_pyIter_list ⟨o, st.agree _ _ h2, h3, n, h4⟩ (wpAny_pure ⟨_, rfl, ?_⟩))
  have st₁ := st.ext (h' := s.heap.push { cls := .type "list_iterator", data := .fields #[.ref a, .int 0 0] }) (fun b o e => ⟨o, Heap.get?_push_of_some _ e, .refl ..⟩) st.gens (.refl H) (fun b o e => .inl e)
  have fa := st.foreign (fresh_none s.heap)
  have fl := st₁.frames
  have fa₁ : Foreign Γ H O s.heap.objs.size := fa
  have st₂ := st₁.adopt hgh fa₁ (As := As) (.inl (.inl ⟨a, 0, o, xs, n, ⟨_, Heap.get?_push_size _ rfl, rfl, rfl⟩, h2, h3, h4, by simpa using h5⟩))
  refine ⟨H, _, _, .val (.con (.ref s.heap.objs.size)), ⟨fun b o e _ => ⟨o, Heap.get?_push_of_some _ e, .refl ..⟩, fun b o e => ⟨o, Heap.get?_push_of_some _ e⟩, .refl _, fun b o e => .inl e, fun b e => e.elim .inl fun z => .inr (by subst z; exact fresh_none _)⟩, st₂, rep_con H _, h _ fun Bs e => ?_⟩
  obtain ⟨v, hv, b, _, hO, rfl, _⟩ := st.vars _ _ e
  exact fa.o hO
end
end Mine
end
section
open PySem PySem.W PyProof.Rows
set_option linter.unusedVariables false
set_option maxRecDepth 100000
namespace Mine
section
variable {prog : Program} {w : World} {A : Around} {E : Value → Shared → Prop} {s : Shared}
/- a tuple's iterator at its end -/
theorem ti_end {it t : Addr} {i : Nat} {items : Array Value} {Q : Option Value → Shared → Prop} (hh : A.handled = none)
    (hit : s.heap.IsTupleIter it t i) (ht : s.heap.IsTuple t items) (hx : items[i]? = none)
    (hQ : ∀ h', Heap.ExtBut it s.heap h' → (∃ o, h'.get? it = some o) → Q none { s with heap := h' }) : wpAny (model prog w) A (pyNext (.ref it)) Q E s := by
  refine gg fun GG hGG => ?_
  obtain ⟨o, ho, hc, hd⟩ := id hit
  obtain ⟨ol, hol, _, nl, hdl⟩ := ht
  refine hGG ?_
  unfold pyNext
  refine wpAny_bind (wpAny_attempt (wpAny_callSpecial?_slot (name := Str.ofString "__next__") hit.typeIs F.slot_tuple_iterator_next
    (wpAny_call_entry F.slot_tuple_iterator_next hit.typeIs F.entry_tuple_iterator_next ?_ (F.args_tuple_iterator_next_1 _))))
  show wpAny _ _ (field (.ref it) 0 >>= _) _ _ s
  refine wpAny_bind (wpAny_field ho hd (x := .ref t) rfl ?_)
  show wpAny _ _ (if (Value.ref t == Value.none) = true then _ else _) _ _ s
  rw [if_neg (show ¬ ((Value.ref t == Value.none) = true) from Bool.false_ne_true)]
  show wpAny _ _ (field (.ref it) 1 >>= _) _ _ s
  refine wpAny_bind (wpAny_field ho hd (x := .int i 0) rfl ?_)
  show wpAny _ _ (seqItems? (.ref t) >>= _) _ _ s
  refine wpAny_bind (wpAny_seqItems hol hdl ?_)
  simp only [Int.toNat_natCast, hx]
  refine wpAny_bind (wpAny_rule (wpAny_bind (wpAny_setField ho hd (by simp) ?_)))
  show wpAny _ _ (newExc (.type "StopIteration") [] >>= _) _ _ _
  refine wpAny_bind ?_
  simp only [newExc, newTuple]
  refine wpAny_bind (wpAny_newObj_type ?_ (by size_fits))
  refine wpAny_bind (m := firstArgMember _ _) (wpAny_of_eq (a := Value.none) (by first | rfl | (simp only [firstArgMember]; rfl)) ?_)
  refine wpAny_newObj_type ?_ (by size_fits)
  simp only [raiseNew]
  refine wpAny_bind (wpAny_handled ?_)
  first | rw [show A.in1.handled = none from hh] | rw [hh]
  refine wpAny_bind (wpAny_pure (wpAny_throw ?_))
  refine wpAny_bind (wpAny_isInstance (T := "StopIteration") (b := true) ⟨_, Heap.get?_push_size _ rfl, rfl⟩ isSubtype_stop ?_)
  exact wpAny_pure (hQ _ (((Heap.SameBut.update ..).extBut.push _).push _) ⟨_, Heap.get?_push_of_some _ (Heap.get?_push_of_some _ (Heap.get?_update_self _ ho (Obj.isFreed_of_fields (Obj.data_mapFields hd _))))⟩)
theorem feed_tup {I t : Addr} {items : Array Value} (hh : A.handled = none) (hne : t ≠ I) :
    Feed prog w A I items.size (fun i v => items[i]? = some v) (fun i s => s.heap.IsTupleIter I t i ∧ s.heap.IsTuple t items) (fun _ => True) (· = I) where
  item := fun i s Q E hi hw k => (Walks.tuple (prog := prog) (w := w) hh I t hne items).item i s Q E hi hw fun v h' tk hP hw' hk => k v _ hP hw' ⟨fun b o hb e => hk b o (by simpa using hb) e, fun b o e => by
    by_cases z : b = I
    · subst z; obtain ⟨⟨q, e', _⟩, _⟩ := hw'; exact ⟨q, e'⟩
    · exact ⟨o, hk b o (by simpa using z) e⟩, id, rfl⟩
  done := fun s Q E hw k => ti_end hh hw.1 hw.2 (by simp) fun h' he hx => k _ trivial ⟨fun b o hb e => he b o hb e, fun b o e => by
    by_cases z : b = I
    · subst z; exact hx
    · exact ⟨o, he b o z e⟩, id, rfl⟩
  frame := fun i s h' tk hw k => ⟨hw.1.at fun o e => k _ o e, hw.2.at fun o e => k _ o e⟩
  frameE := fun _ _ _ _ _ => trivial
  old := fun i s b hw hb => by subst hb; obtain ⟨⟨q, e', _⟩, _⟩ := hw; exact ⟨q, e'⟩
/- a feed that another one leaves alone -/
structure Aside (H : Hm) (I : Addr) (W : Nat → Shared → Prop) (We : Shared → Prop) : Prop where
  w : ∀ i s s' J, J ≠ I → H J = none → W i s → Mvd (· = J) s s' → W i s'
  e : ∀ s s' J, J ≠ I → H J = none → We s → Mvd (· = J) s s' → We s'
/- what is known of an iterator that was handed over -/
noncomputable def Kept (H : Hm) (I : Addr) (As : List V) (W : Nat → Shared → Prop) (We : Shared → Prop) : Prop := (∀ i s, W i s → ItrN H s.heap I (As.drop i)) ∧ ∀ s, We s → Dead s.heap I
theorem aside_itr {H : Hm} {a : Addr} {As : List V} : Aside H a (fun i s => ItrN H s.heap a (As.drop i) ∧ ∀ b o, H b = some o → s.heap.get? b = some o) (fun s => Dead s.heap a) where
  w := fun i s s' J hJ hH hw m => ⟨hw.1.at fun o e => m.heap a o (fun z => hJ z.symm) e, fun b o e => m.heap b o (fun z => by subst z; rw [hH] at e; cases e) (hw.2 b o e)⟩
  e := fun s s' J hJ hH hw m => by
    obtain ⟨o, i, e1, e2, e3⟩ := hw
    exact ⟨o, i, m.heap a o (fun z => hJ z.symm) e1, e2, e3⟩
/- a source is opened -/
theorem wp_feed {H : Hm} {v : Value} {As : List V} {rel : Addr → Prop} {Q : Value → Shared → Prop} (hh : A.handled = none) (ag : ∀ b o, H b = some o → s.heap.get? b = some o) (r : SrcV H s.heap rel v As)
    (k : ∀ I P W We (h' : Heap), Feed prog w A I As.length P W We (· = I) → W 0 { s with heap := h' } → (∀ i v, i < As.length → P i v → ∃ B, As[i]? = some B ∧ Rep H B v) → H I = none → ((s.heap.get? I = none ∧ ∃ a o, v = .ref a ∧ H a = some o) ∨ (v = .ref I ∧ rel I ∧ Kept H I As W We)) → (∀ b o, s.heap.get? b = some o → h'.get? b = some o) → Aside H I W We → Q (.ref I) { s with heap := h' }) :
    wpAny (model prog w) A (pyIter v) Q E s := by
  have hn : ∀ I, s.heap.get? I = none → H I = none := fun I e => by
    cases e' : H I with
    | none => rfl
    | some o => have := ag I o e'; rw [e] at this; cases this
  have hP : ∀ (i : Nat) (v : Value), i < As.length → (∃ B, As[i]? = some B ∧ Rep H B v) → ∃ B, As[i]? = some B ∧ Rep H B v := fun _ _ _ h => h
  have hK : ∀ a, Kept H a As (fun i s => ItrN H s.heap a (As.drop i) ∧ ∀ b o, H b = some o → s.heap.get? b = some o) (fun s => Dead s.heap a) := fun a => ⟨fun i s h => h.1, fun s h => h⟩
  rcases r with ⟨B, hB, r⟩ | ⟨a, rfl, hm, hr, hi⟩
  · rcases hB with rfl | rfl
    · obtain ⟨l, o, xs, n, rfl, h2, h3, h4, h5⟩ := r.lst_of
      refine wpAny_pyIter_list ⟨o, ag _ _ h2, h3, n, h4⟩ ?_
      have hI := hn _ (fresh_none s.heap)
      refine k _ _ _ _ _ (feed_itr (H := H) hh hI) ⟨.inl ⟨l, 0, o, xs, n, ⟨_, Heap.get?_push_size _ rfl, rfl, rfl⟩, h2, h3, h4, by simpa using h5⟩, fun b o e => Heap.get?_push_of_some _ (ag b o e)⟩ hP hI (.inl ⟨fresh_none _, _, _, rfl, h2⟩) (fun b o e => Heap.get?_push_of_some _ e) aside_itr
    · obtain ⟨l, o, xs, n, rfl, h2, h3, h4, h5⟩ := r.tup_of
      have hT : s.heap.IsTuple l xs := ⟨o, ag _ _ h2, h3, n, h4⟩
      refine wpAny_pyIter_tuple hT ?_
      have hI := hn _ (fresh_none s.heap)
      have hne : l ≠ s.heap.objs.size := fun z => by rw [z, hI] at h2; cases h2
      have hlen : xs.size = As.length := by rw [← h5.length]; simp
      have Fd := feed_tup (prog := prog) (w := w) (items := xs) hh hne
      rw [hlen] at Fd
      refine k _ _ _ _ _ Fd ⟨⟨_, Heap.get?_push_size _ rfl, rfl, rfl⟩, hT.at fun o e => Heap.get?_push_of_some _ e⟩ (fun i v hi hv => ?_) hI (.inl ⟨fresh_none _, _, _, rfl, h2⟩) (fun b o e => Heap.get?_push_of_some _ e) ⟨fun i s s' J hJ hH hw m => ⟨hw.1.at fun o e => m.heap _ o (fun z => hJ z.symm) e, hw.2.at fun o e => m.heap _ o (fun z => by rw [z, hH] at h2; cases h2) e⟩, fun _ _ _ _ _ _ _ => trivial⟩
      cases hA : As[i]? with
      | none => rw [List.getElem?_eq_none_iff] at hA; omega
      | some B =>
        obtain ⟨y, ey, ry⟩ := h5.get hA
        have : xs.toList[i]? = some v := by simpa using hv
        rw [this] at ey; cases ey
        exact ⟨B, rfl, ry⟩
  · have hW0 : ItrN H s.heap a (As.drop 0) := by rw [List.drop_zero]; exact hi
    have fin : Q (.ref a) { s with heap := s.heap } := k _ _ _ _ _ (feed_itr (H := H) hh hm) ⟨hW0, ag⟩ hP hm (.inr ⟨rfl, hr, hK a⟩) (fun b o e => e) aside_itr
    rcases hi with ⟨l, i, o, xs, n, hit, _⟩ | ⟨_, hdead⟩
    · exact wpAny_pyIter_listiter hit fin
    · exact iter_dead hdead fin
end
/- what is handed over: a sequence, or an iterator -/
inductive Sr
  | seq (A : V) (As : List V)
  | it (a : Addr) (As : List V)
noncomputable def Sr.v : Sr → V
  | .seq A _ => A
  | .it a _ => .con (.ref a)
noncomputable def Sr.items : Sr → List V
  | .seq _ As => As
  | .it _ As => As
noncomputable def Sr.gs : Sr → Gs
  | .seq _ _ => []
  | .it a As => [(a, As)]
noncomputable def Sr.left (r : List V) : Sr → Sr
  | .seq A As => .seq A As
  | .it a _ => .it a r
noncomputable def Sr.In (loc : Loc) : Sr → Prop
  | .seq A As => A = .lst As ∨ A = .tup As
  | .it a As => loc.lookup (gh a) = some (.itr a As)
noncomputable def Sr.put (r : List V) (loc : Loc) : Sr → Loc
  | .seq _ _ => loc
  | .it a _ => (gh a, .itr a r) :: loc
noncomputable def Sr.adr : Sr → Addr → Prop
  | .seq _ _ => fun _ => False
  | .it a _ => fun b => b = a
theorem ion_tag {As : List V} (h : ∀ A ∈ As, A.ion) : As ≠ [tagV] := fun z => by
  rcases h tagV (by rw [z]; exact List.mem_singleton.mpr rfl) with e | ⟨i, e⟩ <;> cases e
section
variable {Γ : Cx} {loc : Loc} {Q : V → Loc → Prop} {X : Exc → Loc → Prop} {S : Sr}
/- behind something that walked along a source -/
theorem fed {H : Hm} {O : OSet} {s s' : Shared} {r : List V} (hgh : NoGh Γ) (si : S.In loc) (st : St Γ H O loc s) (kp : ∀ b o, ¬ S.adr b → s.heap.get? b = some o → s'.heap.get? b = some o) (th : ∀ b o, s.heap.get? b = some o → ∃ o', s'.heap.get? b = some o')
    (hg : AllBare s'.gens) (hos : s'.os = s.os) (hr : ∀ a As, S = .it a As → ItrN H s'.heap a r) : Nx Γ.F H O s.heap H O s'.heap ∧ St Γ H O (S.put r loc) s' := by
  cases S with
  | seq A As =>
    have kp' : ∀ b o, s.heap.get? b = some o → s'.heap.get? b = some o := fun b o e => kp b o (fun z => z) e
    have st' : St Γ H O loc s' := st.extW (fun _ => False) (fun b z => z.elim) (fun b o _ e => ⟨o, kp' b o e, .refl ..⟩) hg (.refl _) (hos.trans st.os) fun b o e => .inl e
    exact ⟨⟨fun b o e _ => ⟨o, kp' b o e, .refl ..⟩, fun b o e => ⟨o, kp' b o e⟩, .refl _, fun b o e => .inl e, fun b e => .inl e⟩, st'⟩
  | it a As =>
    have hl : ∀ p ∈ [(a, As)], loc.lookup (gh p.1) = some (.itr p.1 p.2) := fun p hp => by rw [List.mem_singleton.mp hp]; exact si
    have nd : ([(a, As)].map (·.1)).Nodup := by simp
    obtain ⟨st₁, rl⟩ := st.releases [(a, As)] hl nd
    obtain ⟨hO, fa, _⟩ := rl (a, As) (List.mem_singleton.mpr rfl)
    have st₂ := st₁.extW (h' := s'.heap) (g' := s'.gens) (H' := H) (os' := s'.os) (fun b => b = a) (fun b z => by subst z; exact fa) (fun b o hb e => ⟨o, kp b o hb e, .refl ..⟩) hg (.refl _) (hos.trans st.os) fun b o e => .inl e
    have adr : ∀ b, Gs.adr [(a, As)] b ↔ b = a := fun b => by simp [Gs.adr]
    exact lent_back (gs' := [(a, r)]) hgh st hl nd rfl ⟨fun b o e hb => ⟨o, kp b o (fun z => hb ((adr b).mpr z)) e, .refl ..⟩, fun b o e => th b o e, .refl _, fun b o e => .inl e, fun b e => .inl e⟩ st₂.wsp
      ⟨by simp, fun p hp => by rw [List.mem_singleton.mp hp]; exact ⟨.inl (hr a As rfl), fa.base, fa.hm, fa.tab⟩⟩
theorem Sr.src {H : Hm} {O : OSet} {s : Shared} {v : Value} (si : S.In loc) (hi : S.items ≠ [tagV]) (st : St Γ H O loc s) (r : Rep H S.v v) : SrcV H s.heap S.adr v S.items := by
  cases S with
  | seq A As => exact .inl ⟨A, si, r⟩
  | it a As =>
    have : v = .ref a := Rep.con_of r
    subst this
    refine gg fun GG hGG => ?_
    obtain ⟨w, _, b, _, hO, hb, hit⟩ := st.vars _ _ si
    refine hGG ?_
    subst hb
    exact .inr ⟨a, rfl, st.ohm _ hO, rfl, hit.resolve_right fun z => hi z.1⟩
theorem ion_fin {B : V} (h : B.ion) : B.fin ∨ B = .none := by
  rcases h with rfl | ⟨i, rfl⟩
  · exact .inr rfl
  · exact .inl trivial
/- fsum(x) of ints and None -/
theorem bi_fsumG (hgh : NoGh Γ) (hh : Γ.A.handled = none) (si : S.In loc) (hz : S.items.length < sizeLine) (hi : ∀ A ∈ S.items, A.ion) (hQ : ∀ d, fsumX [] S.items = (.ok d, []) → Q (.flt d) (S.put [] loc)) (hX : ∀ c r, fsumX [] S.items = (.error c, r) → X ⟨.type c, none⟩ (S.put r loc)) :
    OpN Γ loc (fun vs => call (.builtin "math.fsum") vs) [S.v] (VQ Q) X := by
  intro H O s vs st r
  obtain ⟨v, _, rfl, hv, rfl⟩ := r
  have src := S.src si (ion_tag hi) st hv
  refine wp_fsumF (H := H) (As := S.items) hh hz (wp_feed (A := Γ.A.in1) hh st.agree src fun I P W We h' Fd w0 hP hI hor hk asd => ?_)
  have kp : ∀ s' : Shared, Mvd (· = I) { s with heap := h' } s' → (∀ b o, ¬ S.adr b → s.heap.get? b = some o → s'.heap.get? b = some o) ∧ (∀ b o, s.heap.get? b = some o → ∃ o', s'.heap.get? b = some o') ∧ AllBare s'.gens ∧ s'.os = s.os := fun s' m =>
    ⟨fun b o hb e => m.heap b o (fun z => by
      subst z
      rcases hor with ⟨h, _⟩ | ⟨_, h, _⟩
      · rw [h] at e; cases e
      · exact hb h) (hk b o e), fun b o e => m.there b o (hk b o e), m.gens st.gens, m.os⟩
  have kt : ∀ (a : Addr) (As : List V), S = .it a As → I = a ∧ Kept H I S.items W We := fun a As e => by
    subst e
    have : v = .ref a := Rep.con_of hv
    subst this
    rcases hor with ⟨_, c, o, h1, h2⟩ | ⟨h1, _, h3⟩
    · obtain ⟨w, _, b, _, hO, hb, _⟩ := st.vars _ _ si
      subst hb
      cases h1
      rw [st.ohm _ hO] at h2; cases h2
    · cases h1; exact ⟨rfl, h3⟩
  refine ⟨I, P, W, We, _, rfl, Fd, w0, fun i v hi' hp => ?_, fun d t s' hd hwe m => ?_, fun c j s' h'' tk e hj hc hw m ne => ?_⟩
  · obtain ⟨B, e1, e2⟩ := hP i v hi' hp
    exact ⟨B, e1, e2, ion_fin (hi B (List.mem_of_getElem? e1))⟩
  · obtain ⟨k1, k2, k3, k4⟩ := kp s' m
    obtain ⟨n', st'⟩ := fed (r := []) hgh si st k1 k2 k3 k4 fun a As e => by
      obtain ⟨rfl, h⟩ := kt a As e
      exact .inr ⟨rfl, h.2 _ hwe⟩
    exact ⟨H, O, _, .val (.flt d), n', st', rep_flt H d t, hQ d hd⟩
  · obtain ⟨k1, k2, k3, k4⟩ := kp s' m
    obtain ⟨n', st'⟩ := fed (r := S.items.drop (j + 1)) hgh si st k1 k2 k3 k4 fun a As e => by
      obtain ⟨rfl, h⟩ := kt a As e
      exact h.1 _ _ hw
    exact (PostX.new st' ne (hX c _ hc)).back n'
/- list(x) -/
theorem bi_listG (hgh : NoGh Γ) (hh : Γ.A.handled = none) (si : S.In loc) (hz : S.items.length ≤ sizeLine) (hi : ∀ A ∈ S.items, A.ion) (h : Q (.lst S.items) (S.put [] loc)) : OpN Γ loc (fun vs => call (.type "list") vs) [S.v] (VQ Q) X := by
  cases S with
  | seq A As => exact bi_list si hz h
  | it a As =>
    intro H O s vs st r
    obtain ⟨v, _, rfl, hv, rfl⟩ := r
    have : v = .ref a := Rep.con_of hv
    subst this
    have hx : loc.lookup (gh a) = some (.itr a As) := si
    obtain ⟨w, _, b, _, hO, hb, hit⟩ := st.vars _ _ hx
    subst hb
    have hm := st.ohm _ hO
    replace hit := hit.resolve_right fun z => ion_tag hi z.1
    have fin : ∀ (h' : Heap) (tk : Nat) (acc : Array Value) (c : Nat), (∀ b o, b ≠ a → s.heap.get? b = some o → h'.get? b = some o) → Dead h' a → h'.get? s.heap.objs.size = some { cls := .type "list", dict := none, data := .seq acc c, slots := #[] } → Reps H As acc.toList →
        PostV Γ H O s (VQ Q) (.ref s.heap.objs.size) { s with heap := h', toks := tk } := by
      intro h' tk acc c hk hd hS hr
      obtain ⟨n₂, st₂⟩ := fed (S := .it a As) (s' := { s with heap := h', toks := tk }) (r := []) hgh si st (fun b o hb e => hk b o hb e) (fun b o e => by
        by_cases z : b = a
        · subst z; obtain ⟨o, _, e, _⟩ := hd; exact ⟨o, e⟩
        · exact ⟨o, hk b o z e⟩) st.gens rfl fun a' As' e => by cases e; exact .inr ⟨rfl, hd⟩
      have fn := st.foreign (fresh_none s.heap)
      exact ⟨Hset H s.heap.objs.size _, _, _, .val (.lst As), n₂.freeze fn.hm (fresh_none _), st₂.freeze hS (seq_nodict rfl) fn.o fn.hm, rep_new_lst fn.hm rfl rfl hr, h⟩
    rcases hit with ⟨l, i, o, xs, n, hit, hl, hc, hdt, rs⟩ | ⟨rfl, hdead⟩
    · have hne : l ≠ a := fun z => by rw [z, hm] at hl; cases hl
      have W := walks_from (prog := Γ.F.prog) (w := Γ.F.w) (A := Γ.A.in1.in1) hh a l hne xs i
      have La := li_lastD (prog := Γ.F.prog) (w := Γ.F.w) (A := Γ.A.in1.in1) hh a l xs i
      have hlen : xs.size - i = As.length := by rw [← rs.length]; simp
      rw [hlen] at W La
      have ll : s.heap.IsList l xs := ⟨o, st.agree _ _ hl, hc, n, hdt⟩
      refine call_list_li La W (fun j h hw => ?_) ⟨hit, ll⟩ (fun b hb => ?_) (fun h' tk acc c hk ht hS hacc => ?_) hz
      · obtain ⟨⟨q, e1, e2, _⟩, _⟩ := hw; exact ⟨q, e1, e2⟩
      · rcases List.mem_cons.mp hb with rfl | hb
        · obtain ⟨q, e1, _⟩ := hit; exact Heap.lt_size e1
        · rw [List.mem_singleton.mp hb]; exact Heap.lt_size (st.agree _ _ hl)
      · refine fin h' tk acc c hk ht hS ?_
        refine Reps.of_get (by simp [hacc.1]) fun j B y eB ey => ?_
        have hy := hacc.2 j y (by simpa using ey)
        obtain ⟨y', e', r'⟩ := rs.get eB
        have e'' : xs[i + j]? = some y' := by simpa using e'
        rw [hy] at e''; cases e''
        exact r'
    · refine call_list_li (dead_lastD (A := Γ.A.in1.in1) hh a) (walks_dead (A := Γ.A.in1.in1) hh a (fun _ _ => False)) (fun j h hw => ?_) hdead (fun b hb => ?_) (fun h' tk acc c hk ht hS hacc => ?_) hz
      · obtain ⟨q, i, e1, e2, _⟩ := hw; exact ⟨q, e1, e2⟩
      · obtain ⟨q, i, e1, _⟩ := hdead
        rw [List.mem_singleton.mp hb]; exact Heap.lt_size e1
      · refine fin h' tk acc c hk ht hS ?_
        have : acc.toList = [] := by
          have := hacc.1
          simpa using this
        rw [this]; exact reps_nil _
/- sumprod(x, y) of ints and None, y a sequence -/
theorem bi_sumprodG {B : V} {Bs : List V} (hgh : NoGh Γ) (hh : Γ.A.handled = none) (si : S.In loc) (hi : ∀ A ∈ S.items, A.ion) (hB : B = .lst Bs ∨ B = .tup Bs) (hj : ∀ A ∈ Bs, A.ion) (mo : ∀ (i : Nat) (a b : Int), S.items[i]? = some (.int a) → Bs[i]? = some (.int b) → IntMulOk a b)
    (hQ : ∀ T, spX 0 S.items Bs = (.ok (.int T), []) → Q (.int T) (S.put [] loc)) (hX : ∀ c r, spX 0 S.items Bs = (.error c, r) → X ⟨.type c, none⟩ (S.put r loc)) :
    OpN Γ loc (fun vs => call (.builtin "math.sumprod") vs) [S.v, B] (VQ Q) X := by
  intro H O s vs st r
  obtain ⟨v, _, rfl, hv, u, _, rfl, hu, rfl⟩ := r
  have src := S.src si (ion_tag hi) st hv
  refine wp_sumprodF (H := H) (As := S.items) (Bs := Bs) hh (wp_feed (A := Γ.A.in1) hh st.agree src fun I P W We h' Fd w0 hP hI hor hk asd => ?_)
  have ag' : ∀ b o, H b = some o → h'.get? b = some o := fun b o e => hk b o (st.agree b o e)
  refine wp_feed (A := Γ.A.in1) (s := { s with heap := h' }) (rel := fun _ => False) hh ag' (.inl ⟨B, hB, hu⟩) fun J P' W' We' h₂ Fd' w0' hP' hJ hor' hk' asd' => ?_
  have hJn : h'.get? J = none := by
    rcases hor' with ⟨h, _⟩ | ⟨_, h, _⟩
    · exact h
    · exact h.elim
  have hIJ : I ≠ J := fun z => by
    obtain ⟨o, e⟩ := Fd.old 0 _ I w0 rfl
    have e' : h'.get? I = some o := e
    rw [z, hJn] at e'; cases e'
  have kp : ∀ s' : Shared, Mvd (IJ I J) { s with heap := h₂ } s' → (∀ b o, ¬ S.adr b → s.heap.get? b = some o → s'.heap.get? b = some o) ∧ (∀ b o, s.heap.get? b = some o → ∃ o', s'.heap.get? b = some o') ∧ AllBare s'.gens ∧ s'.os = s.os := fun s' m =>
    ⟨fun b o hb e => m.heap b o (fun z => by
      rcases z with z | z
      · subst z
        rcases hor with ⟨h, _⟩ | ⟨_, h, _⟩
        · rw [h] at e; cases e
        · exact hb h
      · subst z; rw [hk _ o e] at hJn; cases hJn) (hk' b o (hk b o e)), fun b o e => m.there b o (hk' b o (hk b o e)), m.gens st.gens, m.os⟩
  have kt : ∀ (a : Addr) (As : List V), S = .it a As → I = a ∧ Kept H I S.items W We := fun a As e => by
    subst e
    have : v = .ref a := Rep.con_of hv
    subst this
    rcases hor with ⟨_, c, o, h1, h2⟩ | ⟨h1, _, h3⟩
    · obtain ⟨w, _, b, _, hO, hb, _⟩ := st.vars _ _ si
      subst hb
      cases h1
      rw [st.ohm _ hO] at h2; cases h2
    · cases h1; exact ⟨rfl, h3⟩
  refine ⟨I, J, P, P', W, W', We, We', rfl, rfl, ⟨Fd, Fd', hIJ, fun i s s' hw m => asd.w i s s' J (Ne.symm hIJ) hJ hw m, fun s s' hw m => asd.e s s' J (Ne.symm hIJ) hJ hw m, fun i s s' hw m => asd'.w i s s' I hIJ hI hw m, fun i v hi' hp => ?_, fun i v hi' hp => ?_, mo⟩, ?_, w0', fun T t s' hd hwe m => ?_, fun c left s' h'' tk e hc hor₂ m ne => ?_⟩
  · obtain ⟨B, e1, e2⟩ := hP i v hi' hp
    exact ⟨B, e1, e2, hi B (List.mem_of_getElem? e1)⟩
  · obtain ⟨B, e1, e2⟩ := hP' i v hi' hp
    exact ⟨B, e1, e2, hj B (List.mem_of_getElem? e1)⟩
  · exact Fd.frame 0 { s with heap := h' } h₂ s.toks w0 hk'
  · obtain ⟨k1, k2, k3, k4⟩ := kp s' m
    obtain ⟨n', st'⟩ := fed (r := []) hgh si st k1 k2 k3 k4 fun a As e => by
      obtain ⟨rfl, h⟩ := kt a As e
      exact .inr ⟨rfl, h.2 _ hwe⟩
    exact ⟨H, O, _, .val (.int T), n', st', rep_int H T t, hQ T hd⟩
  · obtain ⟨k1, k2, k3, k4⟩ := kp s' m
    obtain ⟨n', st'⟩ := fed (r := left) hgh si st k1 k2 k3 k4 fun a As e => by
      obtain ⟨rfl, h⟩ := kt a As e
      rcases hor₂ with ⟨rfl, h2⟩ | ⟨j, _, rfl, h2⟩
      · exact .inr ⟨rfl, h.2 _ h2⟩
      · exact h.1 _ _ h2
    exact (PostX.new st' ne (hX c _ hc)).back n'
/- isinstance(x, (list, tuple)) -/
noncomputable def Sr.isSeq : Sr → Bool
  | .seq _ _ => true
  | .it _ _ => false
theorem ev_isinstanceG {x : Str} {p px pl pt ptup pos : Pos} {k : Nat} (g : GlobAt Γ.F "isinstance" (.builtin "isinstance")) (gl : GlobAt Γ.F "list" (.type "list")) (gt : GlobAt Γ.F "tuple" (.type "tuple")) (hx : loc.lookup x = some (.val S.v)) (si : S.In loc) (hi : S.items ≠ [tagV]) (h : Q (.bool S.isSeq) loc)
    (hk : Γ.env.kindOf "isinstance" = some .globalImplicit := by rfl) (hkl : Γ.env.kindOf "list" = some .globalImplicit := by rfl) (hkt : Γ.env.kindOf "tuple" = some .globalImplicit := by rfl) (hg : Γ.env.globals = mainGlobals := by rfl) (hbi : Γ.env.builtins = builtinsNs := by rfl) (hd : (x == ("__debug__" : Str)) = false := by decide) (hn : notPlain x = false := by decide) :
    Ev Γ loc (.Call (.Name "isinstance" p) [.Name x px, .Tuple [.Name "list" pl, .Name "tuple" pt] k ptup] [] pos) (VQ Q) X := by
  cases S with
  | seq A As =>
    have hb : LV.isSeq (.val A) = some true := by
      rcases (show A = .lst As ∨ A = .tup As from si) with rfl | rfl <;> rfl
    exact ev_isinstance g gl gt hx hb h hk hkl hkt hg hbi hd hn
  | it a As =>
    intro H O s st
    obtain ⟨v, hv, hl⟩ := st.vars x _ hx
    have : v = .ref a := Rep.con_of (H := H) hl
    subst this
    refine gg fun GG hGG => ?_
    obtain ⟨_, _, b, _, hO, hb, hit⟩ := st.vars (gh a) _ si
    refine hGG ?_
    subst hb
    replace hit := hit.resolve_right fun z => hi z.1
    refine gg fun GG hGG => ?_
    obtain ⟨oi, _, e1, e2, _⟩ := hit.obj
    refine hGG ?_
    refine wpAny_Call_Name_kw (Calls.Name_function_global st.kind hk (wp_glob st g ?_ hg hbi) (by decide))
    show wpAny _ _ (callWith pos (.builtin "isinstance") [] _ []) _ _ _
    refine Calls.callWith_builtin (by rfl) (Calls.evalArgs_plain ?_)
    refine wpAny_items_cons (wpAny_Name (wp_var st.kind hv (wpAny_items_cons (wpAny_Tuple ?_)) hn) hd)
    refine wpAny_items_cons (Calls.Name_function_global st.kind hkl (wp_glob st gl ?_ hg hbi) (by decide))
    refine wpAny_items_cons (Calls.Name_function_global st.kind hkt (wp_glob st gt ?_ hg hbi) (by decide))
    refine wpAny_items_nil ⟨by show 2 ≤ sizeLine; decide, wpAny_items_nil ?_⟩
    exact IsiPair.tupleOfB (Tx := "list_iterator") (isi_i a) ⟨oi, Heap.get?_push_of_some _ e1, e2⟩ (Heap.get?_push_size _ rfl) rfl fun tk =>
      ⟨H, O, loc, .val (.bool false), ⟨fun b o e _ => ⟨o, Heap.get?_push_of_some _ e, .refl ..⟩, fun b o e => ⟨o, Heap.get?_push_of_some _ e⟩, .refl _, fun b o e => .inl e, fun b e => .inl e⟩,
        st.ext (fun b o e => ⟨o, Heap.get?_push_of_some _ e, .refl ..⟩) st.gens (.refl _) (fun b o e => .inl e), rep_bool H false, h⟩
end
end Mine
end
section
open PySem PySem.W PyProof.Rows
set_option linter.unusedVariables false
set_option maxRecDepth 100000
namespace Mine
section
variable {Γ : Cx} {loc : Loc} {QF : Fl → Loc → Prop} {X : Exc → Loc → Prop} {x : Exc}
/- no handler is left: the exception goes on -/
theorem hd_nil (h : X x loc) : Hd Γ loc x [] QF X := by
  intro H₀ O₀ s₀ loc₀ H O s e st₀ nx st fl
  obtain ⟨a, o, vs, tb, otb, tvs, rfl, h2, h3, h4, h5, h6, h7, h8, k1, _⟩ := id fl.is
  refine wpAny_handleBy_nil ?_
  unfold PySem.passOn
  refine wpAny_bind (wpAny_field h5 h7 k1 ?_)
  rw [if_neg (by simp)]
  refine wpAny_bind (wp_setFlight st₀ nx st fl fun h' n' st' fl' => ?_)
  exact wpAny_throw ⟨H, O, loc, x, n', st', fl'.fly, h⟩
end
/- the ghosts' state in loc -/
noncomputable def AtG (loc : Loc) (gs : Gs) : Prop := ∀ p ∈ gs, loc.lookup (gh p.1) = some (.itr p.1 p.2)
theorem AtG.var {loc : Loc} {gs : Gs} {x : Str} {lv : LV} (h : AtG loc gs) (hx : ∀ a, (gh a == x) = false) : AtG ((x, lv) :: loc) gs := fun p hp => loc_put (h p hp) (hx _)
theorem AtG.sub {loc : Loc} {gs gs' : Gs} (h : AtG loc gs) (hs : ∀ p ∈ gs', p ∈ gs) : AtG loc gs' := fun p hp => h p (hs p hp)
theorem AtG.inS {loc : Loc} {S : Sr} (h : AtG loc S.gs) (hs : ∀ A As, S = .seq A As → A = .lst As ∨ A = .tup As) : S.In loc := by
  cases S with
  | seq A As => exact hs A As rfl
  | it a As => exact h (a, As) (List.mem_singleton.mpr rfl)
/- a source's rest is written -/
theorem AtG.put {loc : Loc} {S : Sr} {r : List V} {g1 g2 : Gs} (h : AtG loc (g1 ++ S.gs ++ g2)) (nd : ((g1 ++ S.gs ++ g2).map (·.1)).Nodup) : AtG (S.put r loc) (g1 ++ (S.left r).gs ++ g2) := by
  cases S with
  | seq A As => exact h
  | it a As =>
    intro p hp
    show List.lookup (gh p.1) ((gh a, LV.itr a r) :: loc) = _
    have nd' : ((g1.map (·.1)) ++ [a] ++ (g2.map (·.1))).Nodup := by simpa [Sr.gs] using nd
    have hne : ∀ b, b ∈ g1.map (·.1) ∨ b ∈ g2.map (·.1) → b ≠ a := by
      intro b hb z
      subst z
      rw [List.append_assoc] at nd'
      rcases hb with hb | hb
      · exact (List.nodup_append.mp nd').2.2 b hb b (by simp) rfl
      · have := (List.nodup_append.mp nd').2.1
        rw [List.singleton_append, List.nodup_cons] at this
        exact this.1 hb
    have go : ∀ p : Addr × List V, p.1 ≠ a → p ∈ g1 ++ (Sr.it a As).gs ++ g2 → List.lookup (gh p.1) ((gh a, LV.itr a r) :: loc) = some (.itr p.1 p.2) := fun p hn hp => by
      rw [lookup_cons_ne fun z => hn (gh_inj z)]
      exact h p hp
    rcases List.mem_append.mp hp with hp | hp
    · rcases List.mem_append.mp hp with hp | hp
      · exact go p (hne _ (.inl (List.mem_map.mpr ⟨p, hp, rfl⟩))) (List.mem_append_left _ (List.mem_append_left _ hp))
      · rw [List.mem_singleton.mp hp]; exact lookup_cons_self ..
    · exact go p (hne _ (.inr (List.mem_map.mpr ⟨p, hp, rfl⟩))) (List.mem_append_right _ hp)
theorem Sr.left_adr (S : Sr) (r : List V) : (S.left r).gs.map (·.1) = S.gs.map (·.1) := by cases S <;> rfl
theorem gloc_at {gs : Gs} {l : Loc} (nd : (gs.map (·.1)).Nodup) : AtG (gs.loc ++ l) gs := fun p hp => by
  rw [lookup_app, gloc_lookup_in nd p hp]; rfl
theorem gloc_has {gs : Gs} {l : Loc} {x : Str} {lv : LV} (hx : ∀ a, x ≠ gh a) (h : l.lookup x = some lv) : List.lookup x (gs.loc ++ l) = some lv := by
  rw [lookup_app, gloc_lookup_not fun p _ => hx _]; exact h
theorem Sr.put_has {S : Sr} {r : List V} {l : Loc} {x : Str} {lv : LV} (hx : ∀ a, x ≠ gh a) (h : l.lookup x = some lv) : (S.put r l).lookup x = some lv := by
  cases S with
  | seq A As => exact h
  | it a As =>
    show List.lookup x ((gh a, LV.itr a r) :: l) = _
    rw [lookup_cons_ne (hx a)]; exact h
theorem not_gh {x : Str} (h : notPlain x = false) : ∀ a, x ≠ gh a := fun a z => by
  subst z
  rw [gh_not] at h; cases h
/- a name that is no ghost's -/
theorem gh_ne {x : Str} (h : notPlain x = false) (a : Addr) : (gh a == x) = false := by
  rw [beq_eq_false_iff_ne]; exact fun z => not_gh h a z.symm
theorem len_nil {l : List Value} (h : l.length = 0) : l = [] := List.eq_nil_of_length_eq_zero h
theorem len_one {l : List Value} (h : l.length = 1) : ∃ a, l = [a] := by
  cases l with
  | nil => cases h
  | cons a l => exact ⟨a, by rw [len_nil (Nat.succ.inj h)]⟩
theorem len_two {l : List Value} (h : l.length = 2) : ∃ a b, l = [a, b] := by
  cases l with
  | nil => cases h
  | cons a l =>
    obtain ⟨b, rfl⟩ := len_one (Nat.succ.inj h)
    exact ⟨a, b, rfl⟩
theorem len_three {l : List Value} (h : l.length = 3) : ∃ a b c, l = [a, b, c] := by
  cases l with
  | nil => cases h
  | cons a l =>
    obtain ⟨b, c, rfl⟩ := len_two (Nat.succ.inj h)
    exact ⟨a, b, c, rfl⟩
end Mine
end
section
open PySem PySem.W PyProof.Rows
namespace Mine
set_option maxRecDepth 100000 in
set_option maxHeartbeats 8000000 in
open_top hd08 for PySem.Challenge.rw_dn0169_08
end Mine
end
section
open PySem PySem.W PyProof.Rows
set_option linter.unusedVariables false
set_option maxRecDepth 100000
namespace Mine
noncomputable abbrev K8 (P : Params) : Frag := hd08.heap_39 P
theorem fn_fmean (P : Params) : fnOk (K8 P) 63 (fdAt (K8 P) 13) (bdAt (K8 P) 13) :=
  ⟨⟨_, rfl, rfl⟩, ⟨62, _, _, _, rfl, rfl, rfl, rfl⟩, rfl, rfl, rfl, rfl, rfl⟩
theorem fn_small (P : Params) : fnOk (K8 P) 70 (fdAt (K8 P) 18) (bdAt (K8 P) 18) :=
  ⟨⟨_, rfl, rfl⟩, ⟨69, _, _, _, rfl, rfl, rfl, rfl⟩, rfl, rfl, rfl, rfl, rfl⟩
theorem fn_rounded (P : Params) : fnOk (K8 P) 77 (fdAt (K8 P) 23) (bdAt (K8 P) 23) :=
  ⟨⟨_, rfl, rfl⟩, ⟨76, _, _, _, rfl, rfl, rfl, rfl⟩, rfl, rfl, rfl, rfl, rfl⟩
theorem fn_alone (P : Params) : fnOk (K8 P) 84 (fdAt (K8 P) 28) (bdAt (K8 P) 28) :=
  ⟨⟨_, rfl, rfl⟩, ⟨83, _, _, _, rfl, rfl, rfl, rfl⟩, rfl, rfl, rfl, rfl, rfl⟩
theorem fn_due (P : Params) : fnOk (K8 P) 89 (fdAt (K8 P) 31) (bdAt (K8 P) 31) :=
  ⟨⟨_, rfl, rfl⟩, ⟨88, _, _, _, rfl, rfl, rfl, rfl⟩, rfl, rfl, rfl, rfl, rfl⟩
theorem fn_told (P : Params) : fnOk (K8 P) 96 (fdAt (K8 P) 36) (bdAt (K8 P) 36) :=
  ⟨⟨_, rfl, rfl⟩, ⟨95, _, _, _, rfl, rfl, rfl, rfl⟩, rfl, rfl, rfl, rfl, rfl⟩
theorem fn_holds (P : Params) : fnOk (K8 P) 103 (fdAt (K8 P) 41) (bdAt (K8 P) 41) :=
  ⟨⟨_, rfl, rfl⟩, ⟨102, _, _, _, rfl, rfl, rfl, rfl⟩, rfl, rfl, rfl, rfl, rfl⟩
theorem fn_law (P : Params) : fnOk (K8 P) 108 (fdAt (K8 P) 44) (bdAt (K8 P) 44) :=
  ⟨⟨_, rfl, rfl⟩, ⟨107, _, _, _, rfl, rfl, rfl, rfl⟩, rfl, rfl, rfl, rfl, rfl⟩
section
variable {F : Fix} {P : Params}
theorem Land.float (l : Land (K8 P) F) : GlobAt F "float" (.type "float") := l.bi rfl (by decide +kernel) (by decide)
theorem Land.int (l : Land (K8 P) F) : GlobAt F "int" (.type "int") := l.bi rfl (by decide +kernel) (by decide)
theorem Land.value (l : Land (K8 P) F) : GlobAt F "ValueError" (.type "ValueError") := l.bi rfl (by decide +kernel) (by decide)
theorem Land.typeE (l : Land (K8 P) F) : GlobAt F "TypeError" (.type "TypeError") := l.bi rfl (by decide +kernel) (by decide)
theorem Land.overflow (l : Land (K8 P) F) : GlobAt F "OverflowError" (.type "OverflowError") := l.bi rfl (by decide +kernel) (by decide)
theorem Land.range (l : Land (K8 P) F) : GlobAt F "range" (.type "range") := l.bi rfl (by decide +kernel) (by decide)
theorem Land.str (l : Land (K8 P) F) : GlobAt F "str" (.type "str") := l.bi rfl (by decide +kernel) (by decide)
theorem Land.len (l : Land (K8 P) F) : GlobAt F "len" (.builtin "len") := l.bi rfl (by decide +kernel) (by decide)
theorem Land.sum (l : Land (K8 P) F) : GlobAt F "sum" (.builtin "sum") := l.bi rfl (by decide +kernel) (by decide)
theorem Land.min (l : Land (K8 P) F) : GlobAt F "min" (.builtin "min") := l.bi rfl (by decide +kernel) (by decide)
theorem Land.iter (l : Land (K8 P) F) : GlobAt F "iter" (.builtin "iter") := l.bi rfl (by decide +kernel) (by decide)
theorem Land.isinstance (l : Land (K8 P) F) : GlobAt F "isinstance" (.builtin "isinstance") := l.bi rfl (by decide +kernel) (by decide)
theorem Land.list (l : Land (K8 P) F) : GlobAt F "list" (.type "list") := l.bi rfl (by decide +kernel) (by decide)
theorem Land.tuple (l : Land (K8 P) F) : GlobAt F "tuple" (.type "tuple") := l.bi rfl (by decide +kernel) (by decide)
theorem Land.fsum (l : Land (K8 P) F) : GlobAt F "fsum" (.builtin "math.fsum") := l.glob rfl
theorem Land.sumprod (l : Land (K8 P) F) : GlobAt F "sumprod" (.builtin "math.sumprod") := l.glob rfl
theorem Land.fmean (l : Land (K8 P) F) : GlobAt F "fmean" (.ref 63) := l.glob rfl
theorem Land.small (l : Land (K8 P) F) : GlobAt F "_law_small" (.ref 70) := l.glob rfl
theorem Land.rounded (l : Land (K8 P) F) : GlobAt F "_law_rounded" (.ref 77) := l.glob rfl
theorem Land.alone (l : Land (K8 P) F) : GlobAt F "_law_due_alone" (.ref 84) := l.glob rfl
theorem Land.due (l : Land (K8 P) F) : GlobAt F "_law_due" (.ref 89) := l.glob rfl
theorem Land.told (l : Land (K8 P) F) : GlobAt F "_law_told" (.ref 96) := l.glob rfl
theorem Land.holds (l : Land (K8 P) F) : GlobAt F "_law_holds" (.ref 103) := l.glob rfl
theorem Land.stat (l : Land (K8 P) F) : GlobAt F "StatisticsError" (.ref 52) := l.glob rfl
theorem strKeys_of {es : Array DictEntry} (h : es.toList.all (fun e => match e.key with | .str _ _ => true | _ => false) = true) : StrKeys es := by
  intro e he
  have := List.all_eq_true.mp h e (by simpa using he)
  split at this
  · rename_i n t hk; exact ⟨n, t, hk⟩
  · cases this
theorem Land.cls (l : Land (K8 P) F) : ExcCls F 52 := by
  refine ⟨_, _, _, _, _, _, _, _, _, _, _, _, _, _, _, _, l.kin 52 _ rfl, ⟨_, _, _, l.kin 51 _ rfl, rfl, ?_, fun _ => rfl⟩, ?_, ?_⟩
  · exact strKeys_of rfl
  · rfl
  · rfl
end
end Mine
end
section
open PySem PySem.W PyProof.Rows
set_option linter.unusedVariables false
set_option maxRecDepth 100000
namespace Mine
open PySem.Float64 (isInf ofInt)
variable {F : Fix} {P : Params}
/- _law_small -/
noncomputable def sm (x : Int) : Int := (x + 2 ^ 1000).fmod (2 ^ 1001) - 2 ^ 1000
theorem c_small (l : Land (K8 P) F) (x : Int) : Calls F (.ref 70) 1 [.val (.int x)] [] [] (fun R => R = .int (sm x)) (fun _ => False) := by
  refine calls_of (names := ["x"]) (l.fn (fn_small P)) (by decide) (by intro x hx; simp at hx; subst hx; exact .inl rfl) rfl (fun s vals kvals hb h1 h2 => ?_) fun A L hr => ?_
  · obtain ⟨v, rfl⟩ := len_one h1
    obtain rfl := len_nil h2
    exact @BindsTo.of_eq _ _ _ _ (by kernel_rfl)
  · conv => arg 3; whnf
    refine exs_ret (ev_bin (ev_bin (ev_bin (ev_name rfl (ev_bin (ev_int (ev_int (op_pow (by decide) (by decide +kernel) (op_add ?_)))))))))
    refine ev_bin (ev_int (ev_int (op_pow (by decide) (by decide +kernel) (op_mod ?_ ?_))))
    · exact Int.pow_ne_zero (by decide)
    · refine ev_bin (ev_int (ev_int (op_pow (by decide) (by decide +kernel) (op_sub ?_))))
      rfl
/- an int, or None -/
noncomputable def vO : Option Int → V
  | none => .none
  | some i => .int i
/- _law_rounded -/
noncomputable def rndO (i : Int) : Option Int := if isInf (ofInt i) then none else some (rnd i)
theorem c_rounded (l : Land (K8 P) F) (i : Int) : Calls F (.ref 77) 1 [.val (.int i)] [] [] (fun R => R = vO (rndO i)) (fun _ => False) := by
  refine calls_of (names := ["x"]) (l.fn (fn_rounded P)) (by decide) (by intro x hx; simp at hx; subst hx; exact .inl rfl) rfl (fun s vals kvals hb h1 h2 => ?_) fun A L hr => ?_
  · obtain ⟨v, rfl⟩ := len_one h1
    obtain rfl := len_nil h2
    exact @BindsTo.of_eq _ _ _ _ (by kernel_rfl)
  · conv => arg 3; whnf
    refine exs_cons (ex_try (isFn_fn ..) (exs_ret (ev_type l.int (args_val (ev_type l.float (args_val (ev_name rfl (args_val_nil (bi_float hr.handled (fun hi => ?_) fun hi => args_val_nil (bi_intF (rnd_rn hi).1 ?_)))))))))) 
    · refine hd_yes (isFn_fn ..) l.overflow matches_overflow fun e => exs_ret (ev_none ?_)
      show _ = vO (rndO i)
      rw [rndO, if_pos hi]; rfl
    · show _ = vO (rndO i)
      rw [rndO, if_neg (by simp [hi])]; rfl
end Mine
end
section
open PySem PySem.W PyProof.Rows
set_option linter.unusedVariables false
set_option maxRecDepth 100000
set_option exponentiation.threshold 3000
namespace Mine
open PySem.Float64 (decode val div cmp isInf ofInt ofFrac Right pack infMag sgn dist V_lt)
theorem right_unique {r r' : UInt64} {n n' : Bool} {W D : Nat} (hD : 0 < D) (h : Right r n W D) (h' : Right r' n' W D) : ∃ t, r = pack n t ∧ r' = pack n' t ∧ t ≤ infMag ∧ (t = infMag ↔ D * ((2 ^ 54 - 1) * 2 ^ 2045) ≤ 2 * W) ∧ (t < infMag → W = 0 → Float64.V t = 0) := by
  obtain ⟨t, h1, h2, h3, h4⟩ := h
  obtain ⟨t', h1', h2', h3', h4'⟩ := h'
  have z : t < infMag → W = 0 → Float64.V t = 0 := fun hlt hW => by
    have := (h4 hlt 0).1
    have V0 : Float64.V 0 = 0 := by decide
    rw [hW, V0] at this
    unfold dist at this
    have : D * Float64.V t = 0 := by lia
    rcases Nat.mul_eq_zero.mp this with z | z
    · lia
    · exact z
  suffices t' = t by subst this; exact ⟨t', h1, h1', h2, h3, z⟩
  by_cases c : t = infMag
  · rw [c]; exact h3'.mpr (h3.mp c)
  · have c' : t' ≠ infMag := fun z => c (h3.mpr (h3'.mp z))
    have a := h4 (by lia)
    have a' := h4' (by lia)
    have mono : ∀ {u v : Nat}, u < v → D * Float64.V u < D * Float64.V v := fun h => Nat.mul_lt_mul_of_pos_left (V_lt h) hD
    have key : ∀ {t t' : Nat}, (∀ u, dist W (D * Float64.V t) ≤ dist W (D * Float64.V u) ∧ (Float64.V u ≠ Float64.V t → dist W (D * Float64.V t) = dist W (D * Float64.V u) → t % 2 = 0)) → (∀ u, dist W (D * Float64.V t') ≤ dist W (D * Float64.V u) ∧ (Float64.V u ≠ Float64.V t' → dist W (D * Float64.V t') = dist W (D * Float64.V u) → t' % 2 = 0)) → ¬ t < t' := by
      intro t t' h h' c
      have l1 := V_lt c
      have m1 := mono c
      have a1 := h t'
      have a2 := h' t
      have e : dist W (D * Float64.V t) = dist W (D * Float64.V t') := Nat.le_antisymm a1.1 a2.1
      have p1 := a1.2 (by lia) e
      have p2 := a2.2 (by lia) e.symm
      have c2 : t + 1 < t' := by lia
      have l2 : D * Float64.V (t + 1) < D * Float64.V t' := mono c2
      have l3 : D * Float64.V t < D * Float64.V (t + 1) := mono (Nat.lt_succ_self t)
      have a3 := (h (t + 1)).1
      clear a1 a2 p1 p2 l1 c2 h h' c mono
      generalize D * Float64.V t = X at *
      generalize D * Float64.V t' = Y at *
      generalize D * Float64.V (t + 1) = Z at *
      rcases Nat.le_total W X with w | w
      · have x := d_le w
        have y := d_le (Nat.le_trans w (Nat.le_of_lt m1))
        clear l2 l3 a3 w; omega
      · have y := d_ge w
        rcases Nat.le_total W Y with w' | w'
        · have z := d_le w'
          rcases Nat.le_total W Z with v | v
          · have x := d_le v; clear v w w' l3 y; omega
          · have x := d_ge v; clear v w w' l2 z; omega
        · have z := d_ge w'; clear a3 l2 l3 w w'; omega
    rcases Nat.lt_trichotomy t t' with c | c | c
    · exact (key a a' c).elim
    · exact c.symm
    · exact (key a' a c).elim
theorem le_aux {T M A B : Nat} (hp : 0 < T) (hB : 0 < B) (h : B * T * M ≤ 2 * (A * T * T)) : M ≤ 2 * (A * T) := by
  have h1 : 1 * T * M ≤ B * T * M := Nat.mul_le_mul_right _ (Nat.mul_le_mul_right _ hB)
  have h2 : T * M ≤ T * (2 * (A * T)) := by
    calc T * M = 1 * T * M := by rw [Nat.one_mul]
      _ ≤ B * T * M := h1
      _ ≤ 2 * (A * T * T) := h
      _ = T * (2 * (A * T)) := by ac_rfl
  exact Nat.le_of_mul_le_mul_left h2 hp
/- a / b of ints -/
noncomputable def qf (a b : Int) : UInt64 := ofFrac (decide (a < 0) != decide (b < 0)) a.natAbs b.natAbs
theorem qf_ok {x y : UInt64} {a b : Int} (hx : FV x (a * 2 ^ 1074)) (hy : FV y (b * 2 ^ 1074)) (hb : b ≠ 0) : cmp (div x y) (qf a b) = some .eq ∧ isInf (qf a b) = false := by
  have hfit : FV (ofInt a) (a * 2 ^ 1074) := FV.ofInt (fv_rp hx)
  have hp : (0 : Nat) < 2 ^ 1074 := Nat.two_pow_pos _
  have hfin : ¬ (1 * ((2 ^ 54 - 1) * 2 ^ 2045) ≤ 2 * (a.natAbs * 2 ^ 1074)) := by
    intro hc
    obtain ⟨t, e1, e2, e3, _⟩ := PySem.Float64.ofInt_right a
    have := e3.mpr hc
    have hn := hfit.notInf
    rw [isInf_ofInt] at hn
    have ht : Float64.roundMag a.natAbs 1 = infMag := (PySem.Float64.roundMag_over (by decide)).mpr (by simpa using hc)
    rw [decide_eq_false_iff_not] at hn
    exact hn ht
  have hb0 : b * 2 ^ 1074 ≠ 0 := Int.mul_ne_zero hb (Int.pow_ne_zero (by decide))
  obtain ⟨⟨s, m, e, dx⟩, vx⟩ := hx
  obtain ⟨⟨s', m', e', dy⟩, vy⟩ := hy
  have hm : m' ≠ 0 := fun z => hb0 (by rw [← vy, PySem.Float64.val_eq dy, z]; simp [sgn])
  have R1 := PySem.Float64.div_right dx dy hm
  rw [vx, vy] at R1
  have nA : (a * 2 ^ 1074).natAbs = a.natAbs * 2 ^ 1074 := by rw [Int.natAbs_mul, Int.natAbs_pow]; rfl
  have nB : (b * 2 ^ 1074).natAbs = b.natAbs * 2 ^ 1074 := by rw [Int.natAbs_mul, Int.natAbs_pow]; rfl
  rw [nA, nB] at R1
  have hbp : 0 < b.natAbs := by grind
  have hDp : 0 < b.natAbs * 2 ^ 1074 := Nat.mul_pos hbp hp
  have R2 : Right (qf a b) (decide (a < 0) != decide (b < 0)) (a.natAbs * 2 ^ 1074 * 2 ^ 1074) (b.natAbs * 2 ^ 1074) := by
    refine PySem.Float64.ofFrac_right hbp ?_ hDp
    generalize (2 : Nat) ^ 1074 = T
    rw [Nat.mul_assoc, Nat.mul_assoc, Nat.mul_comm b.natAbs, ← Nat.mul_assoc, ← Nat.mul_assoc]
  obtain ⟨t, e1, e2, e3, e4, e5⟩ := right_unique hDp R1 R2
  have hlt : t < infMag := by
    rcases Nat.lt_or_ge t infMag with c | c
    · exact c
    · exfalso
      have := e4.mp (by lia)
      apply hfin
      rw [Nat.one_mul]
      exact le_aux hp hbp this
  have f1 := fv_pack (s != s') hlt
  have f2 := fv_pack (decide (a < 0) != decide (b < 0)) hlt
  rw [← e1] at f1
  rw [← e2] at f2
  refine ⟨?_, f2.notInf⟩
  by_cases ha : a = 0
  · have hV := e5 hlt (by rw [ha]; simp)
    rw [hV] at f1 f2
    have s0 : ∀ n, sgn n 0 = 0 := fun n => by cases n <;> rfl
    rw [s0] at f1 f2
    rw [f1.cmp f2]
    rfl
  · have ha0 : a * 2 ^ 1074 ≠ 0 := Int.mul_ne_zero ha (Int.pow_ne_zero (by decide))
    have hs : (s != s') = (decide (a < 0) != decide (b < 0)) := by
      have h1 := sgn_neg_of dx (by rw [vx]; exact ha0)
      have h2 := sgn_neg_of dy (by rw [vy]; exact hb0)
      rw [vx] at h1
      rw [vy] at h2
      have hpi : (0 : Int) < 2 ^ 1074 := two_pos
      rw [h1, h2, decide_eq_decide.mpr (neg_iff_mul hpi).symm, decide_eq_decide.mpr (neg_iff_mul hpi).symm]
    rw [hs] at f1
    rw [f1.cmp f2]
    simp
end Mine
end
section
open PySem PySem.W PyProof.Rows
set_option linter.unusedVariables false
set_option maxRecDepth 100000
namespace Mine
open PySem.Float64 (isInf ofInt)
variable {F : Fix} {P : Params}
theorem slc_from (As : List V) (k : Nat) : slc As (some (k : Int)) none = As.drop k := by
  unfold slc clipAt
  simp only [Option.elim]
  rw [if_neg (by lia)]
  by_cases h : k ≤ As.length
  · rw [show (max 0 (min (k : Int) (As.length : Int))).toNat = k by grind, List.take_of_length_le (by simp)]
  · rw [show (max 0 (min (k : Int) (As.length : Int))).toNat = As.length by grind, List.drop_of_length_le (Nat.le_refl _), List.drop_of_length_le (by lia)]
    simp
theorem fv_nat {n : Int} (h : n.natAbs ≤ 2 ^ 53) : FV (ofInt n) (n * 2 ^ 1074) := FV.ofInt (rp_e (by decide) h)
/- numbers that a float is near to, or that none is -/
structure OkD (ds : List (Option Int)) : Prop where
  len : ds.length ≤ 80
  num : ∀ i, some i ∈ ds → i.natAbs ≤ 2 ^ 1008 ∨ isInf (ofInt i) = true
noncomputable def xFew : Str := "fmean requires at least one data point"
/- what is due without weights: the told, and what is left -/
noncomputable def aloneD : List Int → List (Option Int) → V × List (Option Int)
  | ps, [] => (if ps.isEmpty then .str xFew else .flt (qf (rnd (isum ps)) ps.length), [])
  | _, none :: r => (.str "no number", r)
  | ps, some i :: r => if isInf (ofInt i) then (.str "beyond", r) else aloneD (ps ++ [rnd i]) r
noncomputable def dV (p : V × List (Option Int)) : V := .lst [p.1, .lst (p.2.map vO)]
theorem aloneD_at {is : List Int} (h : ∀ k ∈ is, isInf (ofInt k) = false) (r : List (Option Int)) : ∀ ps, aloneD ps (is.map some ++ r) = aloneD (ps ++ is.map rnd) r := by
  induction is with
  | nil => intro ps; simp
  | cons k is ih =>
    intro ps
    show aloneD ps (some k :: (is.map some ++ r)) = _
    rw [aloneD, if_neg (by rw [h k List.mem_cons_self]; decide), ih fun k hk => h k (List.mem_cons_of_mem _ hk)]
    simp
theorem rng_get {n : Nat} {i : Nat} {B : V} (hB : (V.items (.rng 0 (n : Int) 1))[i]? = some B) : i < n ∧ B = .int i := by
  rw [items_rng0, List.getElem?_map] at hB
  have hin : i < n := by
    cases c : (List.range n)[i]? with
    | none => rw [c] at hB; cases hB
    | some q => simpa using (List.getElem?_eq_some_iff.mp c).1
  rw [List.getElem?_range hin] at hB
  exact ⟨hin, by simpa using hB.symm⟩
theorem rng_len (n : Nat) : (V.items (.rng 0 (n : Int) 1)).length = n := by rw [items_rng0]; simp
theorem pyIdx_nat (i n : Nat) : pyIdx (i : Int) n = i := by unfold pyIdx; rw [if_neg (by lia)]; simp
section
variable {Γ : Cx} {loc : Loc} {Q Q' : V → Loc → Prop} {QF : Fl → Loc → Prop} {X : Exc → Loc → Prop}
theorem ev_vmono {e : Expr} (h : Ev Γ loc e (VQ Q) X) (f : ∀ A l, Q A l → Q' A l) : Ev Γ loc e (VQ Q') X :=
  h.mono (fun lv l q => match lv, q with | .val A, q => f A l q) fun _ _ x => x
/- return ["said", e] -/
theorem exs_said {x : Str} {k : Nat} {p p' pos : Pos} {e : Expr} {rest : List Stmt} (h : Ev Γ loc e (VQ fun A l => QF (.ret (.lst [.str x, A])) l) X)
    (he : starEach [e] Γ.env = (false, eval e Γ.env) :: starEach [] Γ.env := by rfl) :
    Exs Γ loc (.Return (some (.List [.Constant (.str x) k p, e] p')) pos :: rest) QF X :=
  exs_ret (ev_list (args_val (ev_str (args_val (ev_vmono h fun _ _ q => args_val_nil ⟨by show 2 ≤ sizeLine; decide, q⟩) he))))
/- return ["said", []] -/
theorem exs_said0 {x : Str} {k : Nat} {p p' p'' pos : Pos} {rest : List Stmt} (h : QF (.ret (.lst [.str x, .lst []])) loc) :
    Exs Γ loc (.Return (some (.List [.Constant (.str x) k p, .List [] p''] p')) pos :: rest) QF X :=
  exs_said (ev_list (args_val_nil ⟨by show 0 ≤ sizeLine; decide, h⟩))
/- v[e + 1:] -/
theorem ev_from {v : Str} {As : List V} {n : Nat} {e : Expr} {k : Nat} {p p1 p2 p3 p4 : Pos} (hv : Has loc v (.lst As)) (hz : As.length ≤ sizeLine) (he : Ev Γ loc e (VQ fun A l => A = .int n ∧ Q (.lst (As.drop (n + 1))) l) X)
    (hd : (v == ("__debug__" : Str)) = false := by decide) (hn : notPlain v = false := by decide) :
    Ev Γ loc (.Subscript (.Name v p) (.Slice (some (.BinOp e .Add (.Constant (.int 1) k p1) p2)) none none p3) p4) (VQ Q) X :=
  ev_slice (ev_name hv ⟨_, rfl, hz, pt_some (ev_bin (ev_vmono he fun A l q => by
    obtain ⟨rfl, q⟩ := q
    refine ev_int (op_add ⟨_, rfl, pt_none ?_⟩)
    rw [show (n : Int) + 1 = ((n + 1 : Nat) : Int) by lia, slc_from]
    exact q))⟩ hd hn)
end
set_option maxHeartbeats 1000000 in
theorem c_alone (l : Land (K8 P) F) {ds : List (Option Int)} (ok : OkD ds) : Calls F (.ref 84) 2 [.val (.lst (ds.map vO))] [] [] (fun R => R = dV (aloneD [] ds)) (fun _ => False) := by
  refine calls_of (names := ["data"]) (l.fn (fn_alone P)) (by decide) (by intro x hx; simp at hx; subst hx; exact .inl rfl) rfl (fun s vals kvals hb h1 h2 => ?_) fun A L hr => ?_
  · obtain ⟨v, rfl⟩ := len_one h1
    obtain rfl := len_nil h2
    exact @BindsTo.of_eq _ _ _ _ (by kernel_rfl)
  · have hlen : (ds.map vO).length = ds.length := by simp
    have hz : (ds.map vO).length ≤ sizeLine := len7 (by rw [hlen]; have := ok.len; lia)
    have hl80 := ok.len
    have rm : Room (F.fn A (fdAt (K8 P) 28) 84 L).A 1 := Room.deeper hr _
    conv => arg 3; whnf
    refine exs_cons (ex_assign (ev_nil_own fun b => ?_) (.inl rfl))
    refine exs_cons (ex_for (ev_type l.range (args_val (ev_builtin l.len (args_val (ev_name rfl (args_val_nil (bi_len_lst hz (args_val_nil (bi_range1 ?_))))))))) (.inl rfl) hr.handled)
    rw [hlen]
    refine ⟨small_one (by decide) (by simp; lia), fun i l => ∃ is : List Int, is.length = i ∧ (∀ k ∈ is, isInf (ofInt k) = false) ∧ ds = is.map some ++ ds.drop i ∧ l.lookup (Str.ofString "parts") = some (.own b ((is.map rnd).map .int)) ∧ Has l "data" (.lst (ds.map vO)), ⟨[], rfl, fun k hk => by (cases hk), rfl, rfl, rfl⟩, ?_, ?_⟩
    · rintro i B loc hB ⟨is, hi, hf, hds, h1, h2⟩
      obtain ⟨hin, rfl⟩ := rng_get hB
      have hdrop : ds.drop i = ds[i] :: ds.drop (i + 1) := List.drop_eq_getElem_cons hin
      have hget : (ds.map vO)[pyIdx (i : Int) (ds.map vO).length]? = some (vO ds[i]) := by rw [pyIdx_nat, List.getElem?_map, List.getElem?_eq_getElem hin]; rfl
      have hidx : -((ds.map vO).length : Int) ≤ (i : Int) ∧ (i : Int) < ((ds.map vO).length : Int) := by rw [hlen]; lia
      have key : aloneD [] ds = aloneD (is.map rnd) (ds[i] :: ds.drop (i + 1)) := by
        conv => lhs; rw [hds, hdrop]
        rw [aloneD_at hf]; rfl
      refine exs_cons (ex_if (tst_cmp (ev_sub (ev_name h2 (ev_name rfl (it_lst hz hidx hget (ev_none (cmp_is_none ⟨_, rfl, ?_⟩))))))))
      cases hd : ds[i] with
      | none =>
        rw [hd] at key
        refine exs_said (ev_from h2 hz (ev_name rfl ⟨rfl, ?_⟩))
        show _ = dV _
        rw [key, ← List.map_drop]; rfl
      | some k =>
        rw [hd] at key hget
        refine exs_nil (exs_cons (ex_append (loc_put h1 rfl) (ev_call l.rounded (l.fn (fn_rounded P)) (args_cons (ev_val (ev_sub (ev_name (loc_put h2 rfl) (ev_name rfl (it_lst hz hidx hget (args_nil (kws_nil ⟨1, _, _, rm, c_rounded l k, fun R hR => ?_, fun _ z => z.elim⟩)))))))))))
        subst hR
        refine ⟨_, loc_put h1 rfl, Nat.lt_of_lt_of_le (by simp; lia) (show 80 ≤ sizeLine by decide), ?_⟩
        have hpl : ((is.map rnd).map V.int ++ [vO (rndO k)]).length = i + 1 := by simp [hi]
        have hgp : ((is.map rnd).map V.int ++ [vO (rndO k)])[pyIdx (i : Int) ((is.map rnd).map V.int ++ [vO (rndO k)]).length]? = some (vO (rndO k)) := by
          rw [pyIdx_nat, List.getElem?_append_right (by simp [hi])]; simp [hi]
        refine exs_cons (ex_if (tst_cmp (ev_sub_own rfl (ev_name rfl ⟨_, _, rfl, rfl, len7 (by rw [hpl]; lia), by rw [hpl]; lia, hgp, ev_none (cmp_is_none ⟨_, rfl, ?_⟩)⟩))))
        rw [aloneD] at key
        cases hk : isInf (ofInt k) with
        | true =>
          rw [show rndO k = none by rw [rndO, if_pos hk]]
          rw [if_pos hk] at key
          refine exs_said (ev_from (loc_put (loc_put h2 rfl) rfl) hz (ev_name rfl ⟨rfl, ?_⟩))
          show _ = dV _
          rw [key, ← List.map_drop]; rfl
        | false =>
          rw [show rndO k = some (rnd k) by rw [rndO, if_neg (by simp [hk])]]
          refine exs_nil (exs_nil ⟨is ++ [k], by simp [hi], fun j hj => ?_, ?_, ?_, loc_put (loc_put h2 rfl) rfl⟩)
          · rcases List.mem_append.mp hj with h | h
            · exact hf j h
            · rw [List.mem_singleton.mp h]; exact hk
          · conv => lhs; rw [hds, hdrop, hd]
            simp
          · show some _ = some _
            simp [vO]
    · rintro loc ⟨is, hi, hf, hds, h1, h2⟩
      rw [rng_len] at hi hds
      rw [List.drop_of_length_le (Nat.le_refl _), List.append_nil] at hds
      have key : aloneD [] ds = aloneD (is.map rnd) [] := by
        conv => lhs; rw [hds, ← List.append_nil (is.map some)]
        rw [aloneD_at hf]; rfl
      have hb8 : ∀ k ∈ is, k.natAbs ≤ 2 ^ 1008 := fun k hk => (ok.num k (by rw [hds]; exact List.mem_map_of_mem hk)).resolve_right (by rw [hf k hk]; decide)
      refine exs_cons (ex_if (tst_own_nil rfl h1 (by have := rm.units; lia) ?_))
      rw [if_pos rfl]
      rw [aloneD] at key
      cases hem : ((is.map rnd).map V.int).isEmpty with
      | true =>
        have : (is.map rnd).isEmpty = true := by simpa using hem
        rw [if_pos this] at key
        refine exs_said0 ?_
        show _ = dV _
        rw [key]; rfl
      | false =>
        have hne : (is.map rnd).isEmpty = false := by simpa using hem
        rw [if_neg (by rw [hne]; decide)] at key
        obtain ⟨d, _, hfit, _⟩ := fsumX_ok (by lia) hb8
        have hrd : rndO (isum (is.map rnd)) = some (rnd (isum (is.map rnd))) := by rw [rndO, if_neg (by simp [hfit])]
        have hn0 : ((is.map rnd).length : Int) ≠ 0 := by
          intro z
          have : is = [] := by simpa using z
          rw [this] at hne; cases hne
        have hq := qf_ok (rnd_rn hfit).1 (fv_nat (n := ((is.map rnd).length : Int)) (by simp; lia)) hn0
        refine exs_nil (exs_ret (ev_list (args_val (ev_bin (ev_call l.rounded (l.fn (fn_rounded P)) (args_cons (ev_val (ev_sum_own l.sum hr.handled h1 (args_nil (kws_nil ⟨1, _, _, rm, c_rounded l _, fun R hR => ?_, fun _ z => z.elim⟩))))))))))
        subst hR
        rw [hrd]
        refine ev_len_own l.len (len7 (by simp; lia)) h1 ?_
        have hl2 : (((is.map rnd).map V.int).length : Int) = ((is.map rnd).length : Int) := by simp
        rw [hl2]
        refine op_div_ii hn0 (by rw [show Float64.isInf (Float64.ofFrac _ _ _) = isInf (qf _ _) from rfl, hq.2]; decide) (args_val (ev_list (args_val_nil ⟨by show 0 ≤ sizeLine; decide, args_val_nil ⟨by show 2 ≤ sizeLine; decide, ?_⟩⟩)))
        show _ = dV _
        rw [key]; rfl
end Mine
end
section
open PySem PySem.W PyProof.Rows
set_option linter.unusedVariables false
set_option maxRecDepth 100000
namespace Mine
open PySem.Float64 (isInf ofInt)
variable {F : Fix} {P : Params}
noncomputable def xUnlike : Str := "data and weights must be the same length"
noncomputable def xZero : Str := "sum of weights must be non-zero"
/- behind the first None -/
noncomputable def noneAt : List (Option Int) → List (Option Int) → Option (List (Option Int))
  | some _ :: r, some _ :: r' => noneAt r r'
  | _ :: r, _ :: _ => some r
  | _, _ => none
noncomputable def isumP (is ks : List Int) : Int := isum (List.zipWith (· * ·) is ks)
noncomputable def dueN (is ks : List Int) : V :=
  if ks.any (fun k => isInf (ofInt k)) then .str "beyond" else
  if isum (ks.map rnd) = 0 then .str xZero else
  if isInf (ofInt (isumP is ks)) then .str "beyond" else .flt (qf (rnd (isumP is ks)) (rnd (isum (ks.map rnd))))
noncomputable def dueD (ds ws : List (Option Int)) : V × List (Option Int) :=
  match noneAt ds ws with
  | some r => (.str "no number", r)
  | none => if ds.length = ws.length then (dueN (ds.filterMap id) (ws.filterMap id), []) else (.str xUnlike, ds.drop (ws.length + 1))
theorem noneAt_at : ∀ {is ks : List Int} {r r' : List (Option Int)}, is.length = ks.length → noneAt (is.map some ++ r) (ks.map some ++ r') = noneAt r r'
  | [], [], r, r', _ => rfl
  | i :: is, k :: ks, r, r', h => noneAt_at (is := is) (ks := ks) (by simpa using h)
theorem noneAt_nil (r : List (Option Int)) : noneAt [] r = none := by cases r <;> rfl
theorem noneAt_nil' (r : List (Option Int)) : noneAt r [] = none := by
  cases r with
  | nil => rfl
  | cons a r => cases a <;> rfl
theorem rnd_ne {i : Int} (h : isInf (ofInt i) = false) (h0 : i ≠ 0) : rnd i ≠ 0 := by
  intro z
  obtain ⟨hf, t, _, rn, e⟩ := rnd_rn h
  obtain ⟨u, hu⟩ := V_any (k := 1074) (q := 1) (by decide)
  rw [Nat.one_mul] at hu
  have hge := rn.ge (u := u) (by
    rw [hu, Int.natAbs_mul]
    have : (2 ^ 1074 : Int).natAbs = 2 ^ 1074 := by rw [Int.natAbs_pow]; rfl
    rw [this]
    exact Nat.le_mul_of_pos_left _ (by lia))
  rw [z, Int.zero_mul] at e
  have hp : 0 < 2 ^ 1074 := Nat.two_pow_pos _
  rw [hu] at hge
  have h2 : (Float64.V t : Int) = 0 := by
    unfold PySem.Float64.sgn at e
    split at e <;> lia
  generalize (2 : Nat) ^ 1074 = T at *
  lia
structure OkM (ds ws : List (Option Int)) : Prop where
  bd : ∀ i, some i ∈ ds → i.natAbs < 2 ^ 3000
  bw : ∀ i, some i ∈ ws → i.natAbs < 2 ^ 3000
theorem OkM.mul {ds ws : List (Option Int)} (h : OkM ds ws) {a b : Int} (ha : some a ∈ ds) (hb : some b ∈ ws) : IntMulOk a b :=
  mulOk_of_bits (intBits_le (h.bd a ha)) (intBits_le (h.bw b hb)) (by decide)
theorem map_vO (is : List Int) : (is.map some).map vO = is.map .int := by rw [List.map_map]; rfl
theorem zip_range : ∀ (is ks : List Int), is.length = ks.length → (List.range is.length).map (fun j => V.int (is.getD j 0 * ks.getD j 0)) = (List.zipWith (· * ·) is ks).map .int := by
  intro is ks h
  apply List.ext_getElem?
  intro j
  simp only [List.getElem?_map, List.getElem?_zipWith]
  by_cases c : j < is.length
  · rw [List.getElem?_range c, List.getElem?_eq_getElem c, List.getElem?_eq_getElem (by lia : j < ks.length)]
    simp [List.getD, List.getElem?_eq_getElem c, List.getElem?_eq_getElem (by lia : j < ks.length)]
  · rw [List.getElem?_eq_none (by simp; lia), List.getElem?_eq_none (l := is) (by lia)]
    rfl
set_option maxHeartbeats 4000000 in
theorem c_due (l : Land (K8 P) F) {ds ws : List (Option Int)} (okd : OkD ds) (okw : OkD ws) (okm : OkM ds ws) : Calls F (.ref 89) 2 [.val (.lst (ds.map vO)), .val (.lst (ws.map vO))] [] [] (fun R => R = dV (dueD ds ws)) (fun _ => False) := by
  refine calls_of (names := ["data", "weights"]) (l.fn (fn_due P)) (by decide) (by intro x hx; simp at hx; rcases hx with rfl | rfl <;> exact .inr rfl) rfl (fun s vals kvals hb h1 h2 => ?_) fun A L hr => ?_
  · obtain ⟨v, u, rfl⟩ := len_two h1
    obtain rfl := len_nil h2
    exact @BindsTo.of_eq _ _ _ _ (by kernel_rfl)
  · have hlen : (ds.map vO).length = ds.length := by simp
    have hlenw : (ws.map vO).length = ws.length := by simp
    have hl80 := okd.len
    have hw80 := okw.len
    have hz : (ds.map vO).length ≤ sizeLine := len7 (by lia)
    have hzw : (ws.map vO).length ≤ sizeLine := len7 (by lia)
    have rm : Room (F.fn A (fdAt (K8 P) 31) 89 L).A 1 := Room.deeper hr _
    conv => arg 3; whnf
    let Γ : Cx := F.fn A (fdAt (K8 P) 31) 89 L
    let QQ : Fl → Loc → Prop := FnQ fun R => R = dV (dueD ds ws)
    change Exs Γ _ _ QQ _
    refine exs_cons (ex_for (ev_type l.range <| args_val <| ev_builtin l.min <| args_val <| ev_builtin l.len <| args_val <| ev_name rfl <| args_val_nil <| bi_len_lst hz <| args_val <| ev_builtin l.len <| args_val <| ev_name rfl <| args_val_nil <| bi_len_lst hzw <| args_val_nil <| bi_min2 hr.handled <| args_val_nil <| bi_range1 ?_) (.inl rfl) hr.handled)
    have hmin : (if ((ws.map vO).length : Int) < ((ds.map vO).length : Int) then ((ws.map vO).length : Int) else ((ds.map vO).length : Int)) = ((min ds.length ws.length : Nat) : Int) := by
      rw [hlen, hlenw]; split <;> grind
    rw [hmin]
    generalize hm : min ds.length ws.length = m
    refine ⟨small_one (by decide) (by simp; grind), fun i lc => ∃ is ks : List Int, is.length = i ∧ ks.length = i ∧ ds = is.map some ++ ds.drop i ∧ ws = ks.map some ++ ws.drop i ∧ Has lc "data" (.lst (ds.map vO)) ∧ Has lc "weights" (.lst (ws.map vO)), ⟨[], [], rfl, rfl, rfl, rfl, rfl, rfl⟩, ?_, ?_⟩
    · intro i B loc hB hRR
      refine gg fun GG hGG => ?_
      obtain ⟨is, ks, hi, hk, hds, hws, h1, h2⟩ := hRR
      refine hGG ?_
      obtain ⟨hin, rfl⟩ := rng_get hB
      have hid : i < ds.length := by lia
      have hiw : i < ws.length := by grind
      have hdrop : ds.drop i = ds[i] :: ds.drop (i + 1) := List.drop_eq_getElem_cons hid
      have hdropw : ws.drop i = ws[i] :: ws.drop (i + 1) := List.drop_eq_getElem_cons hiw
      have hget : (ds.map vO)[pyIdx (i : Int) (ds.map vO).length]? = some (vO ds[i]) := by rw [pyIdx_nat, List.getElem?_map, List.getElem?_eq_getElem hid]; rfl
      have hgetw : (ws.map vO)[pyIdx (i : Int) (ws.map vO).length]? = some (vO ws[i]) := by rw [pyIdx_nat, List.getElem?_map, List.getElem?_eq_getElem hiw]; rfl
      have hidx : -((ds.map vO).length : Int) ≤ (i : Int) ∧ (i : Int) < ((ds.map vO).length : Int) := by rw [hlen]; lia
      have hidxw : -((ws.map vO).length : Int) ≤ (i : Int) ∧ (i : Int) < ((ws.map vO).length : Int) := by rw [hlenw]; lia
      have key : noneAt ds ws = noneAt (ds[i] :: ds.drop (i + 1)) (ws[i] :: ws.drop (i + 1)) := by
        conv => lhs; rw [hds, hws, hdrop, hdropw]
        rw [noneAt_at (by lia)]
      have bad : noneAt ds ws = some (ds.drop (i + 1)) → dV (dueD ds ws) = .lst [.str "no number", .lst ((ds.drop (i + 1)).map vO)] := fun h => by unfold dueD; rw [h]; rfl
      have ret : noneAt ds ws = some (ds.drop (i + 1)) → ∀ {lc : Loc} {p1 p2 p3 p4 p5 p6 p7 p8 pos : Pos} {k1 k2 : Nat} {rest : List Stmt} {QQ : Fl → Loc → Prop}, Has lc "data" (.lst (ds.map vO)) → Has lc "i" (.int i) → (∀ lc, QQ (.ret (dV (dueD ds ws))) lc) →
          Exs (F.fn A (fdAt (K8 P) 31) 89 L) lc (.Return (some (.List [.Constant (.str (Str.ofString "no number")) k1 p1, .Subscript (.Name (Str.ofString "data") p2) (.Slice (some (.BinOp (.Name (Str.ofString "i") p3) .Add (.Constant (.int 1) k2 p4) p5)) none none p6) p7] p8)) pos :: rest) QQ NoX := by
        intro h lc p1 p2 p3 p4 p5 p6 p7 p8 pos k1 k2 rest QQ hd hi' hq
        refine exs_said (ev_from hd hz (ev_name hi' ⟨rfl, ?_⟩))
        rw [← List.map_drop]
        have := hq lc
        rw [bad h] at this
        exact this
      refine exs_cons (ex_if (tst_bool (all_or (tst_cmp (ev_sub (ev_name h1 (ev_name rfl (it_lst hz hidx hget (ev_none (cmp_is_none ⟨_, rfl, ?_⟩))))))))))
      cases hd : ds[i] with
      | none =>
        rw [hd] at key
        have : noneAt ds ws = some (ds.drop (i + 1)) := by rw [key]; cases ws[i] <;> rfl
        exact @ret this _ _ _ _ _ _ _ _ _ _ _ _ _ _ h1 rfl (fun _ => rfl)
      | some a =>
        rw [hd] at key
        refine all_or (tst_cmp (ev_sub (ev_name (loc_put h2 rfl) (ev_name rfl (it_lst hzw hidxw hgetw (ev_none (cmp_is_none ⟨_, rfl, ?_⟩)))))))
        cases hw : ws[i] with
        | none =>
          rw [hw] at key
          exact @ret key _ _ _ _ _ _ _ _ _ _ _ _ _ _ h1 rfl (fun _ => rfl)
        | some b =>
          refine all_or_nil (exs_nil (exs_nil ⟨is ++ [a], ks ++ [b], by simp [hi], by simp [hk], ?_, ?_, loc_put h1 rfl, loc_put h2 rfl⟩))
          · conv => lhs; rw [hds, hdrop, hd]
            simp
          · conv => lhs; rw [hws, hdropw, hw]
            simp
    · intro loc hRR
      refine gg fun GG hGG => ?_
      obtain ⟨is, ks, hi, hk, hds, hws, h1, h2⟩ := hRR
      refine hGG ?_
      rw [rng_len] at hi hk hds hws
      have hno : noneAt ds ws = none := by
        rw [hds, hws, noneAt_at (by lia)]
        rcases Nat.le_total ds.length ws.length with h | h
        · rw [List.drop_of_length_le (by lia : ds.length ≤ m)]; exact noneAt_nil _
        · rw [List.drop_of_length_le (by lia : ws.length ≤ m)]; exact noneAt_nil' _
      refine exs_cons (ex_if (tst_cmp (ev_builtin l.len (args_val (ev_name h1 (args_val_nil (bi_len_lst hz (ev_builtin l.len (args_val (ev_name h2 (args_val_nil (bi_len_lst hzw (cmp_ne ⟨_, rfl, ?_⟩)))))))))))))
      by_cases hne : ds.length = ws.length
      · rw [show (((ds.map vO).length : Int) != ((ws.map vO).length : Int)) = false by rw [bne_eq_false_iff_eq, hlen, hlenw, hne]]
        have hm1 : m = ds.length := by grind
        rw [List.drop_of_length_le (by lia), List.append_nil] at hds hws
        have eds : ds.filterMap id = is := by rw [hds]; simp
        have ews : ws.filterMap id = ks := by rw [hws]; simp
        have due : dV (dueD ds ws) = .lst [dueN is ks, .lst []] := by unfold dueD; rw [hno]; simp only; rw [if_pos hne, eds, ews]; rfl
        have bW : ∀ k ∈ ks, some k ∈ ws := fun k hk => by rw [hws]; exact List.mem_map_of_mem hk
        have bD : ∀ k ∈ is, some k ∈ ds := fun k hk => by rw [hds]; exact List.mem_map_of_mem hk
        have evs : ds.map vO = is.map .int := by rw [hds, map_vO]
        have evw : ws.map vO = ks.map .int := by rw [hws, map_vO]
        have hik : is.length = ks.length := by lia
        have hisl : is.length = ds.length := by lia
        rw [evw] at h2
        rw [evs] at h1
        rw [evw] at hzw
        rw [evs] at hz
        refine exs_nil (exs_cons (ex_assign_comp false hr.handled (.inl rfl) (ev_name h2 ⟨trivial, hzw, [], [], fun B => match B with | .int k => vO (rndO k) | _ => .none, fun _ => true, { clos := rfl, hcl := fun y c e => (by cases e), kind := rfl, names := by decide, fr := fun y lv e => (by cases e) }, ?b1, fun b => ?c1⟩)))
        case b1 =>
          refine { hx := .inl rfl, xfr := rfl, hifs := fun B _ C => ifs_nil, helt := ?_ }
          intro B hB _ C
          obtain ⟨y, hy, rfl⟩ := List.mem_map.mp (show B ∈ ks.map V.int from hB)
          exact ev_call l.rounded (l.fn (fn_rounded P)) <| args_cons <| ev_val <| ev_name rfl <| args_nil <| kws_nil ⟨1, _, _, rm, c_rounded l y, fun R hR => ⟨hR, Loc.le_cons _ (Loc.le_refl _) rfl⟩, fun _ z => z.elim⟩
        case c1 =>
        have em : List.map (fun B => match B with | V.int k => vO (rndO k) | _ => V.none) (List.filter (fun _ => true) (V.items (.lst (ks.map .int)))) = (ks.map rndO).map vO := by
          rw [List.filter_eq_self.mpr fun _ _ => rfl]
          show List.map _ (List.map _ _) = _
          rw [List.map_map, List.map_map]; rfl
        rw [em, if_neg (by decide)]
        have hion : ∀ A ∈ (ks.map rndO).map vO, A.ion := fun A hA => by
          obtain ⟨o, _, rfl⟩ := List.mem_map.mp hA
          cases o with
          | none => exact .inl rfl
          | some i => exact .inr ⟨i, rfl⟩
        refine exs_cons (ex_if (tst_cmp (ev_none (ev_name rfl (cmp_in_none hion ⟨_, rfl, ?_⟩)))))
        have hany : ((ks.map rndO).map vO).any V.isNone = ks.any (fun k => isInf (ofInt k)) := by
          rw [List.map_map, List.any_map]
          congr 1
          funext k
          show V.isNone (vO (rndO k)) = _
          unfold rndO
          cases isInf (ofInt k) <;> rfl
        rw [hany]
        unfold dueN at due
        cases hinf : ks.any (fun k => isInf (ofInt k)) with
        | true =>
          rw [hinf, if_pos rfl] at due
          refine exs_said0 ?_
          show _ = _
          rw [due]
        | false =>
          rw [hinf, if_neg (by decide)] at due
          have hf : ∀ k ∈ ks, isInf (ofInt k) = false := fun k hk => by
            have := List.any_eq_false.mp hinf k hk
            simpa using this
          have hb8 : ∀ k ∈ ks, k.natAbs ≤ 2 ^ 1008 := fun k hk => (okw.num k (bW k hk)).resolve_right (by rw [hf k hk]; decide)
          obtain ⟨d, _, hfit, _⟩ := fsumX_ok (by lia) hb8
          have ep : (ks.map rndO).map vO = (ks.map rnd).map .int := by
            rw [List.map_map, List.map_map]
            refine List.map_congr_left fun k hk => ?_
            show vO (rndO k) = .int (rnd k)
            rw [rndO, if_neg (by rw [hf k hk]; decide)]; rfl
          rw [ep]
          have hrd : rndO (isum (ks.map rnd)) = some (rnd (isum (ks.map rnd))) := by rw [rndO, if_neg (by simp [hfit])]
          refine exs_nil (exs_cons (ex_if (tst_cmp <| ev_builtin l.sum <| args_val <| ev_name rfl <| args_val_nil <| bi_sum hr.handled <| ev_int <| cmp_eq ⟨_, rfl, ?_⟩)))
          by_cases h0 : isum (ks.map rnd) = 0
          · rw [if_pos h0] at due
            rw [show (isum (ks.map rnd) == 0) = true by rw [h0]; rfl]
            refine exs_said0 ?_
            show _ = _
            rw [due]; rfl
          · rw [if_neg h0] at due
            rw [show (isum (ks.map rnd) == 0) = false by simpa using h0]
            refine exs_nil ?_
            have h1' : Has ((("parts" : Str), LV.val (.lst ((ks.map rnd).map .int))) :: loc) "data" (.lst (is.map .int)) := loc_put h1 rfl
            have h2' : Has ((("parts" : Str), LV.val (.lst ((ks.map rnd).map .int))) :: loc) "weights" (.lst (ks.map .int)) := loc_put h2 rfl
            have h3' : Has ((("parts" : Str), LV.val (.lst ((ks.map rnd).map .int))) :: loc) "parts" (.lst ((ks.map rnd).map .int)) := rfl
            generalize ((("parts" : Str), LV.val (.lst ((ks.map rnd).map .int))) :: loc) = lc at h1' h2' h3'
            refine exs_let (.inl rfl) <| ev_call l.rounded (l.fn (fn_rounded P)) <| args_cons <| ev_val <| ev_builtin l.sum <| args_val <| ev_comp hr.handled <| ev_type l.range <| args_val <| ev_builtin l.len <| args_val <| ev_name h1' <| args_val_nil <| bi_len_lst hz <| args_val_nil <| bi_range1 ?_
            rw [show (((is.map V.int).length : Nat) : Int) = ((is.length : Nat) : Int) by simp]
            refine ⟨small_one (by decide) (by simp; lia), by rw [rng_len]; exact len7 (by lia), [(("weights" : Str), L + 2), (("data" : Str), L + 1)], [("data", .val (.lst (is.map .int))), ("weights", .val (.lst (ks.map .int)))], fun B => match B with | .int j => .int (is.getD j.toNat 0 * ks.getD j.toNat 0) | _ => .none, fun _ => true, ?f2, ?b2, ?c2⟩
            case f2 =>
              refine { clos := rfl, hcl := ?_, kind := rfl, names := by decide, fr := ?_ }
              · intro y c e
                have := mem_of_lookup e
                simp only [List.mem_cons, List.not_mem_nil, or_false, Prod.mk.injEq] at this
                rcases this with ⟨rfl, rfl⟩ | ⟨rfl, rfl⟩ <;> rfl
              · intro y lv e
                have := mem_of_lookup e
                simp only [List.mem_cons, List.not_mem_nil, or_false, Prod.mk.injEq] at this
                rcases this with ⟨rfl, rfl⟩ | ⟨rfl, rfl⟩
                · exact ⟨rfl, ⟨_, rfl⟩, h1', .inl rfl, fun C => rfl⟩
                · exact ⟨rfl, ⟨_, rfl⟩, h2', .inl rfl, fun C => rfl⟩
            case b2 =>
              refine { hx := .inl rfl, xfr := rfl, hifs := fun B _ C => ifs_nil, helt := ?_ }
              intro B hB _ C
              rw [items_rng0] at hB
              obtain ⟨j, hj, rfl⟩ := List.mem_map.mp hB
              rw [List.mem_range] at hj
              have e1 : (is.map V.int)[pyIdx (j : Int) (is.map V.int).length]? = some (.int (is.getD j 0)) := by
                rw [pyIdx_nat, List.getElem?_map, List.getElem?_eq_getElem hj, List.getD_eq_getElem?_getD, List.getElem?_eq_getElem hj]; rfl
              have e2 : (ks.map V.int)[pyIdx (j : Int) (ks.map V.int).length]? = some (.int (ks.getD j 0)) := by
                rw [pyIdx_nat, List.getElem?_map, List.getElem?_eq_getElem (by grind : j < ks.length), List.getD_eq_getElem?_getD, List.getElem?_eq_getElem (by grind : j < ks.length)]; rfl
              have m1 : is.getD j 0 ∈ is := by rw [List.getD_eq_getElem?_getD, List.getElem?_eq_getElem hj]; exact List.getElem_mem hj
              have m2 : ks.getD j 0 ∈ ks := by rw [List.getD_eq_getElem?_getD, List.getElem?_eq_getElem (by grind : j < ks.length)]; exact List.getElem_mem (by grind)
              exact ev_bin <| ev_sub <| ev_name rfl <| ev_name rfl <| it_lst hz (by simp; omega) e1 <| ev_sub <| ev_name rfl <| ev_name rfl <| it_lst hzw (by simp; grind) e2 <| op_mul ⟨rfl, Loc.le_cons _ (Loc.le_refl _) rfl⟩ (okm.mul (bD _ m1) (bW _ m2))
            case c2 =>
            have em2 : List.map (fun B => match B with | V.int j => V.int (is.getD j.toNat 0 * ks.getD j.toNat 0) | _ => V.none) (List.filter (fun _ => true) (V.items (.rng 0 (is.length : Int) 1))) = (List.zipWith (· * ·) is ks).map .int := by
              rw [List.filter_eq_self.mpr fun _ _ => rfl, items_rng0, List.map_map, ← zip_range is ks hik]
              rfl
            rw [em2]
            refine args_val_nil <| bi_sum hr.handled <| args_nil <| kws_nil ⟨1, _, _, rm, c_rounded l _, fun R hR => ?_, fun _ z => z.elim⟩
            subst hR
            refine exs_cons (ex_if (tst_cmp (ev_name rfl (ev_none (cmp_is_none ⟨_, rfl, ?_⟩)))))
            change dV (dueD ds ws) = V.lst [if isInf (ofInt (isum (List.zipWith (· * ·) is ks))) = true then _ else .flt (qf (rnd (isum (List.zipWith (· * ·) is ks))) _), .lst []] at due
            cases hT : isInf (ofInt (isum (List.zipWith (· * ·) is ks))) with
            | true =>
              rw [hT, if_pos rfl] at due
              rw [show rndO (isum (List.zipWith (· * ·) is ks)) = none by rw [rndO, if_pos hT]]
              refine exs_said0 ?_
              show _ = _
              rw [due]
            | false =>
              rw [hT, if_neg (by decide)] at due
              rw [show rndO (isum (List.zipWith (· * ·) is ks)) = some (rnd (isum (List.zipWith (· * ·) is ks))) by rw [rndO, if_neg (by simp [hT])]]
              have hq := qf_ok (rnd_rn hT).1 (rnd_rn hfit).1 (rnd_ne hfit h0)
              refine exs_nil <| exs_ret <| ev_list <| args_val <| ev_bin <| ev_name rfl <| ev_call l.rounded (l.fn (fn_rounded P)) <| args_cons <| ev_val <| ev_builtin l.sum <| args_val <| ev_name (loc_put h3' rfl) <| args_val_nil <| bi_sum hr.handled <| args_nil <| kws_nil ⟨1, _, _, rm, c_rounded l _, fun R hR => ?_, fun _ z => z.elim⟩
              subst hR
              rw [hrd]
              refine op_div_ii (rnd_ne hfit h0) (by rw [show Float64.isInf (Float64.ofFrac _ _ _) = isInf (qf _ _) from rfl, hq.2]; decide) <| args_val <| ev_list <| args_val_nil ⟨by show 0 ≤ sizeLine; decide, args_val_nil ⟨by show 2 ≤ sizeLine; decide, ?_⟩⟩
              show _ = _
              rw [due]; rfl
      · rw [show (((ds.map vO).length : Int) != ((ws.map vO).length : Int)) = true by rw [bne_iff_ne, hlen, hlenw]; lia]
        have due : dV (dueD ds ws) = .lst [.str xUnlike, .lst ((ds.drop (ws.length + 1)).map vO)] := by unfold dueD; rw [hno]; simp only; rw [if_neg hne]; rfl
        refine exs_said (ev_from h1 hz (ev_builtin l.len (args_val (ev_name h2 (args_val_nil (bi_len_lst hzw ⟨rfl, ?_⟩))))))
        show _ = _
        rw [due, hlenw, List.map_drop]; rfl
end Mine
end
section
open PySem PySem.W PyProof.Rows
set_option linter.unusedVariables false
set_option maxRecDepth 100000
namespace Mine
open PySem.Float64 (isInf ofInt isZero div)
variable {F : Fix} {P : Params}
/- the table of fmean's code object -/
noncomputable abbrev tb : Addr × List V := (58, [tagV])
noncomputable def xE (c : String) : Exc := ⟨.type c, none⟩
noncomputable def xS (m : Str) : Exc := ⟨.ref 52, some m⟩
/- fmean(data, weights=weights): what it comes to, and what is left of the data -/
noncomputable def fm2 (As Bs : List V) : Except Exc V × List V :=
  match spX 0 As Bs with
  | (.error c, r) => (.error (if c = "ValueError" then xS xUnlike else xE c), r)
  | (.ok (.int T), r) =>
    match fsumX [] Bs with
    | (.error c, _) => (.error (xE c), r)
    | (.ok d, _) => if isZero d then (.error (xS xZero), r) else if isInf (ofInt T) then (.error (xE "OverflowError"), r) else (.ok (.flt (div (ofInt T) d)), r)
  | (.ok _, r) => (.error (xE ""), r)
theorem spX_err : ∀ {As Bs : List V} {T : Int} {c : String} {r : List V}, spX T As Bs = (.error c, r) → c = "ValueError" ∨ c = "TypeError"
  | [], [], T, c, r, h => by simp [spX] at h
  | [], _ :: _, T, c, r, h => by simp [spX] at h; exact .inl h.1.symm
  | _ :: _, [], T, c, r, h => by simp [spX] at h; exact .inl h.1.symm
  | A :: As, B :: Bs, T, c, r, h => by
    unfold spX at h
    split at h
    · exact spX_err h
    · simp at h; exact .inr h.1.symm
/- what is handed over is sound -/
structure SrOk (S : Sr) : Prop where
  seq : ∀ A As, S = .seq A As → A = .lst As ∨ A = .tup As
  ion : ∀ A ∈ S.items, A.ion
  len : S.items.length ≤ 80
noncomputable def Fm2Q (S W : Sr) : V → Gs → Prop := fun R gs' => ∃ r, fm2 S.items W.items = (.ok R, r) ∧ gs' = [tb] ++ (S.left r).gs ++ (W.left []).gs
noncomputable def Fm2X (S W : Sr) : Exc → Gs → Prop := fun x gs' => ∃ r, fm2 S.items W.items = (.error x, r) ∧ gs' = [tb] ++ (S.left r).gs ++ (W.left []).gs
theorem noGh_fmean (A : Around) (L : Addr) : NoGh (F.fn A (fdAt (K8 P) 13) 63 L) := fun a => rfl
set_option maxHeartbeats 2000000 in
theorem fm_tail (l : Land (K8 P) F) {S W : Sr} {B : V} {A : Around} {L : Addr} {lc : Loc} (hr : Room A 1) (okS : SrOk S) (okW : SrOk W) (mo : ∀ (i : Nat) (a b : Int), S.items[i]? = some (.int a) → W.items[i]? = some (.int b) → IntMulOk a b)
    (nd : (([tb] ++ S.gs ++ (W.left []).gs).map (·.1)).Nodup) (at_ : AtG lc ([tb] ++ S.gs ++ (W.left []).gs)) (hB : B = .lst W.items ∨ B = .tup W.items) (hd : Has lc "data" S.v) (hw : Has lc "weights" B) :
    Exs (F.fn A (fdAt (K8 P) 13) 63 L) lc ((bdAt (K8 P) 13).drop 2) (FnQG ([tb] ++ S.gs ++ W.gs) (Fm2Q S W)) (FnXG ([tb] ++ S.gs ++ W.gs) (Fm2X S W)) := by
  have hh := hr.handled
  have si : S.In lc := (at_.sub fun p hp => List.mem_append_left _ (List.mem_append_right _ hp)).inS okS.seq
  have adr : ∀ r, ([tb] ++ (S.left r).gs ++ (W.left []).gs).map (·.1) = ([tb] ++ S.gs ++ W.gs).map (·.1) := fun r => by
    simp only [List.map_append, Sr.left_adr]
  have inG : ∀ r (l' : Loc), AtG l' ([tb] ++ (S.left r).gs ++ (W.left []).gs) → GsIn ([tb] ++ S.gs ++ W.gs) ([tb] ++ (S.left r).gs ++ (W.left []).gs) l' := fun r l' h => ⟨adr r, h⟩
  have put : ∀ r, AtG (S.put r lc) ([tb] ++ (S.left r).gs ++ (W.left []).gs) := fun r => at_.put nd
  conv => arg 3; whnf
  refine exs_cons (ex_try (isFn_fn ..) (exs_let (.inl rfl) <| ev_builtin l.sumprod <| args_val <| ev_name hd <| args_val <| ev_name hw <| args_val_nil <| bi_sumprodG (noGh_fmean A L) hh si okS.ion hB okW.ion mo (fun T hT => ?_) fun c r hc => ?_))
  · have p0 : AtG (("num", LV.val (.int T)) :: S.put [] lc) ([tb] ++ (S.left []).gs ++ (W.left []).gs) := (put []).var fun a => gh_ne (by decide) a
    have h1 : Has (("num", LV.val (.int T)) :: S.put [] lc) "num" (.int T) := rfl
    have h2 : Has (("num", LV.val (.int T)) :: S.put [] lc) "weights" B := loc_put (Sr.put_has (not_gh (by decide)) hw) rfl
    refine exs_nil ?_
    show Exs _ (((("num" : Str), LV.val (.int T)) :: S.put [] lc)) _ _ _
    generalize (((("num" : Str), LV.val (.int T)) :: S.put [] lc)) = l1 at p0 h1 h2
    have fin : ∀ {x : Except Exc V}, fm2 S.items W.items = (x, []) → True := fun _ => trivial
    refine exs_let (.inl rfl) <| ev_builtin l.fsum <| args_val <| ev_name h2 <| args_val_nil <| bi_fsumG (S := .seq B W.items) (noGh_fmean A L) hh hB (Nat.lt_of_le_of_lt okW.len (by decide)) okW.ion (fun d hdn => ?_) fun c r hc => ?_
    · have p1 : AtG (("den", LV.val (.flt d)) :: l1) ([tb] ++ (S.left []).gs ++ (W.left []).gs) := p0.var fun a => gh_ne (by decide) a
      refine exs_cons (ex_if (tst_not (tst_val (ev_name rfl (tr_flt ?_)))))
      have hdn' : fsumX [] W.items = (.ok d, []) := hdn
      cases hz : isZero d with
      | true =>
        refine exs_cons (ex_raise l.cls l.stat hh ⟨_, inG [] _ p1, [], ?_, rfl⟩)
        unfold fm2; rw [hT]; simp only [hdn', hz, if_true]; rfl
      | false =>
        refine exs_nil (exs_ret (ev_bin (ev_name (loc_put h1 rfl) (ev_name rfl (op_div_if hh hz (fun hi => ?_) fun hi => ?_)))))
        · refine ⟨_, inG [] _ p1, [], ?_, rfl⟩
          unfold fm2; rw [hT]; simp only [hdn', hz, hi, if_true]; rfl
        · refine ⟨_, inG [] _ p1, [], ?_, rfl⟩
          unfold fm2; rw [hT]; simp only [hdn', hz, hi]; rfl
    · refine ⟨_, inG [] _ p0, [], ?_, rfl⟩
      have hc' : fsumX [] W.items = (.error c, r) := hc
      unfold fm2; rw [hT]; simp only [hc']; rfl
  · rcases spX_err hc with rfl | rfl
    · refine hd_raise (isFn_fn ..) l.value matches_value rfl l.cls l.stat ⟨_, inG r _ (put r), r, ?_, rfl⟩
      unfold fm2; rw [hc]; rfl
    · refine hd_no l.value matches_type_value (hd_nil ⟨_, inG r _ (put r), r, ?_, rfl⟩)
      unfold fm2; rw [hc]; rfl
set_option maxHeartbeats 2000000 in
theorem c_fm2 (l : Land (K8 P) F) {S W : Sr} (okS : SrOk S) (okW : SrOk W) (mo : ∀ (i : Nat) (a b : Int), S.items[i]? = some (.int a) → W.items[i]? = some (.int b) → IntMulOk a b) (nd : (([tb] ++ S.gs ++ W.gs).map (·.1)).Nodup) :
    CallsG F (.ref 63) 1 [S.v] ["weights"] [W.v] ([tb] ++ S.gs ++ W.gs) (Fm2Q S W) (Fm2X S W) := by
  refine callsG_of (names := ["data", "weights"]) (dlvs := []) (defs := []) (l.fn (fn_fmean P)) (by decide) (by intro x hx; simp at hx; rcases hx with rfl | rfl <;> exact .inl rfl) rfl (fun H => reps_nil H) (fun b => rfl) (fun s vals kvals hb h1 h2 => ?_) fun A L hr => ?_
  · obtain ⟨v, rfl⟩ := len_one h1
    obtain ⟨u, rfl⟩ := len_one h2
    exact @kp_binds _ _ _ _ _ (l.kin.keeps hb) (fun S => by kernel_rfl)
  · show Exs _ (Gs.loc ([tb] ++ S.gs ++ W.gs) ++ ([("data", .val S.v), ("weights", .val W.v)] : Loc)) _ _ _
    have hd : Has (Gs.loc ([tb] ++ S.gs ++ W.gs) ++ ([("data", .val S.v), ("weights", .val W.v)] : Loc)) "data" S.v := gloc_has (not_gh (by decide)) rfl
    have hw : Has (Gs.loc ([tb] ++ S.gs ++ W.gs) ++ ([("data", .val S.v), ("weights", .val W.v)] : Loc)) "weights" W.v := gloc_has (not_gh (by decide)) rfl
    have at_ : AtG (Gs.loc ([tb] ++ S.gs ++ W.gs) ++ ([("data", .val S.v), ("weights", .val W.v)] : Loc)) ([tb] ++ S.gs ++ W.gs) := gloc_at nd
    generalize (Gs.loc ([tb] ++ S.gs ++ W.gs) ++ ([("data", .val S.v), ("weights", .val W.v)] : Loc)) = lc at hd hw at_
    have wi : W.In lc := (at_.sub fun p hp => List.mem_append_right _ hp).inS okW.seq
    have wn : W.v.isNone = false := by
      cases W with
      | seq A As => rcases okW.seq A As rfl with rfl | rfl <;> rfl
      | it a As => rfl
    have nd' : (([tb] ++ S.gs ++ (W.left []).gs).map (·.1)).Nodup := by
      have : ([tb] ++ S.gs ++ (W.left []).gs).map (·.1) = ([tb] ++ S.gs ++ W.gs).map (·.1) := by simp only [List.map_append, Sr.left_adr]
      rw [this]; exact nd
    have tl := fun (B : V) (lc : Loc) at_ hB hd hw => fm_tail (F := F) (P := P) (A := A) (L := L) (S := S) (W := W) (B := B) (lc := lc) l hr okS okW mo nd' at_ hB hd hw
    conv => arg 3; whnf
    refine exs_cons (ex_if (tst_cmp (ev_name hw (ev_none (cmp_is_none ⟨_, rfl, ?_⟩)))))
    rw [wn]
    refine exs_nil (exs_cons (ex_if (tst_not (tst_val (ev_isinstanceG (S := W) l.isinstance l.list l.tuple hw wi (ion_tag okW.ion) (tr_bool ?_))))))
    cases W with
    | seq B Bs => exact exs_nil (tl B lc at_ (okW.seq B Bs rfl) hd hw)
    | it b Bs =>
      refine exs_let (.inl rfl) <| ev_type l.list <| args_val <| ev_name hw <| args_val_nil <| bi_listG (S := .it b Bs) (noGh_fmean A L) hr.handled wi (len7 (Nat.le_trans okW.len (by decide))) okW.ion ?_
      refine exs_nil (tl (.lst Bs) _ ?_ (.inl rfl) (loc_put (Sr.put_has (not_gh (by decide)) hd) rfl) rfl)
      have at2 : AtG lc ([tb] ++ S.gs ++ (Sr.it b Bs).gs ++ []) := by rw [List.append_nil]; exact at_
      have := at2.put (r := []) (by rw [List.append_nil]; exact nd)
      rw [List.append_nil] at this
      exact this.var fun a => gh_ne (by decide) a
end Mine
end
section
open PySem PySem.W PyProof.Rows
set_option linter.unusedVariables false
set_option maxRecDepth 100000
namespace Mine
end Mine
end
section
open PySem PySem.W PyProof.Rows
set_option linter.unusedVariables false
set_option maxRecDepth 100000
namespace Mine
section
variable {prog : Program} {w : World} {A : Around} {E : Value → Shared → Prop} {s : Shared}
/- a built-in type is called with names for values -/
theorem callType_kw {T newId initId : String} {Bn Bi : Builtin} {args : List Value} {kw : List (Str × Value)} {S : PySem.Spec} {Q Q₁ : Value → Shared → Prop} (ft : TypeCalled T newId initId)
    (hct : checkTypeCall T ⟨args, kw⟩ = pure ()) (hcn : checkBuiltinCall newId ⟨.type T :: args, kw⟩ = pure ())
    (entryN : entryFor table newId = some Bn) (entryI : entryFor table initId = some Bi) (g : Meets (Bn ⟨.type T :: args, kw⟩) S)
    (h : S A.in1 (wants Q₁ E) s)
    (hnext : ∀ obj s₁, Q₁ obj s₁ → s₁.TypeIs obj T ∧ argsOk initId ⟨obj :: args, kw⟩ ∧ ∃ Si, Meets (Bi ⟨obj :: args, kw⟩) Si ∧ Si A.in1 (wants (fun r s₂ => r = .none ∧ Q obj s₂) E) s₁) :
    wpAny (model prog w) A (call (.type T) args kw) Q E s := by
  obtain ⟨c, tl, hmro⟩ := ft.mro
  have hmade := ft.made
  have hsub := ft.sub
  refine wpAny_call (codeAny_of_tree ?_)
  show wpAny _ _ (callAny (.type T) _) _ _ _
  refine wpAny_pure ⟨Code.quiet_builtin _ (by decide +kernel), codeAny_builtin F.entry_type_call ?_⟩
  rw [Around.under_plain (weight_type_call_type T args kw) (units_type_call_type T args kw)]
  have h1 := ft.notType
  have h2 := ft.canCreate
  repeat (any_goals (first | assumption | wp_step))
  refine codeAny_mono (codeAny_call_builtin ft.plain entryN (wpAny_of_eq hcn (g prog w A.in1 _ s h))) fun r s₁ hr => ?_
  cases r with
  | error e => exact hr
  | ok fl =>
    cases fl with
    | ret obj =>
      refine gg fun GG hGG => ?_
      obtain ⟨hT, hok, Si, gi, hsi⟩ := hnext _ _ hr
      refine hGG ?_
      have hli := ft.init.lookup
      have hbi := ft.init.bind obj
      repeat (any_goals (first | assumption | wp_step))
      refine codeAny_mono (codeAny_call_builtin ft.init.plain entryI (ft.init.check _ _ _ _ _ _ _ _ hT hok (gi prog w A.in1 _ s₁ hsi))) fun r₂ s₂ hr₂ => ?_
      cases r₂ with
      | error e => exact hr₂
      | ok fl₂ =>
        cases fl₂ with
        | ret r =>
          obtain ⟨rfl, hq⟩ := hr₂
          repeat (any_goals (first | assumption | wp_step))
        | _ => exact hr₂.elim
    | _ => exact hr.elim
theorem object_init_kw {T newId : String} {self : Value} {rest : List Value} {kw : List (Str × Value)} (hl : typeLookup (.type T) "__init__" = pure (some (.builtin "object.__init__")))
    (hm : Bind.madeBy (.type T) = pure (some newId)) (hne : (some newId != some "object.__new__") = true) :
    Meets (Builtin.«object.__init__» ⟨self :: rest, kw⟩) (fun _ R s => s.TypeIs self T ∧ R (.ok (.ret .none)) s) := by
  refine Meets.of_wp fun prog w A R s hs => ?_
  obtain ⟨hT, hq⟩ := hs
  cases rest with
  | nil =>
    cases kw with
    | nil => exact wpAny_pure ⟨_, rfl, hq⟩
    | cons a kw =>
      repeat (any_goals (first | assumption | wp_step))
      exact ⟨_, rfl, hq⟩
  | cons a rest =>
    repeat (any_goals (first | assumption | wp_step))
    exact ⟨_, rfl, hq⟩
theorem en_typeCall (a b : Value) : checkTypeCall "enumerate" ⟨[a], [("start", b)]⟩ = pure () := by kernel_rfl
theorem en_newCall (a b : Value) : checkBuiltinCall "enumerate.__new__" ⟨[.type "enumerate", a], [("start", b)]⟩ = pure () := by kernel_rfl
theorem en_args (obj a b : Value) : argsOk "object.__init__" ⟨[obj, a], [("start", b)]⟩ := by unfold argsOk; kernel_rfl
/- enumerate(it, start=1), it an iterator of a list -/
theorem meets_enum_start (it : Addr) (t : Tok) :
    Meets (Builtin.«enumerate.__new__» ⟨[.type "enumerate", .ref it], [("start", .int 1 t)]⟩) (fun _ R s => ((∃ l i, s.heap.IsListIter it l i) ∨ Dead s.heap it) ∧
      R (.ok (.ret (.ref s.heap.objs.size))) { s with heap := s.heap.push { cls := .type "enumerate", data := .fields #[.none, .bool false, .ref it, rawInt 1, .none, .none] } }) :=
  .of_wp fun prog w A R s h => by
    obtain ⟨hp, g, d, tk, os⟩ := s; obtain ⟨hl, h⟩ := h
    have hsub := sub_enumerate
    have hI : ∀ {A : Around} {E : Value → Shared → Prop} {Q : Value → Shared → Prop}, Q (.ref it) ⟨hp, g, d, tk, os⟩ → wpAny (model prog w) A (pyIter (.ref it)) Q E ⟨hp, g, d, tk, os⟩ := fun hq => by
      rcases hl with ⟨l, i, hit⟩ | hd
      · exact wpAny_pyIter_listiter hit hq
      · exact iter_dead hd hq
    wp_walk
    refine wpAny_stack_any fun st => wpAny_pure ?_
    split
    · rename_i c _ _ _ _ _
      cases (c == Value.type "enumerate")
      · wp_walk using hI
        exact ⟨_, rfl, h⟩
      · wp_walk using hI
        exact ⟨_, rfl, h⟩
    · wp_walk using hI
      exact ⟨_, rfl, h⟩
end
end Mine
end
section
open PySem PySem.W PyProof.Rows
set_option linter.unusedVariables false
set_option maxRecDepth 100000
namespace Mine
section
variable {prog : Program} {w : World} {A : Around} {E : Value → Shared → Prop} {s : Shared}
theorem call_enum_start {it : Addr} {t : Tok} {Q : Value → Shared → Prop} (hl : (∃ l i, s.heap.IsListIter it l i) ∨ Dead s.heap it)
    (h : Q (.ref s.heap.objs.size) { s with heap := s.heap.push { cls := .type "enumerate", data := .fields #[.none, .bool false, .ref it, rawInt 1, .none, .none] } }) :
    wpAny (model prog w) A (call (.type "enumerate") [.ref it] [("start", .int 1 t)]) Q E s :=
  callType_kw (Q₁ := fun obj s₁ => s₁.TypeIs obj "enumerate" ∧ Q obj s₁) F.called_enumerate (en_typeCall _ _) (en_newCall _ _) F.entry_enumerate_new F.entry_object_init (meets_enum_start it t)
    ⟨hl, ⟨⟨_, Heap.get?_push_size _ rfl, rfl⟩, h⟩⟩ fun obj s₁ hq => ⟨hq.1, en_args obj _ _, _, object_init_kw F.called_enumerate.init.lookup F.called_enumerate.made (by decide), hq.1, rfl, hq.2⟩
/- next of a list's iterator, at the end -/
theorem nx_end {H : Hm} {it : Addr} {Q : Value → Shared → Prop} (hh : A.handled = none) (ag : ∀ b o, H b = some o → s.heap.get? b = some o) (hi : ItrN H s.heap it [])
    (hE : ∀ h' e, Heap.ExtBut it s.heap h' → Dead h' it → (∃ o, h'.get? e = some o ∧ o.cls = .type "StopIteration") → E (.ref e) { s with heap := h' }) :
    wpAny (model prog w) A (Builtin.SmallTypes.nextOf (.ref it)) Q E s := by
  rcases hi with ⟨l, i, ol, xs, nl, hit, hl, hcl, hdl, rs⟩ | ⟨_, hdead⟩
  · have hx : xs[i]? = none := by
      have : xs.toList.drop i = [] := rs
      have h2 := congrArg List.length this
      simp at h2
      simp; omega
    have hol := ag _ _ hl
    obtain ⟨o, ho, hc, hd⟩ := id hit
    unfold Builtin.SmallTypes.nextOf
    refine wpAny_bind (wpAny_callSpecial?_slot (name := Str.ofString "__next__") hit.typeIs slot_listiter_next
      (wpAny_call_entry slot_listiter_next hit.typeIs entry_listiter_next ?_ (args_listiter_next _)))
    show wpAny _ _ (field (.ref it) 0 >>= _) _ _ s
    refine wpAny_bind (wpAny_field ho hd (x := .ref l) rfl ?_)
    show wpAny _ _ (if (Value.ref l == Value.none) = true then _ else _) _ _ s
    rw [if_neg (show ¬ ((Value.ref l == Value.none) = true) from Bool.false_ne_true)]
    show wpAny _ _ (field (.ref it) 1 >>= _) _ _ s
    refine wpAny_bind (wpAny_field ho hd (x := .int i 0) rfl ?_)
    show wpAny _ _ (seqItems? (.ref l) >>= _) _ _ s
    refine wpAny_bind (wpAny_seqItems hol hdl ?_)
    simp only [Int.toNat_natCast, hx]
    refine wpAny_bind (wpAny_rule (wpAny_bind (wpAny_setField ho hd (by simp) ?_)))
    show wpAny _ _ (newExc (.type "StopIteration") [] >>= _) _ _ _
    refine wpAny_bind ?_
    simp only [newExc, newTuple]
    refine wpAny_bind (wpAny_newObj_type ?_ (by size_fits))
    refine wpAny_bind (m := firstArgMember _ _) (wpAny_of_eq (a := Value.none) (by first | rfl | (simp only [firstArgMember]; rfl)) ?_)
    refine wpAny_newObj_type ?_ (by size_fits)
    simp only [raiseNew]
    refine wpAny_bind (wpAny_handled ?_)
    first | rw [show A.in1.handled = none from hh] | rw [hh]
    refine wpAny_bind (wpAny_pure (wpAny_throw ?_))
    refine hE _ _ (((Heap.SameBut.update ..).extBut.push _).push _) ⟨_, i, Heap.get?_push_of_some _ (Heap.get?_push_of_some _ (Heap.get?_update_self _ ho (Obj.isFreed_of_fields (Obj.data_mapFields hd _)))), ?_, ?_⟩ ⟨_, Heap.get?_push_size _ rfl, rfl⟩
    · rw [show (Obj.mapFields (fun x => x.setIfInBounds 0 Value.none) o).cls = o.cls by unfold Obj.mapFields; split <;> rfl]; exact hc
    · rw [Obj.data_mapFields hd]; rfl
  · obtain ⟨o, i, ho, hc, hd⟩ := id hdead
    have hT : s.TypeIs (.ref it) "list_iterator" := ⟨o, ho, hc⟩
    unfold Builtin.SmallTypes.nextOf
    refine wpAny_bind (wpAny_callSpecial?_slot (name := Str.ofString "__next__") hT slot_listiter_next
      (wpAny_call_entry slot_listiter_next hT entry_listiter_next ?_ (args_listiter_next _)))
    show wpAny _ _ (field (.ref it) 0 >>= _) _ _ s
    refine wpAny_bind (wpAny_field ho hd (x := .none) rfl ?_)
    show wpAny _ _ (if (Value.none == Value.none) = true then _ else _) _ _ s
    rw [if_pos (by rfl)]
    refine wpAny_bind (wpAny_rule ?_)
    refine wpAny_bind ?_
    refine wpAny_bind (m := newExc (.type "StopIteration") []) ?_
    simp only [newExc, newTuple]
    refine wpAny_bind (wpAny_newObj_type ?_ (by size_fits))
    refine wpAny_bind (m := firstArgMember _ _) (wpAny_of_eq (a := Value.none) (by first | rfl | (simp only [firstArgMember]; rfl)) ?_)
    refine wpAny_newObj_type ?_ (by size_fits)
    simp only [raiseNew]
    refine wpAny_bind (wpAny_handled ?_)
    first | rw [show A.in1.handled = none from hh] | rw [hh]
    refine wpAny_bind (wpAny_pure (wpAny_throw ?_))
    exact hE _ _ (fun b o _ e => Heap.get?_push_of_some _ (Heap.get?_push_of_some _ e)) ⟨o, i, Heap.get?_push_of_some _ (Heap.get?_push_of_some _ ho), hc, hd⟩ ⟨_, Heap.get?_push_size _ rfl, rfl⟩
/- a list's iterator, drawn from; the count is one ahead -/
theorem draws_itr {H : Hm} {As : List V} {it : Addr} (hh : A.handled = none) (ha : H it = none) :
    ∀ (i : Nat) (s : Shared) (Q : Value → Shared → Prop) (E : Value → Shared → Prop), i < As.length → ItrN H s.heap it (As.drop i) → (∀ b o, H b = some o → s.heap.get? b = some o) →
      (∀ x h' , (∃ B, As[i]? = some B ∧ Rep H B x) → ItrN H h' it (As.drop (i + 1)) → Heap.SameBut it s.heap h' → Q x { s with heap := h' }) → wpAny (model prog w) A (Builtin.SmallTypes.nextOf (.ref it)) Q E s := by
  intro i s Q E hi hI ag k
  have hd : As.drop i = As[i] :: As.drop (i + 1) := List.drop_eq_getElem_cons hi
  rw [hd] at hI
  rcases hI with ⟨l, j, o, xs, m, hit, hl, hc, hdt, rs⟩ | ⟨z, _⟩
  · simp only [Reps] at rs
    obtain ⟨y, ys, e1, r1, r2⟩ := rs
    have hy : xs[j]? = some y := by
      have := congrArg (fun l => l[0]?) e1
      simpa using this
    refine wpAny_nextOf_list_item hit ⟨o, ag _ _ hl, hc, m, hdt⟩ hy fun h' hit' hs' => ?_
    refine k y _ ⟨As[i], List.getElem?_eq_getElem hi, r1⟩ (.inl ⟨l, j + 1, o, xs, m, hit', hl, hc, hdt, ?_⟩) hs'
    have : xs.toList.drop (j + 1) = ys := by
      have := congrArg List.tail e1
      simpa using this
    rw [this]; exact r2
  · cases z
end
end Mine
end
section
open PySem PySem.W PyProof.Rows
set_option linter.unusedVariables false
set_option maxRecDepth 100000
namespace Mine
section
variable {prog : Program} {w : World} {A : Around} {E : Value → Shared → Prop} {s : Shared} {H : Hm} {As : List V}
theorem enum_nextI {e it : Addr} {i : Nat} {c : Int} {old : Value} {Q : Value → Shared → Prop} (hh : A.handled = none) (ha : H it = none) (ag : ∀ b o, H b = some o → s.heap.get? b = some o)
    (he : IsEnum s.heap e it c old) (hI : ItrN H s.heap it (As.drop i)) (hi : i < As.length) (hne : e ≠ it)
    (hQ : ∀ x h', (∃ B, As[i]? = some B ∧ Rep H B x) → IsEnumOut h' e it (c + 1) x s.heap.objs.size → ItrN H h' it (As.drop (i + 1)) →
      h'.get? s.heap.objs.size = some { cls := .type "tuple", data := .seq #[.int c s.toks, x] } → h'.objs.size = s.heap.objs.size + 1 →
      (∀ b o, b ≠ e → b ≠ it → s.heap.get? b = some o → h'.get? b = some o) → Q (.ref s.heap.objs.size) { s with heap := h', toks := s.toks + 1 }) :
    wpAny (model prog w) A (Builtin.«enumerate.__next__» ⟨[.ref e], []⟩) (fun fin s' => ∃ v, fin = .done (.ret v) ∧ Q v s') E s := by
  obtain ⟨hp, g, d, tk, os⟩ := s
  show wpAny _ _ (field (.ref e) 2 >>= _) _ _ _
  refine wpAny_bind (wpAny_field he rfl (x := .ref it) rfl ?_)
  refine wpAny_bind (draws_itr (As := As) hh ha i _ _ _ hi hI ag fun x h₁ hP hit₁ hs₁ => ?_)
  replace hs₁ : Heap.SameBut it hp h₁ := hs₁
  have he₁ : IsEnum h₁ e it c old := (hs₁.2 e hne).trans he
  show wpAny _ _ (field (.ref e) 3 >>= _) _ _ ⟨h₁, g, d, tk, os⟩
  refine wpAny_bind (wpAny_field he₁ rfl (x := rawInt c) rfl ?_)
  show wpAny _ _ (field (.ref e) 4 >>= _) _ _ ⟨h₁, g, d, tk, os⟩
  refine wpAny_bind (wpAny_field he₁ rfl (x := .none) rfl ?_)
  show wpAny _ _ (mkInt c >>= _) _ _ ⟨h₁, g, d, tk, os⟩
  refine wpAny_bind (wpAny_mkInt ?_)
  show wpAny _ _ (setField (.ref e) 3 (rawInt (c + 1)) >>= _) _ _ ⟨h₁, g, d, tk + 1, os⟩
  refine wpAny_bind (wpAny_setField_rec he₁ (by simp) fun h₂ he₂ hs₂ => ?_)
  replace hs₂ : Heap.SameBut e h₁ h₂ := hs₂
  replace he₂ : IsEnum h₂ e it (c + 1) old := he₂
  show wpAny _ _ (setField (.ref e) 4 .none >>= _) _ _ ⟨h₂, g, d, tk + 1, os⟩
  refine wpAny_bind (wpAny_setField_rec he₂ (by simp) fun h₃ he₃ hs₃ => ?_)
  replace hs₃ : Heap.SameBut e h₂ h₃ := hs₃
  replace he₃ : IsEnum h₃ e it (c + 1) old := he₃
  show wpAny _ _ (newTuple [.int c tk, x] >>= _) _ _ ⟨h₃, g, d, tk + 1, os⟩
  refine wpAny_bind (wpAny_newTuple ?_)
  have he₄ : IsEnum (h₃.push { cls := .type "tuple", data := .seq #[.int c tk, x] }) e it (c + 1) old := Heap.get?_push_of_some _ he₃
  generalize hh₄ : h₃.push { cls := .type "tuple", data := .seq #[.int c tk, x] } = h₄ at he₄
  have hsz : h₃.objs.size = hp.objs.size := by rw [hs₃.1, hs₂.1, hs₁.1]
  have hel : e < hp.objs.size := Heap.lt_size he
  have ht₄ : h₄.get? hp.objs.size = some { cls := .type "tuple", data := .seq #[.int c tk, x] } := by rw [← hh₄, ← hsz]; exact Heap.get?_push_size _ rfl
  have hz₄ : h₄.objs.size = hp.objs.size + 1 := by rw [← hh₄, Heap.size_push, hsz]
  have hk₄ : ∀ b o, b ≠ e → b ≠ it → hp.get? b = some o → h₄.get? b = some o := fun b o hbe hbi hb => by
    rw [← hh₄]; exact Heap.get?_push_of_some _ (hs₃.extBut b o hbe (hs₂.extBut b o hbe (hs₁.extBut b o hbi hb)))
  have hit₄ : ItrN H h₄ it (As.drop (i + 1)) := hit₁.at fun o q => by
    rw [← hh₄]; exact Heap.get?_push_of_some _ (hs₃.extBut _ o (Ne.symm hne) (hs₂.extBut _ o (Ne.symm hne) q))
  show wpAny _ _ (Builtin.SmallTypes.ownedTupleIsFree (.ref e) >>= _) _ _ ⟨h₄, g, d, tk + 1, os⟩
  rw [hsz]
  clear hh₄ he₃ hs₃ he₂ hs₂ he₁ hs₁ hit₁ hsz h₃ h₂ h₁
  refine wpAny_bind ?_
  · unfold Builtin.SmallTypes.ownedTupleIsFree
    refine wpAny_bind (wpAny_field he₄ rfl (x := .none) rfl (wpAny_pure ?_))
    simp only [if_true]
    refine wpAny_bind (wpAny_rule ?_)
    refine wpAny_bind (wpAny_field he₄ rfl (x := old) rfl ?_)
    refine wpAny_bind (wpAny_setField_rec he₄ (by simp) fun h₅ he₅ hs₅ => ?_)
    replace hs₅ : Heap.SameBut e h₄ h₅ := hs₅
    replace he₅ : IsEnum h₅ e it (c + 1) x := he₅
    show wpAny _ _ (Builtin.SmallTypes.ownedTupleHandOut (.ref e) (.ref hp.objs.size) >>= _) _ _ ⟨h₅, g, d, tk + 1, os⟩
    refine wpAny_bind ?_
    · unfold Builtin.SmallTypes.ownedTupleHandOut
      refine wpAny_bind (wpAny_setField_rec he₅ (by simp) fun h₆ he₆ hs₆ => ?_)
      replace hs₆ : Heap.SameBut e h₅ h₆ := hs₆
      replace he₆ : IsEnumOut h₆ e it (c + 1) x hp.objs.size := he₆
      refine wpAny_setField_rec he₆ (by simp) fun h₇ he₇ hs₇ => ?_
      replace hs₇ : Heap.SameBut e h₆ h₇ := hs₇
      replace he₇ : IsEnumOut h₇ e it (c + 1) x hp.objs.size := he₇
      refine wpAny_bind (wpAny_letGo (wpAny_pure ⟨_, rfl, hQ x h₇ hP he₇ ?_ ?_ ?_ ?_⟩))
      · exact hit₄.at fun o q => hs₇.extBut _ o (Ne.symm hne) (hs₆.extBut _ o (Ne.symm hne) (hs₅.extBut _ o (Ne.symm hne) q))
      · exact hs₇.extBut _ _ (Nat.ne_of_gt hel) (hs₆.extBut _ _ (Nat.ne_of_gt hel) (hs₅.extBut _ _ (Nat.ne_of_gt hel) ht₄))
      · rw [hs₇.1, hs₆.1, hs₅.1, hz₄]
      · exact fun b o hbe hbi hb => hs₇.extBut b o hbe (hs₆.extBut b o hbe (hs₅.extBut b o hbe (hk₄ b o hbe hbi hb)))
theorem enum_itemI {e it : Addr} {i : Nat} {c : Int} {old : Value} {Q : Option Value → Shared → Prop} (hh : A.handled = none) (ha : H it = none) (ag : ∀ b o, H b = some o → s.heap.get? b = some o)
    (he : IsEnum s.heap e it c old) (hI : ItrN H s.heap it (As.drop i)) (hi : i < As.length) (hne : e ≠ it)
    (hQ : ∀ x h', (∃ B, As[i]? = some B ∧ Rep H B x) → IsEnumOut h' e it (c + 1) x s.heap.objs.size → ItrN H h' it (As.drop (i + 1)) →
      h'.get? s.heap.objs.size = some { cls := .type "tuple", data := .seq #[.int c s.toks, x] } → h'.objs.size = s.heap.objs.size + 1 →
      (∀ b o, b ≠ e → b ≠ it → s.heap.get? b = some o → h'.get? b = some o) → Q (some (.ref s.heap.objs.size)) { s with heap := h', toks := s.toks + 1 }) :
    wpAny (model prog w) A (pyNext (.ref e)) Q E s := by
  have hT : s.TypeIs (.ref e) "enumerate" := ⟨_, he, rfl⟩
  unfold pyNext
  exact wpAny_bind (wpAny_attempt (wpAny_callSpecial?_slot (name := Str.ofString "__next__") hT F.slot_enumerate_next
    (wpAny_call_entry F.slot_enumerate_next hT F.entry_enumerate_next
      (enum_nextI (A := A.in1) hh ha ag he hI hi hne fun x h' a b c d k q => wpAny_pure (hQ x h' a b c d k q)) (F.args_enumerate_next_1 _))))
theorem enum_endI {e it : Addr} {c : Int} {old : Value} {Q : Option Value → Shared → Prop} (hh : A.handled = none) (ag : ∀ b o, H b = some o → s.heap.get? b = some o)
    (he : IsEnum s.heap e it c old) (hI : ItrN H s.heap it []) (hQ : ∀ h', Heap.ExtBut it s.heap h' → Dead h' it → Q none { s with heap := h' }) : wpAny (model prog w) A (pyNext (.ref e)) Q E s := by
  have hT : s.TypeIs (.ref e) "enumerate" := ⟨_, he, rfl⟩
  unfold pyNext
  refine wpAny_bind (wpAny_attempt (wpAny_callSpecial?_slot (name := Str.ofString "__next__") hT F.slot_enumerate_next
    (wpAny_call_entry F.slot_enumerate_next hT F.entry_enumerate_next ?_ (F.args_enumerate_next_1 _))))
  show wpAny _ _ (field (.ref e) 2 >>= _) _ _ _
  refine wpAny_bind (wpAny_field he rfl (x := .ref it) rfl ?_)
  refine wpAny_bind (nx_end (A := A.in1) hh ag hI fun h' x he' hd hx' => ?_)
  obtain ⟨o, ho, hc⟩ := hx'
  refine wpAny_bind (wpAny_isInstance (T := "StopIteration") (b := true) ⟨o, ho, hc⟩ isSubtype_stop ?_)
  exact wpAny_pure (hQ _ he' hd)
end
end Mine
end
section
open PySem PySem.W PyProof.Rows
set_option linter.unusedVariables false
set_option maxRecDepth 100000
namespace Mine
/- the frame of the generator count -/
structure CEnv (cenv : Env) (C cn : Addr) : Prop where
  fk : cenv.scope.kind = .function
  x : cenv.kindOf "x" = some .local
  n : cenv.kindOf "n" = some .free
  it : cenv.kindOf "iterable" = some .local
  en : cenv.kindOf "enumerate" = some .globalImplicit
  loc : cenv.locals = C
  cell : cenv.cells.lookup ("n" : Str) = some cn
  co : cenv.scope.isCoroutine = false
  inter : interactive cenv = false
  g : cenv.globals = mainGlobals
  b : cenv.builtins = builtinsNs
/- what is known of the generator from outside, j items given -/
structure CInv (H : Hm) (As : List V) (it C cn : Addr) (j : Nat) (h : Heap) : Prop where
  itr : ItrN H h it (As.drop j)
  ag : ∀ b o, H b = some o → h.get? b = some o
  ns : ∃ m, h.Ns C m
  cell : ∃ t, h.IsCell cn (some (.int j t))
/- the generator's state behind its j-th item -/
structure LpSt (H : Hm) (As : List V) (it C cn z e : Addr) (j : Nat) (h : Heap) : Prop where
  inv : CInv H As it C cn j h
  en : ∃ old, IsEnum h e it ((j : Int) + 1) old
  ei : e ≠ it
  eC : e ≠ C
  ec : e ≠ cn
  eH : H e = none
  ze : z < e
theorem CInv.keeps {H : Hm} {As : List V} {it C cn : Addr} {j : Nat} {h h' : Heap} (x : CInv H As it C cn j h) (k : ∀ b o, h.get? b = some o → h'.get? b = some o) : CInv H As it C cn j h' :=
  ⟨x.itr.at fun o e => k _ o e, fun b o e => k b o (x.ag b o e), let ⟨m, n⟩ := x.ns; ⟨m, n.keeps k⟩, let ⟨t, o, e, d⟩ := x.cell; ⟨t, o, k _ o e, d⟩⟩
theorem LpSt.keeps {H : Hm} {As : List V} {it C cn z e : Addr} {j : Nat} {h h' : Heap} (x : LpSt H As it C cn z e j h) (k : ∀ b o, h.get? b = some o → h'.get? b = some o) : LpSt H As it C cn z e j h' :=
  ⟨x.inv.keeps k, let ⟨old, q⟩ := x.en; ⟨old, k _ _ q⟩, x.ei, x.eC, x.ec, x.eH, x.ze⟩
/- what has changed since s₀ -/
noncomputable def Snc (z it C cn : Addr) (s₀ s : Shared) : Prop :=
  ∃ h' tk, s = { s₀ with heap := h', toks := tk } ∧ ∀ b o, b ≠ C → b ≠ cn → b ≠ it → b ≤ z → s₀.heap.get? b = some o → h'.get? b = some o
theorem Snc.step {z it C cn : Addr} {s₀ s : Shared} (x : Snc z it C cn s₀ s) {h' : Heap} {tk : Nat} (hk : ∀ b o, b ≠ C → b ≠ cn → b ≠ it → b ≤ z → s.heap.get? b = some o → h'.get? b = some o) : Snc z it C cn s₀ { s with heap := h', toks := tk } := by
  obtain ⟨h₁, tk₁, rfl, hk₁⟩ := x
  exact ⟨h', tk, rfl, fun b o h1 h2 h3 h4 e => hk b o h1 h2 h3 h4 (hk₁ b o h1 h2 h3 h4 e)⟩
theorem Snc.refl (z it C cn : Addr) (s : Shared) : Snc z it C cn s s := ⟨s.heap, s.toks, rfl, fun _ _ _ _ _ _ h => h⟩
/- at a yield -/
noncomputable def cntY (H : Hm) (As : List V) (it C cn z : Addr) : Protocol := fun m s₀ v s kap =>
  ∃ i e, i + m + 1 = As.length ∧ (∃ B, As[i]? = some B ∧ Rep H B v) ∧ LpSt H As it C cn z e (i + 1) s.heap ∧ Snc z it C cn s₀ s ∧ ∀ s'' : Shared, LpSt H As it C cn z e (i + 1) s''.heap → kap (.send .none) s''
/- at the end -/
noncomputable def cntP (H : Hm) (As : List V) (it C cn z : Addr) (n : Nat) (s₀ s₁ : Shared) : Prop :=
  n = 0 ∧ Snc z it C cn s₀ s₁ ∧ Dead s₁.heap it ∧ (∃ t, s₁.heap.IsCell cn (some (.int As.length t))) ∧ ∃ m, s₁.heap.Ns C m
noncomputable abbrev cntR (H : Hm) (As : List V) (it C cn z : Addr) : GenEnd := fun n s₀ r s₁ => r = .ok (.ret .none) ∧ cntP H As it C cn z n s₀ s₁
section
variable {prog : Program} {w : World} {A : Around} {H : Hm} {As : List V} {it C cn z : Addr} {cenv : Env}
noncomputable abbrev cBody (px yp ep : Pos) : List Stmt := [.Expr (.Yield (some (.Name (Str.ofString "x") px)) yp) ep]
noncomputable abbrev cTgt (pn px pt : Pos) (k : Nat) : Expr := .Tuple [.Name (Str.ofString "n") pn, .Name (Str.ofString "x") px] k pt
set_option maxHeartbeats 1000000 in
theorem seg_cLoop {fs : List Frame} (hm : (marksOver fs (A.handled, A.handled)).1 = none) (ce : CEnv cenv C cn) (hit : H it = none) (hC : H C = none) (hcn : H cn = none) (ci : C ≠ it) (cc : C ≠ cn) (ni : cn ≠ it) {e : Addr} {pn px pt px' yp ep : Pos} {k : Nat} (hfs : splitAtGen fs = none) (hfg : fs.any Frame.guarded = false)
    (hend : ∀ s₀ s, Snc z it C cn s₀ s → Dead s.heap it → (∃ t, s.heap.IsCell cn (some (.int As.length t))) → (∃ m, s.heap.Ns C m) →
      Seg (model prog w) A (cntR H As it C cn z) (cntY H As it C cn z) 0 s₀ (.block [] cenv) ((model prog w).den (.block [] cenv)) fs s) :
    ∀ (d j : Nat) (s₀ s : Shared), As.length - j = d → j ≤ As.length → LpSt H As it C cn z e j s.heap → Snc z it C cn s₀ s →
      Seg (model prog w) A (cntR H As it C cn z) (cntY H As it C cn z) d s₀ (.forLoop (cTgt pn px pt k) (.ref e) (cBody px' yp ep) [] cenv) ((model prog w).den (.forLoop (cTgt pn px pt k) (.ref e) (cBody px' yp ep) [] cenv)) fs s := by
  intro d
  have hh' : (A.over (.forLoop (cTgt pn px pt k) (.ref e) (cBody px' yp ep) [] cenv) fs).handled = none := hm
  have hp : (cenv.scope.kind == .class || (cenv.scope.kind == .module && cenv.locals != cenv.globals)) = false := by rw [ce.fk]; rfl
  induction d with
  | zero =>
    intro j s₀ s hd hj st sn
    have hjn : j = As.length := by grind
    subst hjn
    show Seg _ A _ _ _ s₀ _ ((forTurn _ _ _ _ _).onRaise _) fs s
    rw [Sem.onRaise_eq_wrap]
    unfold forTurn
    refine seg_bind_wrap (wpAny_standAt ?_)
    obtain ⟨old, he⟩ := st.en
    have hitr := st.inv.itr
    rw [List.drop_length] at hitr
    refine seg_bind_wrap (wpAny_onRaise (enum_endI hh' st.inv.ag he hitr fun h' hx hdead => ?_))
    refine seg_again rfl (hend _ _ (sn.step fun b o _ _ hb _ q => hx b o hb q) hdead ?_ ?_)
    · obtain ⟨t, o, q, d⟩ := st.inv.cell
      exact ⟨t, o, hx _ o ni q, d⟩
    · obtain ⟨m, n⟩ := st.inv.ns
      exact ⟨m, n.at' fun o q => hx _ o ci q⟩
  | succ d ih =>
    intro j s₀ s hd hj st sn
    have hlt : j < As.length := by omega
    show Seg _ A _ _ _ s₀ _ ((forTurn _ _ _ _ _).onRaise _) fs s
    rw [Sem.onRaise_eq_wrap]
    unfold forTurn
    refine seg_bind_wrap (wpAny_standAt ?_)
    obtain ⟨old, he⟩ := st.en
    refine seg_bind_wrap (wpAny_onRaise (enum_itemI hh' hit st.inv.ag he st.inv.itr hlt st.ei fun x h₁ hP heo hit₁ ht₁ hz₁ hk₁ => ?_))
    obtain ⟨m, hn⟩ := st.inv.ns
    obtain ⟨tc, hcell⟩ := st.inv.cell
    have heH : e < s.heap.objs.size := Heap.lt_size he
    have hCH : C < s.heap.objs.size := hn.lt
    have hcH : cn < s.heap.objs.size := by obtain ⟨o, q, _⟩ := hcell; exact Heap.lt_size q
    have hiH : it < s.heap.objs.size := by obtain ⟨o, _, q, _⟩ := st.inv.itr.obj; exact Heap.lt_size q
    refine seg_bind_wrap (wpAny_letOwnedTupleGo_enum heo fun h₂ he₂ hs₂ => ?_)
    replace hs₂ : Heap.SameBut e h₁ h₂ := hs₂
    have ht₂ : h₂.IsTuple s.heap.objs.size #[.int ((j : Int) + 1) s.toks, x] := ⟨_, (hs₂.2 _ (Nat.ne_of_gt heH)).trans ht₁, rfl, _, rfl⟩
    have hz₂ : h₂.objs.size = s.heap.objs.size + 1 := hs₂.1.trans hz₁
    refine seg_bind_wrap (wpAny_assign_Tuple hh' ht₂ rfl rfl fun h₃ hx₃ => ?_)
    replace hx₃ : Heap.ExtBut h₂.objs.size h₂ h₃ := hx₃
    have old₃ : ∀ b o, b < s.heap.objs.size → h₂.get? b = some o → h₃.get? b = some o := fun b o hb q => hx₃ b o (by rw [hz₂]; exact Nat.ne_of_lt (Nat.lt_succ_of_lt hb)) q
    have up₃ : ∀ b o, b ≠ e → b ≠ it → s.heap.get? b = some o → h₃.get? b = some o := fun b o hbe hbi q => old₃ b o (Heap.lt_size q) ((hs₂.2 b hbe).trans (hk₁ b o hbe hbi q))
    have he₃ : IsEnum h₃ e it ((j : Int) + 1 + 1) x := old₃ _ _ heH he₂
    have hit₃ : ItrN H h₃ it (As.drop (j + 1)) := hit₁.at fun o q => old₃ it o hiH ((hs₂.2 it (Ne.symm st.ei)).trans q)
    have hn₃ : h₃.Ns C m := hn.at' fun o q => up₃ C o (Ne.symm st.eC) ci q
    have hc₃ : h₃.IsCell cn (some (.int j tc)) := let ⟨o, q, dd⟩ := hcell; ⟨o, up₃ cn o (Ne.symm st.ec) ni q, dd⟩
    show wpAny _ _ (do holding [x] (assign (.Name (Str.ofString "n") pn) cenv (.int ((j : Int) + 1) s.toks)); holding [] (assign (.Name (Str.ofString "x") px) cenv x); pure ()) _ _ _
    refine wpAny_bind (wpAny_holding (wpAny_assign_Name (storeName_free ce.fk ce.n ce.cell hc₃ fun h₄ hc₄ hs₄ => ?_)))
    replace hs₄ : Heap.SameBut cn h₃ h₄ := hs₄
    have hn₄ : h₄.Ns cenv.locals m := by rw [ce.loc]; exact hn₃.sameBut hs₄ cc
    refine wpAny_bind (wpAny_holding (wpAny_assign_Name (wpAny_storeName_local ce.x hn₄ (fun h₅ hn₅ hs₅ => wpAny_pure ?_) hp)))
    rw [ce.loc] at hs₅ hn₅
    replace hs₅ : Heap.SameBut C h₄ h₅ := hs₅
    have up₅ : ∀ b o, b ≠ C → b ≠ cn → h₃.get? b = some o → h₅.get? b = some o := fun b o h1 h2 q => (hs₅.2 b h1).trans ((hs₄.2 b h2).trans q)
    have st₅ : LpSt H As it C cn z e (j + 1) h₅ :=
      ⟨⟨hit₃.at fun o q => up₅ it o (Ne.symm ci) (Ne.symm ni) q, fun b o q => up₅ b o (fun y => by rw [y, hC] at q; cases q) (fun y => by rw [y, hcn] at q; cases q) (up₃ b o (fun y => by rw [y, st.eH] at q; cases q) (fun y => by rw [y, hit] at q; cases q) (st.inv.ag b o q)),
        ⟨_, hn₅⟩, ⟨s.toks, let ⟨o, q, dd⟩ := hc₄; ⟨o, (hs₅.2 cn (Ne.symm cc)).trans q, dd⟩⟩⟩, ⟨x, up₅ e _ st.eC st.ec he₃⟩, st.ei, st.eC, st.ec, st.eH, st.ze⟩
    have sn₅ : ∀ tk, Snc z it C cn s₀ { s with heap := h₅, toks := tk } := fun tk => sn.step fun b o h1 h2 h3 h4 q => up₅ b o h1 h2 (up₃ b o (fun y => Nat.not_lt.mpr h4 (y ▸ st.ze)) h3 q)
    rw [Sem.bind_eq_wrap', Sem.wrap_wrap]
    refine seg_execs_cons (seg_Expr_Yield hfs rfl hfg ?_ ce.co ce.inter)
    refine wpAny_Name (wpAny_loadName_local (v := x) ce.fk ce.x (by rw [ce.loc]; exact hn₅) (by simp) ?_) (by decide)
    intro kap hk
    refine ⟨j, e, by grind, hP, st₅, sn₅ _, fun s'' st'' => hk .none s'' ?_⟩
    exact seg_again rfl (ih (j + 1) s'' s'' (by grind) hlt st'' (.refl ..))
end
end Mine
end
section
open PySem PySem.W PyProof.Rows
set_option linter.unusedVariables false
set_option maxRecDepth 100000
namespace Mine
section
variable {prog : Program} {w : World} {A : Around} {E : Value → Shared → Prop} {s : Shared}
/- next of a function's generator, which is left quietly -/
theorem gn_next {a : Addr} {g n : Nat} {gs : GenState} {P : Nat → Shared → Shared → Prop} {Y : Protocol} {Q : Option Value → Shared → Prop} (hh : A.handled = none)
    (hl : s.heap.NoLimit) (hroom : A.depth < recursionLimit) (hg : s.heap.IsGen a g) (hgs : s.gens[g]? = some gs)
    (hgo : gs.Goes (model prog w) A.in1 (fun n s₀ r s₁ => r = .ok (.ret .none) ∧ P n s₀ s₁) Y n (.send .none) (s.setGen g .running))
    (hY : ∀ v s₁ gs', gs'.bare = true → Y (n - 1) (s.setGen g .running) v s₁ (fun r' s'' => match n with
        | 0 => False
        | m + 1 => gs'.Goes (model prog w) A.in1 (fun n s₀ r s₁ => r = .ok (.ret .none) ∧ P n s₀ s₁) Y m r' s'') → Q (some v) (s₁.setGen g gs'))
    (hP : ∀ s₁, P n (s.setGen g .running) s₁ → ∀ h', (∀ b o, s₁.heap.get? b = some o → h'.get? b = some o) → Q none { s₁.setGen g .finished with heap := h' }) :
    wpAny (model prog w) A (pyNext (.ref a)) Q E s := by
  unfold pyNext
  refine wpAny_bind (wpAny_attempt (wpAny_callSpecial?_slot (name := Str.ofString "__next__") hg.typeIs slot_gen_next
    (wpAny_call_entry slot_gen_next hg.typeIs entry_gen_next ?_ (args_gen_next _))))
  show wpAny _ A.in1 (Builtin.Generator.genWake (.ref a) (.send .none)) _ _ s
  unfold Builtin.Generator.genWake
  refine wpAny_bind (wpAny_holding (wpAny_genNumber hg (wpAny_bind (wpAny_genState hgs ?_))))
  cases gs with
  | running => exact hgo.elim
  | finished => exact hgo.elim
  | _ =>
    refine wpAny_bind (wpAny_roomToWake hl hroom (wpAny_resumeQ hgs hgo (fun x s₁ hx => ?_) fun v s₁ gs' hb hv => wpAny_pure ⟨v, rfl, wpAny_pure (hY v s₁ gs' hb hv)⟩))
    obtain ⟨rfl, hp⟩ := hx
    show wpAny _ A.in1 (newExc (.type "StopIteration") [] >>= _) _ _ _
    refine wpAny_bind ?_
    simp only [newExc, newTuple]
    refine wpAny_bind (wpAny_newObj_type ?_ (by size_fits))
    refine wpAny_bind (m := firstArgMember _ _) (wpAny_of_eq (a := Value.none) (by first | rfl | (simp only [firstArgMember]; rfl)) (wpAny_newObj_type ?_ (by size_fits)))
    simp only [raiseNew]
    refine wpAny_bind (wpAny_bind (wpAny_handled ?_))
    rw [show A.in1.handled = none from hh]
    refine wpAny_throw (wpAny_bind (wpAny_isInstance (T := "StopIteration") (b := true) ⟨_, Heap.get?_push_size _ rfl, rfl⟩ isSubtype_stop ?_))
    exact wpAny_pure (hP s₁ hp _ fun b o hb => Heap.get?_push_of_some _ (Heap.get?_push_of_some _ hb))
end
section
variable {M : Model} {A : Around} {R : GenEnd} {Y : Protocol} {n : Nat} {s₀ : Shared} {c : Code} {fs : List Frame} {s : Shared} {env : Env}
  {K : Flow → Sem Fin} {H : Value → Sem Fin} {gd : Bool → Bool} {lv : List Value → List Value}
noncomputable abbrev ownBack (env : Env) (K : Flow → Sem Fin) (H : Value → Sem Fin) (gd : Bool → Bool) (lv : List Value → List Value) : Result → Sem Fin := fun r =>
  ((match r with | .ok f => (.pure f : Sem Flow) | .error e => .raise e).onRaise fun (x : Value) => do
        if (← field x 1) == Value.none then unsupported "frame.own-activation:exception-without-traceback"
        setFlight x env.frame).wrap K H gd lv
/- a for statement inside a generator -/
theorem seg_For {target iter : Expr} {body orelse : List Stmt} {pos : Pos} (hs : ∀ x, foldedSetIterable iter env x = pure x)
    (h : wpAny M (A.over c fs) (eval iter env) (fun x s₁ => wpAny M (A.over c fs) (pyIter x) (fun it s₂ => ∀ p, Seg M A R Y n s₀ (.forLoop target it body orelse env) (M.den (.forLoop target it body orelse env))
      (.ret (ownBack env K H gd lv) none (gd false) (lv []) c p [] :: fs) s₂) (fun x s' => Seg M A R Y n s₀ c (H x) fs s') s₁) (fun x s' => Seg M A R Y n s₀ c (H x) fs s') s) :
    Seg M A R Y n s₀ c ((exec (.For target iter body orelse pos) env).wrap K H gd lv) fs s := by
  rw [exec_For]
  refine seg_bind_wrap (wpAny_standAt ?_)
  refine seg_bind_wrap (wpAny_mono h (fun x s₁ h₁ => ?_) fun _ _ e => e)
  refine seg_bind_wrap (wpAny_of_eq (hs x) ?_)
  refine seg_bind_wrap (wpAny_standAt ?_)
  refine seg_bind_wrap (wpAny_holding (wpAny_mono h₁ (fun it s₂ h₂ => ?_) fun _ _ e => e))
  exact seg_call h₂
end
section
variable {M : Model} {A : Around} {E : Value → Shared → Prop} {s : Shared} {F : Fix} {env : Env}
theorem wp_globR {x : Str} {v : Value} {Q : Value → Shared → Prop} (bs : ∀ b o, F.h₁.get? b = some o → s.heap.get? b = some o) (g : GlobAt F x v) (h : Q v s)
    (hg : env.globals = mainGlobals) (hb : env.builtins = builtinsNs) : wpAny M A (loadGlobal env x) Q E s := by
  rcases g with ⟨mg, h1, h2⟩ | ⟨mg, mb, h1, h2, h3, h4⟩
  · exact Calls.loadGlobal_global (hg ▸ h1.keeps bs) h2 h
  · exact Calls.loadGlobal_builtin (hg ▸ h1.keeps bs) h2 (hb ▸ h3.keeps bs) h4 h
/- a built-in type is called with names for values -/
theorem callWith_typekw {pos : Pos} {T : String} {args : List (Bool × Sem Value)} {keywords : List (Option Str × Sem Value)} {Q : Value → Shared → Prop}
    (hplain : args.any (·.1) = false) (hkw : keywords.any (·.1.isNone) = false)
    (h : wpAny M A (evalArgs (.type T) true args keywords) (fun a s₁ => wpAny M A (call (.type T) a.pos a.kw) Q E s₁) E s) :
    wpAny M A (callWith pos (.type T) [] args keywords) Q E s := by
  unfold callWith
  refine wpAny_bind (wpAny_holding (wpAny_mono h (fun a s₁ h₁ => wpAny_bind (wpAny_standAt ?_)) fun _ _ x => x))
  simp only [hplain, hkw, Bool.or_false]
  refine wpAny_bind (wpAny_pure ?_)
  exact wpAny_bind (wpAny_mono h₁ (fun r s₂ hr => wpAny_bind (wpAny_holding (wpAny_point (wpAny_pure hr)))) fun _ _ x => x)
end
noncomputable abbrev cFn (ns : List Str) (p0 pf pe pi pc pk pcall : Pos) (kk : Nat) (pn px pt : Pos) (k : Nat) (px' yp ep : Pos) : List Stmt :=
  [.Nonlocal ns p0, .For (cTgt pn px pt k) (.Call (.Name (Str.ofString "enumerate") pe) [.Name (Str.ofString "iterable") pi] [⟨some (Str.ofString "start"), .Constant (.int 1) kk pc, pk⟩] pcall) (cBody px' yp ep) [] pf]
/- the generator before its first item -/
structure CFresh (F : Fix) (H : Hm) (As : List V) (it C cn z : Addr) (h : Heap) : Prop where
  inv : CInv H As it C cn 0 h
  base : ∀ b o, F.h₁.get? b = some o → h.get? b = some o
  arg : ∃ m, h.Ns C m ∧ m "iterable" = some (.ref it)
  zl : ∃ o, h.get? z = some o
theorem CFresh.keeps {F : Fix} {H : Hm} {As : List V} {it C cn z : Addr} {h h' : Heap} (x : CFresh F H As it C cn z h) (k : ∀ b o, h.get? b = some o → h'.get? b = some o) : CFresh F H As it C cn z h' :=
  ⟨x.inv.keeps k, fun b o e => k b o (x.base b o e), let ⟨m, n, e⟩ := x.arg; ⟨m, n.keeps k, e⟩, let ⟨o, e⟩ := x.zl; ⟨o, k _ o e⟩⟩
section
variable {F : Fix} {A : Around} {H : Hm} {As : List V} {it C cn z : Addr} {cenv : Env}
set_option maxHeartbeats 1000000 in
theorem seg_cStart (hA : A.handled = none) (ce : CEnv cenv C cn) (ge : GlobAt F "enumerate" (.type "enumerate")) (hit : H it = none) (hC : H C = none) (hcn : H cn = none) (ci : C ≠ it) (cc : C ≠ cn) (ni : cn ≠ it)
    {ns : List Str} {p0 pf pe pi pc pk pcall pn px pt px' yp ep : Pos} {kk k : Nat} {s : Shared} (x : CFresh F H As it C cn z s.heap) :
    Seg (model F.prog F.w) A (cntR H As it C cn z) (cntY H As it C cn z) As.length s (.func (cFn ns p0 pf pe pi pc pk pcall kk pn px pt k px' yp ep) cenv) ((model F.prog F.w).den (.func (cFn ns p0 pf pe pi pc pk pcall kk pn px pt k px' yp ep) cenv)) [] s := by
  refine seg_func (seg_execs_cons (seg_wrap (wpAny_Nonlocal ?_)))
  refine seg_execs_cons (seg_For (fun _ => rfl) ?_)
  obtain ⟨m, hn, hm⟩ := x.arg
  refine wpAny_Call_Name_kw (Calls.Name_function_global ce.fk ce.en (wp_globR x.base ge ?_ ce.g ce.b) (by decide))
  refine callWith_typekw rfl rfl ?_
  refine evalArgs_kw (by rfl) ?_
  refine Calls.spliced_cons (wpAny_Name (wpAny_loadName_local ce.fk ce.it (by rw [ce.loc]; exact hn) hm (Calls.spliced_nil ?_)) (by decide))
  refine wpAny_evalAll_cons (wpAny_bind (wpAny_Constant_int (wpAny_bind (wpAny_standAt (wpAny_pure (wpAny_evalAll_nil ?_))))))
  have live : (∃ l i, s.heap.IsListIter it l i) ∨ Dead s.heap it := by
    rcases x.inv.itr with ⟨l, i, o, xs, n, h1, _⟩ | ⟨_, h1⟩
    · exact .inl ⟨l, i, h1⟩
    · exact .inr h1
  have lt : ∀ b o, s.heap.get? b = some o → s.heap.objs.size ≠ b := fun b o e q => by have := Heap.lt_size e; rw [q] at this; exact Nat.lt_irrefl _ this
  refine call_enum_start live ?_
  have he : IsEnum (s.heap.push { cls := .type "enumerate", data := .fields #[.none, .bool false, .ref it, rawInt 1, .none, .none] }) s.heap.objs.size it (((0 : Nat) : Int) + 1) .none := Heap.get?_push_size _ rfl
  refine wpAny_pyIter_enum he fun p => ?_
  have st : LpSt H As it C cn z s.heap.objs.size 0 (s.heap.push { cls := .type "enumerate", data := .fields #[.none, .bool false, .ref it, rawInt 1, .none, .none] }) := by
    refine ⟨x.inv.keeps fun b o e => Heap.get?_push_of_some _ e, ⟨_, he⟩, ?_, ?_, ?_, ?_, ?_⟩
    · obtain ⟨o, _, e, _⟩ := x.inv.itr.obj; exact lt _ o e
    · obtain ⟨o, _, _, e, _⟩ := hn; exact lt _ o e
    · obtain ⟨t, o, e, _⟩ := x.inv.cell; exact lt _ o e
    · cases q : H s.heap.objs.size with
      | none => rfl
      | some o => exact absurd rfl (lt _ o (x.inv.ag _ o q))
    · obtain ⟨o, e⟩ := x.zl; exact Heap.lt_size e
  refine seg_cLoop (by exact hA) ce hit hC hcn ci cc ni (by rfl) (by rfl) (fun s₀ s₁ sn hd hc hns => ?_) As.length 0 s _ (by omega) (Nat.zero_le _) st ((Snc.refl z it C cn s).step fun b o _ _ _ _ e => Heap.get?_push_of_some _ e)
  refine seg_leaf (.ok .next) ?_
  exact seg_end (.ok (.ret .none)) ⟨rfl, rfl, sn, hd, hc, hns⟩
end
end Mine
end
section
open PySem PySem.W PyProof.Rows
set_option linter.unusedVariables false
set_option maxRecDepth 100000
namespace Mine
/- a generator count that gave j items -/
structure GcAt (F : Fix) (A : Around) (H : Hm) (As : List V) (a : Addr) (g : Nat) (C cn it z : Addr) (j : Nat) (s : Shared) : Prop where
  gen : s.heap.IsGen a g
  lim : s.heap.NoLimit
  inv : CInv H As it C cn j s.heap
  ex : ∃ gs, s.gens[g]? = some gs ∧ ∃ P : Heap → Prop, P s.heap ∧ (∀ h h', P h → (∀ b o, h.get? b = some o → h'.get? b = some o) → P h') ∧
    ∀ s'' : Shared, P s''.heap → gs.Goes (model F.prog F.w) A.in1 (cntR H As it C cn z) (cntY H As it C cn z) (As.length - j) (.send .none) s''
theorem GcAt.grow {F : Fix} {A : Around} {H : Hm} {As : List V} {a : Addr} {g : Nat} {C cn it z : Addr} {j : Nat} {s : Shared} (x : GcAt F A H As a g C cn it z j s) {h' : Heap} {tk : Nat} (k : ∀ b o, s.heap.get? b = some o → h'.get? b = some o) :
    GcAt F A H As a g C cn it z j { s with heap := h', toks := tk } := by
  obtain ⟨gs, h1, P, h2, h3, h4⟩ := x.ex
  exact ⟨x.gen.keeps k, x.lim.keeps k, x.inv.keeps k, ⟨gs, h1, P, h3 _ _ h2 k, h3, h4⟩⟩
/- what a generator's turn changes -/
structure Gm (z it C cn : Addr) (g : Nat) (s s' : Shared) : Prop where
  heap : ∀ b o, b ≠ C → b ≠ cn → b ≠ it → b ≤ z → s.heap.get? b = some o → s'.heap.get? b = some o
  gens : GenOnlyQ g s.gens s'.gens
  os : s'.os = s.os
theorem Gm.trans {z it C cn : Addr} {g : Nat} {s s' s'' : Shared} (x : Gm z it C cn g s s') (y : Gm z it C cn g s' s'') : Gm z it C cn g s s'' :=
  ⟨fun b o h1 h2 h3 h4 e => y.heap b o h1 h2 h3 h4 (x.heap b o h1 h2 h3 h4 e), x.gens.trans y.gens, y.os.trans x.os⟩
theorem Gm.grow {z it C cn : Addr} {g : Nat} {s : Shared} {h' : Heap} {tk : Nat} (k : ∀ b o, s.heap.get? b = some o → h'.get? b = some o) : Gm z it C cn g s { s with heap := h', toks := tk } :=
  ⟨fun b o _ _ _ _ e => k b o e, .inl rfl, rfl⟩
/- places that a generator's turn leaves alone -/
structure Off (z it C cn a : Addr) : Prop where
  z : a ≤ z
  C : a ≠ C
  n : a ≠ cn
  i : a ≠ it
section
variable {F : Fix} {A : Around} {H : Hm} {As : List V} {a : Addr} {g : Nat} {C cn it z : Addr} {j : Nat} {s : Shared} {E : Value → Shared → Prop}
theorem gc_next {Q : Option Value → Shared → Prop} (hh : A.handled = none) (hroom : A.depth < recursionLimit) (oa : Off z it C cn a) (os : Off z it C cn cStatics) (x : GcAt F A H As a g C cn it z j s) (hj : j < As.length)
    (k : ∀ v s', (∃ B, As[j]? = some B ∧ Rep H B v) → GcAt F A H As a g C cn it z (j + 1) s' → Gm z it C cn g s s' → Q (some v) s') : wpAny (model F.prog F.w) A (pyNext (.ref a)) Q E s := by
  refine gg fun GG hGG => ?_
  obtain ⟨gs, hgs, P, hP, _, hgo⟩ := x.ex
  obtain ⟨m, hm⟩ : ∃ m, As.length - j = m + 1 := ⟨As.length - j - 1, by grind⟩
  refine hGG ?_
  rw [hm] at hgo
  refine gn_next (P := cntP H As it C cn z) hh x.lim hroom x.gen hgs (hgo _ hP) (fun v s₁ gs' hb hv => ?_) (fun s₁ hp h' hk => absurd hp.1 (Nat.succ_ne_zero m))
  refine gg fun GG hGG => ?_
  obtain ⟨i, e, hi, hB, st, sn, kap⟩ := hv
  obtain ⟨h₁, tk₁, rfl, hk₁⟩ := sn
  refine hGG ?_
  obtain rfl : i = j := by grind
  refine k v _ hB ⟨?_, ?_, st.inv, gs', setGen_self (gs := .running) (setGen_self hgs), fun h => LpSt H As it C cn z e (i + 1) h, st, fun h h' p k => p.keeps k, fun s'' p => ?_⟩
    ⟨hk₁, GenOnlyQ.of ((GenOnly.setGen s g .running).trans (GenOnly.setGen _ g gs')) (setGen_self (gs := .running) (setGen_self hgs)) hb, rfl⟩
  · obtain ⟨o, nm, qn, ho, r⟩ := x.gen
    exact ⟨o, nm, qn, hk₁ a o oa.C oa.n oa.i oa.z ho, r⟩
  · obtain ⟨mc, hns, hnn⟩ := x.lim
    exact ⟨mc, hns.at' fun o e => hk₁ _ o os.C os.n os.i os.z e, hnn⟩
  · have e : As.length - (i + 1) = m := by grind
    rw [e]
    exact kap s'' p
theorem gc_end {Q : Option Value → Shared → Prop} (hh : A.handled = none) (hroom : A.depth < recursionLimit) (x : GcAt F A H As a g C cn it z As.length s)
    (k : ∀ s', Dead s'.heap it → (∃ t, s'.heap.IsCell cn (some (.int As.length t))) → (∃ m, s'.heap.Ns C m) → Gm z it C cn g s s' → Q none s') : wpAny (model F.prog F.w) A (pyNext (.ref a)) Q E s := by
  refine gg fun GG hGG => ?_
  obtain ⟨gs, hgs, P, hP, _, hgo⟩ := x.ex
  refine hGG ?_
  rw [Nat.sub_self] at hgo
  refine gn_next (P := cntP H As it C cn z) hh x.lim hroom x.gen hgs (hgo _ hP) (fun v s₁ gs' hb hv => ?_) (fun s₁ hp h' hk => ?_)
  · obtain ⟨i, e, hi, hB, st, sn, kap⟩ := hv
    exact False.elim (kap s₁ st)
  · obtain ⟨_, ⟨h₁, tk₁, rfl, hk₁⟩, ⟨o, i, e1, e2, e3⟩, ⟨t, oc, e4, e5⟩, m, hn⟩ := hp
    exact k _ ⟨o, i, hk _ o e1, e2, e3⟩ ⟨t, oc, hk _ oc e4, e5⟩ ⟨m, hn.keeps hk⟩
      ⟨fun b o h1 h2 h3 h4 e => hk b o (hk₁ b o h1 h2 h3 h4 e), GenOnlyQ.of ((GenOnly.setGen s g .running).trans (GenOnly.setGen _ g .finished)) (setGen_self (gs := .running) (setGen_self hgs)) rfl, rfl⟩
theorem gc_fsum {Q : Value → Shared → Prop} {ts : Addr} (hA : A.handled = none) (hroom : A.in1.depth < recursionLimit) (oa : Off z it C cn a) (ot : Off z it C cn ts) (os : Off z it C cn cStatics) (hz : As.length + 2 < sizeLine) (hi : ∀ B ∈ As, B.fin ∨ B = .none) :
    ∀ (k j : Nat) (s : Shared) (ps : List UInt64) (tp : Addr) (op : Obj) (n₁ : Nat), As.length - j = k → j ≤ As.length → ps.length ≤ j → GcAt F A.in1 H As a g C cn it z j s →
    s.heap.get? tp = some op → op.data = .seq (ps.map fun x => rawInt x.toNat).toArray n₁ → (∃ os n₂, s.heap.get? ts = some os ∧ os.data = .seq zeros n₂) →
    (∀ r t s', fsumX ps (As.drop j) = (.ok r, []) → Dead s'.heap it → (∃ t, s'.heap.IsCell cn (some (.int As.length t))) → (∃ m, s'.heap.Ns C m) → Gm z it C cn g s s' → Q (.float r t) s') →
    (∀ c i s' h'' tk e, i < As.length → fsumX ps (As.drop j) = (.error c, As.drop (i + 1)) → CInv H As it C cn (i + 1) s'.heap → Gm z it C cn g s s' → Heap.NewExc s'.heap h'' e c → E (.ref e) { s' with heap := h'', toks := tk }) →
    codeAny (model F.prog F.w) A (.builtin "math.fsum.loop" ⟨[.ref a, .ref tp, .ref ts], []⟩) (Answer Q E) s := by
  intro k
  induction k with
  | zero =>
    intro j s ps tp op n₁ hk hj hpl x htp dtp hts hQ hE
    obtain ⟨os', n₂, hts, dts⟩ := hts
    have hjn : j = As.length := by lia
    subst hjn
    refine fsum_turn (H := H) hA (by lia) htp dtp hts dts (gc_end (A := A.in1) hA hroom x fun s' hd hc hn gm => fun t tk => ?_)
    refine hQ _ t _ ?_ hd hc hn ⟨gm.heap, gm.gens, gm.os⟩
    rw [List.drop_length]; rfl
  | succ k ih =>
    intro j s ps tp op n₁ hk hj hpl x htp dtp hts hQ hE
    obtain ⟨os', n₂, hts, dts⟩ := hts
    have hlt : j < As.length := by lia
    refine fsum_turn (H := H) hA (by lia) htp dtp hts dts (gc_next (A := A.in1) hA hroom oa os x hlt fun v s' hB x' gm => ?_)
    obtain ⟨B, hB, rB⟩ := hB
    have hd : As.drop j = B :: As.drop (j + 1) := by
      obtain ⟨hlt', eB⟩ := List.getElem?_eq_some_iff.mp hB
      rw [List.drop_eq_getElem_cons hlt', eB]
    refine ⟨B, rB, hi B (List.mem_of_getElem? hB), fun c h'' tk e he ne => ?_, fun ps' tk hok hlen => ?_⟩
    · exact hE c j s' h'' tk e hlt (by rw [hd, fsumX_step, he]) x'.inv gm ne
    · have kp : ∀ b o, s'.heap.get? b = some o → (s'.heap.push (tupOf ps')).get? b = some o := fun b o e => Heap.get?_push_of_some _ e
      have g2 : Gm z it C cn g s { s' with heap := s'.heap.push (tupOf ps'), toks := tk } := gm.trans (.grow kp)
      have run : fsumX ps (As.drop j) = fsumX ps' (As.drop (j + 1)) := by rw [hd, fsumX_step, hok]
      refine ih (j + 1) _ ps' s'.heap.objs.size (tupOf ps') 0 (by grind) hlt (by lia) (x'.grow kp) (Heap.get?_push_size _ rfl) rfl ⟨os', n₂, kp _ _ (gm.heap ts os' ot.C ot.n ot.i ot.z hts), dts⟩ (fun r t s₂ hr hd' hc hn gm₂ => ?_) fun c i s₂ h'' tk₂ e hi' hr hin gm₂ ne => ?_
      · exact hQ r t s₂ (by rw [run]; exact hr) hd' hc hn (g2.trans gm₂)
      · exact hE c i s₂ h'' tk₂ e hi' (by rw [run]; exact hr) hin (g2.trans gm₂) ne
end
/- a generator count that was just made -/
structure GFresh (F : Fix) (H : Hm) (As : List V) (a : Addr) (g : Nat) (C cn it : Addr) (s : Shared) : Prop where
  gen : s.heap.IsGen a g
  lim : s.heap.NoLimit
  inv : CInv H As it C cn 0 s.heap
  base : ∀ b o, F.h₁.get? b = some o → s.heap.get? b = some o
  arg : ∃ m, s.heap.Ns C m ∧ m "iterable" = some (.ref it)
  gs : ∃ cenv, CEnv cenv C cn ∧ ∃ (ns : List Str) (p0 pf pe pi pc pk pcall pn px pt px' yp ep : Pos) (kk k : Nat), s.gens[g]? = some (.fresh (.func (cFn ns p0 pf pe pi pc pk pcall kk pn px pt k px' yp ep) cenv))
  ge : GlobAt F "enumerate" (.type "enumerate")
  hit : H it = none
  hC : H C = none
  hcn : H cn = none
  ci : C ≠ it
  cc : C ≠ cn
  ni : cn ≠ it
  aC : a ≠ C
  an : a ≠ cn
  ai : a ≠ it
  sC : cStatics ≠ C
  sn : cStatics ≠ cn
  si : cStatics ≠ it
theorem GFresh.at {F : Fix} {A : Around} {H : Hm} {As : List V} {a : Addr} {g : Nat} {C cn it z : Addr} {s : Shared} (hA : A.handled = none) (x : GFresh F H As a g C cn it s) {h' : Heap} {tk : Nat} (k : ∀ b o, s.heap.get? b = some o → h'.get? b = some o) (hz : ∃ o, h'.get? z = some o) :
    GcAt F A H As a g C cn it z 0 { s with heap := h', toks := tk } := by
  refine gg fun GG hGG => ?_
  obtain ⟨cenv, ce, ns, p0, pf, pe, pi, pc, pk, pcall, pn, px, pt, px', yp, ep, kk, k', hgs⟩ := x.gs
  refine hGG ?_
  refine ⟨x.gen.keeps k, x.lim.keeps k, x.inv.keeps k, _, hgs, fun h => CFresh F H As it C cn z h, ⟨x.inv.keeps k, fun b o e => k b o (x.base b o e), let ⟨m, n, e⟩ := x.arg; ⟨m, n.keeps k, e⟩, hz⟩, fun h h' p k => p.keeps k, fun s'' p => ⟨rfl, ?_⟩⟩
  rw [Nat.sub_zero]
  exact seg_cStart (A := A.in1) hA ce x.ge x.hit x.hC x.hcn x.ci x.cc x.ni p
section
variable {F : Fix} {A : Around} {H : Hm} {As : List V} {a : Addr} {g : Nat} {C cn it : Addr} {s : Shared} {E : Value → Shared → Prop}
/- fsum(count(data)) -/
theorem wp_fsumC {Q : Value → Shared → Prop} (hA : A.handled = none) (hroom : A.depth < recursionLimit) (x : GFresh F H As a g C cn it s) (hz : As.length + 2 < sizeLine) (hi : ∀ B ∈ As, B.fin ∨ B = .none)
    (hQ : ∀ r t s', fsumX [] As = (.ok r, []) → Dead s'.heap it → (∃ t, s'.heap.IsCell cn (some (.int As.length t))) → (∃ m, s'.heap.Ns C m) → Gm s.heap.objs.size it C cn g s s' → Q (.float r t) s')
    (hE : ∀ c i s' h'' tk e, i < As.length → fsumX [] As = (.error c, As.drop (i + 1)) → CInv H As it C cn (i + 1) s'.heap → Gm s.heap.objs.size it C cn g s s' → Heap.NewExc s'.heap h'' e c → E (.ref e) { s' with heap := h'', toks := tk }) :
    wpAny (model F.prog F.w) A (call (.builtin "math.fsum") [.ref a]) Q E s := by
  refine wpAny_call (codeAny_call_builtin fs_plain fs_entry (@wp_check _ _ _ _ _ _ _ _ fs_kind (fs_args _) ?_))
  show wpAny _ A.in1 (pyIter (.ref a) >>= _) _ _ s
  refine wpAny_bind (wpAny_pyIter_gen x.gen ?_)
  show wpAny _ A.in1 (newTuple [] >>= _) _ _ _
  refine wpAny_bind (wpAny_newTuple ?_ (by decide))
  show wpAny _ A.in1 (newTuple [rawInt (Float64.zero false).toNat, rawInt (Float64.zero false).toNat] >>= _) _ _ _
  refine wpAny_bind (wpAny_newTuple (wpAny_pure ⟨plainId_quiet fs_plain_loop _, ?_⟩) (by show 2 ≤ sizeLine; decide))
  have kp : ∀ b o, s.heap.get? b = some o → ((s.heap.push { cls := .type "tuple", data := .seq ([] : List Value).toArray }).push { cls := .type "tuple", data := .seq [rawInt (Float64.zero false).toNat, rawInt (Float64.zero false).toNat].toArray }).get? b = some o := fun b o e => Heap.get?_push_of_some _ (Heap.get?_push_of_some _ e)
  have lt : ∀ b o, s.heap.get? b = some o → b < s.heap.objs.size := fun b o e => Heap.lt_size e
  have la : a < s.heap.objs.size := by obtain ⟨o, _, _, e, _⟩ := x.gen; exact lt _ o e
  have lC : C < s.heap.objs.size := by obtain ⟨m, o, _, _, e, _⟩ := x.inv.ns; exact lt _ o e
  have ln : cn < s.heap.objs.size := by obtain ⟨t, o, e, _⟩ := x.inv.cell; exact lt _ o e
  have li : it < s.heap.objs.size := by obtain ⟨o, _, e, _⟩ := x.inv.itr.obj; exact lt _ o e
  have ls : cStatics < s.heap.objs.size := by obtain ⟨m, ⟨o, _, _, e, _⟩, _⟩ := x.lim; exact lt _ o e
  have hsz : (s.heap.push { cls := .type "tuple", data := .seq ([] : List Value).toArray }).objs.size = s.heap.objs.size + 1 := by rw [Heap.size_push]
  rw [hsz]
  have wk : ∀ {s₁ s' : Shared}, Gm (s.heap.objs.size + 1) it C cn g s₁ s' → Gm s.heap.objs.size it C cn g s₁ s' := fun q => ⟨fun b o h1 h2 h3 h4 e => q.heap b o h1 h2 h3 (Nat.le_succ_of_le h4) e, q.gens, q.os⟩
  have oa : Off (s.heap.objs.size + 1) it C cn a := ⟨Nat.le_of_lt (Nat.lt_succ_of_lt la), x.aC, x.an, x.ai⟩
  have ot : Off (s.heap.objs.size + 1) it C cn (s.heap.objs.size + 1) := ⟨Nat.le_refl _, Nat.ne_of_gt (Nat.lt_succ_of_lt lC), Nat.ne_of_gt (Nat.lt_succ_of_lt ln), Nat.ne_of_gt (Nat.lt_succ_of_lt li)⟩
  have os : Off (s.heap.objs.size + 1) it C cn cStatics := ⟨Nat.le_of_lt (Nat.lt_succ_of_lt ls), x.sC, x.sn, x.si⟩
  have hts : ((s.heap.push { cls := .type "tuple", data := .seq ([] : List Value).toArray }).push { cls := .type "tuple", data := .seq [rawInt (Float64.zero false).toNat, rawInt (Float64.zero false).toNat].toArray }).get? (s.heap.objs.size + 1) = some { cls := .type "tuple", data := .seq [rawInt (Float64.zero false).toNat, rawInt (Float64.zero false).toNat].toArray } := by
    rw [← hsz]; exact Heap.get?_push_size _ rfl
  refine gc_fsum (H := H) (z := s.heap.objs.size + 1) hA hroom oa ot os hz hi As.length 0 _ [] _ _ 0 rfl (Nat.zero_le _) (Nat.le_refl _)
    (x.at (A := A.in1) (by exact hA) kp ⟨_, hts⟩) (Heap.get?_push_of_some _ (Heap.get?_push_size _ rfl)) rfl ⟨_, 0, hts, rfl⟩ (fun r t s' hr hd hc hn gm => ?_) fun c i s' h'' tk e hi' hr hin gm ne => ?_
  · exact hQ r t s' hr hd hc hn (.trans (.grow kp) (wk gm))
  · exact hE c i s' h'' tk e hi' hr hin (.trans (.grow kp) (wk gm)) ne
end
end Mine
end
section
open PySem PySem.W PyProof.Rows
set_option linter.unusedVariables false
set_option maxRecDepth 100000
namespace Mine
/- the land of a function whose code object's table is a ghost -/
structure CodeLand (F : Fix) (c P : Addr) : Prop where
  code : ∃ o vs file tf flags tg inF text tt, F.h₁.get? c = some o ∧ o.cls = .type "code" ∧ o.data = .fields vs ∧ vs[11]? = some (.ref P) ∧ vs.getD 18 .none = .str file tf ∧ vs.getD 7 .none = .int flags tg ∧ vs.getD 9 .none = .bool inF ∧ vs.getD 10 .none = .int text tt
  bm : ∃ mg bm ob, BMod F.h₁ mainGlobals mg bm ob
  lim : F.h₁.NoLimit
theorem codeAmong_app {pos : Pos} {a b : Int} {ta tb : Tok} {x cv : Value} : ∀ (l : List Value), TriplesOk l → codeAmong pos (l ++ [.int a ta, .int b tb, x]) = some cv → codeAmong pos l = some cv ∨ cv = x
  | [], _, h => by
    right
    simp only [List.nil_append, codeAmong] at h
    split at h
    · exact (Option.some.inj h).symm
    · cases h
  | .int i ti :: .int j tj :: y :: l, ht, h => by
    simp only [List.cons_append, codeAmong] at h ⊢
    split at h
    · rename_i hc
      rw [if_pos hc]; exact .inl h
    · rename_i hc
      rw [if_neg hc]
      exact codeAmong_app l (by simpa only [TriplesOk] using ht) h
section
variable {Γ : Cx} {H : Hm} {O : OSet} {loc : Loc} {s : Shared}
theorem StH.table {P : Addr} (st : St Γ H O loc s) (hx : loc.lookup (gh P) = some (.itr P [tagV])) : TabOk H s.heap P := by
  refine gg fun GG hGG => ?_
  obtain ⟨v, _, b, _, hO, hb, hi⟩ := st.vars _ _ hx
  refine hGG ?_
  subst hb
  rcases hi with hi | ⟨_, h⟩
  · rcases hi with ⟨l, i, o, xs, n, _, _, _, _, r⟩ | ⟨z, _⟩
    · simp only [Reps] at r
      refine gg fun GG hGG => ?_
      obtain ⟨y, ys, _, r, _⟩ := r
      refine hGG ?_
      simp only [tagV, Rep] at r
      refine gg fun GG hGG => ?_
      obtain ⟨a, o, vs, t, ot, n, tk, _, h1, h2, _⟩ := r
      refine hGG ?_
      exact absurd h2 (st.nofr _ _ h1).2
    · cases z
  · exact h
/- only a ghost's object is changed -/
theorem StH.ghost1 {H' : Hm} {s' : Shared} {a : Addr} {As r : List V} (hgh : NoGh Γ) (st : St Γ H O loc s) (hx : loc.lookup (gh a) = some (.itr a As)) (kp : ∀ b o, b ≠ a → s.heap.get? b = some o → s'.heap.get? b = some o) (hle : Hle H H')
    (hag : ∀ b o, H' b = some o → H b = some o ∨ (s.heap.get? b = none ∧ s'.heap.get? b = some o ∧ Solid o)) (hg : AllBare s'.gens) (hos : s'.os = s.os) (hi : ItrL H' s'.heap a r) :
    Nx Γ.F H O s.heap H' O s'.heap ∧ St Γ H' O ((gh a, .itr a r) :: loc) s' := by
  have hl : ∀ p ∈ [(a, As)], loc.lookup (gh p.1) = some (.itr p.1 p.2) := fun p hp => by rw [List.mem_singleton.mp hp]; exact hx
  have nd : ([(a, As)].map (·.1)).Nodup := by simp
  obtain ⟨st₁, rl⟩ := st.releases [(a, As)] hl nd
  obtain ⟨hO, fa, _⟩ := rl (a, As) (List.mem_singleton.mpr rfl)
  have adr : ∀ b, Gs.adr [(a, As)] b ↔ b = a := fun b => by simp [Gs.adr]
  have new : ∀ b, s.heap.get? b = none → ¬ O b := fun b e z => by obtain ⟨o', e'⟩ := st.othere b z; rw [e] at e'; cases e'
  have ha : H' a = none := by
    cases q : H' a with
    | none => rfl
    | some o =>
      rcases hag a o q with h | ⟨h, _⟩
      · rw [fa.hm] at h; cases h
      · exact absurd hO (new a h)
  have st₂ := st₁.extW (h' := s'.heap) (g' := s'.gens) (H' := H') (os' := s'.os) (fun b => b = a) (fun b z => by subst z; exact fa) (fun b o hb e => ⟨o, kp b o hb e, .refl ..⟩) hg hle (hos.trans st.os)
    fun b o e => (hag b o e).imp id fun q => ⟨fun z => new b q.1 z.1, q.2⟩
  have th : ∃ o, s'.heap.get? a = some o := let ⟨o, _, e, _⟩ := hi.obj; ⟨o, e⟩
  refine lent_back (gs' := [(a, r)]) hgh st hl nd rfl ⟨fun b o e hb => ⟨o, kp b o (fun z => hb ((adr b).mpr z)) e, .refl ..⟩, fun b o e => ?_, hle, fun b o e => ?_, fun b e => .inl e⟩ st₂.wsp
    ⟨by simp, fun p hp => by rw [List.mem_singleton.mp hp]; exact ⟨hi, fa.base, ha, fa.tab⟩⟩
  · by_cases z : b = a
    · rw [z]; exact th
    · exact ⟨o, kp b o z e⟩
  · rcases hag b o e with h | ⟨h, _⟩
    · exact .inl h
    · exact .inr (.inr h)
noncomputable abbrev cParams (pa : Pos) : Arguments := { posonlyargs := [], args := [{ arg := "iterable", annotation := none, pos := pa }], vararg := none, kwonlyargs := [], kw_defaults := [], kwarg := none, defaults := [] }
noncomputable abbrev cScope : Scope := { kind := .function, names := [(Str.ofString "iterable", .local), (Str.ofString "x", .local), (Str.ofString "n", .free), (Str.ofString "enumerate", .globalImplicit)], isGenerator := true, isCoroutine := false, more := [] }
noncomputable abbrev cFd (pa : Pos) (body : List Stmt) (cn : Addr) (doc pm cd ctv : Value) : FuncData := fnX "count" cQual (cParams pa) body cScope [(Str.ofString "n", cn)] .none .none doc pm none cd ctv
set_option maxHeartbeats 1000000 in
/- def count -/
theorem wp_mkCount {c P cn : Addr} {pa pos : Pos} {body : List Stmt} {fl : Nat} {Q : Value → Shared → Prop} {E : Value → Shared → Prop} (hgh : NoGh Γ) (gl : CodeLand Γ.F c P) (st : St Γ H O loc s) (hx : loc.lookup (gh P) = some (.itr P [tagV])) (hcode : Γ.env.code = .ref c) (hg : Γ.env.globals = mainGlobals)
    (hcl : closureFor cScope Γ.env = pure [(Str.ofString "n", cn)]) (hdoc : docOf body = none)
    (k : ∀ f h' tk H' doc pm cd ctv, Nx Γ.F H O s.heap H' O h' → StH Γ H' O ((gh P, .itr P [tagV]) :: loc) h' s.os s.gens → s.heap.get? f = none → (∀ b o, b ≠ P → s.heap.get? b = some o → h'.get? b = some o) →
      (∃ o, h'.get? f = some o ∧ o.data = .func (cFd pa body cn doc pm cd ctv)) → h'.CodeRec cd cQual → Q (.ref f) { s with heap := h', toks := tk }) :
    wpAny Γ.M Γ.A (makeFunction "count" cQual (cParams pa) (.stmts body) cScope Γ.env [] [] [] pos fl) Q E s := by
  refine gg fun GG hGG => ?_
  obtain ⟨ps, hP, ht, hc⟩ := st.table hx
  obtain ⟨v, _, b, _, hO, hb, _⟩ := st.vars _ _ hx
  refine hGG ?_
  subst hb
  have hbP : Γ.F.h₁.get? P = none := st.obase P hO
  refine gg fun GG hGG => ?_
  obtain ⟨mg, bm, ob, B⟩ := gl.bm
  have B' := B.keeps st.base
  obtain ⟨o, vs, file, tf, flags, tg, inF, text, tt, e1, e2, e3, e4, e5, e6, e7, e8⟩ := gl.code
  refine hGG ?_
  have hne : c ≠ P := fun z => by rw [z, hbP] at e1; cases e1
  have bne : bm ≠ P := fun z => by have := B.obj; rw [z, hbP] at this; cases this
  have gne : mainGlobals ≠ P := fun z => by obtain ⟨o, _, _, e, _⟩ := B.ns; rw [z, hbP] at e; cases e
  generalize hoT : ({ cls := .type "tuple", data := .seq ([(Str.ofString "n", cn)].mergeSort (fun a b => a.1.cps.toList ≤ b.1.cps.toList) |>.map (Value.ref ·.2)).toArray } : Obj) = oT
  have up : ∀ b o, s.heap.get? b = some o → (s.heap.push oT).get? b = some o := fun b o e => Heap.get?_push_of_some _ e
  have iC : (s.heap.push oT).IsCode c P ps := ⟨o, vs, file, tf, flags, tg, inF, text, tt, _, up _ _ (st.base _ _ e1), e3, by simp [Array.getD_eq_getD_getElem?, e4], e5, e6, e7, e8, up _ _ hP, rfl, ht, hne⟩
  have iT : (s.heap.push oT).TableAt c P ps := ⟨⟨o, vs, up _ _ (st.base _ _ e1), e2, e3, e4⟩, up _ _ hP⟩
  have bs : P < s.heap.objs.size := Heap.lt_size hP
  rw [makeFunction_eq]
  simp only [List.zip_nil_right, List.filterMap_nil, List.isEmpty_nil, if_true, pure_bind]
  unfold makeTail
  rw [hcl, hg]
  refine wpAny_bind (wpAny_pure ?_)
  simp only [List.isEmpty_cons, Bool.false_eq_true, if_false]
  refine wpAny_bind (wpAny_newTextTuple ?_)
  rw [hoT]
  have nof : ∀ b, s.heap.objs.size ≤ b → s.heap.get? b = none := fun b hb => by
    cases e : s.heap.get? b with
    | none => rfl
    | some o => exact absurd (Heap.lt_size e) (Nat.not_lt.mpr hb)
  have psz : (s.heap.push oT).objs.size = s.heap.objs.size + 1 := by rw [Heap.size_push]
  cases hf : codeAmong pos ps.toList with
  | some cv =>
    refine gg fun GG hGG => ?_
    obtain ⟨c', oc, fs, t, rfl, h1, h2, h3⟩ := hc pos cv hf
    refine hGG ?_
    refine wpAny_bind (wpAny_functionCode_hit hcode iC hf ?_)
    refine wpAny_bind (wpAny_builtinsFor (B'.ns.push _) B'.name B'.ne (up _ _ B'.obj) B'.cls B'.dict B'.data ?_)
    refine wpAny_bind (wpAny_nsGet (B'.ns.push _) ?_)
    rw [hdoc]
    refine wpAny_bind (wpAny_pure (wpAny_newObj_type ?_ (by size_fits)))
    have up2 : ∀ b o, s.heap.get? b = some o → ((s.heap.push oT).push { cls := .type "function", data := .func (cFd pa body cn .none ((mg "__name__").getD .none) (.ref c') (.ref s.heap.objs.size)) }).get? b = some o := fun b o e => Heap.get?_push_of_some _ (up b o e)
    obtain ⟨n', st'⟩ := st.ghost1 (s' := { s with heap := (s.heap.push oT).push { cls := .type "function", data := .func (cFd pa body cn .none ((mg "__name__").getD .none) (.ref c') (.ref s.heap.objs.size)) } }) (H' := H) (r := [tagV]) hgh hx (fun b o _ e => up2 b o e) (.refl _) (fun b o e => .inl e) st.gens rfl
      (.inr ⟨rfl, ps, up2 _ _ hP, ht, hc⟩)
    exact k _ _ _ H .none _ _ _ n' st' (nof _ (by rw [psz]; exact Nat.le_succ _)) (fun b o _ e => up2 b o e) ⟨_, Heap.get?_push_size _ rfl, rfl⟩ ⟨c', oc, fs, t, rfl, up2 _ _ (st.agree _ _ h1), h2, h3⟩
  | none =>
    refine wpAny_bind (wpAny_functionCodeX hcode iC iT hf fun c' h' tk hx' hge hlt hok' hrec htb hnt => ?_)
    have hx2 : ∀ b o, b ≠ P → s.heap.get? b = some o → h'.get? b = some o := fun b o hb e => hx' b o hb (up b o e)
    have hg' : h'.Ns mainGlobals mg := (B'.ns.push _).extBut hx' gne
    refine wpAny_bind (wpAny_builtinsFor hg' B'.name B'.ne (hx2 _ _ bne B'.obj) B'.cls B'.dict B'.data ?_)
    refine wpAny_bind (wpAny_nsGet hg' ?_)
    rw [hdoc]
    refine wpAny_bind (wpAny_pure (wpAny_newObj_type ?_ (by size_fits)))
    refine gg fun GG hGG => ?_
    obtain ⟨c₀, oc, fs, t, hq, g1, g2, g3⟩ := hrec
    obtain rfl : c' = c₀ := by injection hq
    have hge' : s.heap.objs.size + 1 ≤ c' := by rw [← psz]; exact hge
    have hlt' : c' < h'.objs.size := hlt
    obtain ⟨_, _, _, ⟨⟨oc', fs', g1', g4, _⟩, _⟩⟩ := hnt
    refine hGG ?_
    rw [g1] at g1'; cases g1'
    have sol : Solid oc := ⟨fun es ep z => (by rw [g2] at z; cases z), by rw [g4]; exact fun z => by cases z⟩
    have hnew : s.heap.get? c' = none := nof _ (Nat.le_of_succ_le hge')
    have hHn : H c' = none := by
      cases q : H c' with
      | none => rfl
      | some o => have := st.agree _ _ q; rw [hnew] at this; cases this
    have up3 : ∀ b o, h'.get? b = some o → (h'.push { cls := .type "function", data := .func (cFd pa body cn .none ((mg "__name__").getD .none) (.ref c') (.ref s.heap.objs.size)) }).get? b = some o := fun b o e => Heap.get?_push_of_some _ e
    have ht' : TriplesOk (ps ++ #[rawInt pos.line, rawInt pos.col, .ref c']).toList := by
      refine gg fun GG hGG => ?_
      obtain ⟨_, _, _, _, _, _, _, _, _, op, _, _, _, _, _, _, _, eo, ed, tr', _⟩ := hok'
      refine hGG ?_
      exact tr'
    obtain ⟨n', st'⟩ := st.ghost1 (s' := { s with heap := h'.push { cls := .type "function", data := .func (cFd pa body cn .none ((mg "__name__").getD .none) (.ref c') (.ref s.heap.objs.size)) }, toks := tk }) (H' := Hset H c' oc) (r := [tagV]) hgh hx (fun b o hb e => up3 b o (hx2 b o hb e)) (Hset.le hHn) (fun b o e => by
        rcases Hset.cases e with ⟨rfl, rfl⟩ | h1
        · exact .inr ⟨hnew, up3 _ _ g1, sol⟩
        · exact .inl h1) st.gens rfl
      (.inr ⟨rfl, _, up3 _ _ htb.2, ht', fun p cv h => by
        rw [Array.toList_append] at h
        rcases codeAmong_app ps.toList ht h with h | rfl
        · obtain ⟨c₁, o', f', t', h0, h1, h2⟩ := hc p cv h
          exact ⟨c₁, o', f', t', h0, Hset.le hHn _ _ h1, h2⟩
        · exact ⟨c', oc, fs, t, rfl, Hset.self .., g2, g3⟩⟩)
    exact k _ _ _ _ .none _ _ _ n' st' (nof _ (Nat.le_of_lt (Nat.lt_of_lt_of_le hge' (Nat.le_of_lt hlt')))) (fun b o hb e => up3 b o (hx2 b o hb e)) ⟨_, Heap.get?_push_size _ rfl, rfl⟩ ⟨c', oc, fs, t, rfl, up3 _ _ g1, g2, g3⟩
end
end Mine
end
section
open PySem PySem.W PyProof.Rows
set_option linter.unusedVariables false
set_option maxRecDepth 100000
namespace Mine
section
variable {Γ : Cx} {H : Hm} {O : OSet} {loc : Loc} {s : Shared} {x : Str}
theorem noneO {A : V} {v : Value} : ∀ b, Oadd O (LV.addr (.val A) v) b ↔ O b := fun b => ⟨fun h => h.elim id fun z => (by cases z), .inl⟩
/- a local name is stored; what else the state holds stays in sight -/
theorem wp_storeL {A : V} {v : Value} {Q : Unit → Shared → Prop} {E : Value → Shared → Prop} (st : St Γ H O loc s) (r : Rep H A v) (hl : Γ.env.kindOf x = some .local)
    (k : ∀ h' tk, Heap.SameBut Γ.env.locals s.heap h' → (∃ o, h'.get? Γ.env.locals = some o) → StH Γ H O ((x, .val A) :: loc) h' s.os s.gens → Q () { s with heap := h', toks := tk }) : wpAny Γ.M Γ.A (storeName Γ.env x v) Q E s := by
  obtain ⟨m, hn⟩ := st.ns
  refine wpAny_storeName_local hl hn (fun h' hn' hsb => ?_) (by rw [st.kind]; rfl)
  refine gg fun GG hGG => ?_
  obtain ⟨o', es', ep', e', d', k', f'⟩ := id hn'
  refine hGG ?_
  have ht : ∃ o, h'.get? Γ.env.locals = some o := ⟨o', e'⟩
  refine k _ _ hsb ht ((st.stored (h₀ := s.heap) (lv := .val A) (v := v) (x := x) r Γ.env.locals st.onsO hsb ht ⟨_, hn'⟩ (.inl ⟨hl, _, hn', by simp⟩) (fun y w hne hv => ?_) (fun y d e ⟨o, w, eo, ed⟩ => ?_) (fun o eo => ⟨o', e', fun _ => ⟨es', ep', d'⟩⟩) (.inl rfl) (fun a z => by cases z) (fun a z => by cases z)).oeq noneO)
  · rcases hv with ⟨k1, m1, n1, e1⟩ | ⟨k1, c, o, l, eo, d⟩ | g
    · cases ns_fun hn n1
      exact .inl ⟨k1, _, hn', by simp [hne, e1]⟩
    · exact .inr (.inl ⟨k1, c, o, l, (hsb.2 c (st.cne _ _ l)).trans eo, d⟩)
    · exact .inr (.inr g)
  · exact ⟨o, w, (hsb.2 d (st.cne _ _ e)).trans eo, ed⟩
/- a cell's value is another one -/
theorem StH.setCell {A : V} {v : Value} {h' : Heap} {c : Addr} (st : St Γ H O loc s) (r : Rep H A v) (hl : Γ.env.kindOf x = some .cell) (hm : Γ.mine x = true) (hc : Γ.env.cells.lookup x = some c) (hc' : h'.IsCell c (some v)) (hsb : Heap.SameBut c s.heap h') :
    StH Γ H O ((x, .val A) :: loc) h' s.os s.gens := by
  refine gg fun GG hGG => ?_
  obtain ⟨hO, o, w, eo, ed⟩ := st.cells x c hc
  obtain ⟨o', e', d'⟩ := hc'
  have hcO := hO hm
  have hcl : Γ.env.locals ≠ c := fun z => st.cne _ _ hc z.symm
  obtain ⟨m, hn⟩ := st.ns
  refine hGG ?_
  have hn' : h'.Ns Γ.env.locals m := hn.sameBut hsb hcl
  refine (st.stored (h₀ := s.heap) (lv := .val A) (v := v) (x := x) r c hcO hsb ⟨o', e'⟩ ⟨m, hn'⟩ (.inr (.inl ⟨.inl hl, c, o', hc, e', d'⟩)) (fun y w hne hv => ?_) (fun y d e ⟨o, w, eo, ed⟩ => ?_) (fun o₂ eo₂ => ⟨o', e', fun ⟨es, ep, z⟩ => ?_⟩) (.inr ⟨x, hc⟩) (fun a z => by cases z) (fun a z => by cases z)).oeq noneO
  · rcases hv with ⟨k1, m1, n1, e1⟩ | ⟨k1, c₂, o, l, eo, d⟩ | g
    · cases ns_fun hn n1
      exact .inl ⟨k1, _, hn', e1⟩
    · exact .inr (.inl ⟨k1, c₂, o, l, (hsb.2 c₂ fun z => hne (st.cinj _ _ _ l (z ▸ hc))).trans eo, d⟩)
    · exact .inr (.inr g)
  · by_cases hdc : d = c
    · subst hdc; exact ⟨o', _, e', d'⟩
    · exact ⟨o, w, (hsb.2 d hdc).trans eo, ed⟩
  · rw [eo] at eo₂; cases eo₂; rw [ed] at z; cases z
/- the generator's frame is the one that the text lays -/
theorem cEnv_of {C cn f : Addr} {q : Str} {cd : Value} : CEnv (newEnv cScope C mainGlobals [(Str.ofString "n", cn)] q (some f) cd none builtinsNs) C cn :=
  ⟨rfl, rfl, rfl, rfl, rfl, rfl, rfl, rfl, rfl, rfl, rfl⟩
/- what fmean's handler needs of its frame -/
structure SuiteOk (Γ : Cx) (c P cn : Addr) : Prop where
  gh : NoGh Γ
  land : CodeLand Γ.F c P
  room : Γ.A.depth < recursionLimit
  code : Γ.env.code = .ref c
  g : Γ.env.globals = mainGlobals
  clos : closureFor cScope Γ.env = pure [(Str.ofString "n", cn)]
  cell : Γ.env.cells.lookup (Str.ofString "n") = some cn
  kn : Γ.env.kindOf "n" = some .cell
  mn : Γ.mine "n" = true
  kc : Γ.env.kindOf "count" = some .local
  kd : Γ.env.kindOf "data" = some .local
  q : qualnameIn Γ.env "count" "count" = cQual
  ge : GlobAt Γ.F "enumerate" (.type "enumerate")
set_option maxHeartbeats 2000000 in
theorem wp_suite {c P cn it : Addr} {As : List V} {E : Value → Shared → Prop} {p1 p1' p1'' pa pd p3 p4 p5 p6 p7 p0 pf pe pi pc pk pcall pn px pt px' yp ep : Pos} {k0 kk k : Nat} {ns : List Str} (ok : SuiteOk Γ c P cn) (st : St Γ H O loc s)
    (hd : Has loc "data" (.con (.ref it))) (hi : loc.lookup (gh it) = some (.itr it As)) (ht : loc.lookup (gh P) = some (.itr P [tagV])) (hA : As ≠ [tagV]) (hip : it ≠ P) :
    wpAny Γ.M Γ.A (execs [.Assign [.Name (Str.ofString "n") p1] (.Constant (.int 0) k0 p1') p1'', .FunctionDef (Str.ofString "count") (cParams pa) (cFn ns p0 pf pe pi pc pk pcall kk pn px pt k px' yp ep) [] none [] cScope none (Str.ofString "count") pd,
      .Assign [.Name (Str.ofString "data") p3] (.Call (.Name (Str.ofString "count") p4) [.Name (Str.ofString "data") p5] [] p6) p7] Γ.env)
      (fun f s' => f = .next ∧ ∃ H' O' loc' a g C, Nx Γ.F H O s.heap H' O' s'.heap ∧ St Γ H' O' loc' s' ∧ GFresh Γ.F H' As a g C cn it s' ∧ Has loc' "data" (.con (.ref a)) ∧ Has loc' "n" (.int 0) ∧ loc'.lookup (gh it) = some (.itr it As) ∧ loc'.lookup (gh P) = some (.itr P [tagV]) ∧ Foreign Γ H' O' C ∧ s.heap.get? C = none) E s := by
  refine wp_genQ fun QQ hQ => ?_
  refine wpAny_execs_cons (wpAny_Assign_Name (wpAny_Constant_int ?_) rfl)
  refine wp_store (H₁ := H) (O₁ := O) (s := s) (s₁ := { s with toks := s.toks + 1 }) (lv := .val (.int 0)) (.refl ..) st st (rep_int H ..) (.inr ⟨ok.kn, ok.mn, by rw [ok.cell]; rfl⟩) fun O₂ s₂ n₂ st₂ _ ho₂ => ?_
  have ht₂ : List.lookup (gh P) (((Str.ofString "n"), LV.val (.int 0)) :: loc) = some (.itr P [tagV]) := loc_put ht (gh_ne (by decide) _)
  refine wpAny_execs_cons (nestDef_K rfl rfl rfl ?_)
  rw [show qualnameIn Γ.env (Str.ofString "count") (Str.ofString "count") = cQual from ok.q]
  refine wp_mkCount ok.gh ok.land st₂ ht₂ ok.code ok.g ok.clos rfl fun f h₃ tk₃ H₃ doc pm cd ctv n₃ st₃ hfn kp₃ hof hcd => ?_
  refine wp_storeL (s := { s₂ with heap := h₃, toks := tk₃ }) (A := .con (.ref f)) (x := Str.ofString "count") st₃ (rep_con ..) ok.kc fun h₄ tk₄ hsb₄ ht₄ st₄ => ?_
  have newO : ∀ b, s₂.heap.get? b = none → ¬ O₂ b := fun b e z => by obtain ⟨o, e'⟩ := st₂.othere b z; rw [e] at e'; cases e'
  have nL : ∀ b, ¬ O₂ b → b ≠ Γ.env.locals := fun b h z => h (z ▸ st₃.onsO)
  obtain ⟨of, ef, df⟩ := hof
  have ef₄ : h₄.get? f = some of := (hsb₄.2 f (nL f (newO f hfn))).trans ef
  have hcd₄ : h₄.CodeRec cd cQual := by
    refine gg fun GG hGG => ?_
    obtain ⟨c', o', vs, t, e0, e1, e2⟩ := hcd
    refine hGG ?_
    refine ⟨c', o', vs, t, e0, (hsb₄.2 c' fun z => ?_).trans e1, e2⟩
    refine gg fun GG hGG => ?_
    obtain ⟨m, on, es, ep, en, ed, _⟩ := st₃.ns
    refine hGG ?_
    have en' : h₃.get? c' = some on := z ▸ en
    rw [e1] at en'; cases en'
    rw [e2.1] at ed; cases ed
  have n₄ : Nx Γ.F H O s.heap H₃ O₂ h₄ := (n₂.trans n₃).names st₃.onsO hsb₄ ht₄
  generalize hs4 : ({ s₂ with heap := h₄, toks := tk₄ } : Shared) = s₄
  have eh4 : s₄.heap = h₄ := by rw [← hs4]
  have eg4 : s₄.gens = s₂.gens := by rw [← hs4]
  rw [← eh4] at ef₄ hcd₄ n₄
  have st4 : St Γ H₃ O₂ (((Str.ofString "count"), LV.val (.con (.ref f))) :: (gh P, LV.itr P [tagV]) :: ((Str.ofString "n"), LV.val (.int 0)) :: loc) s₄ := by rw [← hs4]; exact st₄
  clear st₄
  have hd₄ : Has (((Str.ofString "count"), LV.val (.con (.ref f))) :: (gh P, LV.itr P [tagV]) :: ((Str.ofString "n"), LV.val (.int 0)) :: loc) "data" (.con (.ref it)) := loc_put (loc_put (loc_put hd rfl) (by rw [beq_eq_false_iff_ne]; exact not_gh (by decide) _)) rfl
  have hi₄ : List.lookup (gh it) (((Str.ofString "count"), LV.val (.con (.ref f))) :: (gh P, LV.itr P [tagV]) :: ((Str.ofString "n"), LV.val (.int 0)) :: loc) = some (.itr it As) := loc_put (loc_put (loc_put hi (gh_ne (by decide) _)) (gh_beq hip)) (gh_ne (by decide) _)
  have ht4 : List.lookup (gh P) (((Str.ofString "count"), LV.val (.con (.ref f))) :: (gh P, LV.itr P [tagV]) :: ((Str.ofString "n"), LV.val (.int 0)) :: loc) = some (.itr P [tagV]) := loc_put (lookup_cons_self ..) (gh_ne (by decide) _)
  have hn4 : Has (((Str.ofString "count"), LV.val (.con (.ref f))) :: (gh P, LV.itr P [tagV]) :: ((Str.ofString "n"), LV.val (.int 0)) :: loc) "n" (.int 0) := loc_put (loc_put (lookup_cons_self ..) (by rw [beq_eq_false_iff_ne]; exact not_gh (by decide) _)) rfl
  have hc4 : Has (((Str.ofString "count"), LV.val (.con (.ref f))) :: (gh P, LV.itr P [tagV]) :: ((Str.ofString "n"), LV.val (.int 0)) :: loc) "count" (.con (.ref f)) := lookup_cons_self ..
  generalize (((Str.ofString "count"), LV.val (.con (.ref f))) :: (gh P, LV.itr P [tagV]) :: ((Str.ofString "n"), LV.val (.int 0)) :: loc) = loc₄ at hd₄ hi₄ ht4 hn4 hc4 st4
  refine wpAny_execs_cons (wpAny_Assign_Name (wpAny_Call_Name_kw ?_) rfl)
  refine gg fun GG hGG => ?_
  obtain ⟨vc, hvc, rc⟩ := st4.vars _ _ hc4
  obtain rfl : vc = .ref f := Rep.con_of (H := H₃) rc
  obtain ⟨vd, hvd, rd⟩ := st4.vars _ _ hd₄
  refine hGG ?_
  obtain rfl : vd = .ref it := Rep.con_of (H := H₃) rd
  refine wpAny_Name (wp_var st4.kind hvc ?_ (by decide)) (by decide)
  refine callWith_function_kw (o := of) (fd := cFd pa (cFn ns p0 pf pe pi pc pk pcall kk pn px pt k px' yp ep) cn doc pm cd ctv) (evalArgs_kw (by rfl) (Calls.spliced_cons (wpAny_Name (wp_var st4.kind hvd ?_ (by decide)) (by decide))))
  refine Calls.spliced_nil (wpAny_evalAll_nil ⟨⟨ef₄, df⟩, ?_⟩)
  refine wpAny_call (codeAny_call_generator ok.room ef₄ df rfl rfl rfl hcd₄ ?_)
  refine wpAny_of_eq (a := [(Str.ofString "iterable", Value.ref it)]) (by rfl) ?_
  refine wpAny_newFunctionEnv (show ∀ x ∈ cScope.names, x.2 ≠ .cell by decide) (fun x hx => by rw [List.mem_singleton.mp hx]; rfl) fun h₅ hns hsb₅ => ?_
  have hlim : s₄.heap.NoLimit := ok.land.lim.keeps st4.base
  have up5 : ∀ b o, s₄.heap.get? b = some o → h₅.get? b = some o := fun b o e => hsb₅.extBut b o (Nat.ne_of_lt (Heap.lt_size e)) (Heap.get?_push_of_some _ e)
  refine ⟨hlim.keeps up5, ?_⟩
  have sz5 : h₅.objs.size = s₄.heap.objs.size + 1 := by rw [hsb₅.1, Heap.size_push]
  generalize hog : ({ cls := .type "generator", data := .fields #[.int s₄.gens.size 0, .str (Str.ofString "count") (s₄.toks + 1), .str cQual (s₄.toks + 1 + 1)] } : Obj) = og
  have up6 : ∀ b o, s₄.heap.get? b = some o → (h₅.push og).get? b = some o := fun b o e => Heap.get?_push_of_some _ (up5 b o e)
  have st6 := st4.ext (h' := h₅.push og) (g' := s₄.gens.push (.fresh (.func (cFn ns p0 pf pe pi pc pk pcall kk pn px pt k px' yp ep) (newEnv cScope s₄.heap.objs.size mainGlobals [(Str.ofString "n", cn)] (cQual ++ ".<locals>.") (some f) cd none builtinsNs)))) (fun b o e => ⟨o, up6 b o e, .refl ..⟩)
    (fun y hy => by
      rcases Array.mem_push.mp hy with hy | rfl
      · exact st4.gens y hy
      · rfl) (.refl H₃) (fun b o e => .inl e)
  have fC := st4.foreign (fresh_none s₄.heap)
  have hog' : (h₅.push og).get? h₅.objs.size = some og := Heap.get?_push_size _ (by rw [← hog]; rfl)
  have newA : ∀ b, s₄.heap.get? b = none → ¬ O₂ b := fun b e z => by obtain ⟨o, e'⟩ := st4.othere b z; rw [e] at e'; cases e'
  have nof : ∀ b, s₄.heap.objs.size ≤ b → s₄.heap.get? b = none := fun b hb => by
    cases e : s₄.heap.get? b with
    | none => rfl
    | some o => exact absurd (Heap.lt_size e) (Nat.not_lt.mpr hb)
  have fA := newA h₅.objs.size (nof _ (by rw [sz5]; exact Nat.le_succ _))
  refine wp_storeL (s := { heap := h₅.push og, gens := s₄.gens.push (.fresh (.func (cFn ns p0 pf pe pi pc pk pcall kk pn px pt k px' yp ep) (newEnv cScope s₄.heap.objs.size mainGlobals [(Str.ofString "n", cn)] (cQual ++ ".<locals>.") (some f) cd none builtinsNs))), drawn := s₄.drawn, toks := s₄.toks + 1 + 1 + 1, os := s₄.os }) (A := .con (.ref h₅.objs.size)) (x := Str.ofString "data") st6 (rep_con ..) ok.kd fun h₇ tk₇ hsb₇ ht₇ st₇ => ?_
  have nLo : ∀ b, ¬ O₂ b → b ≠ Γ.env.locals := fun b h z => h (z ▸ st4.onsO)
  have keep7 : ∀ b o, s₄.heap.get? b = some o → b ≠ Γ.env.locals → h₇.get? b = some o := fun b o e hb => (hsb₇.2 b hb).trans (up6 b o e)
  have hi7 : List.lookup (gh it) ((Str.ofString "data", LV.val (.con (.ref h₅.objs.size))) :: loc₄) = some (.itr it As) := loc_put hi₄ (gh_ne (by decide) _)
  have hn7 : Has ((Str.ofString "data", LV.val (.con (.ref h₅.objs.size))) :: loc₄) "n" (.int 0) := loc_put hn4 rfl
  refine gg fun GG hGG => ?_
  obtain ⟨_, hvi, b, rfl, hOi, hb, hli⟩ := st₇.vars _ _ hi7
  refine hGG ?_
  subst hb
  have hOn : O₂ cn := (st₇.cells _ cn ok.cell).1 ok.mn
  refine gg fun GG hGG => ?_
  obtain ⟨mS, ⟨oS, _, _, eS, _⟩, _⟩ := ok.land.lim
  have stat : ∀ b, Γ.F.h₁.get? b = none → cStatics ≠ b := fun b h z => by rw [← z, eS] at h; cases h
  obtain ⟨oit, eit⟩ := st4.othere it hOi
  refine hGG ?_
  have hns7 : h₇.Ns s₄.heap.objs.size (fun x => [(Str.ofString "iterable", Value.ref it)].reverse.lookup x) := (hns.push og).at' fun o e => (hsb₇.2 _ (nLo _ fC.o)).trans e
  have cell7 : ∃ t, h₇.IsCell cn (some (.int 0 t)) := by
    obtain ⟨v, hv, hl⟩ := st₇.vars _ _ hn7
    obtain ⟨t, rfl⟩ := Rep.int_of (H := H₃) hl
    rcases hv with ⟨kk, _⟩ | ⟨_, c', o, l, e, d⟩ | ⟨kk, _⟩
    · rw [ok.kn] at kk; cases kk
    · rw [ok.cell] at l; cases l; exact ⟨t, o, e, d⟩
    · rw [ok.kn] at kk; cases kk
  subst hQ
  refine wpAny_execs_nil ⟨rfl, H₃, O₂, _, h₅.objs.size, s₄.gens.size, s₄.heap.objs.size, ?_, st₇, ?_, lookup_cons_self .., hn7, hi7, loc_put ht4 (gh_ne (by decide) _), fC, n₄.none_back (fresh_none s₄.heap)⟩
  · refine n₄.then (fun b o e hb _ => ⟨o, keep7 b o e (nLo b hb), .refl ..⟩) (fun b o e _ => ?_) (.refl _) (fun b o e => .inl e) (fun b e => .inl e)
    by_cases z : b = Γ.env.locals
    · rw [z]; exact ht₇
    · exact ⟨o, keep7 b o e z⟩
  · exact
    { gen := ⟨og, _, _, (hsb₇.2 _ (nLo _ fA)).trans hog', by rw [← hog], by rw [← hog], by rw [← hog]⟩
      lim := ok.land.lim.keeps st₇.base
      inv := ⟨hli.resolve_right fun z => hA z.1, st₇.agree, ⟨_, hns7⟩, cell7⟩
      base := st₇.base
      arg := ⟨_, hns7, rfl⟩
      gs := ⟨_, cEnv_of, ns, p0, pf, pe, pi, pc, pk, pcall, pn, px, pt, px', yp, ep, kk, k, Array.getElem?_push_size ..⟩
      ge := ok.ge
      hit := st₇.ohm it hOi
      hC := fC.hm
      hcn := st₇.ohm cn hOn
      ci := fun z => by rw [← z, fresh_none] at eit; cases eit
      cc := fun z => fC.cell _ (z ▸ ok.cell)
      ni := fun z => (st₇.apart _ it _ hi7 rfl hvi).2 _ cn ok.cell z.symm
      aC := fun z => by rw [sz5] at z; exact Nat.succ_ne_self _ z
      an := fun z => fA (z ▸ hOn)
      ai := fun z => fA (z ▸ hOi)
      sC := stat _ fC.base
      sn := stat _ (st₇.obase _ hOn)
      si := stat _ (st₇.obase _ hOi) }
end
end Mine
end
section
open PySem PySem.W PyProof.Rows
set_option linter.unusedVariables false
set_option maxRecDepth 100000
namespace Mine
section
variable {prog : Program} {w : World} {A : Around} {E : Value → Shared → Prop} {s : Shared}
theorem li_name {it : Addr} {Q : String → Shared → Prop} (hT : s.TypeIs (.ref it) "list_iterator") (h : Q "list_iterator" s) : wpAny (model prog w) A (PySem.typeNameOf (.ref it)) Q E s := by
  unfold PySem.typeNameOf shownTypeOf
  refine wpAny_bind (wpAny_bind (wpAny_typeOf hT ?_))
  simp only [show (Value.type "list_iterator" == Value.type "builtin_function_or_method") = false by decide, Bool.false_eq_true, if_false]
  refine wpAny_pure ?_
  have e : typeName (.type "list_iterator") = pure "list_iterator" := by unfold typeName; rw [find?_eq_fast]; kernel_rfl
  rw [e]; exact wpAny_pure h
theorem wp_len_no {it : Addr} {Q : Value → Shared → Prop} (hA : A.handled = none) (hT : s.TypeIs (.ref it) "list_iterator") (h : ∀ h' tk e, Heap.NewExc s.heap h' e "TypeError" → E (.ref e) { s with heap := h', toks := tk }) :
    wpAny (model prog w) A (call (.builtin "len") [.ref it]) Q E s := by
  refine Calls.call_function_entry kind_len plain_len entry_len (args_len1 _) ?_
  unfold Builtin.«len»
  refine wpAny_bind (m := oneArg "len" _) (wpAny_of_eq (a := Value.ref it) (by first | rfl | kernel_rfl!) ?_)
  refine wpAny_bind (wpAny_callSpecial?_none hT li_no_len ?_)
  refine wpAny_bind (wpAny_rule ?_)
  refine wpAny_bind (li_name hT ?_)
  exact wpAny_raiseErrorMade plainExc_TypeError hA (fun h' tk e hx => h h' tk e hx) (by decide +kernel)
end
section
variable {Γ : Cx} {loc : Loc} {Q : LV → Loc → Prop} {QF : Fl → Loc → Prop} {X : Exc → Loc → Prop}
/- len of an iterator -/
theorem bi_len_no {it : Addr} {As : List V} (hh : Γ.A.handled = none) (hi : loc.lookup (gh it) = some (.itr it As)) (hA : As ≠ [tagV]) (hX : X ⟨.type "TypeError", none⟩ loc) : OpN Γ loc (fun vs => call (.builtin "len") vs) [.con (.ref it)] Q X := by
  intro H O s vs st r
  refine gg fun GG hGG => ?_
  obtain ⟨v, _, rfl, hv, rfl⟩ := r
  obtain rfl : v = .ref it := Rep.con_of hv
  obtain ⟨w, _, b, _, hO, hb, hit⟩ := st.vars _ _ hi
  refine hGG ?_
  subst hb
  refine gg fun GG hGG => ?_
  obtain ⟨o, _, e, c, _⟩ := (hit.resolve_right fun z => hA z.1).obj
  refine hGG ?_
  exact wp_len_no hh ⟨o, e, c⟩ fun h' tk ex ne => PostX.new st ne hX
end
end Mine
namespace Mine
theorem SuiteOk.mark {Γ : Cx} {c P cn : Addr} (ok : SuiteOk Γ c P cn) (e : Value) : SuiteOk (Γ.mark e) c P cn := ⟨ok.gh, ok.land, ok.room, ok.code, ok.g, ok.clos, ok.cell, ok.kn, ok.mn, ok.kc, ok.kd, ok.q, ok.ge⟩
section
variable {Γ : Cx} {H : Hm} {O : OSet} {loc : Loc} {s s' : Shared}
/- behind a walk along the generator -/
theorem StH.afterGen {c P cn it C : Addr} {g : Nat} {As r : List V} {A : V} {v : Value} (ok : SuiteOk Γ c P cn) (st : St Γ H O loc s) (hi : loc.lookup (gh it) = some (.itr it As)) (fC : Foreign Γ H O C) (gm : Gm s.heap.objs.size it C cn g s s')
    (hc' : s'.heap.IsCell cn (some v)) (rv : Rep H A v) (hr : ItrN H s'.heap it r) : St Γ H O ((gh it, .itr it r) :: (Str.ofString "n", .val A) :: loc) s' := by
  refine gg fun GG hGG => ?_
  obtain ⟨o', e', d'⟩ := hc'
  obtain ⟨_, oc, wc, ec, _⟩ := st.cells _ cn ok.cell
  have fr : o'.isFreed = false := by cases o'; cases d'; rfl
  have e1 : (s.heap.update cn fun _ => o').get? cn = some o' := Heap.get?_update_self (fun _ => o') ec fr
  have sb : Heap.SameBut cn s.heap (s.heap.update cn fun _ => o') := Heap.SameBut.update ..
  have st1 : St Γ H O ((Str.ofString "n", .val A) :: loc) { s with heap := s.heap.update cn fun _ => o' } := st.setCell rv ok.kn ok.mn ok.cell ⟨o', e1, d'⟩ sb
  have hi1 : List.lookup (gh it) ((Str.ofString "n", LV.val A) :: loc) = some (.itr it As) := loc_put hi (gh_ne (by decide) _)
  have nd : ([(it, As)].map (·.1)).Nodup := by simp
  obtain ⟨st2, rl⟩ := st1.releases [(it, As)] (fun p hp => by rw [List.mem_singleton.mp hp]; exact hi1) nd
  obtain ⟨hO, fa, _⟩ := rl (it, As) (List.mem_singleton.mpr rfl)
  refine hGG ?_
  have adr : ∀ b, Gs.adr [(it, As)] b ↔ b = it := fun b => by simp [Gs.adr]
  have fC' : Foreign Γ H (fun b => O b ∧ ¬ Gs.adr [(it, As)] b) C := fC.wider fun z => fC.o z.1
  have st3 := st2.extW (h' := s'.heap) (g' := s'.gens) (H' := H) (os' := s'.os) (fun b => b = it ∨ b = C) (fun b z => by
      rcases z with rfl | rfl
      · exact fa
      · exact fC') (fun b o hb e => by
      by_cases z : b = cn
      · subst z
        rw [e1] at e; cases e
        exact ⟨o', e', .refl ..⟩
      · have e2 : s.heap.get? b = some o := (sb.2 b z).symm.trans e
        exact ⟨o, gm.heap b o (fun y => hb (.inr y)) z (fun y => hb (.inl y)) (Nat.le_of_lt (Heap.lt_size e2)) e2, .refl ..⟩) (gm.gens.bare st.gens) (.refl H) (gm.os.trans st.os) (fun b o e => .inl e)
  have st4 := st3.adopt ok.gh fa (.inl hr)
  refine (st4.oeq fun b => ?_).less (gloc_or [(it, As)] [(it, r)] ((Str.ofString "n", LV.val A) :: loc) rfl nd)
  constructor
  · rintro (h | h)
    · exact h.1
    · rw [h]; exact hO
  · intro h
    by_cases z : b = it
    · exact .inr z
    · exact .inl ⟨h, fun y => z ((adr b).mp y)⟩
theorem Nx.afterGen {F : Fix} {H₀ : Hm} {O₀ : OSet} {h₀ : Heap} {cn it C : Addr} {g : Nat} {r : List V} {v : Value} (n : Nx F H₀ O₀ h₀ H O s.heap) (gm : Gm s.heap.objs.size it C cn g s s') (hC : h₀.get? C = none) (hn : O cn) (hi : O it)
    (hc' : s'.heap.IsCell cn (some v)) (hr : ItrN H s'.heap it r) : Nx F H₀ O₀ h₀ H O s'.heap := by
  refine n.then (fun b o e hb hne => ⟨o, gm.heap b o (fun z => hne (z ▸ hC)) (fun z => hb (z ▸ hn)) (fun z => hb (z ▸ hi)) (Nat.le_of_lt (Heap.lt_size e)) e, .refl ..⟩) (fun b o e hne => ?_) (.refl _) (fun b o e => .inl e) (fun b e => .inl e)
  by_cases z1 : b = cn
  · obtain ⟨o', e', _⟩ := hc'; exact ⟨o', z1 ▸ e'⟩
  · by_cases z2 : b = it
    · obtain ⟨o', _, e', _⟩ := hr.obj; exact ⟨o', z2 ▸ e'⟩
    · exact ⟨o, gm.heap b o (fun z => hne (z ▸ hC)) z1 z2 (Nat.le_of_lt (Heap.lt_size e)) e⟩
end
section
variable {Γ : Cx} {loc : Loc} {QF : Fl → Loc → Prop} {X : Exc → Loc → Prop}
set_option maxHeartbeats 2000000 in
/- the mean's first step, where the data is an iterator -/
theorem exs_count {c P cn it : Addr} {As : List V} {q1 q2 q3 q4 q5 tp ph pt p1 p1' p1'' pa pd p3 p4 p5 p6 p7 p0 pf pe pi pc pk pcall pn px pxt px' yp ep t1 t2 t3 t4 t5 : Pos} {k0 kk k : Nat} {ns : List Str} {rest : List Stmt} (ok : SuiteOk Γ c P cn) (hf : Γ.isFn) (hh : Γ.A.handled = none)
    (gl : GlobAt Γ.F "len" (.builtin "len")) (gt : GlobAt Γ.F "TypeError" (.type "TypeError")) (gs : GlobAt Γ.F "fsum" (.builtin "math.fsum")) (kl : Γ.env.kindOf "len" = some .globalImplicit) (kt : Γ.env.kindOf "TypeError" = some .globalImplicit) (ks : Γ.env.kindOf "fsum" = some .globalImplicit) (ktot : Γ.env.kindOf "total" = some .local) (hgl : Γ.env.builtins = builtinsNs)
    (hd : Has loc "data" (.con (.ref it))) (hi : loc.lookup (gh it) = some (.itr it As)) (ht : loc.lookup (gh P) = some (.itr P [tagV])) (hA : As ≠ [tagV]) (hip : it ≠ P) (hz : As.length + 2 < sizeLine) (hio : ∀ A ∈ As, A.ion)
    (hQ : ∀ d l', fsumX [] As = (.ok d, []) → Has l' "total" (.flt d) → Has l' "n" (.int As.length) → l'.lookup (gh it) = some (.itr it []) → l'.lookup (gh P) = some (.itr P [tagV]) → Exs Γ l' rest QF X)
    (hX : ∀ e r l', fsumX [] As = (.error e, r) → l'.lookup (gh it) = some (.itr it r) → l'.lookup (gh P) = some (.itr P [tagV]) → X ⟨.type e, none⟩ l') :
    Exs Γ loc (.Try [.Assign [.Name (Str.ofString "n") q1] (.Call (.Name (Str.ofString "len") q2) [.Name (Str.ofString "data") q3] [] q4) q5]
      [.ExceptHandler (some (.Name (Str.ofString "TypeError") tp)) none
        [.Assign [.Name (Str.ofString "n") p1] (.Constant (.int 0) k0 p1') p1'', .FunctionDef (Str.ofString "count") (cParams pa) (cFn ns p0 pf pe pi pc pk pcall kk pn px pxt k px' yp ep) [] none [] cScope none (Str.ofString "count") pd,
          .Assign [.Name (Str.ofString "data") p3] (.Call (.Name (Str.ofString "count") p4) [.Name (Str.ofString "data") p5] [] p6) p7] ph] [] [] pt ::
      .Assign [.Name (Str.ofString "total") t1] (.Call (.Name (Str.ofString "fsum") t2) [.Name (Str.ofString "data") t3] [] t4) t5 :: rest) QF X := by
  intro H O s st
  have hbody : Exs Γ loc [.Assign [.Name (Str.ofString "n") q1] (.Call (.Name (Str.ofString "len") q2) [.Name (Str.ofString "data") q3] [] q4) q5] (fun _ _ => False) (fun x l => x = ⟨.type "TypeError", none⟩ ∧ l = loc) := by
    refine exs_let (.inr ⟨ok.kn, ok.mn, by rw [ok.cell]; rfl⟩) (ev_builtin gl (args_val (ev_name hd (args_val_nil (bi_len_no hh hi hA ⟨rfl, rfl⟩)))) kl ok.g hgl)
  refine wpAny_execs_cons (wpAny_Try_except (wpAny_mono (hbody H O s st) (fun f s₁ p => ?_) fun e s₁ p => ?_))
  · obtain ⟨_, _, _, _, _, _, _, q⟩ := p
    exact q.elim
  refine gg fun GG hGG => ?_
  obtain ⟨H₁, O₁, l₁, x, n₁, st₁, fl, rfl, rfl⟩ := p
  obtain ⟨l, hl, _⟩ := st.frames
  obtain ⟨outer, rfl⟩ := hf.1 l hl
  obtain ⟨L, hL⟩ := hf.2
  refine hGG ?_
  refine wp_note st n₁ st₁ fl hl hL fun h₂ n₂ st₂ fl₂ => ?_
  refine wp_setFlight (s := { s₁ with heap := h₂ }) st n₂ st₂ fl₂ fun h₃ n₃ st₃ fl₃ => ?_
  refine gg fun GG hGG => ?_
  obtain ⟨a, o, rfl, ho, hc⟩ := fl₃.ref
  refine hGG ?_
  refine wpAny_handleBy_cons (codeAny_handlers_test ?_) (by intro q; cases q)
  refine Calls.Name_function_global st₃.kind kt (wp_glob st₃ gt ?_ ok.g hgl) (by decide)
  refine matches_te (F := Γ.F) _ _ _ _ a o _ st₃.base ho hc ?_
  refine codeAny_handlers_suite ?_
  refine wp_setFlight (Γ := Γ.mark (.ref a)) (st.mark _) n₃ (st₃.mark _) fl₃ fun h₄ n₄ st₄ fl₄ => ?_
  refine wpAny_mono (wp_suite (ok.mark (.ref a)) st₄ hd hi ht hA hip) (fun f s₅ p => ?_) (fun _ _ z => z)
  refine gg fun GG hGG => ?_
  obtain ⟨rfl, H₅, O₅, l₅, a₅, g₅, C, n₅, st₅, gf, hd₅, hn₅, hi₅, ht₅, fC, hC⟩ := p
  have st5 : St Γ H₅ O₅ l₅ s₅ := st₅.unmark
  have n5 : Nx Γ.F H O s.heap H₅ O₅ s₅.heap := n₄.trans n₅
  have fC5 : Foreign Γ H₅ O₅ C := ⟨fC.base, fC.hm, fC.o, fC.cell, fun l hl env he => fC.fr l hl env he, fC.tab⟩
  have hC5 : s.heap.get? C = none := n₄.none_back hC
  have hOn : O₅ cn := (st5.cells _ cn ok.cell).1 ok.mn
  have hOi : O₅ it := by obtain ⟨_, _, b, _, hO, hb, _⟩ := st5.vars _ _ hi₅; subst hb; exact hO
  obtain ⟨vd, hvd, rd⟩ := st5.vars _ _ hd₅
  refine hGG ?_
  obtain rfl : vd = .ref a₅ := Rep.con_of (H := H₅) rd
  have ht6 : ∀ r A, List.lookup (gh P) ((gh it, LV.itr it r) :: (Str.ofString "n", LV.val A) :: l₅) = some (.itr P [tagV]) := fun r A => loc_put (loc_put ht₅ (gh_ne (by decide) _)) (gh_beq (Ne.symm hip))
  show wpAny Γ.M Γ.A (execs _ Γ.env) _ _ s₅
  refine wpAny_execs_cons (wpAny_Assign_Name (wpAny_Call_Name_kw ?_) rfl)
  refine Calls.Name_function_global st5.kind ks (wp_glob st5 gs ?_ ok.g hgl) (by decide)
  refine Calls.callWith_builtin (by rfl) (Calls.evalArgs_plain (Calls.spliced_cons (wpAny_Name (wp_var st5.kind hvd (Calls.spliced_nil ?_) (by decide)) (by decide))))
  refine wp_fsumC hh ok.room gf hz (fun B hB => ion_fin (hio B hB)) (fun r t s₆ hr hdead hcell hns gm => ?_) (fun e i s₆ h'' tk ex hi' hr hin gm ne => ?_)
  · obtain ⟨tc, hcell⟩ := hcell
    have st₆ := st5.afterGen ok hi₅ fC5 gm hcell (rep_int H₅ As.length tc) (.inr ⟨rfl, hdead⟩)
    have n₆ := Nx.afterGen n5 gm hC5 hOn hOi hcell (r := []) (.inr ⟨rfl, hdead⟩)
    refine wp_store (H₁ := H₅) (O₁ := O₅) (s := s) (s₁ := s₆) (lv := .val (.flt r)) n₆ st st₆ (rep_flt H₅ ..) (.inl ktot) fun O₇ s₇ n₇ st₇ _ _ => ?_
    refine wpAny_mono (hQ r _ hr (lookup_cons_self ..) (loc_put (loc_put (lookup_cons_self ..) (by rw [beq_eq_false_iff_ne]; exact not_gh (by decide) _)) rfl) (loc_put (lookup_cons_self ..) (gh_ne (by decide) _)) (loc_put (ht6 _ _) (gh_ne (by decide) _)) H₅ O₇ s₇ st₇) (fun _ _ p => p.back n₇) fun _ _ p => p.back n₇
  · obtain ⟨tc, hcell⟩ := hin.cell
    have st₆ := st5.afterGen ok hi₅ fC5 gm hcell (rep_int H₅ _ tc) hin.itr
    have n₆ := Nx.afterGen n5 gm hC5 hOn hOi hcell hin.itr
    exact (PostX.new st₆ ne (hX e _ _ hr (lookup_cons_self ..) (ht6 _ _))).back n₆
end
end Mine
end
section
open PySem PySem.W PyProof.Rows
set_option linter.unusedVariables false
set_option maxRecDepth 100000
namespace Mine
open PySem.Float64 (isInf ofInt isZero div)
variable {F : Fix} {P : Params}
theorem Land.enumerate (l : Land (K8 P) F) : GlobAt F "enumerate" (.type "enumerate") := l.bi rfl (by decide +kernel) (by decide)
noncomputable abbrev xEmpty : Str := "fmean requires at least one data point"
/- fmean(data): what it comes to, and what is left of the data -/
noncomputable def fm1 (As : List V) : Except Exc V × List V :=
  match fsumX [] As with
  | (.error c, r) => (.error (xE c), r)
  | (.ok d, _) => if As.length = 0 then (.error (xS xEmpty), []) else (.ok (.flt (div d (ofInt As.length))), [])
noncomputable def Fm1Q (S : Sr) : V → Gs → Prop := fun R gs' => ∃ r, fm1 S.items = (.ok R, r) ∧ gs' = [tb] ++ (S.left r).gs
noncomputable def Fm1X (S : Sr) : Exc → Gs → Prop := fun x gs' => ∃ r, fm1 S.items = (.error x, r) ∧ gs' = [tb] ++ (S.left r).gs
theorem small_n : ∀ n : Nat, n ≤ 80 → n ≠ 0 → isInf (ofInt n) = false ∧ isZero (ofInt n) = false := by
  have h : (List.range 81).all (fun n => n == 0 || (!isInf (ofInt n) && !isZero (ofInt n))) = true := by decide +kernel
  intro n hn h0
  have := List.all_eq_true.mp h n (List.mem_range.mpr (by omega))
  simp at this
  rcases this with h | h
  · exact absurd h h0
  · exact h
theorem suiteOk_fmean (l : Land (K8 P) F) (gl : CodeLand F 62 58) {A : Around} {L : Addr} (hr : Room A 1) : SuiteOk (F.fn A (fdAt (K8 P) 13) 63 L) 62 58 (L + 1) where
  gh := noGh_fmean A L
  land := gl
  room := hr.depth
  code := rfl
  g := rfl
  clos := rfl
  cell := rfl
  kn := rfl
  mn := rfl
  kc := rfl
  kd := rfl
  q := by
    have h1 : (F.fn A (fdAt (K8 P) 13) 63 L).env.kindOf "count" = some .local := rfl
    have h2 : (fdAt (K8 P) 13).qualname = "fmean" := rfl
    unfold qualnameIn
    rw [h1, if_neg (by decide)]
    show (fdAt (K8 P) 13).qualname ++ ".<locals>." ++ "count" = cQual
    rw [h2]
    decide +kernel
  ge := l.enumerate
theorem noGh_none {S : Sr} (okS : SrOk S) : S.items ≠ [tagV] := ion_tag okS.ion
theorem fm1_end {As : List V} {d : UInt64} (hd : fsumX [] As = (.ok d, [])) : fm1 As = if As.length = 0 then (.error (xS xEmpty), []) else (.ok (.flt (div d (ofInt As.length))), []) := by
  unfold fm1; rw [hd]
theorem fm1_err {As r : List V} {e : String} (hd : fsumX [] As = (.error e, r)) : fm1 As = (.error (xE e), r) := by
  unfold fm1; rw [hd]
set_option maxHeartbeats 2000000 in
theorem fm1_tail (l : Land (K8 P) F) {S : Sr} {A : Around} {L : Addr} {lc : Loc} {d : UInt64} (hr : Room A 1) (okS : SrOk S) (hd : fsumX [] S.items = (.ok d, [])) (at_ : AtG lc ([tb] ++ (S.left []).gs)) (ht : Has lc "total" (.flt d)) (hn : Has lc "n" (.int S.items.length)) {p1 p2 p3 p4 p5 p6 p7 p8 p9 p10 p11 : Pos} {k : Nat} {rest : List Stmt} {QF : Fl → Loc → Prop} (hQ : ∀ A l, FnQG ([tb] ++ S.gs) (Fm1Q S) (.ret A) l → QF (.ret A) l) :
    Exs (F.fn A (fdAt (K8 P) 13) 63 L) lc (.If (.UnaryOp .Not (.Name (Str.ofString "n") p1) p2) [.Raise (some (.Call (.Name (Str.ofString "StatisticsError") p3) [.Constant (.str xEmpty) k p4] [] p5)) none p6] [] p7 ::
      .Return (some (.BinOp (.Name (Str.ofString "total") p8) .Div (.Name (Str.ofString "n") p9) p10)) p11 :: rest) QF (FnXG ([tb] ++ S.gs) (Fm1X S)) := by
  have hh := hr.handled
  have inG : GsIn ([tb] ++ S.gs) ([tb] ++ (S.left []).gs) lc := ⟨by simp only [List.map_append, Sr.left_adr], at_⟩
  refine exs_cons (ex_if (tst_not (tst_val (ev_name hn (tr_int ?_)))))
  by_cases h0 : S.items.length = 0
  · rw [h0]
    refine exs_cons (ex_raise l.cls l.stat hh ⟨_, inG, [], ?_, rfl⟩)
    rw [fm1_end hd, if_pos h0]; rfl
  · have hne : ((S.items.length : Int) != 0) = true := by simpa using h0
    rw [hne]
    refine exs_nil (exs_ret (ev_bin (ev_name ht (ev_name hn (op_div_fi ?_ ?_ ?_)))))
    · exact (small_n _ okS.len h0).1
    · exact (small_n _ okS.len h0).2
    · refine hQ _ _ ⟨_, inG, [], ?_, rfl⟩
      rw [fm1_end hd, if_neg h0]
set_option maxHeartbeats 2000000 in
theorem c_fm1 (l : Land (K8 P) F) (gl : CodeLand F 62 58) {S : Sr} (okS : SrOk S) (nd : (([tb] ++ S.gs).map (·.1)).Nodup) :
    CallsG F (.ref 63) 1 [S.v] [] [] ([tb] ++ S.gs) (Fm1Q S) (Fm1X S) := by
  refine callsG_of (names := ["data", "weights"]) (dlvs := [.none]) (defs := [.none]) (l.fn (fn_fmean P)) (by decide) (by intro x hx; simp at hx; rcases hx with rfl | rfl <;> exact .inl rfl) rfl (fun H => reps_cons (rep_none H) (reps_nil H)) (fun b => rfl) (fun s vals kvals hb h1 h2 => ?_) fun A L hr => ?_
  · obtain ⟨v, rfl⟩ := len_one h1
    obtain rfl := len_nil h2
    exact @kp_binds _ _ _ _ _ (l.kin.keeps hb) (fun S => by kernel_rfl)
  · show Exs _ (Gs.loc ([tb] ++ S.gs) ++ ([("data", .val S.v), ("weights", .val .none)] : Loc)) _ _ _
    have hd : Has (Gs.loc ([tb] ++ S.gs) ++ ([("data", .val S.v), ("weights", .val .none)] : Loc)) "data" S.v := gloc_has (not_gh (by decide)) rfl
    have hw : Has (Gs.loc ([tb] ++ S.gs) ++ ([("data", .val S.v), ("weights", .val .none)] : Loc)) "weights" .none := gloc_has (not_gh (by decide)) rfl
    have at_ : AtG (Gs.loc ([tb] ++ S.gs) ++ ([("data", .val S.v), ("weights", .val .none)] : Loc)) ([tb] ++ S.gs) := gloc_at nd
    generalize (Gs.loc ([tb] ++ S.gs) ++ ([("data", .val S.v), ("weights", .val .none)] : Loc)) = lc at hd hw at_
    have si : S.In lc := (at_.sub fun p hp => List.mem_append_right _ hp).inS okS.seq
    have hh := hr.handled
    have adr : ∀ r, ([tb] ++ (S.left r).gs).map (·.1) = ([tb] ++ S.gs).map (·.1) := fun r => by simp only [List.map_append, Sr.left_adr]
    conv => arg 3; whnf
    refine exs_cons (ex_if (tst_cmp (ev_name hw (ev_none (cmp_is_none ⟨_, rfl, ?_⟩)))))
    show Exs _ _ _ _ _
    cases S with
    | seq D As =>
      have hz : As.length ≤ sizeLine := len7 (Nat.le_trans okS.len (by decide))
      have hz' : As.length < sizeLine := Nat.lt_of_le_of_lt okS.len (by decide)
      refine exs_cons (ex_try (isFn_fn ..) (exs_let (.inr ⟨rfl, rfl, rfl⟩) <| ev_builtin l.len <| args_val <| ev_name hd <| args_val_nil <| ?_))
      rcases okS.seq D As rfl with rfl | rfl
      · refine bi_len_lst hz (exs_nil ?_)
        refine exs_let (.inl rfl) <| ev_builtin l.fsum <| args_val <| ev_name (loc_put hd rfl) <| args_val_nil <| bi_fsumG (S := .seq _ As) (noGh_fmean A L) hh (.inl rfl) hz' okS.ion (fun d hdn => ?_) fun c r hc => ?_
        · exact fm1_tail l hr okS hdn ((at_.var (x := Str.ofString "n") fun a => gh_ne (by decide) a).var (x := Str.ofString "total") fun a => gh_ne (by decide) a) (lookup_cons_self ..) (loc_put (lookup_cons_self ..) rfl) (fun _ _ h => h)
        · exact ⟨_, ⟨adr r, at_.var fun a => gh_ne (by decide) a⟩, r, fm1_err hc, rfl⟩
      · refine bi_len_tup hz (exs_nil ?_)
        refine exs_let (.inl rfl) <| ev_builtin l.fsum <| args_val <| ev_name (loc_put hd rfl) <| args_val_nil <| bi_fsumG (S := .seq _ As) (noGh_fmean A L) hh (.inr rfl) hz' okS.ion (fun d hdn => ?_) fun c r hc => ?_
        · exact fm1_tail l hr okS hdn ((at_.var (x := Str.ofString "n") fun a => gh_ne (by decide) a).var (x := Str.ofString "total") fun a => gh_ne (by decide) a) (lookup_cons_self ..) (loc_put (lookup_cons_self ..) rfl) (fun _ _ h => h)
        · exact ⟨_, ⟨adr r, at_.var fun a => gh_ne (by decide) a⟩, r, fm1_err hc, rfl⟩
    | it a As =>
      have ha : a ≠ 58 := fun z => by
        subst z
        simp [Sr.gs] at nd
      refine exs_count (suiteOk_fmean l gl hr) (isFn_fn ..) hh l.len l.typeE l.fsum rfl rfl rfl rfl rfl hd si (at_ tb (by simp)) (noGh_none okS) ha (Nat.lt_of_le_of_lt (Nat.add_le_add_right okS.len 2) (by decide)) okS.ion (fun d l' hd' h1 h2 h3 h4 => ?_) fun e r l' he h3 h4 => ?_
      · exact fm1_tail l hr okS hd' (fun p hp => by
          simp [Sr.left, Sr.gs] at hp
          rcases hp with rfl | rfl
          · exact h4
          · exact h3) h1 h2 (fun _ _ h => h)
      · exact ⟨_, ⟨adr r, fun p hp => by
          simp [Sr.left, Sr.gs] at hp
          rcases hp with rfl | rfl
          · exact h4
          · exact h3⟩, r, fm1_err he, rfl⟩
end Mine
end
section
open PySem PySem.W PyProof.Rows
set_option linter.unusedVariables false
set_option maxRecDepth 100000
namespace Mine
open PySem.Float64 (isInf ofInt isZero div isFinite fsumAdd)
variable {F : Fix} {P : Params}
/- what _law_told makes of what fmean comes to -/
inductive Told : Except Exc V → V → Prop
  | ok (v : V) : Told (.ok v) v
  | stat (m : Str) : Told (.error (xS m)) (.str m)
  | te : Told (.error (xE "TypeError")) (.str "no number")
  | oe : Told (.error (xE "OverflowError")) (.str "beyond")
theorem fsumX_err : ∀ {As : List V} {ps : List UInt64} {c : String} {r : List V}, fsumX ps As = (.error c, r) → c = "TypeError" ∨ c = "OverflowError"
  | [], ps, c, r, h => by cases h
  | A :: As, ps, c, r, h => by
    rw [fsumX_cons] at h
    split at h
    · cases h; exact .inl rfl
    · split at h
      · cases h; exact .inr rfl
      · split at h
        · exact fsumX_err h
        · cases h; exact .inr rfl
theorem told_c {c : String} (h : c = "TypeError" ∨ c = "OverflowError") : ∃ B, Told (.error (xE c)) B := by
  rcases h with rfl | rfl
  · exact ⟨_, .te⟩
  · exact ⟨_, .oe⟩
theorem fm1_told {As r : List V} {x : Exc} (h : fm1 As = (.error x, r)) : ∃ B, Told (.error x) B := by
  unfold fm1 at h
  split at h
  · rename_i c r' hc
    cases h; exact told_c (fsumX_err hc)
  · split at h
    · cases h; exact ⟨_, .stat _⟩
    · cases h
theorem spX_ok : ∀ {As Bs : List V} {T : Int} {V' : V} {r : List V}, spX T As Bs = (.ok V', r) → ∃ T', V' = .int T'
  | [], [], T, V', r, h => by simp only [spX] at h; cases h; exact ⟨_, rfl⟩
  | [], _ :: _, T, V', r, h => by simp only [spX] at h; cases h
  | _ :: _, [], T, V', r, h => by simp only [spX] at h; cases h
  | A :: As, B :: Bs, T, V', r, h => by
    unfold spX at h
    split at h
    · exact spX_ok h
    · cases h
theorem fm2_told {As Bs r : List V} {x : Exc} (h : fm2 As Bs = (.error x, r)) : ∃ B, Told (.error x) B := by
  unfold fm2 at h
  split at h
  · rename_i c r' hc
    rcases spX_err hc with rfl | rfl
    · rw [if_pos rfl] at h; cases h; exact ⟨_, .stat _⟩
    · rw [if_neg (by decide)] at h; cases h; exact ⟨_, .te⟩
  · split at h
    · rename_i c _ hc
      cases h; exact told_c (fsumX_err hc)
    · split at h
      · cases h; exact ⟨_, .stat _⟩
      · split at h
        · cases h; exact ⟨_, .oe⟩
        · cases h
  · rename_i h1 hc
    obtain ⟨T', rfl⟩ := spX_ok hc
    exact absurd rfl (h1 T')
theorem gloc_some {gs : Gs} (nd : (gs.map (·.1)).Nodup) {x : Str} {lv : LV} (h : List.lookup x gs.loc = some lv) : ∃ p ∈ gs, x = gh p.1 ∧ lv = .itr p.1 p.2 := by
  by_cases c : ∃ p ∈ gs, x = gh p.1
  · obtain ⟨p, hp, rfl⟩ := c
    rw [gloc_lookup_in nd p hp] at h
    exact ⟨p, hp, rfl, (Option.some.inj h).symm⟩
  · rw [gloc_lookup_not fun p hp z => c ⟨p, hp, z⟩] at h; cases h
theorem noGh_told (A : Around) (L : Addr) : NoGh (F.fn A (fdAt (K8 P) 36) 96 L) := fun a => rfl
theorem hd_told (l : Land (K8 P) F) {A : Around} {L : Addr} {lc : Loc} (hr : Room A 2) {x : Exc} {gs gs0 : Gs} {B : V} (ht : Told (.error x) B) (nd : (gs.map (·.1)).Nodup) (hG : GsIn gs0 gs lc) (Q : V → Gs → Prop) {QF : Fl → Loc → Prop} {X : Exc → Loc → Prop} (hQ : ∀ A l, FnQG gs0 Q (.ret A) l → QF (.ret A) l) (hq : Q B gs) {p1 p2 p3 p4 p5 p6 p7 p8 p9 p10 p11 p12 p13 p14 : Pos} {k1 k2 : Nat} :
    Hd (F.fn A (fdAt (K8 P) 36) 96 L) lc x [.ExceptHandler (some (.Name (Str.ofString "StatisticsError") p1)) (some (Str.ofString "error")) [.Return (some (.Call (.Name (Str.ofString "str") p2) [.Name (Str.ofString "error") p3] [] p4)) p5] p6,
      .ExceptHandler (some (.Name (Str.ofString "TypeError") p7)) none [.Return (some (.Constant (.str (Str.ofString "no number")) k1 p8)) p9] p10,
      .ExceptHandler (some (.Name (Str.ofString "OverflowError") p11)) none [.Return (some (.Constant (.str (Str.ofString "beyond")) k2 p12)) p13] p14] QF X := by
  cases ht with
  | stat m =>
    refine hd_namedG (noGh_told A L) (isFn_fn ..) l.stat (matches_own l.cls) rfl rfl fun e => exs_ret (ev_type l.str (args_val (ev_name rfl (args_val_nil (bi_str_exc l.cls ?_ ⟨gs.loc, fun y lv e => ?_, hQ _ _ ⟨gs, ⟨hG.1, gloc_lookup_in nd⟩, hq⟩⟩)))))
    · have := (Room.deeper hr (callEnvC (fdAt (K8 P) 36) L 96)).units
      show (A.deeper (callEnvC (fdAt (K8 P) 36) L 96)).units + 2 < cLine
      omega
    · obtain ⟨p, hp, rfl, rfl⟩ := gloc_some nd e
      exact ⟨loc_put (hG.2 p hp) (gh_ne (by decide) _), _, _, rfl, rfl⟩
  | te => exact hd_no l.stat (matches_type_own l.cls (sub_te_own 52)) (hd_yes (isFn_fn ..) l.typeE matches_te fun e => exs_ret (ev_str (hQ _ _ ⟨gs, hG, hq⟩)))
  | oe => exact hd_no l.stat (matches_type_own l.cls (sub_oe_own 52)) (hd_no l.typeE matches_oe_te (hd_yes (isFn_fn ..) l.overflow matches_overflow fun e => exs_ret (ev_str (hQ _ _ ⟨gs, hG, hq⟩))))
noncomputable def TQ1 (S : Sr) : V → Gs → Prop := fun R gs' => ∃ t r, fm1 S.items = (t, r) ∧ Told t R ∧ gs' = [tb] ++ (S.left r).gs
noncomputable def TQ2 (S W : Sr) : V → Gs → Prop := fun R gs' => ∃ t r, fm2 S.items W.items = (t, r) ∧ Told t R ∧ gs' = [tb] ++ (S.left r).gs ++ (W.left []).gs
set_option maxHeartbeats 2000000 in
/- _law_told(handed, None) -/
theorem c_told1 (l : Land (K8 P) F) (gl : CodeLand F 62 58) {S : Sr} (okS : SrOk S) (nd : (([tb] ++ S.gs).map (·.1)).Nodup) : CallsG F (.ref 96) 2 [S.v, .none] [] [] ([tb] ++ S.gs) (TQ1 S) (fun _ _ => False) := by
  refine callsG_of (names := ["handed", "lent"]) (dlvs := []) (defs := []) (l.fn (fn_told P)) (by decide) (by intro x hx; simp at hx; rcases hx with rfl | rfl <;> exact .inl rfl) rfl (fun H => reps_nil H) (fun b => rfl) (fun s vals kvals hb h1 h2 => ?_) fun A L hr => ?_
  · obtain ⟨v, u, rfl⟩ := len_two h1
    obtain rfl := len_nil h2
    exact @BindsTo.of_eq _ _ _ _ (by kernel_rfl)
  · show Exs _ (Gs.loc ([tb] ++ S.gs) ++ ([("handed", .val S.v), ("lent", .val .none)] : Loc)) _ _ _
    have hd : Has (Gs.loc ([tb] ++ S.gs) ++ ([("handed", .val S.v), ("lent", .val .none)] : Loc)) "handed" S.v := gloc_has (not_gh (by decide)) rfl
    have hw : Has (Gs.loc ([tb] ++ S.gs) ++ ([("handed", .val S.v), ("lent", .val .none)] : Loc)) "lent" .none := gloc_has (not_gh (by decide)) rfl
    have at_ : AtG (Gs.loc ([tb] ++ S.gs) ++ ([("handed", .val S.v), ("lent", .val .none)] : Loc)) ([tb] ++ S.gs) := gloc_at nd
    generalize (Gs.loc ([tb] ++ S.gs) ++ ([("handed", .val S.v), ("lent", .val .none)] : Loc)) = lc at hd hw at_
    have adr : ∀ r, ([tb] ++ (S.left r).gs).map (·.1) = ([tb] ++ S.gs).map (·.1) := fun r => by simp only [List.map_append, Sr.left_adr]
    have nd' : ∀ r, (([tb] ++ (S.left r).gs).map (·.1)).Nodup := fun r => by rw [adr]; exact nd
    conv => arg 3; whnf
    refine exs_cons (ex_try (isFn_fn ..) (exs_ret (ev_ifexp (tst_cmp (ev_name hw (ev_none (cmp_is_none ⟨_, rfl, ?_⟩)))))))
    show Ev _ _ _ _ _
    refine ev_callG (noGh_told A L) l.fmean (l.fn (fn_fmean P)) (args_val (ev_name hd (args_val_nil (kws_nil ⟨[], rfl, 1, _, _, _, Room.deeper hr _, at_, nd, c_fm1 l gl okS nd, fun R gs' hm hq => ?_, fun x gs' hm hx => ?_⟩))))
    · obtain ⟨r, hf, rfl⟩ := hq
      exact ⟨_, ⟨adr r, gloc_at (nd' r)⟩, _, r, hf, .ok R, rfl⟩
    · obtain ⟨r, hf, rfl⟩ := hx
      obtain ⟨B, hB⟩ := fm1_told hf
      refine hd_told l hr hB (nd' r) ⟨adr r, gloc_at (nd' r)⟩ (TQ1 S) ?_ ⟨_, r, hf, hB, rfl⟩
      exact fun _ _ h => h
set_option maxHeartbeats 2000000 in
/- _law_told(handed, lent) -/
theorem c_told2 (l : Land (K8 P) F) {S W : Sr} (okS : SrOk S) (okW : SrOk W) (mo : ∀ (i : Nat) (a b : Int), S.items[i]? = some (.int a) → W.items[i]? = some (.int b) → IntMulOk a b) (nd : (([tb] ++ S.gs ++ W.gs).map (·.1)).Nodup) : CallsG F (.ref 96) 2 [S.v, W.v] [] [] ([tb] ++ S.gs ++ W.gs) (TQ2 S W) (fun _ _ => False) := by
  refine callsG_of (names := ["handed", "lent"]) (dlvs := []) (defs := []) (l.fn (fn_told P)) (by decide) (by intro x hx; simp at hx; rcases hx with rfl | rfl <;> exact .inl rfl) rfl (fun H => reps_nil H) (fun b => rfl) (fun s vals kvals hb h1 h2 => ?_) fun A L hr => ?_
  · obtain ⟨v, u, rfl⟩ := len_two h1
    obtain rfl := len_nil h2
    exact @BindsTo.of_eq _ _ _ _ (by kernel_rfl)
  · show Exs _ (Gs.loc ([tb] ++ S.gs ++ W.gs) ++ ([("handed", .val S.v), ("lent", .val W.v)] : Loc)) _ _ _
    have hd : Has (Gs.loc ([tb] ++ S.gs ++ W.gs) ++ ([("handed", .val S.v), ("lent", .val W.v)] : Loc)) "handed" S.v := gloc_has (not_gh (by decide)) rfl
    have hw : Has (Gs.loc ([tb] ++ S.gs ++ W.gs) ++ ([("handed", .val S.v), ("lent", .val W.v)] : Loc)) "lent" W.v := gloc_has (not_gh (by decide)) rfl
    have at_ : AtG (Gs.loc ([tb] ++ S.gs ++ W.gs) ++ ([("handed", .val S.v), ("lent", .val W.v)] : Loc)) ([tb] ++ S.gs ++ W.gs) := gloc_at nd
    generalize (Gs.loc ([tb] ++ S.gs ++ W.gs) ++ ([("handed", .val S.v), ("lent", .val W.v)] : Loc)) = lc at hd hw at_
    have wn : W.v.isNone = false := by
      cases W with
      | seq A As => rcases okW.seq A As rfl with rfl | rfl <;> rfl
      | it a As => rfl
    have adr : ∀ r, ([tb] ++ (S.left r).gs ++ (W.left []).gs).map (·.1) = ([tb] ++ S.gs ++ W.gs).map (·.1) := fun r => by simp only [List.map_append, Sr.left_adr]
    have nd' : ∀ r, (([tb] ++ (S.left r).gs ++ (W.left []).gs).map (·.1)).Nodup := fun r => by rw [adr]; exact nd
    conv => arg 3; whnf
    refine exs_cons (ex_try (isFn_fn ..) (exs_ret (ev_ifexp (tst_cmp (ev_name hw (ev_none (cmp_is_none ⟨_, rfl, ?_⟩)))))))
    rw [wn]
    show Ev _ _ _ _ _
    refine ev_callG (noGh_told A L) l.fmean (l.fn (fn_fmean P)) (args_val (ev_name hd (args_val_nil (kws_cons (ev_val (ev_name hw (kws_nil ⟨[W.v], rfl, 1, _, _, _, Room.deeper hr _, at_, nd, c_fm2 l okS okW mo nd, fun R gs' hm hq => ?_, fun x gs' hm hx => ?_⟩)))))))
    · obtain ⟨r, hf, rfl⟩ := hq
      exact ⟨_, ⟨adr r, gloc_at (nd' r)⟩, _, r, hf, .ok R, rfl⟩
    · obtain ⟨r, hf, rfl⟩ := hx
      obtain ⟨B, hB⟩ := fm2_told hf
      refine hd_told l hr hB (nd' r) ⟨adr r, gloc_at (nd' r)⟩ (TQ2 S W) ?_ ⟨_, r, hf, hB, rfl⟩
      exact fun _ _ h => h
end Mine
end
section
open PySem PySem.W PyProof.Rows
set_option linter.unusedVariables false
set_option maxRecDepth 100000
set_option exponentiation.threshold 3000
namespace Mine
open PySem.Float64 (isInf ofInt isZero div cmp)
/- what is told is what is due -/
noncomputable def Sim (A B : V) : Prop := (∃ m, A = .str m ∧ B = .str m) ∨ ∃ x y, A = .flt x ∧ B = .flt y ∧ cmp x y = some .eq
noncomputable def toldF : Except Exc V → V
  | .ok v => v
  | .error e => match e.msg with
    | some m => .str m
    | none => match e.cls with
      | .type "TypeError" => .str "no number"
      | _ => .str "beyond"
theorem Told.eq {t : Except Exc V} {R : V} (h : Told t R) : R = toldF t := by cases h <;> rfl
theorem rnd_zero : rnd 0 = 0 := by decide +kernel
theorem split1 : ∀ ds : List (Option Int), (∀ i, some i ∈ ds → i.natAbs ≤ 2 ^ 1008 ∨ isInf (ofInt i) = true) →
    (∃ is : List Int, ds = is.map some ∧ ∀ i ∈ is, i.natAbs ≤ 2 ^ 1008) ∨ (∃ (is : List Int) (r : List (Option Int)), ds = is.map some ++ none :: r ∧ ∀ i ∈ is, i.natAbs ≤ 2 ^ 1008) ∨ ∃ (is : List Int) (b : Int) (r : List (Option Int)), ds = is.map some ++ some b :: r ∧ (∀ i ∈ is, i.natAbs ≤ 2 ^ 1008) ∧ isInf (ofInt b) = true
  | [], _ => .inl ⟨[], rfl, fun _ h => by cases h⟩
  | none :: r, _ => .inr (.inl ⟨[], r, rfl, fun _ h => by cases h⟩)
  | some b :: r, h => by
    rcases h b List.mem_cons_self with hb | hb
    · have hc : ∀ is : List Int, (∀ i ∈ is, i.natAbs ≤ 2 ^ 1008) → ∀ i ∈ b :: is, i.natAbs ≤ 2 ^ 1008 := fun is hi i hm => by
        rcases List.mem_cons.mp hm with rfl | hm
        · exact hb
        · exact hi i hm
      rcases split1 r fun i hi => h i (List.mem_cons_of_mem _ hi) with ⟨is, e, hi⟩ | ⟨is, r', e, hi⟩ | ⟨is, b', r', e, hi, hb'⟩
      · exact .inl ⟨b :: is, by rw [e]; rfl, hc is hi⟩
      · exact .inr (.inl ⟨b :: is, r', by rw [e]; rfl, hc is hi⟩)
      · exact .inr (.inr ⟨b :: is, b', r', by rw [e]; rfl, hc is hi, hb'⟩)
    · exact .inr (.inr ⟨[], b, r, rfl, fun _ h => (by cases h), hb⟩)
theorem small_fits {is : List Int} (h : ∀ i ∈ is, i.natAbs ≤ 2 ^ 1008) : ∀ k ∈ is, isInf (ofInt k) = false := fun k hk => fits_small (n := 1008) (by decide) (h k hk)
theorem sim_end {a t : Except Exc V} {b r : List V} {U : V} {W : List V} (h : (a, b) = (t, r)) (k : Sim (toldF a) U ∧ b = W) : Sim (toldF t) U ∧ r = W := by cases h; exact k
theorem alone_sim {ds : List (Option Int)} (ok : OkD ds) {t : Except Exc V} {r : List V} {R : V} (h : fm1 (ds.map vO) = (t, r)) (hR : Told t R) : Sim R (aloneD [] ds).1 ∧ r = (aloneD [] ds).2.map vO := by
  rw [hR.eq]
  rcases split1 ds ok.num with ⟨is, rfl, hi⟩ | ⟨is, r', rfl, hi⟩ | ⟨is, b, r', rfl, hi, hb⟩
  · have hl : is.length ≤ 80 := by have := ok.len; simpa using this
    rw [map_vO] at h
    obtain ⟨d, hd, hfit, hF⟩ := fsumX_ok hl hi
    have e := aloneD_at (small_fits hi) [] []
    rw [List.append_nil, List.nil_append] at e
    rw [e]
    rw [fm1_end hd] at h
    unfold aloneD
    by_cases h0 : is.length = 0
    · have hn : is = [] := List.eq_nil_of_length_eq_zero h0
      subst hn
      rw [if_pos (by rfl)] at h
      refine sim_end h ?_
      exact ⟨.inl ⟨_, rfl, rfl⟩, rfl⟩
    · rw [if_neg (by simpa using h0)] at h
      refine sim_end h ?_
      have hne : (is.map rnd).isEmpty = false := by
        cases is with
        | nil => exact absurd rfl h0
        | cons a as => rfl
      rw [if_neg (by rw [hne]; decide)]
      refine ⟨.inr ⟨_, _, rfl, rfl, ?_⟩, rfl⟩
      have hln : ((List.map V.int is).length : Int) = (((is.map rnd).length : Nat) : Int) := by simp
      rw [hln]
      refine (qf_ok hF (fv_nat (n := ((is.map rnd).length : Int)) (by simp; omega)) ?_).1
      simp; exact fun z => h0 (by rw [z]; rfl)
  · have hl : is.length ≤ 80 := by have := ok.len; simp at this; omega
    have e := aloneD_at (small_fits hi) (none :: r') []
    rw [e]
    rw [List.map_append, map_vO] at h
    have h' : fm1 (is.map V.int ++ V.none :: r'.map vO) = (t, r) := h
    rw [fm1_err (fsumX_none hl hi (r'.map vO))] at h'
    refine sim_end h' ?_
    unfold aloneD
    exact ⟨.inl ⟨_, rfl, rfl⟩, rfl⟩
  · have hl : is.length ≤ 80 := by have := ok.len; simp at this; omega
    have e := aloneD_at (small_fits hi) (some b :: r') []
    rw [e]
    rw [List.map_append, map_vO] at h
    have h' : fm1 (is.map V.int ++ V.int b :: r'.map vO) = (t, r) := h
    rw [fm1_err (fsumX_big hl hi hb (r'.map vO))] at h'
    refine sim_end h' ?_
    unfold aloneD
    rw [if_pos hb]
    exact ⟨.inl ⟨_, rfl, rfl⟩, rfl⟩
theorem spX_eq : ∀ (ds ws : List (Option Int)) (T : Int), (∀ r, noneAt ds ws = some r → spX T (ds.map vO) (ws.map vO) = (.error "TypeError", r.map vO)) ∧
    (noneAt ds ws = none → if ds.length = ws.length then (∃ is ks : List Int, ds = is.map some ∧ ws = ks.map some) ∧ spX T (ds.map vO) (ws.map vO) = (.ok (.int (T + isumP (ds.filterMap id) (ws.filterMap id))), [])
      else spX T (ds.map vO) (ws.map vO) = (.error "ValueError", (ds.drop (ws.length + 1)).map vO))
  | [], [], T => by
    refine ⟨fun r h => (by cases h), fun _ => ?_⟩
    rw [if_pos rfl]
    exact ⟨⟨[], [], rfl, rfl⟩, by simp [spX, isumP, isum]⟩
  | [], _ :: _, T => by
    refine ⟨fun r h => (by rw [noneAt_nil] at h; cases h), fun _ => ?_⟩
    rw [if_neg (by simp)]; simp [spX]
  | a :: r, [], T => by
    refine ⟨fun r h => (by rw [noneAt_nil'] at h; cases h), fun _ => ?_⟩
    rw [if_neg (by simp)]; simp [spX]
  | none :: r, b :: r', T => by
    have e : noneAt (none :: r) (b :: r') = some r := by cases b <;> rfl
    rw [e]
    refine ⟨fun q h => ?_, fun h => (by cases h)⟩
    cases h; cases b <;> rfl
  | some a :: r, none :: r', T => by
    have e : noneAt (some a :: r) (none :: r') = some r := rfl
    rw [e]
    refine ⟨fun q h => ?_, fun h => (by cases h)⟩
    cases h; rfl
  | some a :: r, some b :: r', T => by
    have ih := spX_eq r r' (T + a * b)
    have hs : spX T ((some a :: r).map vO) ((some b :: r').map vO) = spX (T + a * b) (r.map vO) (r'.map vO) := rfl
    have hn : noneAt (some a :: r) (some b :: r') = noneAt r r' := rfl
    rw [hn, hs]
    refine ⟨ih.1, fun h => ?_⟩
    have := ih.2 h
    by_cases c : r.length = r'.length
    · rw [if_pos c] at this
      rw [if_pos (by simp [c])]
      obtain ⟨⟨is, ks, e1, e2⟩, e3⟩ := this
      refine ⟨⟨a :: is, b :: ks, by rw [e1]; rfl, by rw [e2]; rfl⟩, ?_⟩
      rw [e3]
      show _ = (Except.ok (V.int (T + isum (a * b :: List.zipWith (· * ·) (r.filterMap id) (r'.filterMap id)))), _)
      have : isum (a * b :: List.zipWith (· * ·) (r.filterMap id) (r'.filterMap id)) = a * b + isumP (r.filterMap id) (r'.filterMap id) := rfl
      rw [this, Int.add_assoc]
    · rw [if_neg c] at this
      rw [if_neg (by simpa using c), this]
      rfl
theorem due_sim {ds ws : List (Option Int)} (okd : OkD ds) (okw : OkD ws) {t : Except Exc V} {r : List V} {R : V} (h : fm2 (ds.map vO) (ws.map vO) = (t, r)) (hR : Told t R) : Sim R (dueD ds ws).1 ∧ r = (dueD ds ws).2.map vO := by
  rw [hR.eq]
  have sp := spX_eq ds ws 0
  unfold dueD
  unfold fm2 at h
  cases hn : noneAt ds ws with
  | some q =>
    rw [sp.1 q hn] at h
    simp only [] at h
    rw [if_neg (by decide)] at h
    refine sim_end h ?_
    exact ⟨.inl ⟨_, rfl, rfl⟩, rfl⟩
  | none =>
    have sp2 := sp.2 hn
    by_cases c : ds.length = ws.length
    · rw [if_pos c] at sp2
      obtain ⟨⟨is, ks, rfl, rfl⟩, e3⟩ := sp2
      rw [e3] at h
      simp only [if_pos c]
      have fm : ∀ l : List Int, (l.map some).filterMap id = l := fun l => by simp
      rw [fm, fm, Int.zero_add] at h
      rw [fm, fm]
      simp only [] at h
      rw [map_vO] at h
      rcases split1 (ks.map some) okw.num with ⟨ks', e, hi⟩ | ⟨ks', r', e, hi⟩ | ⟨ks', b, r', e, hi, hb⟩
      · have : ks = ks' := by
          have := congrArg (List.filterMap id) e
          rwa [fm, fm] at this
        subst this
        have hl : ks.length ≤ 80 := by have := okw.len; simpa using this
        obtain ⟨d, hd, hfit, hF⟩ := fsumX_ok hl hi
        rw [hd] at h
        simp only [] at h
        have hany : ks.any (fun k => isInf (ofInt k)) = false := by
          rw [List.any_eq_false]; intro k hk; rw [small_fits hi k hk]; decide
        unfold dueN
        rw [if_neg (by rw [hany]; decide)]
        have hz := hF.isZero
        by_cases h0 : isum (ks.map rnd) = 0
        · rw [h0, rnd_zero] at hz
          rw [if_pos (by rw [hz]; decide)] at h
          rw [if_pos h0]
          refine sim_end h ?_
          exact ⟨.inl ⟨_, rfl, rfl⟩, rfl⟩
        · have hr0 : rnd (isum (ks.map rnd)) ≠ 0 := rnd_ne hfit h0
          have hz' : isZero d = false := by
            rw [hz, decide_eq_false]
            exact Int.mul_ne_zero hr0 (Int.pow_ne_zero (by decide))
          rw [if_neg (by rw [hz']; decide)] at h
          rw [if_neg h0]
          cases hT : isInf (ofInt (isumP is ks)) with
          | true =>
            rw [if_pos hT] at h
            refine sim_end h ?_
            exact ⟨.inl ⟨_, rfl, rfl⟩, rfl⟩
          | false =>
            rw [if_neg (by rw [hT]; decide)] at h
            refine sim_end h ?_
            exact ⟨.inr ⟨_, _, rfl, rfl, (qf_ok (rnd_rn hT).1 hF hr0).1⟩, rfl⟩
      · exfalso
        have : none ∈ ks.map some := by rw [e]; simp
        simp at this
      · have e' : ks = ks' ++ b :: r'.filterMap id := by
          have := congrArg (List.filterMap id) e
          rw [fm] at this
          rw [this]; simp
        have hl : ks'.length ≤ 80 := by have := okw.len; rw [e'] at this; simp at this; omega
        have hfs : fsumX [] (ks.map V.int) = (.error "OverflowError", (r'.filterMap id).map V.int) := by
          rw [e', List.map_append]
          exact fsumX_big hl hi hb _
        rw [hfs] at h
        simp only [] at h
        refine sim_end h ?_
        have hany : ks.any (fun k => isInf (ofInt k)) = true := by
          rw [e', List.any_append, List.any_cons, hb]; simp
        unfold dueN
        rw [if_pos hany]
        exact ⟨.inl ⟨_, rfl, rfl⟩, rfl⟩
    · rw [if_neg c] at sp2
      rw [sp2] at h
      simp only [if_neg c]
      simp only [] at h
      rw [if_pos trivial] at h
      refine sim_end h ?_
      exact ⟨.inl ⟨_, rfl, rfl⟩, rfl⟩
end Mine
end
section
open PySem PySem.W PyProof.Rows
set_option linter.unusedVariables false
set_option maxRecDepth 100000
namespace Mine
open PySem.Float64 (isInf ofInt isZero div cmp isFinite fsumAdd)
variable {F : Fix} {P : Params}
/- the loop's body in _law_holds -/
noncomputable def hb (P : Params) : List Stmt := match (bdAt (K8 P) 41)[1]? with
  | some (PySem.Stmt.For _ _ b _ _) => b
  | _ => []
theorem fsumX_left : ∀ (As : List V) (ps : List UInt64), (fsumX ps As).2.length ≤ As.length
  | [], ps => Nat.le_refl _
  | A :: As, ps => by
    rw [fsumX_cons]
    split
    · exact Nat.le_succ _
    · split
      · exact Nat.le_succ _
      · split
        · exact Nat.le_succ_of_le (fsumX_left As _)
        · exact Nat.le_succ _
theorem spX_left : ∀ (As Bs : List V) (T : Int), (spX T As Bs).2.length ≤ As.length
  | [], [], T => Nat.le_refl _
  | [], _ :: _, T => Nat.le_refl _
  | _ :: As, [], T => Nat.le_succ _
  | A :: As, B :: Bs, T => by
    unfold spX
    split
    · exact Nat.le_succ_of_le (spX_left As Bs _)
    · exact Nat.le_succ _
theorem fm1_left {As r : List V} {t : Except Exc V} (h : fm1 As = (t, r)) : r.length ≤ As.length := by
  have := fsumX_left As []
  unfold fm1 at h
  split at h
  · rename_i c r' hc
    rw [hc] at this
    cases h; exact this
  · split at h <;> cases h <;> exact Nat.zero_le _
theorem fm2_left {As Bs r : List V} {t : Except Exc V} (h : fm2 As Bs = (t, r)) : r.length ≤ As.length := by
  have := spX_left As Bs 0
  unfold fm2 at h
  split at h
  · rename_i c r' hc
    rw [hc] at this
    cases h; exact this
  · rename_i T r' hc
    rw [hc] at this
    split at h
    · cases h; exact this
    · split at h
      · cases h; exact this
      · split at h <;> cases h <;> exact this
  · rename_i h1 hc
    obtain ⟨T', rfl⟩ := spX_ok hc
    exact absurd rfl (h1 T')
theorem vO_ion (o : Option Int) : (vO o).ion := by
  cases o with
  | none => exact .inl rfl
  | some i => exact .inr ⟨i, rfl⟩
theorem ions {ds : List (Option Int)} : ∀ A ∈ ds.map vO, A.ion := fun A h => by
  obtain ⟨o, _, rfl⟩ := List.mem_map.mp h
  exact vO_ion o
theorem ion_eqS {A : V} (h : A.ion) : EqS 0 A := by
  rcases h with rfl | ⟨i, rfl⟩
  · exact .none _
  · exact .int _ _
theorem Sr.left_v (S : Sr) (r : List V) : (S.left r).v = S.v := by cases S <;> rfl
theorem noGh_holds (A : Around) (L : Addr) : NoGh (F.fn A (fdAt (K8 P) 41) 103 L) := fun a => rfl
/- told is due: the test of _law_holds that tells them apart says no -/
theorem sim_test {Γ : Cx} {lc : Loc} {A B : V} {rest : List V} {QB : Bool → Loc → Prop} {X : Exc → Loc → Prop} (hs : Sim A B) (gi : GlobAt Γ.F "isinstance" (.builtin "isinstance")) (gf : GlobAt Γ.F "float" (.type "float")) (ht : Has lc "told" A) (hd : Has lc "due" (.lst (B :: rest))) (hr : rest.length ≤ 10) (h : QB false lc)
    (hg : Γ.env.globals = mainGlobals) (hb : Γ.env.builtins = builtinsNs) (ki : Γ.env.kindOf "isinstance" = some .globalImplicit) (kf : Γ.env.kindOf "float" = some .globalImplicit)
    {p1 p2 p3 p4 p5 p6 p7 p8 p9 p10 p11 p12 p13 p14 p15 p16 p17 : Pos} {k1 k2 : Nat} :
    Tst Γ lc (.BoolOp .Or [.Compare (.Name (Str.ofString "told") p1) [.NotEq] [.Subscript (.Name (Str.ofString "due") p2) (.Constant (.int 0) k1 p3) p4] p5,
      .Compare (.Call (.Name (Str.ofString "isinstance") p6) [.Name (Str.ofString "told") p7, .Name (Str.ofString "float") p8] [] p9) [.NotEq] [.Call (.Name (Str.ofString "isinstance") p10) [.Subscript (.Name (Str.ofString "due") p11) (.Constant (.int 0) k2 p12) p13, .Name (Str.ofString "float") p14] [] p15] p16] p17) QB X := by
  have hz : (B :: rest).length ≤ sizeLine := Nat.le_trans (show rest.length + 1 ≤ 11 by lia) (by decide)
  have hix : -((B :: rest).length : Int) ≤ 0 ∧ (0 : Int) < ((B :: rest).length : Int) := by simp only [List.length_cons]; lia
  have hget : (B :: rest)[pyIdx 0 (B :: rest).length]? = some B := rfl
  obtain ⟨b, hA, hB⟩ : ∃ b, A.isFlt = some b ∧ B.isFlt = some b := by
    rcases hs with ⟨m, rfl, rfl⟩ | ⟨x, y, rfl, rfl, _⟩
    · exact ⟨_, rfl, rfl⟩
    · exact ⟨_, rfl, rfl⟩
  have fst : ∀ {Q : V → Loc → Prop}, Q (.bool false) lc → Op2 Γ lc (compareOp .NotEq) A B Q X := fun {Q} hq => by
    rcases hs with ⟨m, rfl, rfl⟩ | ⟨x, y, rfl, rfl, e⟩
    · exact cmp_neS (by rw [bne_self_eq_false]; exact hq)
    · exact cmp_neF (by rw [e, bne_self_eq_false]; exact hq)
  refine tst_bool (all_or (tst_cmp (ev_name ht (ev_sub (ev_name hd (ev_int (it_lst hz hix hget (fst ⟨_, rfl, ?_⟩))))))))
  refine all_or (tst_cmp (ev_builtin gi (args_val (ev_name ht (args_val (ev_glob gf (args_val_nil (bi_isfloat hA ?_)) kf hg hb)))) ki hg hb))
  refine ev_builtin gi (args_val (ev_sub (ev_name hd (ev_int (it_lst hz hix hget (args_val (ev_glob gf (args_val_nil (bi_isfloat hB (cmp_neB ⟨_, rfl, ?_⟩))) kf hg hb))))))) ki hg hb
  rw [bne_self_eq_false]
  exact all_or_nil h
/- how data is handed over -/
noncomputable def HandOk (As : List V) (w : Int) (S : Sr) : Prop := (w.fmod 2 = 0 ∧ S = .seq (.lst As) As) ∨ (w.fmod 2 ≠ 0 ∧ ∃ a, S = .it a As)
noncomputable def LentOk (Bs : List V) (w : Int) (W : Sr) : Prop := (w.fmod 3 ≠ 2 ∧ (W = .seq (.lst Bs) Bs ∨ W = .seq (.tup Bs) Bs)) ∨ (w.fmod 3 = 2 ∧ ∃ a, W = .it a Bs)
theorem HandOk.ok {ds : List (Option Int)} {w : Int} {S : Sr} (h : HandOk (ds.map vO) w S) (hl : ds.length ≤ 80) : SrOk S ∧ S.items = ds.map vO := by
  have e : S.items = ds.map vO := by
    rcases h with ⟨_, rfl⟩ | ⟨_, a, rfl⟩ <;> rfl
  refine ⟨⟨fun A As hS => ?_, by rw [e]; exact ions, by rw [e]; simpa using hl⟩, e⟩
  rcases h with ⟨_, rfl⟩ | ⟨_, a, rfl⟩
  · cases hS; exact .inl rfl
  · cases hS
theorem LentOk.ok {ws : List (Option Int)} {w : Int} {S : Sr} (h : LentOk (ws.map vO) w S) (hl : ws.length ≤ 80) : SrOk S ∧ S.items = ws.map vO := by
  have e : S.items = ws.map vO := by
    rcases h with ⟨_, rfl | rfl⟩ | ⟨_, a, rfl⟩ <;> rfl
  refine ⟨⟨fun A As hS => ?_, by rw [e]; exact ions, by rw [e]; simpa using hl⟩, e⟩
  rcases h with ⟨_, rfl | rfl⟩ | ⟨_, a, rfl⟩
  · cases hS; exact .inl rfl
  · cases hS; exact .inr rfl
  · cases hS
/- what was handed over is as it should be: the second test says no -/
theorem left_test {Γ : Cx} {lc : Loc} {ds : List (Option Int)} {p : V × List (Option Int)} {w : Int} {S : Sr} {r : List V} {QB : Bool → Loc → Prop} {X : Exc → Loc → Prop} (hgh : NoGh Γ) (hhd : Γ.A.handled = none) (hu : Γ.A.units + 1 + 0 < cLine) (hS : HandOk (ds.map vO) w S) (hr : r = p.2.map vO) (hl : ds.length ≤ 80) (hrl : r.length ≤ 80)
    (gl : GlobAt Γ.F "list" (.type "list")) (si : (S.left r).In lc) (hh : Has lc "handed" S.v) (hd : Has lc "data" (.lst (ds.map vO))) (hw : Has lc "way" (.int w)) (hdue : Has lc "due" (dV p)) (h : QB false ((S.left r).put [] lc))
    (hg : Γ.env.globals = mainGlobals) (hb : Γ.env.builtins = builtinsNs) (kl : Γ.env.kindOf "list" = some .globalImplicit) {p1 p2 p3 p4 p5 p6 p7 p8 p9 p10 p11 p12 p13 p14 : Pos} {k1 k2 k3 : Nat} :
    Tst Γ lc (.Compare (.Call (.Name (Str.ofString "list") p1) [.Name (Str.ofString "handed") p2] [] p3) [.NotEq]
      [.IfExp (.Compare (.BinOp (.Name (Str.ofString "way") p4) .Mod (.Constant (.int 2) k1 p5) p6) [.Eq] [.Constant (.int 0) k2 p7] p8) (.Name (Str.ofString "data") p9) (.Subscript (.Name (Str.ofString "due") p10) (.Constant (.int 1) k3 p11) p12) p13] p14) QB X := by
  have hio : ∀ A ∈ (S.left r).items, A.ion := by
    rcases hS with ⟨_, rfl⟩ | ⟨_, a, rfl⟩
    · exact ions
    · show ∀ A ∈ r, A.ion
      rw [hr]; exact ions
  have hle : (S.left r).items.length ≤ 80 := by
    rcases hS with ⟨_, rfl⟩ | ⟨_, a, rfl⟩
    · simpa [Sr.left, Sr.items] using hl
    · exact hrl
  have put : ∀ {x : Str} {A : V}, notPlain x = false → Has lc x A → Has ((S.left r).put [] lc) x A := fun hx h => Sr.put_has (not_gh hx) h
  refine tst_cmp (ev_type gl (args_val (ev_name (A := (S.left r).v) (by rw [Sr.left_v]; exact hh) (args_val_nil (bi_listG hgh hhd si (len7 (Nat.le_trans hle (by decide))) hio ?_)))) kl hg hb)
  refine ev_ifexp (tst_cmp (ev_bin (ev_name (put (by decide) hw) (ev_int (op_mod (by decide) (ev_int (cmp_eq ⟨_, rfl, ?_⟩)))))))
  rcases hS with ⟨h0, rfl⟩ | ⟨h0, a, rfl⟩
  · rw [show (w.fmod 2 == 0) = true by rw [h0]; rfl]
    exact ev_name (put (by decide) hd) (cmp_neL (d := 0) (fun B hB => ion_eqS (ions B hB)) hu ⟨_, rfl, h⟩)
  · rw [show (w.fmod 2 == 0) = false from beq_eq_false_iff_ne.mpr h0]
    refine ev_sub (ev_name (put (by decide) hdue) (ev_int (it_lst (R := .lst (p.2.map vO)) (by show 2 ≤ sizeLine; decide) (by show -(2 : Int) ≤ 1 ∧ (1 : Int) < 2; decide) rfl ?_)))
    subst hr
    exact cmp_neL (d := 0) (fun B hB => ion_eqS (ions B hB)) hu ⟨_, rfl, h⟩
end Mine
end
section
open PySem PySem.W PyProof.Rows
set_option linter.unusedVariables false
set_option maxRecDepth 100000
namespace Mine
open PySem.Float64 (isInf ofInt isZero div cmp isFinite fsumAdd)
variable {F : Fix} {P : Params}
/- what was lent is as it should be: the third test says no -/
theorem lent_test {Γ : Cx} {lc : Loc} {ws : List (Option Int)} {w : Int} {W : Sr} {QB : Bool → Loc → Prop} {X : Exc → Loc → Prop} (hgh : NoGh Γ) (hhd : Γ.A.handled = none) (hu : Γ.A.units + 1 + 0 < cLine) (hW : LentOk (ws.map vO) w W) (hl : ws.length ≤ 80)
    (gl : GlobAt Γ.F "list" (.type "list")) (si : (W.left []).In lc) (hh : Has lc "lent" W.v) (hd : Has lc "weights" (.lst (ws.map vO))) (hw : Has lc "way" (.int w)) (h : QB false ((W.left []).put [] lc))
    (hg : Γ.env.globals = mainGlobals) (hb : Γ.env.builtins = builtinsNs) (kl : Γ.env.kindOf "list" = some .globalImplicit) {p1 p2 p3 p4 p5 p6 p7 p8 p9 p10 p11 p12 p13 p14 p15 p16 : Pos} {k1 k2 k3 : Nat} :
    Tst Γ lc (.BoolOp .And [.Compare (.Name (Str.ofString "weights") p1) [.IsNot] [.Constant .none k1 p2] p3,
      .Compare (.Call (.Name (Str.ofString "list") p4) [.Name (Str.ofString "lent") p5] [] p6) [.NotEq]
      [.IfExp (.Compare (.BinOp (.Name (Str.ofString "way") p7) .Mod (.Constant (.int 3) k2 p8) p9) [.Eq] [.Constant (.int 2) k3 p10] p11) (.List [] p12) (.Name (Str.ofString "weights") p13) p14] p15] p16) QB X := by
  have hio : ∀ A ∈ (W.left []).items, A.ion := by
    rcases hW with ⟨_, rfl | rfl⟩ | ⟨_, a, rfl⟩
    · exact ions
    · exact ions
    · intro A hA; cases hA
  have hle : (W.left []).items.length ≤ 80 := by
    rcases hW with ⟨_, rfl | rfl⟩ | ⟨_, a, rfl⟩
    · simpa [Sr.left, Sr.items] using hl
    · simpa [Sr.left, Sr.items] using hl
    · exact Nat.zero_le _
  have put : ∀ {x : Str} {A : V}, notPlain x = false → Has lc x A → Has ((W.left []).put [] lc) x A := fun hx h => Sr.put_has (not_gh hx) h
  refine tst_bool (all_and (tst_cmp (ev_name hd (ev_none (cmp_isnot_none ⟨_, rfl, ?_⟩)))))
  show All _ _ _ _ _ _
  refine all_and (tst_cmp (ev_type gl (args_val (ev_name (A := (W.left []).v) (by rw [Sr.left_v]; exact hh) (args_val_nil (bi_listG hgh hhd si (len7 (Nat.le_trans hle (by decide))) hio ?_)))) kl hg hb))
  refine ev_ifexp (tst_cmp (ev_bin (ev_name (put (by decide) hw) (ev_int (op_mod (by decide) (ev_int (cmp_eq ⟨_, rfl, ?_⟩)))))))
  rcases hW with ⟨h0, hW⟩ | ⟨h0, a, rfl⟩
  · rw [show (w.fmod 3 == 2) = false from beq_eq_false_iff_ne.mpr h0]
    have hit : (W.left []).items = ws.map vO := by rcases hW with rfl | rfl <;> rfl
    rw [hit]
    exact ev_name (put (by decide) hd) (cmp_neL (d := 0) (fun B hB => ion_eqS (ions B hB)) hu ⟨_, rfl, h⟩)
  · rw [show (w.fmod 3 == 2) = true by rw [h0]; rfl]
    exact ev_list (args_val_nil ⟨by show 0 ≤ sizeLine; decide, cmp_neL (d := 0) (As := []) (fun B hB => by cases hB) hu ⟨_, rfl, h⟩⟩)
/- what the loop in _law_holds keeps -/
structure HoldAt (Dt Wt Du : V) (l : Loc) : Prop where
  d : Has l "data" Dt
  w : Has l "weights" Wt
  u : Has l "due" Du
  t : l.lookup (gh 58) = some (.itr 58 [tagV])
theorem HoldAt.var {Dt Wt Du : V} {l : Loc} (h : HoldAt Dt Wt Du l) {x : Str} {lv : LV} (h1 : ("data" == x) = false) (h2 : ("weights" == x) = false) (h3 : ("due" == x) = false) (h4 : notPlain x = false) : HoldAt Dt Wt Du ((x, lv) :: l) :=
  ⟨loc_put h.d h1, loc_put h.w h2, loc_put h.u h3, loc_put h.t (gh_ne h4 _)⟩
theorem HoldAt.gs {Dt Wt Du : V} {l : Loc} (h : HoldAt Dt Wt Du l) {gs : Gs} (ht : List.lookup (gh 58) (gs.loc ++ l) = some (.itr 58 [tagV])) : HoldAt Dt Wt Du (gs.loc ++ l) :=
  ⟨gloc_has (not_gh (by decide)) h.d, gloc_has (not_gh (by decide)) h.w, gloc_has (not_gh (by decide)) h.u, ht⟩
theorem HoldAt.put {Dt Wt Du : V} {l : Loc} {S : Sr} {r : List V} (h : HoldAt Dt Wt Du l) (hS : ∀ a As, S = .it a As → a ≠ 58) : HoldAt Dt Wt Du (S.put r l) :=
  ⟨Sr.put_has (not_gh (by decide)) h.d, Sr.put_has (not_gh (by decide)) h.w, Sr.put_has (not_gh (by decide)) h.u, by
    cases S with
    | seq A As => exact h.t
    | it a As => exact loc_put h.t (gh_beq (Ne.symm (hS a As rfl)))⟩
theorem not58 {S : Sr} {g : Gs} (nd : (([tb] ++ S.gs ++ g).map (·.1)).Nodup) : ∀ a As, S = .it a As → a ≠ 58 := by
  rintro a As rfl rfl
  simp [Sr.gs] at nd
theorem not58' {S W : Sr} (nd : (([tb] ++ S.gs ++ W.gs).map (·.1)).Nodup) : ∀ a As, W = .it a As → a ≠ 58 := by
  rintro a As rfl rfl
  simp [Sr.gs] at nd
set_option maxHeartbeats 2000000 in
theorem hold_tail1 (l : Land (K8 P) F) (gl : CodeLand F 62 58) {ds : List (Option Int)} (okd : OkD ds) {A : Around} {L : Addr} {lc : Loc} {S : Sr} {w : Int} (hr : Room A 3) (hS : HandOk (ds.map vO) w S) (nd : (([tb] ++ S.gs).map (·.1)).Nodup) (at_ : AtG lc ([tb] ++ S.gs))
    (hH : HoldAt (.lst (ds.map vO)) .none (dV (aloneD [] ds)) lc) (hway : Has lc "way" (.int w)) (hh : Has lc "handed" S.v) (hl : Has lc "lent" .none) {QF : Fl → Loc → Prop} (hQ : ∀ l', HoldAt (.lst (ds.map vO)) .none (dV (aloneD [] ds)) l' → QF .next l') :
    Exs (F.fn A (fdAt (K8 P) 41) 103 L) lc ((hb P).drop 3) QF NoX := by
  obtain ⟨okS, hit⟩ := hS.ok okd.len
  have hhd := hr.handled
  have rm : Room (F.fn A (fdAt (K8 P) 41) 103 L).A 2 := Room.deeper hr _
  have hu : (F.fn A (fdAt (K8 P) 41) 103 L).A.units + 1 + 0 < cLine := by have := rm.units; lia
  have adr : ∀ r, ([tb] ++ (S.left r).gs).map (·.1) = ([tb] ++ S.gs).map (·.1) := fun r => by simp only [List.map_append, Sr.left_adr]
  have nd' : ∀ r, (([tb] ++ (S.left r).gs).map (·.1)).Nodup := fun r => by rw [adr]; exact nd
  conv => arg 3; whnf
  refine exs_let (.inl rfl) (ev_callG (noGh_holds A L) l.told (l.fn (fn_told P)) (args_val (ev_name hh (args_val (ev_name hl (args_val_nil (kws_nil ⟨[], rfl, 2, _, _, _, rm, at_, nd, c_told1 l gl okS nd, fun R gs' hm hq => ?_, fun _ _ _ z => z.elim⟩)))))))
  obtain ⟨t, r, hf, hR, rfl⟩ := hq
  have hrl := fm1_left hf
  rw [hit] at hf hrl
  have hrl80 : r.length ≤ 80 := by have := okd.len; simp at hrl; lia
  obtain ⟨hsim, hr2⟩ := alone_sim okd hf hR
  have at2 : AtG (Gs.loc ([tb] ++ (S.left r).gs) ++ lc) ([tb] ++ (S.left r).gs) := gloc_at (nd' r)
  have hH2 : HoldAt (.lst (ds.map vO)) .none (dV (aloneD [] ds)) (Gs.loc ([tb] ++ (S.left r).gs) ++ lc) := hH.gs (at2 tb (by simp))
  have hway2 : Has (Gs.loc ([tb] ++ (S.left r).gs) ++ lc) "way" (.int w) := gloc_has (not_gh (by decide)) hway
  have hh2 : Has (Gs.loc ([tb] ++ (S.left r).gs) ++ lc) "handed" S.v := gloc_has (not_gh (by decide)) hh
  have at3 : AtG ((Str.ofString "told", LV.val R) :: (Gs.loc ([tb] ++ (S.left r).gs) ++ lc)) ([tb] ++ (S.left r).gs) := at2.var fun a => gh_ne (by decide) a
  have hH3 := hH2.var (x := Str.ofString "told") (lv := .val R) (by decide) (by decide) (by decide) (by decide)
  have hway3 : Has ((Str.ofString "told", LV.val R) :: (Gs.loc ([tb] ++ (S.left r).gs) ++ lc)) "way" (.int w) := loc_put hway2 rfl
  have hh3 : Has ((Str.ofString "told", LV.val R) :: (Gs.loc ([tb] ++ (S.left r).gs) ++ lc)) "handed" S.v := loc_put hh2 rfl
  have ht3 : Has ((Str.ofString "told", LV.val R) :: (Gs.loc ([tb] ++ (S.left r).gs) ++ lc)) "told" R := lookup_cons_self ..
  generalize ((Str.ofString "told", LV.val R) :: (Gs.loc ([tb] ++ (S.left r).gs) ++ lc)) = l3 at at3 hH3 hway3 hh3 ht3
  refine exs_cons (ex_if (sim_test hsim l.isinstance l.float ht3 hH3.u (by show 1 ≤ 10; decide) ?_ rfl rfl rfl rfl))
  refine exs_nil ?_
  have si : (S.left r).In l3 := (at3.sub fun p hp => List.mem_append_right _ hp).inS fun B Bs hB => by
    rcases hS with ⟨_, rfl⟩ | ⟨_, a, rfl⟩
    · cases hB; exact .inl rfl
    · cases hB
  refine exs_cons (ex_if (left_test (p := aloneD [] ds) (noGh_holds A L) hhd hu hS hr2 okd.len hrl80 l.list si hh3 hH3.d hway3 hH3.u ?_ rfl rfl rfl))
  refine exs_nil ?_
  have hH4 : HoldAt (.lst (ds.map vO)) .none (dV (aloneD [] ds)) ((S.left r).put [] l3) := hH3.put (not58 (g := []) (by rw [List.append_nil]; exact nd' r))
  refine exs_cons (ex_if (tst_bool (all_and (tst_cmp (ev_name hH4.w (ev_none (cmp_isnot_none ⟨_, rfl, ?_⟩)))))))
  exact exs_nil (exs_nil (hQ _ hH4))
theorem mul_items {ds ws : List (Option Int)} (ok : OkM ds ws) : ∀ (i : Nat) (a b : Int), (ds.map vO)[i]? = some (.int a) → (ws.map vO)[i]? = some (.int b) → IntMulOk a b := by
  have go : ∀ (l : List (Option Int)) (i : Nat) (a : Int), (l.map vO)[i]? = some (.int a) → some a ∈ l := fun l i a h => by
    rw [List.getElem?_map] at h
    cases q : l[i]? with
    | none => rw [q] at h; cases h
    | some o =>
      rw [q] at h
      cases o with
      | none => cases h
      | some b => cases h; exact List.mem_of_getElem? q
  exact fun i a b h1 h2 => ok.mul (go ds i a h1) (go ws i b h2)
set_option maxHeartbeats 2000000 in
theorem hold_tail2 (l : Land (K8 P) F) {ds ws : List (Option Int)} (okd : OkD ds) (okw : OkD ws) (okm : OkM ds ws) {A : Around} {L : Addr} {lc : Loc} {S W : Sr} {w : Int} (hr : Room A 3) (hS : HandOk (ds.map vO) w S) (hW : LentOk (ws.map vO) w W) (nd : (([tb] ++ S.gs ++ W.gs).map (·.1)).Nodup) (at_ : AtG lc ([tb] ++ S.gs ++ W.gs))
    (hH : HoldAt (.lst (ds.map vO)) (.lst (ws.map vO)) (dV (dueD ds ws)) lc) (hway : Has lc "way" (.int w)) (hh : Has lc "handed" S.v) (hl : Has lc "lent" W.v) {QF : Fl → Loc → Prop} (hQ : ∀ l', HoldAt (.lst (ds.map vO)) (.lst (ws.map vO)) (dV (dueD ds ws)) l' → QF .next l') :
    Exs (F.fn A (fdAt (K8 P) 41) 103 L) lc ((hb P).drop 3) QF NoX := by
  obtain ⟨okS, hit⟩ := hS.ok okd.len
  obtain ⟨okW, hiw⟩ := hW.ok okw.len
  have hhd := hr.handled
  have rm : Room (F.fn A (fdAt (K8 P) 41) 103 L).A 2 := Room.deeper hr _
  have hu : (F.fn A (fdAt (K8 P) 41) 103 L).A.units + 1 + 0 < cLine := by have := rm.units; lia
  have adr : ∀ r, ([tb] ++ (S.left r).gs ++ (W.left []).gs).map (·.1) = ([tb] ++ S.gs ++ W.gs).map (·.1) := fun r => by simp only [List.map_append, Sr.left_adr]
  have nd' : ∀ r, (([tb] ++ (S.left r).gs ++ (W.left []).gs).map (·.1)).Nodup := fun r => by rw [adr]; exact nd
  conv => arg 3; whnf
  refine exs_let (.inl rfl) (ev_callG (noGh_holds A L) l.told (l.fn (fn_told P)) (args_val (ev_name hh (args_val (ev_name hl (args_val_nil (kws_nil ⟨[], rfl, 2, _, _, _, rm, at_, nd, c_told2 l okS okW (by rw [hit, hiw]; exact mul_items okm) nd, fun R gs' hm hq => ?_, fun _ _ _ z => z.elim⟩)))))))
  obtain ⟨t, r, hf, hR, rfl⟩ := hq
  have hrl := fm2_left hf
  rw [hit, hiw] at hf
  rw [hit] at hrl
  have hrl80 : r.length ≤ 80 := by have := okd.len; simp at hrl; lia
  obtain ⟨hsim, hr2⟩ := due_sim okd okw hf hR
  have at2 : AtG (Gs.loc ([tb] ++ (S.left r).gs ++ (W.left []).gs) ++ lc) ([tb] ++ (S.left r).gs ++ (W.left []).gs) := gloc_at (nd' r)
  have hH2 : HoldAt (.lst (ds.map vO)) (.lst (ws.map vO)) (dV (dueD ds ws)) (Gs.loc ([tb] ++ (S.left r).gs ++ (W.left []).gs) ++ lc) := hH.gs (at2 tb (by simp))
  have hway2 : Has (Gs.loc ([tb] ++ (S.left r).gs ++ (W.left []).gs) ++ lc) "way" (.int w) := gloc_has (not_gh (by decide)) hway
  have hh2 : Has (Gs.loc ([tb] ++ (S.left r).gs ++ (W.left []).gs) ++ lc) "handed" S.v := gloc_has (not_gh (by decide)) hh
  have hl2 : Has (Gs.loc ([tb] ++ (S.left r).gs ++ (W.left []).gs) ++ lc) "lent" W.v := gloc_has (not_gh (by decide)) hl
  have at3 : AtG ((Str.ofString "told", LV.val R) :: (Gs.loc ([tb] ++ (S.left r).gs ++ (W.left []).gs) ++ lc)) ([tb] ++ (S.left r).gs ++ (W.left []).gs) := at2.var fun a => gh_ne (by decide) a
  have hH3 := hH2.var (x := Str.ofString "told") (lv := .val R) (by decide) (by decide) (by decide) (by decide)
  have hway3 : Has ((Str.ofString "told", LV.val R) :: (Gs.loc ([tb] ++ (S.left r).gs ++ (W.left []).gs) ++ lc)) "way" (.int w) := loc_put hway2 rfl
  have hh3 : Has ((Str.ofString "told", LV.val R) :: (Gs.loc ([tb] ++ (S.left r).gs ++ (W.left []).gs) ++ lc)) "handed" S.v := loc_put hh2 rfl
  have hl3 : Has ((Str.ofString "told", LV.val R) :: (Gs.loc ([tb] ++ (S.left r).gs ++ (W.left []).gs) ++ lc)) "lent" W.v := loc_put hl2 rfl
  have ht3 : Has ((Str.ofString "told", LV.val R) :: (Gs.loc ([tb] ++ (S.left r).gs ++ (W.left []).gs) ++ lc)) "told" R := lookup_cons_self ..
  generalize ((Str.ofString "told", LV.val R) :: (Gs.loc ([tb] ++ (S.left r).gs ++ (W.left []).gs) ++ lc)) = l3 at at3 hH3 hway3 hh3 hl3 ht3
  refine exs_cons (ex_if (sim_test hsim l.isinstance l.float ht3 hH3.u (by show 1 ≤ 10; decide) ?_ rfl rfl rfl rfl))
  refine exs_nil ?_
  have si : (S.left r).In l3 := (at3.sub fun p hp => List.mem_append_left _ (List.mem_append_right _ hp)).inS fun B Bs hB => by
    rcases hS with ⟨_, rfl⟩ | ⟨_, a, rfl⟩
    · cases hB; exact .inl rfl
    · cases hB
  refine exs_cons (ex_if (left_test (p := dueD ds ws) (noGh_holds A L) hhd hu hS hr2 okd.len hrl80 l.list si hh3 hH3.d hway3 hH3.u ?_ rfl rfl rfl))
  refine exs_nil ?_
  have hH4 : HoldAt (.lst (ds.map vO)) (.lst (ws.map vO)) (dV (dueD ds ws)) ((S.left r).put [] l3) := hH3.put (not58 (nd' r))
  have at4 := at3.put (r := []) (nd' r)
  have hway4 : Has ((S.left r).put [] l3) "way" (.int w) := Sr.put_has (not_gh (by decide)) hway3
  have hl4 : Has ((S.left r).put [] l3) "lent" W.v := Sr.put_has (not_gh (by decide)) hl3
  generalize (S.left r).put [] l3 = l4 at hH4 at4 hway4 hl4
  have wi : (W.left []).In l4 := (at4.sub fun p hp => List.mem_append_right _ hp).inS fun B Bs hB => by
    rcases hW with ⟨_, rfl | rfl⟩ | ⟨_, a, rfl⟩
    · cases hB; exact .inl rfl
    · cases hB; exact .inr rfl
    · cases hB
  refine exs_cons (ex_if (lent_test (noGh_holds A L) hhd hu hW okw.len l.list wi hl4 hH4.w hway4 ?_ rfl rfl rfl))
  exact exs_nil (exs_nil (hQ _ (hH4.put (not58' (nd' r)))))
end Mine
end
section
open PySem PySem.W PyProof.Rows
set_option linter.unusedVariables false
set_option maxRecDepth 100000
namespace Mine
variable {F : Fix} {P : Params}
theorem nd_snoc {g : Gs} {b : Addr} {Bs : List V} (nd : (g.map (·.1)).Nodup) (h : ∀ p ∈ g, p.1 ≠ b) : ((g ++ [(b, Bs)]).map (·.1)).Nodup := by
  rw [List.map_append, List.nodup_append]
  refine ⟨nd, by simp, fun a ha c hc z => ?_⟩
  obtain ⟨p, hp, rfl⟩ := List.mem_map.mp ha
  simp at hc
  exact h p hp (z.trans hc)
theorem AtG.fresh {loc : Loc} {gs : Gs} {b : Addr} (h : AtG loc gs) (hb : ∀ Bs, loc.lookup (gh b) ≠ some (.itr b Bs)) : ∀ p ∈ gs, p.1 ≠ b := fun p hp z => by
  subst z; exact hb p.2 (h p hp)
theorem AtG.snoc {loc : Loc} {gs : Gs} {b : Addr} {Bs : List V} (h : AtG loc gs) (hb : ∀ p ∈ gs, p.1 ≠ b) : AtG ((gh b, .itr b Bs) :: loc) (gs ++ [(b, Bs)]) := fun p hp => by
  rcases List.mem_append.mp hp with hp | hp
  · exact loc_put (h p hp) (gh_beq (hb p hp))
  · rw [List.mem_singleton.mp hp]; exact lookup_cons_self ..
theorem HoldAt.ghost {Dt Wt Du : V} {l : Loc} {b : Addr} {Bs : List V} (h : HoldAt Dt Wt Du l) (hb : b ≠ 58) : HoldAt Dt Wt Du ((gh b, .itr b Bs) :: l) :=
  h.put (S := .it b Bs) (r := Bs) fun a As e => by cases e; exact hb
theorem has_ghost {l : Loc} {x : Str} {A : V} {b : Addr} {Bs : List V} (h : Has l x A) (hx : notPlain x = false) : Has ((gh b, .itr b Bs) :: l) x A := Sr.put_has (S := .it b Bs) (r := Bs) (not_gh hx) h
set_option maxHeartbeats 2000000 in
theorem hold_mid1 (l : Land (K8 P) F) (gl : CodeLand F 62 58) {ds : List (Option Int)} (okd : OkD ds) {A : Around} {L : Addr} {lc : Loc} {S : Sr} {w : Int} (hr : Room A 3) (hS : HandOk (ds.map vO) w S) (nd : (([tb] ++ S.gs).map (·.1)).Nodup) (at_ : AtG lc ([tb] ++ S.gs))
    (hH : HoldAt (.lst (ds.map vO)) .none (dV (aloneD [] ds)) lc) (hway : Has lc "way" (.int w)) (hh : Has lc "handed" S.v) {QF : Fl → Loc → Prop} (hQ : ∀ l', HoldAt (.lst (ds.map vO)) .none (dV (aloneD [] ds)) l' → QF .next l') :
    Exs (F.fn A (fdAt (K8 P) 41) 103 L) lc ((hb P).drop 1) QF NoX := by
  have tl := fun (lc : Loc) at_ hH hway hh hl => hold_tail1 (A := A) (L := L) (lc := lc) l gl okd hr hS nd at_ hH hway hh hl hQ
  conv => arg 3; whnf
  refine exs_let (.inl rfl) (ev_none ?_)
  refine exs_cons (ex_if (tst_cmp (ev_name (loc_put hH.w rfl) (ev_none (cmp_isnot_none ⟨_, rfl, ?_⟩)))))
  refine exs_nil ?_
  exact tl _ (at_.var fun a => gh_ne (by decide) a) (hH.var (by decide) (by decide) (by decide) (by decide)) (loc_put hway rfl) (loc_put hh rfl) (lookup_cons_self ..)
set_option maxHeartbeats 2000000 in
theorem hold_mid2 (l : Land (K8 P) F) {ds ws : List (Option Int)} (okd : OkD ds) (okw : OkD ws) (okm : OkM ds ws) {A : Around} {L : Addr} {lc : Loc} {S : Sr} {w : Int} (hr : Room A 3) (hS : HandOk (ds.map vO) w S) (nd : (([tb] ++ S.gs).map (·.1)).Nodup) (at_ : AtG lc ([tb] ++ S.gs))
    (hH : HoldAt (.lst (ds.map vO)) (.lst (ws.map vO)) (dV (dueD ds ws)) lc) (hway : Has lc "way" (.int w)) (hh : Has lc "handed" S.v) {QF : Fl → Loc → Prop} (hQ : ∀ l', HoldAt (.lst (ds.map vO)) (.lst (ws.map vO)) (dV (dueD ds ws)) l' → QF .next l') :
    Exs (F.fn A (fdAt (K8 P) 41) 103 L) lc ((hb P).drop 1) QF NoX := by
  have tl := fun (lc : Loc) (W : Sr) hW nd at_ hH hway hh hl => hold_tail2 (A := A) (L := L) (lc := lc) (W := W) l okd okw okm hr hS hW nd at_ hH hway hh hl hQ
  have hz : (ws.map vO).length ≤ sizeLine := len7 (by have := okw.len; simp; lia)
  have hw3 : 0 ≤ w.fmod 3 ∧ w.fmod 3 < 3 := ⟨Int.fmod_nonneg_of_pos _ (by decide), Int.fmod_lt_of_pos _ (by decide)⟩
  conv => arg 3; whnf
  refine exs_let (.inl rfl) (ev_none ?_)
  have at1 : AtG ((Str.ofString "lent", LV.val .none) :: lc) ([tb] ++ S.gs) := at_.var fun a => gh_ne (by decide) a
  have hH1 := hH.var (x := Str.ofString "lent") (lv := .val .none) (by decide) (by decide) (by decide) (by decide)
  have hway1 : Has ((Str.ofString "lent", LV.val .none) :: lc) "way" (.int w) := loc_put hway rfl
  have hh1 : Has ((Str.ofString "lent", LV.val .none) :: lc) "handed" S.v := loc_put hh rfl
  generalize ((Str.ofString "lent", LV.val .none) :: lc) = l1 at at1 hH1 hway1 hh1
  refine exs_cons (ex_if (tst_cmp (ev_name hH1.w (ev_none (cmp_isnot_none ⟨_, rfl, ?_⟩)))))
  show Exs _ _ _ _ _
  refine exs_let (.inl rfl) (ev_sub (ev_list (args_val (ev_type l.list (args_val (ev_name hH1.w (args_val_nil (bi_list (.inl rfl) hz (args_val (ev_type l.tuple (args_val (ev_name hH1.w (args_val_nil (bi_tuple hz (args_val (ev_builtin l.iter (args_val (ev_name hH1.w (args_val_nil (bi_iter (noGh_holds A L) fun b hb => args_val_nil ⟨by show 3 ≤ sizeLine; decide, ?_⟩))))))))))))))))))))
  have fr := at1.fresh hb
  have b58 : b ≠ 58 := fun z => fr tb (by simp) z.symm
  refine ev_bin (ev_name (has_ghost hway1 (by decide)) (ev_int (op_mod (by decide) ?_)))
  have h2 := hH1.ghost (b := b) (Bs := ws.map vO) b58
  have hix : -((3 : Nat) : Int) ≤ w.fmod 3 ∧ w.fmod 3 < ((3 : Nat) : Int) := by omega
  by_cases c0 : w.fmod 3 = 0
  · refine it_lst (R := .lst (ws.map vO)) (by show 3 ≤ sizeLine; decide) hix (by rw [c0]; rfl) (exs_nil ?_)
    exact tl _ (.seq (.lst (ws.map vO)) (ws.map vO)) (.inl ⟨by omega, .inl rfl⟩) (by simpa [Sr.gs] using nd)
      ((at1.snoc (Bs := ws.map vO) fr).sub (fun p hp => by simp [Sr.gs] at hp ⊢; rcases hp with h | h <;> simp [h]) |>.var fun a => gh_ne (by decide) a)
      (h2.var (by decide) (by decide) (by decide) (by decide)) (loc_put (has_ghost hway1 (by decide)) rfl) (loc_put (has_ghost hh1 (by decide)) rfl) (lookup_cons_self ..)
  · by_cases c1 : w.fmod 3 = 1
    · refine it_lst (R := .tup (ws.map vO)) (by show 3 ≤ sizeLine; decide) hix (by rw [c1]; rfl) (exs_nil ?_)
      exact tl _ (.seq (.tup (ws.map vO)) (ws.map vO)) (.inl ⟨by lia, .inr rfl⟩) (by simpa [Sr.gs] using nd)
        ((at1.snoc (Bs := ws.map vO) fr).sub (fun p hp => by simp [Sr.gs] at hp ⊢; rcases hp with h | h <;> simp [h]) |>.var fun a => gh_ne (by decide) a)
        (h2.var (by decide) (by decide) (by decide) (by decide)) (loc_put (has_ghost hway1 (by decide)) rfl) (loc_put (has_ghost hh1 (by decide)) rfl) (lookup_cons_self ..)
    · have c2 : w.fmod 3 = 2 := by lia
      refine it_lst (R := .con (.ref b)) (by show 3 ≤ sizeLine; decide) hix (by rw [c2]; rfl) (exs_nil ?_)
      exact tl _ (.it b (ws.map vO)) (.inr ⟨c2, b, rfl⟩) (nd_snoc nd fr) ((at1.snoc (Bs := ws.map vO) fr).var fun a => gh_ne (by decide) a)
        (h2.var (by decide) (by decide) (by decide) (by decide)) (loc_put (has_ghost hway1 (by decide)) rfl) (loc_put (has_ghost hh1 (by decide)) rfl) (lookup_cons_self ..)
theorem turns {turn : Int} {i : Nat} {B : V} (h : (V.items (.lst [.int turn, .int (turn + 1)]))[i]? = some B) : ∃ w, B = .int w := by
  match i, h with
  | 0, h => cases h; exact ⟨_, rfl⟩
  | 1, h => cases h; exact ⟨_, rfl⟩
noncomputable def HQ : V → Gs → Prop := fun R gs' => R = .bool true ∧ gs' = [tb]
set_option maxHeartbeats 4000000 in
theorem c_holds1 (l : Land (K8 P) F) (gl : CodeLand F 62 58) {ds : List (Option Int)} (okd : OkD ds) (turn : Int) : CallsG F (.ref 103) 3 [.lst (ds.map vO), .none, .int turn] [] [] [tb] HQ (fun _ _ => False) := by
  refine callsG_of (names := ["data", "weights", "turn"]) (dlvs := []) (defs := []) (l.fn (fn_holds P)) (by decide) (by intro x hx; simp at hx; rcases hx with rfl | rfl | rfl <;> exact .inl rfl) rfl (fun H => reps_nil H) (fun b => rfl) (fun s vals kvals hb h1 h2 => ?_) fun A L hr => ?_
  · obtain ⟨v, u, t, rfl⟩ := len_three h1
    obtain rfl := len_nil h2
    exact @BindsTo.of_eq _ _ _ _ (by kernel_rfl)
  · show Exs _ (Gs.loc [tb] ++ ([("data", .val (.lst (ds.map vO))), ("weights", .val .none), ("turn", .val (.int turn))] : Loc)) _ _ _
    have hhd := hr.handled
    have rm : Room (F.fn A (fdAt (K8 P) 41) 103 L).A 2 := Room.deeper hr _
    have hz : (ds.map vO).length ≤ sizeLine := len7 (by have := okd.len; simp; lia)
    have hd : Has (Gs.loc [tb] ++ ([("data", .val (.lst (ds.map vO))), ("weights", .val .none), ("turn", .val (.int turn))] : Loc)) "data" (.lst (ds.map vO)) := gloc_has (not_gh (by decide)) rfl
    have hw : Has (Gs.loc [tb] ++ ([("data", .val (.lst (ds.map vO))), ("weights", .val .none), ("turn", .val (.int turn))] : Loc)) "weights" .none := gloc_has (not_gh (by decide)) rfl
    have ht : Has (Gs.loc [tb] ++ ([("data", .val (.lst (ds.map vO))), ("weights", .val .none), ("turn", .val (.int turn))] : Loc)) "turn" (.int turn) := gloc_has (not_gh (by decide)) rfl
    have at_ : AtG (Gs.loc [tb] ++ ([("data", .val (.lst (ds.map vO))), ("weights", .val .none), ("turn", .val (.int turn))] : Loc)) [tb] := gloc_at (by decide)
    generalize (Gs.loc [tb] ++ ([("data", .val (.lst (ds.map vO))), ("weights", .val .none), ("turn", .val (.int turn))] : Loc)) = lc at hd hw ht at_
    have md := fun (S : Sr) (lc : Loc) (w : Int) (QF : Fl → Loc → Prop) hS nd at_ hH hway hh hQ => hold_mid1 (A := A) (L := L) (lc := lc) (S := S) (w := w) (QF := QF) l gl okd hr hS nd at_ hH hway hh hQ
    conv => arg 3; whnf
    refine exs_let (.inl rfl) (ev_ifexp (tst_cmp (ev_name hw (ev_none (cmp_is_none ⟨_, rfl, ?_⟩)))))
    show Ev _ _ _ _ _
    refine ev_call l.alone (l.fn (fn_alone P)) (args_cons (ev_val (ev_name hd (args_nil (kws_nil ⟨2, _, _, rm, c_alone l okd, fun R hR => ?_, fun _ z => z.elim⟩)))))
    subst hR
    have h0 : HoldAt (.lst (ds.map vO)) .none (dV (aloneD [] ds)) ((Str.ofString "due", LV.val (dV (aloneD [] ds))) :: lc) := ⟨loc_put hd rfl, loc_put hw rfl, lookup_cons_self .., loc_put (at_ tb (by simp)) (gh_ne (by decide) _)⟩
    have ht0 : Has ((Str.ofString "due", LV.val (dV (aloneD [] ds))) :: lc) "turn" (.int turn) := loc_put ht rfl
    generalize ((Str.ofString "due", LV.val (dV (aloneD [] ds))) :: lc) = l0 at h0 ht0
    refine exs_cons (ex_for (ev_list (args_val (ev_name ht0 (args_val (ev_bin (ev_name ht0 (ev_int (op_add (args_val_nil ⟨by show 2 ≤ sizeLine; decide, ?_⟩))))))))) (.inl rfl) hhd)
    refine ⟨trivial, fun _ l' => HoldAt (.lst (ds.map vO)) .none (dV (aloneD [] ds)) l', h0, fun i B l1 hB h1 => ?_, fun l1 h1 => ?_⟩
    · obtain ⟨w, rfl⟩ := turns hB
      have h2 := h1.var (x := Str.ofString "way") (lv := .val (.int w)) (by decide) (by decide) (by decide) (by decide)
      have hw2 : Has ((Str.ofString "way", LV.val (.int w)) :: l1) "way" (.int w) := lookup_cons_self ..
      generalize ((Str.ofString "way", LV.val (.int w)) :: l1) = l2 at h2 hw2
      have at2 : AtG l2 [tb] := fun p hp => by rw [List.mem_singleton.mp hp]; exact h2.t
      refine exs_let (.inl rfl) (ev_ifexp (tst_cmp (ev_bin (ev_name hw2 (ev_int (op_mod (by decide) (ev_int (cmp_eq ⟨_, rfl, ?_⟩))))))))
      by_cases c : w.fmod 2 = 0
      · rw [show (w.fmod 2 == 0) = true by rw [c]; rfl]
        refine ev_type l.list (args_val (ev_name h2.d (args_val_nil (bi_list (.inl rfl) hz ?_))))
        exact md (.seq (.lst (ds.map vO)) (ds.map vO)) _ w _ (.inl ⟨c, rfl⟩) (by simp [Sr.gs]) (by
          have : [tb] ++ (Sr.seq (.lst (ds.map vO)) (ds.map vO)).gs = [tb] := by simp [Sr.gs]
          rw [this]; exact at2.var fun a => gh_ne (by decide) a) (h2.var (by decide) (by decide) (by decide) (by decide)) (loc_put hw2 rfl) (lookup_cons_self ..) (fun l' h => h)
      · rw [show (w.fmod 2 == 0) = false from beq_eq_false_iff_ne.mpr c]
        refine ev_builtin l.iter (args_val (ev_name h2.d (args_val_nil (bi_iter (noGh_holds A L) fun a ha => ?_))))
        have fr := at2.fresh ha
        have a58 : a ≠ 58 := fun z => fr tb (by simp) z.symm
        exact md (.it a (ds.map vO)) _ w _ (.inr ⟨c, a, rfl⟩) (nd_snoc (by decide) fr) ((at2.snoc (Bs := ds.map vO) fr).var fun a => gh_ne (by decide) a) ((h2.ghost a58).var (by decide) (by decide) (by decide) (by decide)) (loc_put (has_ghost hw2 (by decide)) rfl) (lookup_cons_self ..) (fun l' h => h)
    · exact exs_ret (ev_bool ⟨[tb], ⟨rfl, fun p hp => by rw [List.mem_singleton.mp hp]; exact h1.t⟩, rfl, rfl⟩)
set_option maxHeartbeats 4000000 in
theorem c_holds2 (l : Land (K8 P) F) {ds ws : List (Option Int)} (okd : OkD ds) (okw : OkD ws) (okm : OkM ds ws) (turn : Int) : CallsG F (.ref 103) 3 [.lst (ds.map vO), .lst (ws.map vO), .int turn] [] [] [tb] HQ (fun _ _ => False) := by
  refine callsG_of (names := ["data", "weights", "turn"]) (dlvs := []) (defs := []) (l.fn (fn_holds P)) (by decide) (by intro x hx; simp at hx; rcases hx with rfl | rfl | rfl <;> exact .inl rfl) rfl (fun H => reps_nil H) (fun b => rfl) (fun s vals kvals hb h1 h2 => ?_) fun A L hr => ?_
  · obtain ⟨v, u, t, rfl⟩ := len_three h1
    obtain rfl := len_nil h2
    exact @BindsTo.of_eq _ _ _ _ (by kernel_rfl)
  · show Exs _ (Gs.loc [tb] ++ ([("data", .val (.lst (ds.map vO))), ("weights", .val (.lst (ws.map vO))), ("turn", .val (.int turn))] : Loc)) _ _ _
    have hhd := hr.handled
    have rm : Room (F.fn A (fdAt (K8 P) 41) 103 L).A 2 := Room.deeper hr _
    have hz : (ds.map vO).length ≤ sizeLine := len7 (by have := okd.len; simp; lia)
    have hd : Has (Gs.loc [tb] ++ ([("data", .val (.lst (ds.map vO))), ("weights", .val (.lst (ws.map vO))), ("turn", .val (.int turn))] : Loc)) "data" (.lst (ds.map vO)) := gloc_has (not_gh (by decide)) rfl
    have hw : Has (Gs.loc [tb] ++ ([("data", .val (.lst (ds.map vO))), ("weights", .val (.lst (ws.map vO))), ("turn", .val (.int turn))] : Loc)) "weights" (.lst (ws.map vO)) := gloc_has (not_gh (by decide)) rfl
    have ht : Has (Gs.loc [tb] ++ ([("data", .val (.lst (ds.map vO))), ("weights", .val (.lst (ws.map vO))), ("turn", .val (.int turn))] : Loc)) "turn" (.int turn) := gloc_has (not_gh (by decide)) rfl
    have at_ : AtG (Gs.loc [tb] ++ ([("data", .val (.lst (ds.map vO))), ("weights", .val (.lst (ws.map vO))), ("turn", .val (.int turn))] : Loc)) [tb] := gloc_at (by decide)
    generalize (Gs.loc [tb] ++ ([("data", .val (.lst (ds.map vO))), ("weights", .val (.lst (ws.map vO))), ("turn", .val (.int turn))] : Loc)) = lc at hd hw ht at_
    have md := fun (S : Sr) (lc : Loc) (w : Int) (QF : Fl → Loc → Prop) hS nd at_ hH hway hh hQ => hold_mid2 (A := A) (L := L) (lc := lc) (S := S) (w := w) (QF := QF) l okd okw okm hr hS nd at_ hH hway hh hQ
    conv => arg 3; whnf
    refine exs_let (.inl rfl) (ev_ifexp (tst_cmp (ev_name hw (ev_none (cmp_is_none ⟨_, rfl, ?_⟩)))))
    show Ev _ _ _ _ _
    refine ev_call l.due (l.fn (fn_due P)) (args_cons (ev_val (ev_name hd (args_cons (ev_val (ev_name hw (args_nil (kws_nil ⟨2, _, _, rm, c_due l okd okw okm, fun R hR => ?_, fun _ z => z.elim⟩)))))))) 
    subst hR
    have h0 : HoldAt (.lst (ds.map vO)) (.lst (ws.map vO)) (dV (dueD ds ws)) ((Str.ofString "due", LV.val (dV (dueD ds ws))) :: lc) := ⟨loc_put hd rfl, loc_put hw rfl, lookup_cons_self .., loc_put (at_ tb (by simp)) (gh_ne (by decide) _)⟩
    have ht0 : Has ((Str.ofString "due", LV.val (dV (dueD ds ws))) :: lc) "turn" (.int turn) := loc_put ht rfl
    generalize ((Str.ofString "due", LV.val (dV (dueD ds ws))) :: lc) = l0 at h0 ht0
    refine exs_cons (ex_for (ev_list (args_val (ev_name ht0 (args_val (ev_bin (ev_name ht0 (ev_int (op_add (args_val_nil ⟨by show 2 ≤ sizeLine; decide, ?_⟩))))))))) (.inl rfl) hhd)
    refine ⟨trivial, fun _ l' => HoldAt (.lst (ds.map vO)) (.lst (ws.map vO)) (dV (dueD ds ws)) l', h0, fun i B l1 hB h1 => ?_, fun l1 h1 => ?_⟩
    · obtain ⟨w, rfl⟩ := turns hB
      have h2 := h1.var (x := Str.ofString "way") (lv := .val (.int w)) (by decide) (by decide) (by decide) (by decide)
      have hw2 : Has ((Str.ofString "way", LV.val (.int w)) :: l1) "way" (.int w) := lookup_cons_self ..
      generalize ((Str.ofString "way", LV.val (.int w)) :: l1) = l2 at h2 hw2
      have at2 : AtG l2 [tb] := fun p hp => by rw [List.mem_singleton.mp hp]; exact h2.t
      refine exs_let (.inl rfl) (ev_ifexp (tst_cmp (ev_bin (ev_name hw2 (ev_int (op_mod (by decide) (ev_int (cmp_eq ⟨_, rfl, ?_⟩))))))))
      by_cases c : w.fmod 2 = 0
      · rw [show (w.fmod 2 == 0) = true by rw [c]; rfl]
        refine ev_type l.list (args_val (ev_name h2.d (args_val_nil (bi_list (.inl rfl) hz ?_))))
        exact md (.seq (.lst (ds.map vO)) (ds.map vO)) _ w _ (.inl ⟨c, rfl⟩) (by simp [Sr.gs]) (by
          have : [tb] ++ (Sr.seq (.lst (ds.map vO)) (ds.map vO)).gs = [tb] := by simp [Sr.gs]
          rw [this]; exact at2.var fun a => gh_ne (by decide) a) (h2.var (by decide) (by decide) (by decide) (by decide)) (loc_put hw2 rfl) (lookup_cons_self ..) (fun l' h => h)
      · rw [show (w.fmod 2 == 0) = false from beq_eq_false_iff_ne.mpr c]
        refine ev_builtin l.iter (args_val (ev_name h2.d (args_val_nil (bi_iter (noGh_holds A L) fun a ha => ?_))))
        have fr := at2.fresh ha
        have a58 : a ≠ 58 := fun z => fr tb (by simp) z.symm
        exact md (.it a (ds.map vO)) _ w _ (.inr ⟨c, a, rfl⟩) (nd_snoc (by decide) fr) ((at2.snoc (Bs := ds.map vO) fr).var fun a => gh_ne (by decide) a) ((h2.ghost a58).var (by decide) (by decide) (by decide) (by decide)) (loc_put (has_ghost hw2 (by decide)) rfl) (lookup_cons_self ..) (fun l' h => h)
    · exact exs_ret (ev_bool ⟨[tb], ⟨rfl, fun p hp => by rw [List.mem_singleton.mp hp]; exact h1.t⟩, rfl, rfl⟩)
end Mine
end
section
open PySem PySem.W PyProof.Rows
set_option linter.unusedVariables false
set_option maxRecDepth 100000
set_option exponentiation.threshold 4000
namespace Mine
open PySem.Float64 (isInf ofInt infMag ofInt_right)
variable {F : Fix} {P : Params}
/-! ## the numbers that the law builds -/
theorem inf_big {i : Int} (h : 2 ^ 1025 ≤ i.natAbs) : isInf (ofInt i) = true := by
  refine gg fun GG hGG => ?_
  obtain ⟨t, ht, hle, hov, _⟩ := ofInt_right i
  refine hGG ?_
  rw [ht, isInf_pack _ hle, decide_eq_true]
  refine hov.mpr ?_
  have h1 : 2 ^ 1025 * 2 ^ 1074 ≤ i.natAbs * 2 ^ 1074 := Nat.mul_le_mul_right _ h
  have h2 : 1 * ((2 ^ 54 - 1) * 2 ^ 2045) ≤ 2 * (2 ^ 1025 * 2 ^ 1074) := by decide +kernel
  exact Nat.le_trans h2 (Nat.mul_le_mul_left _ h1)
/- so many ones and so many of 2 ** 1100 -/
noncomputable def El (n : Nat) (i : Int) : Prop := ∃ p q : Int, i = p + q * 2 ^ 1100 ∧ p.natAbs ≤ n * 2 ^ 1000 ∧ q.natAbs ≤ n * 2 ^ 1000
noncomputable def ElO (n : Nat) (o : Option Int) : Prop := ∀ i, o = some i → El n i
theorem El.wide {n m : Nat} {i : Int} (h : El n i) (hm : n ≤ m) : El m i := by
  refine gg fun GG hGG => ?_
  obtain ⟨p, q, e, h1, h2⟩ := h
  refine hGG ?_
  exact ⟨p, q, e, Nat.le_trans h1 (Nat.mul_le_mul_right _ hm), Nat.le_trans h2 (Nat.mul_le_mul_right _ hm)⟩
theorem El.add {n m : Nat} {i j : Int} (h : El n i) (h' : El m j) : El (n + m) (i + j) := by
  obtain ⟨p, q, rfl, h1, h2⟩ := h
  obtain ⟨p', q', rfl, h1', h2'⟩ := h'
  refine ⟨p + p', q + q', ?_, ?_, ?_⟩
  · rw [Int.add_mul]; omega
  · rw [Nat.add_mul]; exact Nat.le_trans (Int.natAbs_add_le ..) (Nat.add_le_add h1 h1')
  · rw [Nat.add_mul]; exact Nat.le_trans (Int.natAbs_add_le ..) (Nat.add_le_add h2 h2')
theorem El.neg {n : Nat} {i : Int} (h : El n i) : El n (-i) := by
  obtain ⟨p, q, rfl, h1, h2⟩ := h
  refine ⟨-p, -q, ?_, ?_, ?_⟩
  · rw [Int.neg_mul]; omega
  · rwa [Int.natAbs_neg]
  · rwa [Int.natAbs_neg]
theorem El.zero : El 0 0 := ⟨0, 0, by simp, by simp, by simp⟩
theorem El.sum : ∀ {l : List Int}, (∀ i ∈ l, El 1 i) → El l.length (isum l)
  | [], _ => El.zero
  | a :: l, h => by
    have h1 := h a List.mem_cons_self
    have h2 := El.sum (l := l) fun i hi => h i (List.mem_cons_of_mem _ hi)
    have := h1.add h2
    rw [Nat.add_comm] at this
    exact this
theorem El.ok {n : Nat} {i : Int} (h : El n i) (hn : n ≤ 100) : (i.natAbs ≤ 2 ^ 1008 ∨ isInf (ofInt i) = true) ∧ i.natAbs < 2 ^ 3000 := by
  obtain ⟨p, q, rfl, h1, h2⟩ := h
  have hb : 100 * 2 ^ 1000 ≤ 2 ^ 1008 := by decide +kernel
  have hp : p.natAbs ≤ 2 ^ 1008 := Nat.le_trans h1 (Nat.le_trans (Nat.mul_le_mul_right _ hn) hb)
  have hq : q.natAbs ≤ 2 ^ 1008 := Nat.le_trans h2 (Nat.le_trans (Nat.mul_le_mul_right _ hn) hb)
  have hm : (q * 2 ^ 1100).natAbs = q.natAbs * 2 ^ 1100 := by rw [Int.natAbs_mul, Int.natAbs_pow]; rfl
  constructor
  · by_cases c : q = 0
    · subst c; left; simpa using hp
    · right
      refine inf_big ?_
      have hq1 : 1 ≤ q.natAbs := Int.natAbs_pos.mpr c
      have h3 : (q * 2 ^ 1100).natAbs ≤ (p + q * 2 ^ 1100).natAbs + p.natAbs := by
        have := Int.natAbs_add_le (p + q * 2 ^ 1100) (-p)
        rw [show p + q * 2 ^ 1100 + -p = q * 2 ^ 1100 by omega, Int.natAbs_neg] at this
        exact this
      rw [hm] at h3
      have h4 : 1 * 2 ^ 1100 ≤ q.natAbs * 2 ^ 1100 := Nat.mul_le_mul_right _ hq1
      have h5 : 2 ^ 1025 + 2 ^ 1008 ≤ 1 * 2 ^ 1100 := by decide +kernel
      exact Nat.le_of_add_le_add_right (Nat.le_trans h5 (Nat.le_trans h4 (Nat.le_trans h3 (Nat.add_le_add_left hp _))))
  · have h3 := Int.natAbs_add_le p (q * 2 ^ 1100)
    rw [hm] at h3
    have h4 : q.natAbs * 2 ^ 1100 ≤ 2 ^ 1008 * 2 ^ 1100 := Nat.mul_le_mul_right _ hq
    have h5 : 2 ^ 1008 + 2 ^ 1008 * 2 ^ 1100 < 2 ^ 3000 := by decide +kernel
    exact Nat.lt_of_le_of_lt h3 (Nat.lt_of_le_of_lt (Nat.add_le_add hp h4) h5)
/- a list that the law hands on -/
structure OkL (ds : List (Option Int)) : Prop where
  len : ds.length ≤ 80
  el : ∀ o ∈ ds, ElO 100 o
theorem OkL.d {ds : List (Option Int)} (h : OkL ds) : OkD ds := ⟨h.len, fun i hi => ((h.el _ hi i rfl).ok (Nat.le_refl _)).1⟩
theorem OkL.m {ds ws : List (Option Int)} (h : OkL ds) (h' : OkL ws) : OkM ds ws := ⟨fun i hi => ((h.el _ hi i rfl).ok (Nat.le_refl _)).2, fun i hi => ((h'.el _ hi i rfl).ok (Nat.le_refl _)).2⟩
theorem sm_le (x : Int) : (sm x).natAbs ≤ 1 * 2 ^ 1000 := by
  unfold sm
  have h1 := Int.fmod_nonneg_of_pos (x + 2 ^ 1000) (b := 2 ^ 1001) (Int.pow_pos (by decide))
  have h2 := Int.fmod_lt_of_pos (x + 2 ^ 1000) (b := 2 ^ 1001) (Int.pow_pos (by decide))
  have h3 : (2 : Int) ^ 1001 = 2 * 2 ^ 1000 := by rw [Int.pow_succ, Int.mul_comm]
  have h4 : ((2 ^ 1000 : Nat) : Int) = 2 ^ 1000 := by rw [Int.natCast_pow]; rfl
  rw [h3] at h2
  have h5 : ∀ (y : Int) (N : Nat), 0 ≤ y → y < 2 * (N : Int) → (y - (N : Int)).natAbs ≤ 1 * N := fun y N h1 h2 => by omega
  rw [← h4] at h2 ⊢
  exact h5 _ _ h1 h2
theorem El.small (x : Int) : El 1 (sm x * 2 ^ 0) := ⟨sm x, 0, by simp, sm_le x, by simp⟩
theorem El.great (x : Int) : El 1 (sm x * 2 ^ 1100) := ⟨0, sm x, by simp, by simp, sm_le x⟩
/- a slice of a list of numbers and Nones -/
noncomputable def cut (ds : List (Option Int)) (lo hi : Option Int) : List (Option Int) := (ds.drop (lo.elim 0 (clipAt ds.length))).take (hi.elim ds.length (clipAt ds.length) - lo.elim 0 (clipAt ds.length))
theorem slc_cut (ds : List (Option Int)) (lo hi : Option Int) : slc (ds.map vO) lo hi = (cut ds lo hi).map vO := by
  unfold slc cut
  simp [List.map_take, List.map_drop]
theorem cut_len (ds : List (Option Int)) (lo hi : Option Int) : (cut ds lo hi).length ≤ ds.length := by
  unfold cut
  simp only [List.length_take, List.length_drop]
  omega
theorem cut_mem {ds : List (Option Int)} {lo hi : Option Int} {o : Option Int} (h : o ∈ cut ds lo hi) : o ∈ ds := List.mem_of_mem_drop (List.mem_of_mem_take h)
/- the law's own lists -/
structure OkR (ds : List (Option Int)) : Prop where
  len : ds.length ≤ 76
  el : ∀ o ∈ ds, ElO 1 o
theorem OkR.cut {ds : List (Option Int)} (h : OkR ds) (lo hi : Option Int) : OkR (cut ds lo hi) := ⟨Nat.le_trans (cut_len ..) h.len, fun o ho => h.el o (cut_mem ho)⟩
theorem OkR.l {ds : List (Option Int)} (h : OkR ds) : OkL ds := ⟨Nat.le_trans h.len (by decide), fun o ho i hi => (h.el o ho i hi).wide (by decide)⟩
theorem OkR.even {ds : List (Option Int)} (h : OkR ds) : OkL (ds ++ [some (-isum (ds.filterMap id))]) := by
  refine ⟨by simp; have := h.len; omega, fun o ho => ?_⟩
  rcases List.mem_append.mp ho with ho | ho
  · exact fun i hi => (h.el o ho i hi).wide (by decide)
  · rw [List.mem_singleton.mp ho]
    intro i hi
    cases hi
    have hl : (ds.filterMap id).length ≤ ds.length := List.length_filterMap_le ..
    refine (El.neg (El.sum fun i hi => ?_)).wide (by have := h.len; omega)
    obtain ⟨o, ho, e⟩ := List.mem_filterMap.mp hi
    exact h.el o ho i e
theorem OkL.zero : OkL [some 0] := ⟨by decide, fun o ho i hi => by rw [List.mem_singleton.mp ho] at hi; cases hi; exact El.zero.wide (by decide)⟩
theorem OkR.snoc {ds : List (Option Int)} {o : Option Int} {n : Nat} (h : ∀ o ∈ ds, ElO 1 o) (ho : ElO 1 o) : ∀ p ∈ ds ++ [o], ElO 1 p := fun p hp => by
  rcases List.mem_append.mp hp with hp | hp
  · exact h p hp
  · rw [List.mem_singleton.mp hp]; exact ho
theorem filter_num : ∀ ds : List (Option Int), ((ds.map vO).filter (fun B => !B.isNone)).map (fun B => B) = (ds.filterMap id).map .int
  | [] => rfl
  | none :: ds => by
    have ih := filter_num ds
    simpa [vO, V.isNone] using ih
  | some i :: ds => by
    have ih := filter_num ds
    simp only [List.map_cons, List.filterMap_cons, id]
    rw [List.filter_cons_of_pos (by rfl), List.map_cons, ih]; rfl
end Mine
end
section
open PySem PySem.W PyProof.Rows
set_option linter.unusedVariables false
set_option maxRecDepth 100000
set_option exponentiation.threshold 4000
namespace Mine
variable {F : Fix} {P : Params}
theorem noGh_law (A : Around) (L : Addr) : NoGh (F.fn A (fdAt (K8 P) 44) 108 L) := fun a => rfl
/- _law_holds(..), nothing lent but the table -/
theorem ev_callH {Γ : Cx} {loc : Loc} {Q : V → Loc → Prop} {X : Exc → Loc → Prop} {x : Str} {p pos : Pos} {e : Expr} {es : List Expr} {a : Addr} {fd : FuncData} {body : List Stmt} {d : Nat} (hgh : NoGh Γ) (g : GlobAt Γ.F x (.ref a)) (fn : FnAt Γ.F a fd body) (hroom : Room Γ.A d) (ht : loc.lookup (gh 58) = some (.itr 58 [tagV]))
    (h : Args' Γ loc pos (e :: es) (AllVal fun As l => l = loc ∧ CallsG Γ.F (.ref a) d As [] [] [tb] HQ (fun _ _ => False)) X) (hq : Q (.bool true) loc)
    (hk : Γ.env.kindOf x = some .globalImplicit := by rfl) (hg : Γ.env.globals = mainGlobals := by rfl) (hb : Γ.env.builtins = builtinsNs := by rfl)
    (hd : (x == ("__debug__" : Str)) = false := by decide) (he : ∃ r, backTo pos (starEach (e :: es) Γ.env) = (false, eval e Γ.env) :: r := by exact ⟨_, rfl⟩) : Ev Γ loc (.Call (.Name x p) (e :: es) [] pos) (VQ Q) X := by
  intro H O s st
  have h' : Args' Γ loc pos (e :: es) (AllVal fun As l => Kws Γ l ((backToKw pos (keywordEach [] Γ.env)).map (·.2)) (AllVal fun Ks l' =>
      ∃ d gs Q' X', Room Γ.A d ∧ (∀ p ∈ gs, List.lookup (gh p.1) l' = some (.itr p.1 p.2)) ∧ (gs.map (·.1)).Nodup ∧ CallsG Γ.F (.ref a) d As ((backToKw pos (keywordEach [] Γ.env)).filterMap (·.1)) Ks gs Q' X' ∧
        (∀ R gs', gs'.map (·.1) = gs.map (·.1) → Q' R gs' → (fun R l => R = .bool true ∧ l = Gs.loc [tb] ++ loc) R (Gs.loc gs' ++ l')) ∧ (∀ x gs', gs'.map (·.1) = gs.map (·.1) → X' x gs' → X x (Gs.loc gs' ++ l'))) X) X := fun H O s st =>
    wpAny_mono (h H O s st) (fun vs s' z => by
      obtain ⟨H', O', l', lvs, n, st', t, As, e1, e2, hc⟩ := z
      subst e2
      exact ⟨H', O', l', lvs, n, st', t, As, e1, kws_nil ⟨[], rfl, d, [tb], HQ, _, hroom, fun p hp => by rw [List.mem_singleton.mp hp]; exact ht, by decide, hc, fun R gs' _ hq => by obtain ⟨rfl, rfl⟩ := hq; exact ⟨rfl, rfl⟩, fun _ _ _ z => z.elim⟩⟩) fun _ _ p => p
  refine wpAny_mono (ev_callG (Q := fun R l => R = .bool true ∧ l = Gs.loc [tb] ++ loc) (X := X) hgh g fn h' hk hg hb hd he rfl H O s st) (fun v s' p => ?_) fun _ _ p => p
  refine gg fun GG hGG => ?_
  obtain ⟨H', O', loc', lv, n, st', r, q⟩ := p
  refine hGG ?_
  cases lv with
  | own _ _ => exact q.elim
  | itr _ _ => exact q.elim
  | val A =>
    obtain ⟨rfl, rfl⟩ := q
    refine ⟨H', O', loc, .val (.bool true), n, st'.less fun y lv e => ?_, r, hq⟩
    show List.lookup y ((gh 58, LV.itr 58 [tagV]) :: loc) = _
    by_cases c : y = gh 58
    · subst c; rw [lookup_cons_self, ← e, ht]
    · rw [lookup_cons_ne c]; exact e
/- the bodies of the law's loops -/
noncomputable def lb1 (P : Params) : List Stmt := match (bdAt (K8 P) 44)[3]? with
  | some (PySem.Stmt.For _ _ b _ _) => b
  | _ => []
noncomputable def lb2 (P : Params) : List Stmt := match (bdAt (K8 P) 44)[4]? with
  | some (PySem.Stmt.For _ _ [PySem.Stmt.For _ _ b _ _] _ _) => b
  | _ => []
/- what the law's second loops keep -/
structure LwAt (ds ws : List (Option Int)) (l : Loc) : Prop where
  d : Has l "data" (.lst (ds.map vO))
  w : Has l "weights" (.lst (ws.map vO))
  t : l.lookup (gh 58) = some (.itr 58 [tagV])
theorem LwAt.var {ds ws : List (Option Int)} {l : Loc} (h : LwAt ds ws l) {x : Str} {lv : LV} (h1 : ("data" == x) = false) (h2 : ("weights" == x) = false) (h4 : notPlain x = false) : LwAt ds ws ((x, lv) :: l) :=
  ⟨loc_put h.d h1, loc_put h.w h2, loc_put h.t (gh_ne h4 _)⟩
set_option maxHeartbeats 4000000 in
theorem law_rest (l : Land (K8 P) F) (gl : CodeLand F 62 58) {ds ws es : List (Option Int)} (okd : OkR ds) (okw : OkR ws) (oke : OkL es) {A : Around} {L : Addr} {lc : Loc} {a b : Int} (hr : Room A 4) (hl : LwAt ds ws lc) (ha : Has lc "a" (.int a)) (hb : Has lc "b" (.int b)) (hs : Has lc "some" (.lst ((cut ds (some b) (some a)).map vO))) (he : Has lc "evened" (.lst (es.map vO))) {QF : Fl → Loc → Prop} (hQ : QF .next lc) :
    Exs (F.fn A (fdAt (K8 P) 44) 108 L) lc ((lb2 P).drop 2) QF NoX := by
  have rm : Room (F.fn A (fdAt (K8 P) 44) 108 L).A 3 := Room.deeper hr _
  have zd : (ds.map vO).length ≤ sizeLine := len7 (by have := okd.len; simp; lia)
  have zw : (ws.map vO).length ≤ sizeLine := len7 (by have := okw.len; simp; lia)
  have cd := fun x y => (okd.cut x y).l
  have cw := fun x y => (okw.cut x y).l
  have fh := l.fn (fn_holds P)
  conv => arg 3; whnf
  refine exs_cons (ex_if (tst_not (tst_bool (all_and (tst_val (ev_callH (noGh_law A L) l.holds fh rm hl.t ?_ (tr_bool ?_)))))))
  · exact args_val (ev_name hs (args_val (ev_none (args_val (ev_name ha (args_val_nil ⟨rfl, c_holds1 l gl (cd _ _).d a⟩))))))
  refine all_and (tst_val (ev_callH (noGh_law A L) l.holds fh rm hl.t ?_ (tr_bool ?_)))
  · refine args_val (ev_name hs (args_val (ev_slice (ev_name hl.w ⟨_, rfl, zw, pt_some (ev_name hb ⟨_, rfl, pt_some (ev_name ha ⟨_, rfl, args_val (ev_name ha (args_val_nil ⟨rfl, ?_⟩))⟩)⟩)⟩))))
    rw [slc_cut]; exact c_holds2 l (cd _ _).d (cw _ _).d ((cd _ _).m (cw _ _)) a
  refine all_and (tst_val (ev_callH (noGh_law A L) l.holds fh rm hl.t ?_ (tr_bool ?_)))
  · exact args_val (ev_name hs (args_val (ev_name he (args_val (ev_bin (ev_name ha (ev_name hb (op_add (args_val_nil ⟨rfl, c_holds2 l (cd _ _).d oke.d ((cd _ _).m oke) _⟩)))))))))
  refine all_and_nil ?_
  refine exs_nil ?_
  refine exs_cons (ex_if (tst_not (tst_bool (all_and (tst_val (ev_callH (noGh_law A L) l.holds fh rm hl.t ?_ (tr_bool ?_)))))))
  · refine args_val (ev_name hs (args_val (ev_slice (ev_name hl.w ⟨_, rfl, zw, pt_some (ev_name hb ⟨_, rfl, pt_some (ev_bin (ev_name ha (ev_int (op_add ⟨_, rfl, args_val (ev_bin (ev_name ha (ev_int (op_add (args_val_nil ⟨rfl, ?_⟩)))))⟩))))⟩)⟩))))
    rw [slc_cut]; exact c_holds2 l (cd _ _).d (cw _ _).d ((cd _ _).m (cw _ _)) _
  refine all_and (tst_val (ev_callH (noGh_law A L) l.holds fh rm hl.t ?_ (tr_bool ?_)))
  · refine args_val (ev_slice (ev_name hl.d ⟨_, rfl, zd, pt_some (ev_name hb ⟨_, rfl, pt_none (args_val (ev_slice (ev_name hl.w ⟨_, rfl, zw, pt_some (ev_name hb ⟨_, rfl, pt_some (ev_name ha ⟨_, rfl, args_val (ev_bin (ev_name ha (ev_int (op_add (args_val_nil ⟨rfl, ?_⟩)))))⟩)⟩)⟩)))⟩)⟩))
    rw [slc_cut, slc_cut]; exact c_holds2 l (cd _ _).d (cw _ _).d ((cd _ _).m (cw _ _)) _
  refine all_and_nil ?_
  exact exs_nil (exs_nil hQ)
set_option maxHeartbeats 4000000 in
theorem law_inner (l : Land (K8 P) F) (gl : CodeLand F 62 58) {ds ws : List (Option Int)} (okd : OkR ds) (okw : OkR ws) {A : Around} {L : Addr} {lc : Loc} {a b : Int} (hr : Room A 4) (hl : LwAt ds ws lc) (ha : Has lc "a" (.int a)) (hb : Has lc "b" (.int b)) {QF : Fl → Loc → Prop} (hQ : ∀ l', LwAt ds ws l' → Has l' "a" (.int a) → QF .next l') :
    Exs (F.fn A (fdAt (K8 P) 44) 108 L) lc (lb2 P) QF NoX := by
  have hhd := hr.handled
  have zd : (ds.map vO).length ≤ sizeLine := len7 (by have := okd.len; simp; lia)
  have zw : (ws.map vO).length ≤ sizeLine := len7 (by have := okw.len; simp; lia)
  have tl := fun (lc : Loc) (es : List (Option Int)) oke hl ha hb hs he hQ => law_rest (A := A) (L := L) (lc := lc) (es := es) (QF := QF) (a := a) (b := b) l gl okd okw oke hr hl ha hb hs he hQ
  conv => arg 3; whnf
  refine exs_let (.inl rfl) (ev_slice (ev_name hl.d ⟨_, rfl, zd, pt_some (ev_name hb ⟨_, rfl, pt_some (ev_name ha ⟨_, rfl, ?_⟩)⟩)⟩))
  rw [slc_cut]
  have hl1 := hl.var (x := Str.ofString "some") (lv := .val (.lst ((cut ds (some b) (some a)).map vO))) (by decide) (by decide) (by decide)
  have ha1 : Has ((Str.ofString "some", LV.val (.lst ((cut ds (some b) (some a)).map vO))) :: lc) "a" (.int a) := loc_put ha rfl
  have hb1 : Has ((Str.ofString "some", LV.val (.lst ((cut ds (some b) (some a)).map vO))) :: lc) "b" (.int b) := loc_put hb rfl
  have hs1 : Has ((Str.ofString "some", LV.val (.lst ((cut ds (some b) (some a)).map vO))) :: lc) "some" (.lst ((cut ds (some b) (some a)).map vO)) := lookup_cons_self ..
  generalize ((Str.ofString "some", LV.val (.lst ((cut ds (some b) (some a)).map vO))) :: lc) = l1 at hl1 ha1 hb1 hs1
  have fin : ∀ es : List (Option Int), OkL es → Exs (F.fn A (fdAt (K8 P) 44) 108 L) ((Str.ofString "evened", LV.val (.lst (es.map vO))) :: l1) ((lb2 P).drop 2) QF NoX := fun es oke =>
    tl _ es oke (hl1.var (by decide) (by decide) (by decide)) (loc_put ha1 rfl) (loc_put hb1 rfl) (loc_put hs1 rfl) (lookup_cons_self ..) (hQ _ (hl1.var (by decide) (by decide) (by decide)) (loc_put ha1 rfl))
  refine exs_let (.inl rfl) (ev_ifexp (tst_cmp (ev_name ha1 (ev_name hb1 (cmp_eq ⟨_, rfl, ?_⟩)))))
  by_cases c : a = b
  · rw [show (a == b) = true from beq_iff_eq.mpr c]
    exact ev_list (args_val (ev_int (args_val_nil ⟨by show 1 ≤ sizeLine; decide, fin [some 0] .zero⟩)))
  · rw [show (a == b) = false from beq_eq_false_iff_ne.mpr c]
    refine ev_bin (ev_slice (ev_name hl1.w ⟨_, rfl, zw, pt_some (ev_name hb1 ⟨_, rfl, pt_some (ev_bin (ev_name ha1 (ev_int (op_sub ⟨_, rfl, ?_⟩))))⟩)⟩))
    rw [slc_cut]
    refine ev_list (args_val (ev_un (ev_builtin l.sum (args_val (ev_comp hhd (ev_slice (ev_name hl1.w ⟨_, rfl, zw, pt_some (ev_name hb1 ⟨_, rfl, pt_some (ev_bin (ev_name ha1 (ev_int (op_sub ⟨_, rfl, ?_⟩))))⟩)⟩)))))))
    rw [slc_cut]
    have okc := okw.cut (some b) (some (a - 1))
    generalize cut ws (some b) (some (a - 1)) = cs at okc
    have zc : (cs.map vO).length ≤ sizeLine := len7 (by have := okc.len; simp; lia)
    refine ⟨trivial, zc, [], [], fun B => B, fun B => !B.isNone, { clos := rfl, hcl := (fun y c e => by cases e), kind := rfl, names := by decide, fr := (fun y lv e => by cases e) }, { hx := .inl rfl, xfr := rfl, hifs := fun B hB C => ?_, helt := fun B hB hp C => ?_ }, ?_⟩
    · exact ifs_one (tst_cmp (ev_name rfl (ev_none (cmp_isnot_none ⟨_, rfl, rfl, Loc.le_refl _⟩))))
    · exact ev_name rfl ⟨rfl, Loc.le_cons _ (Loc.le_refl _) rfl⟩
    · show Args' _ _ _ _ _ _
      rw [show (V.lst (cs.map vO)).items = cs.map vO from rfl, filter_num]
      refine args_val_nil (bi_sum hhd (op_neg (args_val_nil ⟨by show 1 ≤ sizeLine; decide, op_add_lst ?_ ?_⟩)))
      · exact len7 (by have := okc.len; simp; lia)
      · have := fin (cs ++ [some (-isum (cs.filterMap id))]) okc.even
        rw [List.map_append] at this
        exact this
end Mine
end
section
open PySem PySem.W PyProof.Rows
set_option linter.unusedVariables false
set_option maxRecDepth 100000
set_option exponentiation.threshold 4000
namespace Mine
variable {F : Fix} {P : Params}
theorem mul_small (x : Int) (e : Nat) (he : e ≤ 1100) : IntMulOk (sm x) (2 ^ e) := by
  refine mulOk_of_bits (intBits_le (k := 3000) ?_) (intBits_le (k := 3000) ?_) (by decide)
  · exact Nat.lt_of_le_of_lt (sm_le x) (by decide +kernel)
  · have : ((2 : Int) ^ e).natAbs = 2 ^ e := by rw [Int.natAbs_pow]; rfl
    rw [this]
    exact Nat.pow_lt_pow_right (by decide) (by omega)
set_option maxHeartbeats 1000000 in
/- None, or a number as the law makes it -/
theorem ev_datum (l : Land (K8 P) F) {A : Around} {L : Addr} {lc : Loc} {rs : List Int} {k x r c1 c2 : Int} {flag : Str} {ie : Expr} {X : Exc → Loc → Prop} (hr : Room A 4) (hf : Has lc flag (.int r)) (hrow : Has lc "row" (.lst (rs.map .int))) (hz : (rs.map V.int).length ≤ sizeLine)
    (hk : -((rs.map V.int).length : Int) ≤ k ∧ k < ((rs.map V.int).length : Int)) (hg : (rs.map V.int)[pyIdx k (rs.map V.int).length]? = some (.int x)) (hie : ∀ {Q : V → Loc → Prop}, Q (.int k) lc → Ev (F.fn A (fdAt (K8 P) 44) 108 L) lc ie (VQ Q) X)
    (hd : (flag == ("__debug__" : Str)) = false) (hn : notPlain flag = false) (hs : ∀ o i, subscripted ie false o i = operate [o, i] (getItem o i))
    {p1 p2 p3 p4 p5 p6 p7 p8 p9 p10 p11 p12 p13 p14 p15 p16 p17 p18 : Pos} {k1 k2 k3 k4 k5 k6 : Nat} :
    Ev (F.fn A (fdAt (K8 P) 44) 108 L) lc (.IfExp (.Compare (.Name flag p1) [.Eq] [.Constant (.int c1) k1 p2] p3) (.Constant .none k2 p4) (.BinOp (.Call (.Name (Str.ofString "_law_small") p5) [.Subscript (.Name (Str.ofString "row") p6) ie p7] [] p8) .Mult
      (.BinOp (.Constant (.int 2) k3 p9) .Pow (.IfExp (.Compare (.Name flag p10) [.Eq] [.Constant (.int c2) k4 p11] p12) (.Constant (.int 1100) k5 p13) (.Constant (.int 0) k6 p14) p15) p16) p17) p18) (VQ fun A l => l = lc ∧ ∃ o, A = vO o ∧ ElO 1 o) X := by
  have rm : Room (F.fn A (fdAt (K8 P) 44) 108 L).A 1 := (Room.deeper hr _).less (by decide)
  refine ev_ifexp (tst_cmp (ev_name hf (ev_int (cmp_eq ⟨_, rfl, ?_⟩)) hd hn))
  by_cases c : r = c1
  · rw [show (r == c1) = true from beq_iff_eq.mpr c]
    exact ev_none ⟨rfl, none, rfl, fun i hi => by cases hi⟩
  · rw [show (r == c1) = false from beq_eq_false_iff_ne.mpr c]
    refine ev_bin (ev_call l.small (l.fn (fn_small P)) (args_cons (ev_val (ev_sub (ev_name hrow (hie (it_lst hz hk hg (args_nil (kws_nil ⟨1, _, _, rm, c_small l x, fun R hR => ?_, fun _ z => z.elim⟩)) hs)))))))
    subst hR
    refine ev_bin (ev_int (ev_ifexp (tst_cmp (ev_name hf (ev_int (cmp_eq ⟨_, rfl, ?_⟩)) hd hn))))
    by_cases c' : r = c2
    · rw [show (r == c2) = true from beq_iff_eq.mpr c']
      refine ev_int (op_pow (by decide) (by decide +kernel) (op_mul ⟨rfl, some _, rfl, fun i hi => ?_⟩ (mul_small x 1100 (Nat.le_refl _))))
      cases hi; exact .great x
    · rw [show (r == c2) = false from beq_eq_false_iff_ne.mpr c']
      refine ev_int (op_pow (by decide) (by decide +kernel) (op_mul ⟨rfl, some _, rfl, fun i hi => ?_⟩ (mul_small x 0 (by decide))))
      cases hi; exact .small x
theorem row_get {rs : List Int} {k : Int} (h1 : -(rs.length : Int) ≤ k) (h2 : k < rs.length) : (rs.map V.int)[pyIdx k (rs.map V.int).length]? = some (.int (rs.getD (pyIdx k rs.length) 0)) := by
  have hlt : pyIdx k rs.length < rs.length := by
    unfold pyIdx
    split <;> omega
  rw [List.length_map, List.getElem?_map, List.getElem?_eq_getElem hlt, List.getD_eq_getElem?_getD, List.getElem?_eq_getElem hlt]; rfl
/- what the law's first loop keeps -/
structure MkAt (b1 b2 : Addr) (rs : List Int) (n : Nat) (l : Loc) : Prop where
  ex : ∃ ds ws : List (Option Int), ds.length = n ∧ ws.length = n ∧ (∀ o ∈ ds, ElO 1 o) ∧ (∀ o ∈ ws, ElO 1 o) ∧ l.lookup (Str.ofString "data") = some (.own b1 (ds.map vO)) ∧ l.lookup (Str.ofString "weights") = some (.own b2 (ws.map vO))
  r : Has l "row" (.lst (rs.map .int))
  t : l.lookup (gh 58) = some (.itr 58 [tagV])
set_option maxHeartbeats 4000000 in
theorem law_make (l : Land (K8 P) F) {b1 b2 : Addr} {rs : List Int} {n : Nat} {A : Around} {L : Addr} {lc : Loc} (hr : Room A 4) (hrs : rs.length ≤ 76) (hn : n < rs.length) (h : MkAt b1 b2 rs n lc) (hi : Has lc "i" (.int n)) {QF : Fl → Loc → Prop} (hQ : ∀ l', MkAt b1 b2 rs (n + 1) l' → QF .next l') :
    Exs (F.fn A (fdAt (K8 P) 44) 108 L) lc (lb1 P) QF NoX := by
  refine gg fun GG hGG => ?_
  obtain ⟨⟨ds, ws, e1, e2, o1, o2, h1, h2⟩, hrow, ht⟩ := h
  refine hGG ?_
  have hz : (rs.map V.int).length ≤ sizeLine := len7 (by simp; omega)
  have i1 : -((rs.map V.int).length : Int) ≤ (n : Int) ∧ (n : Int) < ((rs.map V.int).length : Int) := by simp; omega
  have i2 : -((rs.map V.int).length : Int) ≤ (n : Int) - 1 ∧ (n : Int) - 1 < ((rs.map V.int).length : Int) := by simp; omega
  have g1 := row_get (rs := rs) (k := (n : Int)) (by omega) (by omega)
  have g2 := row_get (rs := rs) (k := (n : Int) - 1) (by omega) (by omega)
  conv => arg 3; whnf
  refine exs_let (.inl rfl) (ev_bin (ev_sub (ev_name hrow (ev_name hi (it_lst hz i1 g1 (ev_int (op_mod (by decide) ?_)))))))
  refine exs_let (.inl rfl) (ev_bin (ev_sub (ev_name (loc_put hrow rfl) (ev_bin (ev_name (loc_put hi rfl) (ev_int (op_sub (it_lst hz i2 g2 (ev_int (op_mod (by decide) ?_))))))))))
  generalize (rs.getD (pyIdx (n : Int) rs.length) 0) = x1 at g1
  generalize (rs.getD (pyIdx ((n : Int) - 1) rs.length) 0) = x2 at g2
  refine exs_cons (ex_append (loc_put (loc_put h1 rfl) rfl) (Ev.mono (ev_datum l hr (loc_put (lookup_cons_self ..) rfl) (loc_put (loc_put hrow rfl) rfl) hz i1 g1 (fun hq => ev_name (loc_put (loc_put hi rfl) rfl) hq) (by decide) (by decide) (by intro _ _; with_unfolding_all rfl)) (fun lv lx q => ?_) fun _ _ z => z))
  cases lv with
  | own _ _ => exact q.elim
  | itr _ _ => exact q.elim
  | val D =>
    obtain ⟨rfl, o, rfl, ho⟩ := q
    refine ⟨_, loc_put (loc_put h1 rfl) rfl, Nat.lt_of_lt_of_le (show (ds.map vO).length < 80 by simp; omega) (by decide), ?_⟩
    refine exs_cons (ex_append (loc_put (loc_put (loc_put h2 rfl) rfl) rfl) (Ev.mono (ev_datum l hr (flag := Str.ofString "ahead") (loc_put (lookup_cons_self ..) rfl) (loc_put (loc_put (loc_put hrow rfl) rfl) rfl) hz i2 g2 (fun hq => ev_bin (ev_name (loc_put (loc_put (loc_put hi rfl) rfl) rfl) (ev_int (op_sub hq)))) (by decide) (by decide) (by intro _ _; with_unfolding_all rfl)) (fun lv lx q => ?_) fun _ _ z => z))
    cases lv with
    | own _ _ => exact q.elim
    | itr _ _ => exact q.elim
    | val D =>
      obtain ⟨rfl, o', rfl, ho'⟩ := q
      refine ⟨_, loc_put (loc_put (loc_put h2 rfl) rfl) rfl, Nat.lt_of_lt_of_le (show (ws.map vO).length < 80 by simp; omega) (by decide), ?_⟩
      refine exs_nil (hQ _ ⟨⟨ds ++ [o], ws ++ [o'], by simp [e1], by simp [e2], OkR.snoc (n := 0) o1 ho, OkR.snoc (n := 0) o2 ho', ?_, ?_⟩, ?_, ?_⟩)
      · refine loc_put ((lookup_cons_self ..).trans ?_) rfl
        rw [List.map_append]; rfl
      · refine (lookup_cons_self ..).trans ?_
        rw [List.map_append]; rfl
      · exact loc_put (loc_put (loc_put (loc_put hrow rfl) rfl) rfl) rfl
      · exact loc_put (loc_put (loc_put (loc_put ht (gh_ne (by decide) _)) (gh_ne (by decide) _)) (gh_ne (by decide) _)) (gh_ne (by decide) _)
end Mine
end
section
open PySem PySem.W PyProof.Rows
set_option linter.unusedVariables false
set_option maxRecDepth 100000
set_option exponentiation.threshold 4000
namespace Mine
variable {F : Fix} {P : Params}
noncomputable abbrev tailN : List Int := [6, -11, 20, 9, 30, 29, 4, 31, 9, 8, 28, 5, 7]
theorem rng_item {n : Int} {i : Nat} {B : V} (h0 : 0 ≤ n) (hB : (V.items (.rng 0 n 1))[i]? = some B) : i < n.toNat ∧ B = .int i := by
  obtain ⟨m, rfl⟩ := Int.eq_ofNat_of_zero_le h0
  exact rng_get hB
theorem ints_item {bs : List Int} {i : Nat} {B : V} (h : (V.items (.lst (bs.map .int)))[i]? = some B) : ∃ b, B = .int b := by
  have h' : (bs.map V.int)[i]? = some B := h
  rw [List.getElem?_map] at h'
  cases q : bs[i]? with
  | none => rw [q] at h'; cases h'
  | some b => rw [q] at h'; cases h'; exact ⟨b, rfl⟩
theorem args_int {Γ : Cx} {loc : Loc} {X : Exc → Loc → Prop} {QA : List V → Loc → Prop} {pos : Pos} {es : List Expr} {i : Int} {k : Nat} {p : Pos} (h : Args' Γ loc pos es (AllVal fun As l' => QA (.int i :: As) l') X) : Args' Γ loc pos (.Constant (.int i) k p :: es) (AllVal QA) X := args_val (ev_int h)
theorem args_nint {Γ : Cx} {loc : Loc} {X : Exc → Loc → Prop} {QA : List V → Loc → Prop} {pos : Pos} {es : List Expr} {i : Int} {k : Nat} {p p' : Pos} (h : Args' Γ loc pos es (AllVal fun As l' => QA (.int (-i) :: As) l') X) : Args' Γ loc pos (.UnaryOp .USub (.Constant (.int i) k p) p' :: es) (AllVal QA) X := args_val (ev_un (ev_int (op_neg h)))
set_option maxHeartbeats 8000000 in
/- the law of 08 -/
theorem c_law (l : Land (K8 P) F) (gl : CodeLand F 62 58) (ns : List Int) (hn : ns.length ≤ 63) : CallsG F (.ref 108) 4 [.lst (ns.map .int)] [] [] [tb] HQ (fun _ _ => False) := by
  refine callsG_of (names := ["script"]) (dlvs := []) (defs := []) (l.fn (fn_law P)) (by decide) (by intro x hx; simp at hx; subst hx; exact .inl rfl) rfl (fun H => reps_nil H) (fun b => rfl) (fun s vals kvals hb h1 h2 => ?_) fun A L hr => ?_
  · obtain ⟨v, rfl⟩ := len_one h1
    obtain rfl := len_nil h2
    exact @BindsTo.of_eq _ _ _ _ (by kernel_rfl)
  · show Exs _ (Gs.loc [tb] ++ ([("script", .val (.lst (ns.map .int)))] : Loc)) _ _ _
    have hhd := hr.handled
    have hs : Has (Gs.loc [tb] ++ ([("script", .val (.lst (ns.map .int)))] : Loc)) "script" (.lst (ns.map .int)) := gloc_has (not_gh (by decide)) rfl
    have ht : List.lookup (gh 58) (Gs.loc [tb] ++ ([("script", .val (.lst (ns.map .int)))] : Loc)) = some (.itr 58 [tagV]) := gloc_at (by decide) tb (by simp)
    generalize (Gs.loc [tb] ++ ([("script", .val (.lst (ns.map .int)))] : Loc)) = lc at hs ht
    have mk := fun (b1 b2 : Addr) (rs : List Int) (n : Nat) (lc : Loc) (QF : Fl → Loc → Prop) hrs hn h hi hQ => law_make (A := A) (L := L) (lc := lc) (QF := QF) (b1 := b1) (b2 := b2) (rs := rs) (n := n) l hr hrs hn h hi hQ
    have inn := fun (ds ws : List (Option Int)) (lc : Loc) (a b : Int) (QF : Fl → Loc → Prop) okd okw hl ha hb hQ => law_inner (A := A) (L := L) (lc := lc) (QF := QF) (a := a) (b := b) (ds := ds) (ws := ws) l gl okd okw hr hl ha hb hQ
    conv => arg 3; whnf
    refine exs_let (.inl rfl) (ev_bin (ev_name hs (ev_list (@args_int _ _ _ _ _ _ _ _ _ (@args_nint _ _ _ _ _ _ _ _ _ _ (@args_int _ _ _ _ _ _ _ _ _ (@args_int _ _ _ _ _ _ _ _ _ (@args_int _ _ _ _ _ _ _ _ _ (@args_int _ _ _ _ _ _ _ _ _ (@args_int _ _ _ _ _ _ _ _ _ (@args_int _ _ _ _ _ _ _ _ _ (@args_int _ _ _ _ _ _ _ _ _ (@args_int _ _ _ _ _ _ _ _ _ (@args_int _ _ _ _ _ _ _ _ _ (@args_int _ _ _ _ _ _ _ _ _ (@args_int _ _ _ _ _ _ _ _ _ (args_val_nil ⟨by show 13 ≤ sizeLine; decide, op_add_lst (len7 (by simp; lia)) ?_⟩)))))))))))))))))
    have erow : (ns.map V.int ++ [.int 6, .int (-11), .int 20, .int 9, .int 30, .int 29, .int 4, .int 31, .int 9, .int 8, .int 28, .int 5, .int 7] : List V) = (ns ++ tailN).map .int := by rw [List.map_append]; rfl
    rw [erow]
    have hrs : (ns ++ tailN).length ≤ 76 := by simp; omega
    generalize ns ++ tailN = rs at hrs
    have hz : (rs.map V.int).length ≤ sizeLine := len7 (by simp; lia)
    have hlr : (rs.map V.int).length = rs.length := by simp
    refine exs_cons (ex_assign (ev_nil_own fun b1 => ?_) (.inl rfl))
    refine exs_cons (ex_assign (ev_nil_own fun b2 => ?_) (.inl rfl))
    have hrow0 : Has ((Str.ofString "weights", LV.own b2 []) :: (Str.ofString "data", LV.own b1 []) :: (Str.ofString "row", LV.val (.lst (rs.map .int))) :: lc) "row" (.lst (rs.map .int)) := loc_put (loc_put (lookup_cons_self ..) rfl) rfl
    have h0 : MkAt b1 b2 rs 0 ((Str.ofString "weights", LV.own b2 []) :: (Str.ofString "data", LV.own b1 []) :: (Str.ofString "row", LV.val (.lst (rs.map .int))) :: lc) :=
      ⟨⟨[], [], rfl, rfl, (fun _ h => by cases h), (fun _ h => by cases h), loc_put (lookup_cons_self ..) rfl, lookup_cons_self ..⟩, hrow0, loc_put (loc_put (loc_put ht (gh_ne (by decide) _)) (gh_ne (by decide) _)) (gh_ne (by decide) _)⟩
    generalize ((Str.ofString "weights", LV.own b2 []) :: (Str.ofString "data", LV.own b1 []) :: (Str.ofString "row", LV.val (.lst (rs.map .int))) :: lc) = l0 at hrow0 h0
    refine exs_cons (ex_for (ev_type l.range (args_val (ev_builtin l.len (args_val (ev_name hrow0 (args_val_nil (bi_len_lst hz (args_val_nil (bi_range1 ?_))))))))) (.inl rfl) hhd)
    rw [hlr]
    refine ⟨small_one (by decide) (by simp; lia), fun i l' => MkAt b1 b2 rs i l', h0, fun i B l1 hB h1 => ?_, fun l1 h1 => ?_⟩
    · obtain ⟨hin, rfl⟩ := rng_get hB
      exact mk b1 b2 rs i _ _ hrs hin ⟨let ⟨ds, ws, e1, e2, e3, e4, e5, e6⟩ := h1.ex; ⟨ds, ws, e1, e2, e3, e4, loc_put e5 rfl, loc_put e6 rfl⟩, loc_put h1.r rfl, loc_put h1.t (gh_ne (by decide) _)⟩ (lookup_cons_self ..) (fun l' h => h)
    · rw [rng_len] at h1
      refine gg fun GG hGG => ?_
      obtain ⟨⟨ds, ws, e1, e2, o1, o2, g1, g2⟩, hrow, ht1⟩ := h1
      refine hGG ?_
      have okd : OkR ds := ⟨by lia, o1⟩
      have okw : OkR ws := ⟨by lia, o2⟩
      refine exs_freeze g1 (exs_freeze (loc_put g2 rfl) ?_)
      have hl : LwAt ds ws ((Str.ofString "weights", LV.val (.lst (ws.map vO))) :: (Str.ofString "data", LV.val (.lst (ds.map vO))) :: l1) := ⟨loc_put (lookup_cons_self ..) rfl, lookup_cons_self .., loc_put (loc_put ht1 (gh_ne (by decide) _)) (gh_ne (by decide) _)⟩
      have hrow2 : Has ((Str.ofString "weights", LV.val (.lst (ws.map vO))) :: (Str.ofString "data", LV.val (.lst (ds.map vO))) :: l1) "row" (.lst (rs.map .int)) := loc_put (loc_put hrow rfl) rfl
      generalize ((Str.ofString "weights", LV.val (.lst (ws.map vO))) :: (Str.ofString "data", LV.val (.lst (ds.map vO))) :: l1) = l2 at hl hrow2
      refine exs_cons (ex_for (ev_type l.range <| args_val <| ev_bin <| ev_builtin l.len <| args_val <| ev_name hrow2 <| args_val_nil <| bi_len_lst hz <| ev_int <| op_add <| args_val_nil <| bi_range1 ?_) (.inl rfl) hhd)
      refine ⟨small_one (by decide) (by simp; lia), fun _ l' => LwAt ds ws l', hl, fun i B l3 hB h3 => ?_, fun l3 h3 => ?_⟩
      · obtain ⟨hin, rfl⟩ := rng_item (by simp; lia) hB
        have h4 := h3.var (x := Str.ofString "a") (lv := .val (.int i)) (by decide) (by decide) (by decide)
        have ha4 : Has ((Str.ofString "a", LV.val (.int i)) :: l3) "a" (.int i) := lookup_cons_self ..
        generalize ((Str.ofString "a", LV.val (.int i)) :: l3) = l4 at h4 ha4
        have turn : ∀ (bs : List Int) (k : Nat) (B : V) (l5 : Loc) (QF : Fl → Loc → Prop), (V.items (.lst (bs.map .int)))[k]? = some B → (LwAt ds ws l5 ∧ Has l5 "a" (.int i)) → (∀ l', LwAt ds ws l' ∧ Has l' "a" (.int i) → QF .next l') →
            Exs (F.fn A (fdAt (K8 P) 44) 108 L) ((Str.ofString "b", LV.val B) :: l5) (lb2 P) QF NoX := fun bs k B l5 QF hB h5 hQ => by
          obtain ⟨b, rfl⟩ := ints_item hB
          exact inn ds ws _ i b QF okd okw (h5.1.var (by decide) (by decide) (by decide)) (loc_put h5.2 rfl) (lookup_cons_self ..) fun l' h ha => hQ l' ⟨h, ha⟩
        refine exs_cons (ex_for (ev_ifexp (tst_cmp (ev_name ha4 (ev_int (cmp_lt ⟨_, rfl, ?_⟩))))) (.inl rfl) hhd)
        by_cases c : (i : Int) < 5
        · rw [decide_eq_true c]
          refine ev_list (args_val (ev_int (args_val_nil ⟨by show 1 ≤ sizeLine; decide, ?_⟩)))
          exact ⟨trivial, fun _ l' => LwAt ds ws l' ∧ Has l' "a" (.int i), ⟨h4, ha4⟩, fun k B l5 hB h5 => turn [0] k B l5 _ hB h5 (fun l' h => h), fun l5 h5 => exs_nil h5.1⟩
        · rw [decide_eq_false c]
          refine ev_list (args_val (ev_int (args_val (ev_bin (ev_name ha4 (ev_int (op_sub (args_val_nil ⟨by show 2 ≤ sizeLine; decide, ?_⟩))))))))
          exact ⟨trivial, fun _ l' => LwAt ds ws l' ∧ Has l' "a" (.int i), ⟨h4, ha4⟩, fun k B l5 hB h5 => turn [0, (i : Int) - 4] k B l5 _ hB h5 (fun l' h => h), fun l5 h5 => exs_nil h5.1⟩
      · exact exs_ret (ev_bool ⟨[tb], ⟨rfl, fun p hp => by rw [List.mem_singleton.mp hp]; exact h3.t⟩, rfl, rfl⟩)
end Mine
end
open PySem PySem.W PyProof.Rows
set_option linter.unusedVariables false
set_option maxRecDepth 100000
namespace Mine
/- the land with the table of code objects lent -/
noncomputable abbrev fixG (prog : Program) (w : World) (s₁ : Shared) (tabs : List (Addr × Addr)) : Fix := ⟨prog, w, ghostOf s₁.heap tabs, s₁.os, fun _ => False⟩
theorem landG_of {p prog : Program} {K : Frag} {w : World} {loose : List Str} {mean : ExcName → Option Value} {mg mb : Str → Option Value} {s₁ : Shared} {tabs : List (Addr × Addr)} (T : Top p loose mean mg mb s₁.heap) (hT : TabsAt tabs s₁.heap) (X : K.In s₁.heap) (hK : noTabs K = true) : Land K (fixG prog w s₁ tabs) :=
  ⟨ghost_K hT X hK, ⟨_, ghost_ns hT T.g⟩, ⟨_, ghost_ns hT T.b, T.builtins⟩, let ⟨mc, a, r⟩ := T.nolimit; ⟨mc, ghost_ns hT a, r⟩⟩
theorem codeLand_of {p prog : Program} {w : World} {loose : List Str} {mean : ExcName → Option Value} {mg mb : Str → Option Value} {s₁ : Shared} {tabs : List (Addr × Addr)} {c P : Addr} (T : Top p loose mean mg mb s₁.heap) (hT : TabsAt tabs s₁.heap) (hm : (c, P) ∈ tabs) : CodeLand (fixG prog w s₁ tabs) c P :=
  have g := genLand_of (prog := prog) (w := w) T hT hm
  ⟨g.code, g.bm, g.lim⟩
/- the law's own call, the table lent -/
theorem fin_lawG {c : ClaimW} {cl : Str → Option Addr} {mean : ExcName → Option Value} {prog : Program} {w : World} {s₁ : Shared} {args : List WData} {l : Addr} {vs : List Value} {ns : List Int} {fa : Addr} {d : Nat} {cd : Addr} (hT : TabsAt [(cd, 58)] s₁.heap)
    (hd : d ≤ 100) (hL : s₁.heap.IsList l vs.toArray) (hI : IntsAre vs ns) (hg : s₁.gens = #[]) (hraise : ∀ cls, c.raises args cls = false) (hpost : c.post args (.bool true) args = true)
    (h : CallsG (fixG prog w s₁ [(cd, 58)]) (.ref fa) d [.lst (ns.map .int)] [] [] [tb] HQ (fun _ _ => False)) :
    wpAny (model prog w) callerA (call (.ref fa) [.ref l]) (fun v s' => GoodWG c cl mean args s₁ (.ok (.ret v)) s') (fun e s' => GoodWG c cl mean args s₁ (.error e) s') s₁ := by
  refine gg fun GG hGG => ?_
  obtain ⟨o, h1, h2, n, h3⟩ := hL
  refine hGG ?_
  have hd' : Solid o := ⟨fun es ep e => (by rw [h3] at e; cases e), by rw [h2]; simp⟩
  have h58 := hT (cd, 58) (List.mem_singleton.mpr rfl)
  have hl58 : l ≠ 58 := fun z => by
    subst z
    rw [h58.2] at h1; cases h1; cases h2
  have hb58 : (ghostOf s₁.heap [(cd, 58)]).get? 58 = none := hideAll_none _ (by simp)
  refine wpAny_mono (h callerA (Hset (fun _ => none) l o) s₁ [.ref l] [] ⟨rfl, by show 1 + claimMargin + d < 1000; simp only [claimMargin]; omega, by show 4 + 3 * d + 100 < 9900; omega⟩ ?_ ?_ (reps_nil _) ?_) ?_ ?_
  · refine ⟨fun _ _ e => of_hideAll _ e, fun b q e => ?_, fun b q e => ?_, rfl, .of_eq hg, ⟨[], rfl, fun _ e => by cases e⟩, fun b e => e.elim⟩
    · rcases Hset.cases e with ⟨rfl, rfl⟩ | e
      · exact h1
      · cases e
    · rcases Hset.cases e with ⟨rfl, rfl⟩ | e
      · exact hd'
      · cases e
  · exact reps_cons (rep_lst (Hset.self _ _ _) h2 h3 (reps_ints hI)) (reps_nil _)
  · refine ⟨by decide, fun p hp => ?_⟩
    rw [List.mem_singleton.mp hp]
    refine ⟨.inr ⟨rfl, #[], h58.2, trivial, fun pos cv e => by cases e⟩, hb58, ?_, id⟩
    show Hset _ l o 58 = none
    simp [Hset, Ne.symm hl58]
  · intro v s' hRR
    refine gg fun GG hGG => ?_
    obtain ⟨H', R, gs', _, nx, ws, r, ga, rfl, rfl⟩ := hRR
    refine hGG ?_
    cases r.bool_of
    have tab : ∃ ps, s'.heap.get? 58 = some (tabObj ps) := by
      obtain ⟨hi, _⟩ := ga.at_ tb (List.mem_singleton.mpr rfl)
      rcases hi with hi | ⟨_, ps, e, _⟩
      · rcases hi with ⟨l', i, o', xs, n', _, _, _, _, rr⟩ | ⟨z, _⟩
        · simp only [Reps] at rr
          refine gg fun GG hGG => ?_
          obtain ⟨y, ys, _, rr, _⟩ := rr
          refine hGG ?_
          simp only [tagV, Rep] at rr
          refine gg fun GG hGG => ?_
          obtain ⟨a, o'', vs', t, ot, n'', tk, _, g1, g2, _⟩ := rr
          refine hGG ?_
          exact absurd g2 (ws.nofr _ _ g1).2
        · cases z
      · exact ⟨ps, e⟩
    obtain ⟨ps, hP⟩ := tab
    refine ⟨.inl ⟨_, .bool true, [], rfl, hraise, .bool _, hpost, fun _ => ⟨List.nodup_nil, fun a e => by cases e⟩⟩, ⟨fun b o e => ?_, fun b o e => ?_⟩, ws.os, ws.gens⟩
    · by_cases hb : b = 58
      · subst hb
        rw [h58.2] at e; cases e
        exact .inr (.inl ⟨(h58.1.tab h58.2).isCodeTable, rfl, #[], ps, rfl, by rw [Array.empty_append]; exact hP⟩)
      · exact .inl (ws.base b o (ghost_ne e (by simpa using hb)))
    · by_cases hb : b = 58
      · subst hb; exact ⟨_, hP⟩
      · exact ⟨o, ws.base b o (ghost_ne e (by simpa using hb))⟩
  · intro e s' hRR
    refine gg fun GG hGG => ?_
    obtain ⟨H', x, gs', _, nx, ws, fl, ga, q⟩ := hRR
    refine hGG ?_
    exact q.elim
end Mine
set_option maxHeartbeats 8000000 in
theorem PySem.Challenge.cw_dn0169_08_holds : PySem.Challenge.rw_dn0169_08.Holds := by
  refine Mine.hd08 ?_
  intro w s₀ s₁ mg mb G Y fa o pm cd doc dV kV ho hd hcd hD hmg hg args vals as hpre hlay hrd hwl hlo
  have T := G.T
  have KX := km_in_of Y
  have hfa : fa = 108 := by
    have e := mg_of KX T.g (n := "law") (v := .ref 108) rfl
    have e' : mg "law" = some (.ref fa) := hmg
    rw [e'] at e
    cases e; rfl
  subst hfa
  wrow_args hpre hlay hrd hwl hlo
  rename IntsAre _ _ => hI
  rename Heap.IsList _ _ _ => hL
  rename PyData.layable0 _ = true => hlay0
  rename ¬ ((63 : Nat) : Int) < _ => hlen
  have hT : TabsAt [(62, 58)] s₁.heap := by
    intro q hq
    rw [List.mem_singleton.mp hq]
    exact ⟨codeHd_of_K KX (by kernel_rfl), km_tabs_of Y 58 (List.mem_singleton.mpr rfl)⟩
  refine Mine.fin_lawG (d := 4) hT (by decide) hL hI hg (fun _ => rfl) (postW_of rfl (w_eq_bool (w_res rfl) w_lit) rfl) ?_
  exact Mine.c_law (P := w.params) (Mine.landG_of T hT KX (by rfl)) (Mine.codeLand_of T hT (List.mem_singleton.mpr rfl)) _ (by omega)
