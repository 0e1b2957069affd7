import PyProof.Rows.All
import Wide.All
import OpenK.AllK
import Wide.FinOn
import PySem.Challenge.RW_dn0169_02
set_option Elab.async false
section
open PySem PySem.W PyProof.Rows
namespace Mine

/-- abstract values -/
inductive V where
  | none
  | bool (b : Bool)
  | int (i : Int)
  | flt (x : UInt64)
  | str (x : Str)
  | tup (vs : List V)
  | lst (vs : List V)
  | con (v : Value)
  | rng (a b c : Int)
  | exc (cls : Value) (m : Str)

abbrev Hm := Addr → Option Obj

mutual
def Rep (H : Hm) : V → Value → Prop
  | .none, v => v = .none
  | .bool b, v => v = .bool b
  | .int i, v => ∃ t, v = .int i t
  | .flt x, v => ∃ t, v = .float x t
  | .str x, v => ∃ t, v = .str x t
  | .con c, v => v = c
  | .exc c m, v => ∃ a o vs t ot n tk, v = .ref a ∧ H a = some o ∧ o.cls = c ∧ o.data = .fields vs ∧ vs[0]? = some (.ref t) ∧ H t = some ot ∧ ot.cls = .type "tuple" ∧ ot.data = .seq #[.str m tk] n
  | .rng i j k, v => ∃ r t u w, v = .ref r ∧ H r = some { cls := .type "range", dict := none, data := .fields #[.int i t, .int j u, .int k w], slots := #[] }
  | .tup As, v => ∃ a o xs n, v = .ref a ∧ H a = some o ∧ o.cls = .type "tuple" ∧ o.data = .seq xs n ∧ Reps H As xs.toList
  | .lst As, v => ∃ a o xs n, v = .ref a ∧ H a = some o ∧ o.cls = .type "list" ∧ o.data = .seq xs n ∧ Reps H As xs.toList
def Reps (H : Hm) : List V → List Value → Prop
  | [], xs => xs = []
  | A :: As, xs => ∃ y ys, xs = y :: ys ∧ Rep H A y ∧ Reps H As ys
end

def Hle (H H' : Hm) : Prop := ∀ b o, H b = some o → H' b = some o
theorem Hle.refl (H : Hm) : Hle H H := fun _ _ e => e
theorem Hle.trans {H H' H'' : Hm} (x : Hle H H') (y : Hle H' H'') : Hle H H'' := fun b o e => y b o (x b o e)

mutual
theorem Rep.mono {H H' : Hm} (hle : Hle H H') : ∀ (A : V) (v : Value), Rep H A v → Rep H' A v
  | .none, _, h => by simpa only [Rep] using h
  | .bool _, _, h => by simpa only [Rep] using h
  | .int _, _, h => by simpa only [Rep] using h
  | .flt _, _, h => by simpa only [Rep] using h
  | .str _, _, h => by simpa only [Rep] using h
  | .con _, _, h => by simpa only [Rep] using h
  | .exc _ _, _, h => by
    simp only [Rep] at h ⊢
    obtain ⟨a, o, vs, t, ot, n, tk, h1, h2, h3, h4, h5, h6, h7⟩ := h
    exact ⟨a, o, vs, t, ot, n, tk, h1, hle _ _ h2, h3, h4, h5, hle _ _ h6, h7⟩
  | .rng _ _ _, _, h => by
    simp only [Rep] at h ⊢
    obtain ⟨r, t, u, w, h1, h2⟩ := h
    exact ⟨r, t, u, w, h1, hle _ _ h2⟩
  | .tup As, v, h => by
    simp only [Rep] at h ⊢
    obtain ⟨a, o, xs, n, h1, h2, h3, h4, h5⟩ := h
    exact ⟨a, o, xs, n, h1, hle _ _ h2, h3, h4, Reps.mono hle As _ h5⟩
  | .lst As, v, h => by
    simp only [Rep] at h ⊢
    obtain ⟨a, o, xs, n, h1, h2, h3, h4, h5⟩ := h
    exact ⟨a, o, xs, n, h1, hle _ _ h2, h3, h4, Reps.mono hle As _ h5⟩
theorem Reps.mono {H H' : Hm} (hle : Hle H H') : ∀ (As : List V) (xs : List Value), Reps H As xs → Reps H' As xs
  | [], _, h => by simpa only [Reps] using h
  | A :: As, xs, h => by
    simp only [Reps] at h ⊢
    obtain ⟨y, ys, h1, h2, h3⟩ := h
    exact ⟨y, ys, h1, Rep.mono hle A y h2, Reps.mono hle As ys h3⟩
end

/-- what a local name holds: a value; a list of the frame's own; an iterator of the frame's own -/
inductive LV where
  | val (A : V)
  | own (b : Addr) (As : List V)
  | itr (As : List V)
def LV.mine : LV → Bool
  | .val _ => false
  | _ => true

abbrev Loc := List (Str × LV)

structure Fix where
  prog : Program
  w : World
  h₁ : Heap
  os : OsState
  tab : Addr → Prop

structure Cx where
  F : Fix
  A : Around
  env : Env
  mine : Str → Bool

abbrev Cx.M (Γ : Cx) : Model := model Γ.F.prog Γ.F.w

/-- a plain object, neither a namespace nor one of the interpreter's tables -/
def Solid (o : Obj) : Prop := (∀ es ep, o.data ≠ .dict es ep) ∧ o.cls ≠ .none
/-- a table of code objects, grown -/
def TabGrown (o o' : Obj) : Prop := ∃ vs more : Array Value, o = tabObj vs ∧ o' = tabObj (vs ++ more) ∧ TriplesOk (vs ++ more).toList
def Same (F : Fix) (b : Addr) (o o' : Obj) : Prop :=
  o' = o ∨ (F.h₁.get? b = none ∧ (∃ es ep, o.data = .dict es ep) ∧ o'.cls = o.cls ∧ o'.data = o.data ∧ o'.dict = o.dict) ∨ (F.tab b ∧ F.h₁.get? b = none ∧ TabGrown o o')
theorem Same.refl (F : Fix) (b : Addr) (o : Obj) : Same F b o o := .inl rfl
theorem Same.cls {F : Fix} {b : Addr} {o o' : Obj} (h : Same F b o o') : o'.cls = o.cls := by
  rcases h with rfl | h | ⟨_, _, vs, more, rfl, rfl, _⟩
  · rfl
  · exact h.2.2.1
  · rfl
theorem Same.data {F : Fix} {b : Addr} {o o' : Obj} (h : Same F b o o') (hf : (∀ vs, o.data ≠ .fields vs) ∨ o.cls ≠ .none) : o'.data = o.data := by
  rcases h with rfl | h | ⟨_, _, vs, more, rfl, rfl, _⟩
  · rfl
  · exact h.2.2.2.1
  · rcases hf with hf | hf
    · exact absurd rfl (hf vs)
    · exact absurd rfl hf
theorem Same.dict {F : Fix} {b : Addr} {o o' : Obj} (h : Same F b o o') : o'.dict = o.dict := by
  rcases h with rfl | h | ⟨_, _, vs, more, rfl, rfl, _⟩
  · rfl
  · exact h.2.2.2.2
  · rfl
theorem Same.trans {F : Fix} {b : Addr} {o o' o'' : Obj} (x : Same F b o o') (y : Same F b o' o'') : Same F b o o'' := by
  rcases x with rfl | ⟨x1, x2, x3, x4, x5⟩ | ⟨x1, x2, vs, more, rfl, rfl, x6⟩
  · exact y
  · obtain ⟨es, ep, x2⟩ := x2
    have hnf : ∀ vs, o'.data ≠ .fields vs := fun vs e => by rw [x4, x2] at e; cases e
    exact .inr (.inl ⟨x1, ⟨es, ep, x2⟩, y.cls.trans x3, (y.data (.inl hnf)).trans x4, y.dict.trans x5⟩)
  · rcases y with rfl | ⟨_, ⟨es, ep, y⟩, _⟩ | ⟨_, _, vs', more', y3, rfl, y5⟩
    · exact .inr (.inr ⟨x1, x2, vs, more, rfl, rfl, x6⟩)
    · cases y
    · have e : vs' = vs ++ more := by injection y3 with _ _ e _; injection e with e; exact e.symm
      subst e
      exact .inr (.inr ⟨x1, x2, vs, more ++ more', rfl, by rw [Array.append_assoc], by rw [← Array.append_assoc]; exact y5⟩)
theorem Same.eq_of_data {F : Fix} {b : Addr} {o o' : Obj} (h : Same F b o o') (hc : Solid o) : o' = o := by
  rcases h with h | ⟨_, ⟨es, ep, h⟩, _⟩ | ⟨_, _, vs, more, rfl, _⟩
  · exact h
  · exact absurd h (hc.1 es ep)
  · exact absurd rfl hc.2
theorem Same.eq_of_notab {F : Fix} {b : Addr} {o o' : Obj} (h : Same F b o o') (hc : ∀ es ep, o.data ≠ .dict es ep) (ht : ¬ F.tab b) : o' = o := by
  rcases h with h | ⟨_, ⟨es, ep, h⟩, _⟩ | ⟨h, _⟩
  · exact h
  · exact absurd h (hc es ep)
  · exact absurd h ht
theorem Same.eq_of_base {F : Fix} {b : Addr} {o o' q : Obj} (h : Same F b o o') (hb : F.h₁.get? b = some q) : o' = o := by
  rcases h with h | h | h
  · exact h
  · rw [hb] at h; cases h.1
  · rw [hb] at h; cases h.2.1
/-- a table is where it was, grown perhaps -/
def TabAt (h : Heap) (b : Addr) : Prop := ∃ vs : Array Value, h.get? b = some (tabObj vs) ∧ TriplesOk vs.toList
theorem TabAt.same {F : Fix} {h h' : Heap} {b : Addr} (x : TabAt h b) (k : ∀ o, h.get? b = some o → ∃ o', h'.get? b = some o' ∧ Same F b o o') : TabAt h' b := by
  obtain ⟨vs, e, t⟩ := x
  obtain ⟨o', e', sm⟩ := k _ e
  rcases sm with rfl | ⟨_, ⟨es, ep, q⟩, _⟩ | ⟨_, _, vs', more, q, rfl, t'⟩
  · exact ⟨vs, e', t⟩
  · cases q
  · exact ⟨_, e', t'⟩

abbrev OSet := Addr → Prop

/-- the relation of two states of one activation -/
structure Nx (F : Fix) (H : Hm) (O : OSet) (h : Heap) (H' : Hm) (O' : OSet) (h' : Heap) : Prop where
  kp : ∀ b o, h.get? b = some o → ¬ O b → ∃ o', h'.get? b = some o' ∧ Same F b o o'
  there : ∀ b o, h.get? b = some o → ∃ o', h'.get? b = some o'
  hle : Hle H H'
  hnew : ∀ b o, H' b = some o → H b = some o ∨ O b ∨ h.get? b = none
  onew : ∀ b, O' b → O b ∨ h.get? b = none

theorem Nx.refl (F : Fix) (H : Hm) (O : OSet) (h : Heap) : Nx F H O h H O h :=
  ⟨fun _ o e _ => ⟨o, e, .refl ..⟩, fun _ o e => ⟨o, e⟩, .refl _, fun _ _ e => .inl e, fun _ e => .inl e⟩
theorem Nx.none_back {F H O h H' O' h'} (x : Nx F H O h H' O' h') {b : Addr} (e : h'.get? b = none) : h.get? b = none := by
  cases hb : h.get? b with
  | none => rfl
  | some o => obtain ⟨o', e'⟩ := x.there b o hb; rw [e] at e'; cases e'
theorem Nx.trans {F H O h H' O' h' H'' O'' h''} (x : Nx F H O h H' O' h') (y : Nx F H' O' h' H'' O'' h'') : Nx F H O h H'' O'' h'' where
  kp := fun b o e hb => by
    obtain ⟨o', e', s'⟩ := x.kp b o e hb
    have hb' : ¬ O' b := fun q => (x.onew b q).elim hb fun z => by rw [z] at e; cases e
    obtain ⟨o'', e'', s''⟩ := y.kp b o' e' hb'
    exact ⟨o'', e'', s'.trans s''⟩
  there := fun b o e => by
    obtain ⟨o', e'⟩ := x.there b o e
    exact y.there b o' e'
  hle := x.hle.trans y.hle
  hnew := fun b o e => by
    rcases y.hnew b o e with h1 | h1 | h1
    · exact x.hnew b o h1
    · exact .inr (x.onew b h1)
    · exact .inr (.inr (x.none_back h1))
  onew := fun b e => by
    rcases y.onew b e with h1 | h1
    · exact x.onew b h1
    · exact .inr (x.none_back h1)

def VarIs (env : Env) (h : Heap) (x : Str) (v : Value) : Prop :=
  (env.kindOf x = some .local ∧ ∃ m, h.Ns env.locals m ∧ m x = some v) ∨
  ((env.kindOf x = some .cell ∨ env.kindOf x = some .free) ∧ ∃ c o, env.cells.lookup x = some c ∧ h.get? c = some o ∧ o.data = .cell (some v))

theorem ns_fun {h : Heap} {a : Addr} {m m' : Str → Option Value} (x : h.Ns a m) (y : h.Ns a m') : m = m' := by
  obtain ⟨o, es, ep, e, d, _, f⟩ := x
  obtain ⟨o', es', ep', e', d', _, f'⟩ := y
  rw [e] at e'; cases e'
  rw [d] at d'; cases d'
  funext n
  rw [← f, ← f']

theorem VarIs.inj {env : Env} {h : Heap} {x : Str} {v v' : Value} (a : VarIs env h x v) (b : VarIs env h x v') : v = v' := by
  rcases a with ⟨k, m, n, e⟩ | ⟨k, c, o, l, g, d⟩ <;> rcases b with ⟨k', m', n', e'⟩ | ⟨k', c', o', l', g', d'⟩
  · cases ns_fun n n'; rw [e] at e'; exact Option.some.inj e'
  · rw [k] at k'; rcases k' with k' | k' <;> cases k'
  · rw [k'] at k; rcases k with k | k <;> cases k
  · rw [l] at l'; cases l'
    rw [g] at g'; cases g'
    rw [d] at d'; cases d'; rfl

def OwnL (H : Hm) (h : Heap) (a : Addr) (As : List V) : Prop :=
  ∃ o xs n, h.get? a = some o ∧ o.cls = .type "list" ∧ o.data = .seq xs n ∧ (o.dict = none ∧ o.slots = #[]) ∧ Reps H As xs.toList
def ItrL (H : Hm) (h : Heap) (a : Addr) (As : List V) : Prop :=
  ∃ l i o xs n, h.IsListIter a l i ∧ H l = some o ∧ o.cls = .type "list" ∧ o.data = .seq xs n ∧ Reps H As (xs.toList.drop i)

def LVAt (H : Hm) (O : OSet) (h : Heap) : LV → Value → Prop
  | .val A, v => Rep H A v
  | .own b As, v => ∃ a, v = .ref a ∧ O a ∧ b = a ∧ OwnL H h a As
  | .itr As, v => ∃ a, v = .ref a ∧ O a ∧ ItrL H h a As

/-- the frames of the stack, as a traceback wants them -/
def FrOk (A : Around) (F : Fix) (h : Heap) : Prop :=
  ∃ l, A.frames = some l ∧ ∀ env ∈ l, env.scope.kind ≠ .module ∧ ∃ L o es ep, env.frame = some L ∧ h.get? L = some o ∧ o.data = .dict es ep ∧ F.h₁.get? L = none

structure StH (Γ : Cx) (H : Hm) (O : OSet) (loc : Loc) (h : Heap) (os : OsState) (g : Array GenState) : Prop where
  base : ∀ b o, Γ.F.h₁.get? b = some o → h.get? b = some o
  agree : ∀ b o, H b = some o → h.get? b = some o
  nofr : ∀ b o, H b = some o → Solid o
  os : os = Γ.F.os
  gens : AllBare g
  obase : ∀ b, O b → Γ.F.h₁.get? b = none
  otab : ∀ b, O b → ¬ Γ.F.tab b
  tabs : ∀ b, Γ.F.tab b → Γ.F.h₁.get? b = none ∧ TabAt h b
  ohm : ∀ b, O b → H b = none
  othere : ∀ b, O b → ∃ o, h.get? b = some o
  kind : Γ.env.scope.kind = .function
  ns : ∃ m, h.Ns Γ.env.locals m
  onsO : O Γ.env.locals
  vars : ∀ x lv, loc.lookup x = some lv → ∃ v, VarIs Γ.env h x v ∧ LVAt H O h lv v
  sep : ∀ x y a lv lv', loc.lookup x = some lv → loc.lookup y = some lv' → lv.mine = true → lv'.mine = true → VarIs Γ.env h x (.ref a) → VarIs Γ.env h y (.ref a) → x = y
  apart : ∀ x a lv, loc.lookup x = some lv → lv.mine = true → VarIs Γ.env h x (.ref a) → a ≠ Γ.env.locals ∧ ∀ y c, Γ.env.cells.lookup y = some c → a ≠ c
  cells : ∀ x c, Γ.env.cells.lookup x = some c → (Γ.mine x = true → O c) ∧ ∃ o v, h.get? c = some o ∧ o.data = .cell v
  cne : ∀ x c, Γ.env.cells.lookup x = some c → c ≠ Γ.env.locals
  cinj : ∀ x y c, Γ.env.cells.lookup x = some c → Γ.env.cells.lookup y = some c → x = y
  frames : FrOk Γ.A Γ.F h

abbrev St (Γ : Cx) (H : Hm) (O : OSet) (loc : Loc) (s : Shared) : Prop := StH Γ H O loc s.heap s.os s.gens

structure Exc where
  cls : Value
  msg : Option Str

def ArgOk (H : Hm) (x : Exc) (vs : Array Value) : Prop :=
  (∀ m, x.msg = some m → ∃ t o n tk, vs[0]? = some (.ref t) ∧ H t = some o ∧ o.cls = .type "tuple" ∧ o.data = .seq #[.str m tk] n) ∧ (x.msg = none → vs[2]? = some .none)

/-- an exception in flight, made since h₀ -/
structure Fly (H : Hm) (O : OSet) (h₀ h : Heap) (e : Value) (x : Exc) : Prop where
  mk ::
  is : ∃ a o vs, e = .ref a ∧ h₀.get? a = none ∧ ¬ O a ∧ H a = none ∧ h.get? a = some o ∧ o.cls = x.cls ∧ o.data = .fields vs ∧ ArgOk H x vs ∧
    (vs[1]? = some .none ∨ ∃ tb otb tvs, vs[1]? = some (.ref tb) ∧ h₀.get? tb = none ∧ ¬ O tb ∧ H tb = none ∧ tb ≠ a ∧ h.get? tb = some otb ∧ otb.cls = .type "traceback" ∧ otb.data = .fields tvs ∧ 3 < tvs.size)

/-- a result, new since h₀ where it is the frame's own -/
def Res (H : Hm) (O : OSet) (h₀ h : Heap) : LV → Value → Prop
  | .val A, v => Rep H A v
  | .own b As, v => ∃ a, v = .ref a ∧ h₀.get? a = none ∧ ¬ O a ∧ H a = none ∧ b = a ∧ OwnL H h a As
  | .itr As, v => ∃ a, v = .ref a ∧ h₀.get? a = none ∧ ¬ O a ∧ H a = none ∧ ItrL H h a As

def PostV (Γ : Cx) (H : Hm) (O : OSet) (s : Shared) (Q : LV → Loc → Prop) (v : Value) (s' : Shared) : Prop :=
  ∃ H' O' loc' lv, Nx Γ.F H O s.heap H' O' s'.heap ∧ St Γ H' O' loc' s' ∧ Res H' O' s.heap s'.heap lv v ∧ Q lv loc'
def PostX (Γ : Cx) (H : Hm) (O : OSet) (s : Shared) (X : Exc → Loc → Prop) (e : Value) (s' : Shared) : Prop :=
  ∃ H' O' loc' x, Nx Γ.F H O s.heap H' O' s'.heap ∧ St Γ H' O' loc' s' ∧ Fly H' O' s.heap s'.heap e x ∧ X x loc'

def Ev (Γ : Cx) (loc : Loc) (e : Expr) (Q : LV → Loc → Prop) (X : Exc → Loc → Prop) : Prop :=
  ∀ H O s, St Γ H O loc s → wpAny Γ.M Γ.A (eval e Γ.env) (PostV Γ H O s Q) (PostX Γ H O s X) s

def PostB (Γ : Cx) (H : Hm) (O : OSet) (s : Shared) (Q : Bool → Loc → Prop) (b : Bool) (s' : Shared) : Prop :=
  ∃ H' O' loc', Nx Γ.F H O s.heap H' O' s'.heap ∧ St Γ H' O' loc' s' ∧ Q b loc'
def Tst (Γ : Cx) (loc : Loc) (e : Expr) (Q : Bool → Loc → Prop) (X : Exc → Loc → Prop) : Prop :=
  ∀ H O s, St Γ H O loc s → wpAny Γ.M Γ.A (isTrue e Γ.env (eval e Γ.env)) (PostB Γ H O s Q) (PostX Γ H O s X) s

inductive Fl where
  | next | brk | cont
  | ret (A : V)
def FlIs (H : Hm) : Fl → Flow → Prop
  | .next, f => f = .next
  | .brk, f => f = .brk
  | .cont, f => f = .cont
  | .ret A, f => ∃ v, f = .ret v ∧ Rep H A v
def PostF (Γ : Cx) (H : Hm) (O : OSet) (s : Shared) (Q : Fl → Loc → Prop) (f : Flow) (s' : Shared) : Prop :=
  ∃ H' O' loc' fl, Nx Γ.F H O s.heap H' O' s'.heap ∧ St Γ H' O' loc' s' ∧ FlIs H' fl f ∧ Q fl loc'
def Exs (Γ : Cx) (loc : Loc) (ss : List Stmt) (Q : Fl → Loc → Prop) (X : Exc → Loc → Prop) : Prop :=
  ∀ H O s, St Γ H O loc s → wpAny Γ.M Γ.A (execs ss Γ.env) (PostF Γ H O s Q) (PostX Γ H O s X) s
def Ex1 (Γ : Cx) (loc : Loc) (st : Stmt) (Q : Fl → Loc → Prop) (X : Exc → Loc → Prop) : Prop :=
  ∀ H O s, St Γ H O loc s → wpAny Γ.M Γ.A (exec st Γ.env) (PostF Γ H O s Q) (PostX Γ H O s X) s

end Mine
end
section
open PySem PySem.W PyProof.Rows
namespace Mine

/-! ## states -/

theorem Rep.int_of {H : Hm} {i : Int} {v : Value} (h : Rep H (.int i) v) : ∃ t, v = .int i t := by simpa only [Rep] using h
theorem Rep.flt_of {H : Hm} {x : UInt64} {v : Value} (h : Rep H (.flt x) v) : ∃ t, v = .float x t := by simpa only [Rep] using h
theorem Rep.bool_of {H : Hm} {x : Bool} {v : Value} (h : Rep H (.bool x) v) : v = .bool x := by simpa only [Rep] using h
theorem Rep.none_of {H : Hm} {v : Value} (h : Rep H .none v) : v = .none := by simpa only [Rep] using h
theorem Rep.str_of {H : Hm} {x : Str} {v : Value} (h : Rep H (.str x) v) : ∃ t, v = .str x t := by simpa only [Rep] using h
theorem Rep.con_of {H : Hm} {c v : Value} (h : Rep H (.con c) v) : v = c := by simpa only [Rep] using h
theorem Rep.lst_of {H : Hm} {As : List V} {v : Value} (h : Rep H (.lst As) v) :
    ∃ a o xs n, v = .ref a ∧ H a = some o ∧ o.cls = .type "list" ∧ o.data = .seq xs n ∧ Reps H As xs.toList := by simpa only [Rep] using h
theorem Rep.tup_of {H : Hm} {As : List V} {v : Value} (h : Rep H (.tup As) v) :
    ∃ a o xs n, v = .ref a ∧ H a = some o ∧ o.cls = .type "tuple" ∧ o.data = .seq xs n ∧ Reps H As xs.toList := by simpa only [Rep] using h
theorem rep_int (H : Hm) (i : Int) (t : Tok) : Rep H (.int i) (.int i t) := by simp only [Rep]; exact ⟨t, rfl⟩
theorem rep_flt (H : Hm) (i : UInt64) (t : Tok) : Rep H (.flt i) (.float i t) := by simp only [Rep]; exact ⟨t, rfl⟩
theorem rep_str (H : Hm) (i : Str) (t : Tok) : Rep H (.str i) (.str i t) := by simp only [Rep]; exact ⟨t, rfl⟩
theorem rep_bool (H : Hm) (i : Bool) : Rep H (.bool i) (.bool i) := by simp only [Rep]
theorem rep_none (H : Hm) : Rep H .none .none := by simp only [Rep]
theorem rep_con (H : Hm) (c : Value) : Rep H (.con c) c := by simp only [Rep]
theorem rep_lst {H : Hm} {As : List V} {a : Addr} {o : Obj} {xs : Array Value} {n : Nat} (h2 : H a = some o) (h3 : o.cls = .type "list") (h4 : o.data = .seq xs n) (h5 : Reps H As xs.toList) :
    Rep H (.lst As) (.ref a) := by simp only [Rep]; exact ⟨a, o, xs, n, rfl, h2, h3, h4, h5⟩
theorem rep_tup {H : Hm} {As : List V} {a : Addr} {o : Obj} {xs : Array Value} {n : Nat} (h2 : H a = some o) (h3 : o.cls = .type "tuple") (h4 : o.data = .seq xs n) (h5 : Reps H As xs.toList) :
    Rep H (.tup As) (.ref a) := by simp only [Rep]; exact ⟨a, o, xs, n, rfl, h2, h3, h4, h5⟩
theorem reps_nil (H : Hm) : Reps H [] [] := by simp only [Reps]
theorem reps_cons {H : Hm} {A : V} {As : List V} {y : Value} {ys : List Value} (h : Rep H A y) (hs : Reps H As ys) : Reps H (A :: As) (y :: ys) := by
  simp only [Reps]; exact ⟨y, ys, rfl, h, hs⟩
theorem Reps.length : ∀ {H : Hm} {As : List V} {xs : List Value}, Reps H As xs → xs.length = As.length
  | _, [], _, h => by simp only [Reps] at h; subst h; rfl
  | _, A :: As, _, h => by
    simp only [Reps] at h
    obtain ⟨y, ys, rfl, _, hs⟩ := h
    simp [Reps.length hs]
theorem Reps.append : ∀ {H : Hm} {As Bs : List V} {xs ys : List Value}, Reps H As xs → Reps H Bs ys → Reps H (As ++ Bs) (xs ++ ys)
  | _, [], _, _, _, h, h' => by simp only [Reps] at h; subst h; exact h'
  | _, A :: As, _, _, _, h, h' => by
    simp only [Reps] at h
    obtain ⟨y, ys, rfl, hy, hs⟩ := h
    exact reps_cons hy (Reps.append hs h')
theorem Reps.get : ∀ {H : Hm} {As : List V} {xs : List Value} {i : Nat} {A : V}, Reps H As xs → As[i]? = some A → ∃ y, xs[i]? = some y ∧ Rep H A y
  | _, [], _, _, _, _, e => by simp at e
  | _, B :: As, _, 0, A, h, e => by
    simp only [Reps] at h
    obtain ⟨y, ys, rfl, hy, hs⟩ := h
    simp at e; subst e
    exact ⟨y, rfl, hy⟩
  | _, B :: As, _, i + 1, A, h, e => by
    simp only [Reps] at h
    obtain ⟨y, ys, rfl, hy, hs⟩ := h
    simp at e
    obtain ⟨z, hz, hr⟩ := Reps.get hs e
    exact ⟨z, by simpa using hz, hr⟩
theorem Reps.get_none {H : Hm} {As : List V} {xs : List Value} {i : Nat} (h : Reps H As xs) (e : As[i]? = none) : xs[i]? = none := by
  rw [List.getElem?_eq_none_iff] at e ⊢
  rw [h.length]; exact e
theorem Reps.of_get : ∀ {H : Hm} {As : List V} {xs : List Value}, xs.length = As.length → (∀ (i : Nat) (A : V) (y : Value), As[i]? = some A → xs[i]? = some y → Rep H A y) → Reps H As xs
  | _, [], xs, hl, _ => by simp at hl; subst hl; exact reps_nil _
  | _, A :: As, [], hl, _ => by simp at hl
  | _, A :: As, y :: ys, hl, h => reps_cons (h 0 A y rfl rfl) (Reps.of_get (by simpa using hl) fun i B z e e' => h (i + 1) B z (by simpa using e) (by simpa using e'))
theorem Reps.take {H : Hm} {As : List V} {xs : List Value} (k : Nat) (h : Reps H As xs) : Reps H (As.take k) (xs.take k) := by
  refine Reps.of_get (by simp [h.length]) fun i A y e e' => ?_
  rw [List.getElem?_take] at e e'
  split at e
  · rw [if_pos (by assumption)] at e'
    obtain ⟨z, hz, hr⟩ := h.get e
    rw [hz] at e'; cases e'; exact hr
  · cases e
theorem Reps.drop {H : Hm} {As : List V} {xs : List Value} (k : Nat) (h : Reps H As xs) : Reps H (As.drop k) (xs.drop k) := by
  refine Reps.of_get (by simp [h.length]) fun i A y e e' => ?_
  rw [List.getElem?_drop] at e e'
  obtain ⟨z, hz, hr⟩ := h.get e
  rw [hz] at e'; cases e'; exact hr

section
variable {Γ : Cx} {H H' : Hm} {O O' : OSet} {loc loc' : Loc} {s s' : Shared} {h h' : Heap} {os os' : OsState} {g g' : Array GenState}

theorem ns_same {F : Fix} {a : Addr} {m : Str → Option Value} (x : h.Ns a m) (k : ∀ o, h.get? a = some o → ∃ o', h'.get? a = some o' ∧ Same F a o o') : h'.Ns a m := by
  obtain ⟨o, es, ep, e, d, r⟩ := x
  obtain ⟨o', e', sm⟩ := k o e
  exact ⟨o', es, ep, e', (sm.data (.inl fun vs z => by rw [d] at z; cases z)).trans d, r⟩

theorem OwnL.same {F : Fix} {a : Addr} {As : List V} (x : OwnL H h a As) (hle : Hle H H') (k : ∀ o, h.get? a = some o → ∃ o', h'.get? a = some o' ∧ Same F a o o') : OwnL H' h' a As := by
  obtain ⟨o, xs, n, e, c, d, q, r⟩ := x
  obtain ⟨o', e', sm⟩ := k o e
  have : o' = o := sm.eq_of_data ⟨fun es ep z => (by rw [d] at z; cases z), by rw [c]; simp⟩
  subst this
  exact ⟨o', xs, n, e', c, d, q, r.mono hle⟩
theorem ItrL.same {F : Fix} {a : Addr} {As : List V} (x : ItrL H h a As) (hle : Hle H H') (k : ∀ o, h.get? a = some o → ∃ o', h'.get? a = some o' ∧ Same F a o o') : ItrL H' h' a As := by
  obtain ⟨l, i, o, xs, n, ⟨q, e, c, d⟩, hl, hc, hd, r⟩ := x
  obtain ⟨q', e', sm⟩ := k q e
  exact ⟨l, i, o, xs, n, ⟨q', e', sm.cls.trans c, (sm.data (.inr (by rw [c]; simp))).trans d⟩, hle _ _ hl, hc, hd, r.mono hle⟩
theorem FrOk.same {A : Around} {F : Fix} (x : FrOk A F h) (k : ∀ b o, h.get? b = some o → ∃ o', h'.get? b = some o' ∧ Same F b o o') : FrOk A F h' := by
  obtain ⟨l, hl, r⟩ := x
  refine ⟨l, hl, fun env he => ?_⟩
  obtain ⟨h1, L, o, es, ep, h2, h3, h5, h6⟩ := r env he
  obtain ⟨o', e', sm⟩ := k L o h3
  exact ⟨h1, L, o', es, ep, h2, e', (sm.data (.inl fun vs z => by rw [h5] at z; cases z)).trans h5, h6⟩

theorem VarIs.sameW {F : Fix} {env : Env} {x : Str} {v : Value} (a : VarIs env h x v) (k : ∀ b o, h.get? b = some o → (b = env.locals ∨ ∃ y, env.cells.lookup y = some b) → ∃ o', h'.get? b = some o' ∧ Same F b o o') : VarIs env h' x v := by
  rcases a with ⟨kk, m, n, e⟩ | ⟨kk, c, o, l, gg, d⟩
  · exact .inl ⟨kk, m, ns_same n fun o e => k _ o e (.inl rfl), e⟩
  · obtain ⟨o', e', sm⟩ := k c o gg (.inr ⟨_, l⟩)
    exact .inr ⟨kk, c, o', l, e', (sm.data (.inl fun vs z => by rw [d] at z; cases z)).trans d⟩
theorem VarIs.backW {F : Fix} {env : Env} {x : Str} {v : Value} (a : VarIs env h' x v) (k : ∀ b o, h.get? b = some o → (b = env.locals ∨ ∃ y, env.cells.lookup y = some b) → ∃ o', h'.get? b = some o' ∧ Same F b o o')
    {v' : Value} (b : VarIs env h x v') : VarIs env h x v := by
  have := (b.sameW k).inj a
  subst this; exact b
theorem LVAt.sameW {F : Fix} {lv : LV} {v : Value} (x : LVAt H O h lv v) (hle : Hle H H') (hO : ∀ b, O b → O' b) (k : ∀ b o, O b → h.get? b = some o → ∃ o', h'.get? b = some o' ∧ Same F b o o') : LVAt H' O' h' lv v := by
  cases lv with
  | val A => exact Rep.mono hle _ _ x
  | own _ As => obtain ⟨a, e, ha, eb, w⟩ := x; exact ⟨a, e, hO a ha, eb, w.same hle (k a · ha)⟩
  | itr As => obtain ⟨a, e, ha, w⟩ := x; exact ⟨a, e, hO a ha, w.same hle (k a · ha)⟩
theorem FrOk.sameW {A : Around} {F : Fix} (x : FrOk A F h) (k : ∀ b o, h.get? b = some o → (∃ l, A.frames = some l ∧ ∃ env ∈ l, env.frame = some b) → ∃ o', h'.get? b = some o' ∧ Same F b o o') : FrOk A F h' := by
  obtain ⟨l, hl, r⟩ := x
  refine ⟨l, hl, fun env he => ?_⟩
  obtain ⟨h1, L, o, es, ep, h2, h3, h5, h6⟩ := r env he
  obtain ⟨o', e', sm⟩ := k L o h3 ⟨l, hl, env, he, h2⟩
  exact ⟨h1, L, o', es, ep, h2, e', (sm.data (.inl fun vs z => by rw [h5] at z; cases z)).trans h5, h6⟩

/-- an object that no fact of the state speaks of -/
structure Foreign (Γ : Cx) (H : Hm) (O : OSet) (b : Addr) : Prop where
  base : Γ.F.h₁.get? b = none
  hm : H b = none
  o : ¬ O b
  cell : ∀ y, Γ.env.cells.lookup y ≠ some b
  fr : ∀ l, Γ.A.frames = some l → ∀ env ∈ l, env.frame ≠ some b
  tab : ¬ Γ.F.tab b

theorem StH.foreign (st : StH Γ H O loc h os g) {b : Addr} (hb : h.get? b = none) : Foreign Γ H O b where
  base := by
    cases e : Γ.F.h₁.get? b with
    | none => rfl
    | some o => have := st.base b o e; rw [hb] at this; cases this
  hm := by
    cases e : H b with
    | none => rfl
    | some o => have := st.agree b o e; rw [hb] at this; cases this
  o := fun z => by obtain ⟨o, e⟩ := st.othere b z; rw [hb] at e; cases e
  cell := fun y e => by obtain ⟨_, o, w, e, _⟩ := st.cells y b e; rw [hb] at e; cases e
  fr := fun l hl env he e => by
    obtain ⟨l', hl', r⟩ := st.frames
    rw [hl] at hl'; cases hl'
    obtain ⟨_, L, o, es, ep, h2, h3, _⟩ := r env he
    rw [e] at h2; cases h2
    rw [hb] at h3; cases h3
  tab := fun z => by obtain ⟨_, vs, e, _⟩ := st.tabs b z; rw [hb] at e; cases e
/-- nothing else speaks of a table -/
theorem StH.tabH (st : StH Γ H O loc h os g) {b : Addr} (hb : Γ.F.tab b) : H b = none := by
  obtain ⟨_, vs, e, _⟩ := st.tabs b hb
  cases eh : H b with
  | none => rfl
  | some o =>
    have := st.agree b o eh
    rw [e] at this; cases this
    exact absurd rfl (st.nofr b _ eh).2

/-- nothing known has changed; H may know more of what is new -/
theorem StH.extW (st : StH Γ H O loc h os g) (W : Addr → Prop) (hW : ∀ b, W b → Foreign Γ H O b) (k : ∀ b o, ¬ W b → h.get? b = some o → ∃ o', h'.get? b = some o' ∧ Same Γ.F b o o') (hg : AllBare g')
    (hle : Hle H H') (hos : os' = Γ.F.os) (ag : ∀ b o, H' b = some o → H b = some o ∨ (¬ O b ∧ h'.get? b = some o ∧ Solid o)) : StH Γ H' O loc h' os' g' := by
  have kO : ∀ b o, O b → h.get? b = some o → ∃ o', h'.get? b = some o' ∧ Same Γ.F b o o' := fun b o hb e => k b o (fun q => (hW b q).o hb) e
  have kV : ∀ b o, h.get? b = some o → (b = Γ.env.locals ∨ ∃ y, Γ.env.cells.lookup y = some b) → ∃ o', h'.get? b = some o' ∧ Same Γ.F b o o' := fun b o e q => by
    refine k b o (fun z => ?_) e
    rcases q with rfl | ⟨w, d⟩
    · exact (hW _ z).o st.onsO
    · exact (hW b z).cell w d
  exact
  { base := fun b o e => by
      obtain ⟨o', e', sm⟩ := k b o (fun z => by rw [(hW b z).base] at e; cases e) (st.base b o e)
      rw [e', sm.eq_of_base e]
    agree := fun b o e => by
      rcases ag b o e with h1 | h1
      · obtain ⟨o', e', sm⟩ := k b o (fun z => by rw [(hW b z).hm] at h1; cases h1) (st.agree b o h1)
        rw [e', sm.eq_of_data (st.nofr b o h1)]
      · exact h1.2.1
    nofr := fun b o e => by
      rcases ag b o e with h1 | h1
      · exact st.nofr b o h1
      · exact h1.2.2
    os := hos
    gens := hg
    obase := st.obase
    otab := st.otab
    tabs := fun b hb => ⟨(st.tabs b hb).1, (st.tabs b hb).2.same fun o e => k b o (fun z => (hW b z).tab hb) e⟩
    ohm := fun b hb => by
      cases e : H' b with
      | none => rfl
      | some o =>
        rcases ag b o e with h1 | h1
        · rw [st.ohm b hb] at h1; cases h1
        · exact absurd hb h1.1
    othere := fun b hb => by
      obtain ⟨o, e⟩ := st.othere b hb
      obtain ⟨o', e', _⟩ := kO b o hb e
      exact ⟨o', e'⟩
    kind := st.kind
    ns := let ⟨m, x⟩ := st.ns; ⟨m, ns_same x fun o e => kV _ o e (.inl rfl)⟩
    onsO := st.onsO
    vars := fun x lv e => by
      obtain ⟨v, hv, hl⟩ := st.vars x lv e
      exact ⟨v, hv.sameW kV, hl.sameW hle (fun _ q => q) kO⟩
    sep := fun x y a lv lv' e e' m m' hx hy => by
      obtain ⟨v, hv, _⟩ := st.vars x lv e
      obtain ⟨v', hv', _⟩ := st.vars y lv' e'
      exact st.sep x y a lv lv' e e' m m' (hx.backW kV hv) (hy.backW kV hv')
    apart := fun x a lv e m hx => by
      obtain ⟨v, hv, _⟩ := st.vars x lv e
      exact st.apart x a lv e m (hx.backW kV hv)
    cells := fun x c e => by
      obtain ⟨h1, o, v, h2, h3⟩ := st.cells x c e
      obtain ⟨o', e', sm⟩ := kV c o h2 (.inr ⟨x, e⟩)
      exact ⟨h1, o', v, e', (sm.data (.inl fun vs z => by rw [h3] at z; cases z)).trans h3⟩
    cne := st.cne
    cinj := st.cinj
    frames := st.frames.sameW fun b o e ⟨l, hl, env, he, d⟩ => k b o (fun z => (hW b z).fr l hl env he d) e }

theorem StH.ext (st : StH Γ H O loc h os g) (k : ∀ b o, h.get? b = some o → ∃ o', h'.get? b = some o' ∧ Same Γ.F b o o') (hg : AllBare g')
    (hle : Hle H H') (ag : ∀ b o, H' b = some o → H b = some o ∨ (h.get? b = none ∧ h'.get? b = some o ∧ Solid o)) : StH Γ H' O loc h' os g' :=
  st.extW (fun _ => False) (fun _ z => z.elim) (fun b o _ e => k b o e) hg hle st.os fun b o e => (ag b o e).imp id fun q => ⟨fun hb => (by obtain ⟨o', e'⟩ := st.othere b hb; rw [q.1] at e'; cases e'), q.2⟩

/-- less is known -/
theorem StH.less (st : StH Γ H O loc h os g) (hw : ∀ x lv, loc'.lookup x = some lv → loc.lookup x = some lv) : StH Γ H O loc' h os g :=
  { st with
    vars := fun x lv e => st.vars x lv (hw x lv e)
    sep := fun x y a lv lv' e e' => st.sep x y a lv lv' (hw _ _ e) (hw _ _ e')
    apart := fun x a lv e => st.apart x a lv (hw _ _ e) }

end

/-! ## what follows what -/
section
variable {Γ : Cx} {H H₁ : Hm} {O O₁ : OSet} {loc : Loc} {s s₁ s₂ : Shared}

theorem Res.back {F : Fix} {H' : Hm} {O' : OSet} {h h₁ h' : Heap} {lv : LV} {v : Value} (r : Res H' O' h₁ h' lv v) (n : Nx F H O h H₁ O₁ h₁) : Res H' O' h h' lv v := by
  cases lv with
  | val A => exact r
  | own _ As => obtain ⟨a, e, hn, r⟩ := r; exact ⟨a, e, n.none_back hn, r⟩
  | itr As => obtain ⟨a, e, hn, r⟩ := r; exact ⟨a, e, n.none_back hn, r⟩

theorem PostV.back {Q : LV → Loc → Prop} {v : Value} (n : Nx Γ.F H O s.heap H₁ O₁ s₁.heap) (p : PostV Γ H₁ O₁ s₁ Q v s₂) : PostV Γ H O s Q v s₂ := by
  obtain ⟨H', O', loc', lv, n', st, r, q⟩ := p
  exact ⟨H', O', loc', lv, n.trans n', st, r.back n, q⟩
theorem PostB.back {Q : Bool → Loc → Prop} {v : Bool} (n : Nx Γ.F H O s.heap H₁ O₁ s₁.heap) (p : PostB Γ H₁ O₁ s₁ Q v s₂) : PostB Γ H O s Q v s₂ := by
  obtain ⟨H', O', loc', n', st, q⟩ := p
  exact ⟨H', O', loc', n.trans n', st, q⟩
theorem PostF.back {Q : Fl → Loc → Prop} {v : Flow} (n : Nx Γ.F H O s.heap H₁ O₁ s₁.heap) (p : PostF Γ H₁ O₁ s₁ Q v s₂) : PostF Γ H O s Q v s₂ := by
  obtain ⟨H', O', loc', fl, n', st, q⟩ := p
  exact ⟨H', O', loc', fl, n.trans n', st, q⟩
theorem Fly.back {F : Fix} {H' : Hm} {O' : OSet} {h h₁ h' : Heap} {e : Value} {x : Exc} (r : Fly H' O' h₁ h' e x) (n : Nx F H O h H₁ O₁ h₁) : Fly H' O' h h' e x := by
  obtain ⟨a, o, vs, h1, h2, h3, h4, h5, h6, h7, h8, h9⟩ := r.is
  refine ⟨a, o, vs, h1, n.none_back h2, h3, h4, h5, h6, h7, h8, h9.imp id ?_⟩
  rintro ⟨tb, otb, tvs, k1, k2, k3⟩
  exact ⟨tb, otb, tvs, k1, n.none_back k2, k3⟩
theorem PostX.back {X : Exc → Loc → Prop} {v : Value} (n : Nx Γ.F H O s.heap H₁ O₁ s₁.heap) (p : PostX Γ H₁ O₁ s₁ X v s₂) : PostX Γ H O s X v s₂ := by
  obtain ⟨H', O', loc', x, n', st, r, q⟩ := p
  exact ⟨H', O', loc', x, n.trans n', st, r.back n, q⟩

/-- the same state (its tokens may have grown) -/
theorem PostV.here {Q : LV → Loc → Prop} {v : Value} {A : V} (st : St Γ H O loc s) (r : Rep H A v) (q : Q (.val A) loc) (tk : Nat) : PostV Γ H O s Q v { s with toks := tk } :=
  ⟨H, O, loc, .val A, .refl .., st, r, q⟩
theorem PostV.here' {Q : LV → Loc → Prop} {v : Value} {A : V} (st : St Γ H O loc s) (r : Rep H A v) (q : Q (.val A) loc) : PostV Γ H O s Q v s :=
  ⟨H, O, loc, .val A, .refl .., st, r, q⟩
end

/-- a value is wanted -/
def VQ (Q : V → Loc → Prop) : LV → Loc → Prop
  | .val A, loc => Q A loc
  | _, _ => False

/-- two values to one -/
def Op2 (Γ : Cx) (loc : Loc) (t : Value → Value → Sem Value) (A B : V) (Q : V → Loc → Prop) (X : Exc → Loc → Prop) : Prop :=
  ∀ H O s a b, St Γ H O loc s → Rep H A a → Rep H B b → wpAny Γ.M Γ.A (t a b) (PostV Γ H O s (VQ Q)) (PostX Γ H O s X) s
def Op1 (Γ : Cx) (loc : Loc) (t : Value → Sem Value) (A : V) (Q : V → Loc → Prop) (X : Exc → Loc → Prop) : Prop :=
  ∀ H O s a, St Γ H O loc s → Rep H A a → wpAny Γ.M Γ.A (t a) (PostV Γ H O s (VQ Q)) (PostX Γ H O s X) s
def Opb (Γ : Cx) (loc : Loc) (t : Value → Sem Bool) (A : V) (Q : Bool → Loc → Prop) (X : Exc → Loc → Prop) : Prop :=
  ∀ H O s a, St Γ H O loc s → Rep H A a → wpAny Γ.M Γ.A (t a) (PostB Γ H O s Q) (PostX Γ H O s X) s

section
variable {Γ : Cx} {loc : Loc} {Q : V → Loc → Prop} {QL : LV → Loc → Prop} {X : Exc → Loc → Prop}

theorem Ev.mono {e : Expr} {Q' : LV → Loc → Prop} {X' : Exc → Loc → Prop} (h : Ev Γ loc e QL X) (hQ : ∀ a l, QL a l → Q' a l) (hX : ∀ a l, X a l → X' a l) : Ev Γ loc e Q' X' :=
  fun H O s st => wpAny_mono (h H O s st) (fun _ _ ⟨H', O', l', lv, n, st', r, q⟩ => ⟨H', O', l', lv, n, st', r, hQ _ _ q⟩) fun _ _ ⟨H', O', l', x, n, st', r, q⟩ => ⟨H', O', l', x, n, st', r, hX _ _ q⟩
theorem ev_int {i k pos} (h : Q (.int i) loc) : Ev Γ loc (.Constant (.int i) k pos) (VQ Q) X :=
  fun H _ _ st => wpAny_Constant_int (PostV.here st (rep_int H ..) h _)
theorem ev_str {x : Str} {k pos} (h : Q (.str x) loc) : Ev Γ loc (.Constant (.str x) k pos) (VQ Q) X :=
  fun H _ _ st => wpAny_Constant_str (PostV.here st (rep_str H ..) h _)
theorem wp_var {M : Model} {A : Around} {E : Value → Shared → Prop} {s : Shared} {env : Env} {x : Str} {v : Value} {Q : Value → Shared → Prop} (hk : env.scope.kind = .function) (hv : VarIs env s.heap x v) (h : Q v s) (hn : (x == ("__classdict__" : Str)) = false) :
    wpAny M A (loadName env x) Q E s := by
  rcases hv with ⟨k, m, n, e⟩ | ⟨k, c, o, l, g, d⟩
  · exact wpAny_loadName_local hk k n e h
  · by_cases hc : env.kindOf x = some .cell
    · exact wpAny_loadName_cell hk hc l ⟨o, g, d⟩ h
    · exact wpAny_loadName_free hk (k.resolve_left hc) l ⟨o, g, d⟩ h hn

theorem ev_name {x : Str} {pos} {A : V} (hx : loc.lookup x = some (.val A)) (h : Q A loc) (hd : (x == ("__debug__" : Str)) = false := by decide) (hn : (x == ("__classdict__" : Str)) = false := by decide) : Ev Γ loc (.Name x pos) (VQ Q) X := by
  intro H O s st
  obtain ⟨v, hv, hl⟩ := st.vars x _ hx
  exact wpAny_Name (wp_var st.kind hv (PostV.here' st hl h) hn) hd

theorem ev_bin {l op r pos} (h : Ev Γ loc l (VQ fun A l₁ => Ev Γ l₁ r (VQ fun B l₂ => Op2 Γ l₂ (binaryOp op) A B Q X) X) X) : Ev Γ loc (.BinOp l op r pos) (VQ Q) X := by
  intro H O s st
  refine wpAny_BinOp (wpAny_mono (h H O s st) (fun a s₁ p => ?_) fun _ _ p => p)
  obtain ⟨H₁, O₁, l₁, lv, n₁, st₁, r₁, q₁⟩ := p
  cases lv with
  | own _ _ => exact q₁.elim
  | itr _ => exact q₁.elim
  | val A =>
    refine wpAny_mono (q₁ H₁ O₁ s₁ st₁) (fun b s₂ p => ?_) fun _ _ p => p.back n₁
    obtain ⟨H₂, O₂, l₂, lv, n₂, st₂, r₂, q₂⟩ := p
    cases lv with
    | own _ _ => exact q₂.elim
    | itr _ => exact q₂.elim
    | val B => exact wpAny_mono (q₂ H₂ O₂ s₂ a b st₂ (Rep.mono n₂.hle _ _ r₁) r₂) (fun _ _ p => p.back (n₁.trans n₂)) fun _ _ p => p.back (n₁.trans n₂)
end
end Mine
end
section
open PySem PySem.W PyProof.Rows
namespace Mine

theorem Nx.then {F H O h₀ H₁ O₁ h₁ H₂ h₂} {O₂ : OSet} (n : Nx F H O h₀ H₁ O₁ h₁) (kp : ∀ b o, h₁.get? b = some o → ¬ O₁ b → h₀.get? b ≠ none → ∃ o', h₂.get? b = some o' ∧ Same F b o o')
    (there : ∀ b o, h₁.get? b = some o → h₀.get? b ≠ none → ∃ o', h₂.get? b = some o') (hle : Hle H₁ H₂) (hnew : ∀ b o, H₂ b = some o → H₁ b = some o ∨ O₁ b ∨ h₀.get? b = none)
    (onew : ∀ b, O₂ b → O₁ b ∨ h₀.get? b = none) : Nx F H O h₀ H₂ O₂ h₂ where
  kp := fun b o e hb => by
    obtain ⟨o', e', s'⟩ := n.kp b o e hb
    have hb' : ¬ O₁ b := fun q => (n.onew b q).elim hb fun z => by rw [z] at e; cases e
    obtain ⟨o'', e'', s''⟩ := kp b o' e' hb' (by rw [e]; exact fun z => by cases z)
    exact ⟨o'', e'', s'.trans s''⟩
  there := fun b o e => by
    obtain ⟨o', e'⟩ := n.there b o e
    exact there b o' e' (by rw [e]; exact fun z => by cases z)
  hle := n.hle.trans hle
  hnew := fun b o e => by
    rcases hnew b o e with h1 | h1 | h1
    · exact n.hnew b o h1
    · exact .inr (n.onew b h1)
    · exact .inr (.inr h1)
  onew := fun b e => (onew b e).elim (n.onew b) .inr

/-- the frame may store under this name -/
def Cx.stores (Γ : Cx) (x : Str) : Prop :=
  Γ.env.kindOf x = some .local ∨ (Γ.env.kindOf x = some .cell ∧ Γ.mine x = true ∧ (Γ.env.cells.lookup x).isSome = true)

def LV.addr : LV → Value → Option Addr
  | .val _, _ => none
  | _, .ref a => some a
  | _, _ => none

def Oadd (O : OSet) (p : Option Addr) : OSet := fun b => O b ∨ p = some b

section
variable {Γ : Cx} {H : Hm} {O : OSet} {loc : Loc} {h h' h₀ : Heap} {os : OsState} {g : Array GenState} {x : Str} {lv : LV} {v : Value}

theorem lookup_cons_self (x : Str) (lv : LV) (loc : Loc) : List.lookup x ((x, lv) :: loc) = some lv := by simp [List.lookup]
theorem lookup_cons_ne {x y : Str} (hne : y ≠ x) (lv : LV) (loc : Loc) : List.lookup y ((x, lv) :: loc) = List.lookup y loc := by
  have : (y == x) = false := by simpa using hne
  simp [List.lookup, this]

theorem Res.new_obj (r : Res H O h₀ h lv v) (hm : lv.mine = true) : ∃ a, v = .ref a ∧ lv.addr v = some a ∧ h₀.get? a = none ∧ ¬ O a ∧ H a = none ∧ ∃ o, h.get? a = some o ∧ (∀ w, o.data ≠ .cell w) ∧ (∀ es ep, o.data ≠ .dict es ep) := by
  cases lv with
  | val _ => cases hm
  | own b As =>
    obtain ⟨a, e, h1, h2, h3, _, o, xs, n, h4, h5, h6, h7⟩ := r
    subst e
    exact ⟨a, rfl, rfl, h1, h2, h3, o, h4, fun w => by rw [h6]; exact fun z => (by cases z), fun _ _ => by rw [h6]; exact fun z => (by cases z)⟩
  | itr As =>
    obtain ⟨a, e, h1, h2, h3, l, i, o, xs, n, ⟨q, h4, h5, h6⟩, h7⟩ := r
    subst e
    exact ⟨a, rfl, rfl, h1, h2, h3, q, h4, fun w => by rw [h6]; exact fun z => (by cases z), fun _ _ => by rw [h6]; exact fun z => (by cases z)⟩

theorem Res.at (r : Res H O h₀ h lv v) {h' : Heap} (k : ∀ a o, lv.addr v = some a → h.get? a = some o → h'.get? a = some o) : LVAt H (Oadd O (lv.addr v)) h' lv v := by
  cases lv with
  | val _ => exact r
  | own b As =>
    obtain ⟨a, e, h1, h2, h3, eb, o, xs, n, h4, r⟩ := r
    subst e
    exact ⟨a, rfl, .inr rfl, eb, o, xs, n, k a o rfl h4, r⟩
  | itr As =>
    obtain ⟨a, e, h1, h2, h3, l, i, o, xs, n, ⟨q, h4, h5, h6⟩, r⟩ := r
    subst e
    exact ⟨a, rfl, .inr rfl, l, i, o, xs, n, ⟨q, k a q rfl h4, h5, h6⟩, r⟩

theorem LVAt.keep {lv : LV} {v : Value} (r : LVAt H O h lv v) {h' : Heap} {O' : OSet} (hO : ∀ b, O b → O' b) (k : ∀ a o, lv.mine = true → v = .ref a → h.get? a = some o → h'.get? a = some o) : LVAt H O' h' lv v := by
  cases lv with
  | val _ => exact r
  | own b As =>
    obtain ⟨a, e, h2, eb, o, xs, n, h4, r⟩ := r
    subst e
    exact ⟨a, rfl, hO a h2, eb, o, xs, n, k a o rfl rfl h4, r⟩
  | itr As =>
    obtain ⟨a, e, h2, l, i, o, xs, n, ⟨q, h4, h5, h6⟩, r⟩ := r
    subst e
    exact ⟨a, rfl, hO a h2, l, i, o, xs, n, ⟨q, k a q rfl rfl h4, h5, h6⟩, r⟩

theorem LVAt.isO {lv : LV} {v : Value} (r : LVAt H O h lv v) (hm : lv.mine = true) : ∃ a, v = .ref a ∧ O a := by
  cases lv with
  | val _ => cases hm
  | own b As => obtain ⟨a, e, h2, _⟩ := r; exact ⟨a, e, h2⟩
  | itr As => obtain ⟨a, e, h2, _⟩ := r; exact ⟨a, e, h2⟩

/-- one object of the frame's own tables (c) is changed so that x now holds v -/
theorem StH.stored (st : StH Γ H O loc h os g) (r : Res H O h₀ h lv v) (c : Addr) (hc : O c) (hsb : Heap.SameBut c h h')
    (hthere : ∃ o, h'.get? c = some o)
    (hns : ∃ m, h'.Ns Γ.env.locals m) (hx : VarIs Γ.env h' x v)
    (hv : ∀ y w, y ≠ x → VarIs Γ.env h y w → VarIs Γ.env h' y w)
    (hcells : ∀ y d, Γ.env.cells.lookup y = some d → (∃ o w, h.get? d = some o ∧ o.data = .cell w) → ∃ o w, h'.get? d = some o ∧ o.data = .cell w)
    (hfr : ∀ o, h.get? c = some o → ∃ o', h'.get? c = some o' ∧ ((∃ es ep, o.data = .dict es ep) → ∃ es ep, o'.data = .dict es ep))
    (hcl : c = Γ.env.locals ∨ ∃ y, Γ.env.cells.lookup y = some c)
    (hbase : ∀ a, lv.addr v = some a → Γ.F.h₁.get? a = none) (htab : ∀ a, lv.addr v = some a → ¬ Γ.F.tab a) :
    StH Γ H (Oadd O (lv.addr v)) ((x, lv) :: loc) h' os g := by
  have ne : ∀ a lv' y, loc.lookup y = some lv' → lv'.mine = true → VarIs Γ.env h y (.ref a) → a ≠ c := by
    intro a lv' y e m hy
    obtain ⟨h1, h2⟩ := st.apart y a lv' e m hy
    rcases hcl with rfl | ⟨z, hz⟩
    · exact h1
    · exact h2 z c hz
  have back : ∀ y w lv', y ≠ x → loc.lookup y = some lv' → VarIs Γ.env h' y w → VarIs Γ.env h y w := by
    intro y w lv' hne e hy
    obtain ⟨w', hw, _⟩ := st.vars y lv' e
    have := (hv y w' hne hw).inj hy
    subst this; exact hw
  have newa : lv.mine = true → ∃ a, v = .ref a ∧ lv.addr v = some a ∧ h₀.get? a = none ∧ ¬ O a ∧ H a = none ∧ ∃ o, h.get? a = some o ∧ (∀ w, o.data ≠ .cell w) ∧ (∀ es ep, o.data ≠ .dict es ep) := r.new_obj
  have addrMine : ∀ a, lv.addr v = some a → lv.mine = true ∧ v = .ref a := by
    intro a e
    cases lv with
    | val _ => cases e
    | own _ _ => cases v <;> simp [LV.addr] at e; exact ⟨rfl, by rw [e]⟩
    | itr _ => cases v <;> simp [LV.addr] at e; exact ⟨rfl, by rw [e]⟩
  refine
  { base := fun b o e => (hsb.2 b fun z => by subst z; rw [st.obase _ hc] at e; cases e).trans (st.base b o e)
    agree := fun b o e => (hsb.2 b fun z => by subst z; rw [st.ohm _ hc] at e; cases e).trans (st.agree b o e)
    nofr := st.nofr
    os := st.os
    gens := st.gens
    obase := fun b hb => hb.elim (st.obase b) fun e => hbase b e
    otab := fun b hb => hb.elim (st.otab b) fun e => htab b e
    tabs := fun b hb => ⟨(st.tabs b hb).1, (st.tabs b hb).2.same (F := Γ.F) fun o e => ⟨o, (hsb.2 b fun z => st.otab c hc (z ▸ hb)).trans e, .refl ..⟩⟩
    ohm := fun b hb => hb.elim (st.ohm b) fun e => by
      obtain ⟨m, e1⟩ := addrMine b e
      obtain ⟨a, e2, e3, _, _, e6, _⟩ := newa m
      rw [e1] at e2; cases e2; exact e6
    othere := fun b hb => by
      by_cases hbc : b = c
      · exact hbc ▸ hthere
      · rcases hb with hb | e
        · obtain ⟨o, e⟩ := st.othere b hb
          exact ⟨o, (hsb.2 b hbc).trans e⟩
        · obtain ⟨m, e1⟩ := addrMine b e
          obtain ⟨a, e2, e3, _, _, e6, o, e7, _⟩ := newa m
          rw [e1] at e2; cases e2
          exact ⟨o, (hsb.2 _ hbc).trans e7⟩
    kind := st.kind
    ns := hns
    onsO := .inl st.onsO
    vars := fun y lv' e => ?_
    sep := fun y z a l1 l2 e1 e2 m1 m2 v1 v2 => ?_
    apart := fun y a l1 e1 m1 v1 => ?_
    cells := fun y d e => ⟨fun m => .inl ((st.cells y d e).1 m), hcells y d e (st.cells y d e).2⟩
    cne := st.cne
    cinj := st.cinj
    frames := ?_ }
  · by_cases hy : y = x
    · subst hy
      rw [lookup_cons_self] at e; cases e
      refine ⟨v, hx, r.at fun a o ea eo => (hsb.2 a fun z => ?_).trans eo⟩
      subst z
      obtain ⟨m, e1⟩ := addrMine _ ea
      obtain ⟨a', e2, _, _, e5, _⟩ := newa m
      rw [e1] at e2; cases e2
      exact e5 hc
    · rw [lookup_cons_ne hy] at e
      obtain ⟨w, hw, hl⟩ := st.vars y lv' e
      refine ⟨w, hv y w hy hw, hl.keep (fun _ q => .inl q) fun a o m ew eo => (hsb.2 a ?_).trans eo⟩
      subst ew
      exact ne a lv' y e m hw
  · by_cases hy : y = x <;> by_cases hz : z = x
    · rw [hy, hz]
    · subst hy
      rw [lookup_cons_self] at e1; cases e1
      rw [lookup_cons_ne hz] at e2
      have := hx.inj v1
      obtain ⟨a', ev, _, _, e5, _⟩ := newa m1
      rw [ev] at this; cases this
      obtain ⟨w, hw, hl⟩ := st.vars z l2 e2
      obtain ⟨a'', ew, ho⟩ := hl.isO m2
      have := hw.inj (back z _ l2 hz e2 v2)
      rw [ew] at this; cases this
      exact absurd ho e5
    · subst hz
      rw [lookup_cons_self] at e2; cases e2
      rw [lookup_cons_ne hy] at e1
      have := hx.inj v2
      obtain ⟨a', ev, _, _, e5, _⟩ := newa m2
      rw [ev] at this; cases this
      obtain ⟨w, hw, hl⟩ := st.vars y l1 e1
      obtain ⟨a'', ew, ho⟩ := hl.isO m1
      have := hw.inj (back y _ l1 hy e1 v1)
      rw [ew] at this; cases this
      exact absurd ho e5
    · rw [lookup_cons_ne hy] at e1
      rw [lookup_cons_ne hz] at e2
      exact st.sep y z a l1 l2 e1 e2 m1 m2 (back y _ l1 hy e1 v1) (back z _ l2 hz e2 v2)
  · by_cases hy : y = x
    · subst hy
      rw [lookup_cons_self] at e1; cases e1
      have := hx.inj v1
      obtain ⟨a', ev, _, _, e5, _, o, eo, ho, hod⟩ := newa m1
      rw [ev] at this; cases this
      refine ⟨fun z => e5 (z ▸ st.onsO), fun w d ed z => ?_⟩
      subst z
      obtain ⟨_, o', w', eo', hd⟩ := st.cells w _ ed
      rw [eo] at eo'; cases eo'
      exact ho _ hd
    · rw [lookup_cons_ne hy] at e1
      exact st.apart y a l1 e1 m1 (back y _ l1 hy e1 v1)
  · obtain ⟨l, hl, rr⟩ := st.frames
    refine ⟨l, hl, fun env he => ?_⟩
    obtain ⟨h1, L, o, es, ep, h2, h3, h5, h6⟩ := rr env he
    by_cases hL : L = c
    · subst hL
      obtain ⟨o', e', d'⟩ := hfr o h3
      obtain ⟨es', ep', hd⟩ := d' ⟨es, ep, h5⟩
      exact ⟨h1, L, o', es', ep', h2, e', hd, h6⟩
    · exact ⟨h1, L, o, es, ep, h2, (hsb.2 L hL).trans h3, h5, h6⟩

end

section
variable {Γ : Cx} {H H₁ : Hm} {O O₁ : OSet} {loc : Loc} {s s₁ : Shared} {x : Str} {lv : LV} {v : Value}

/-- the store of a name, told from the statement's start s -/
theorem wp_store {Q : Unit → Shared → Prop} {E : Value → Shared → Prop} (n : Nx Γ.F H O s.heap H₁ O₁ s₁.heap) {loc' : Loc} (st₀ : St Γ H O loc' s) (st : St Γ H₁ O₁ loc s₁) (r : Res H₁ O₁ s.heap s₁.heap lv v) (hx : Γ.stores x)
    (k : ∀ O₂ s₂, Nx Γ.F H O s.heap H₁ O₂ s₂.heap → St Γ H₁ O₂ ((x, lv) :: loc) s₂ → (∀ b o, s₁.heap.get? b = some o → ¬ O₁ b → s₂.heap.get? b = some o) → (∀ b, O₂ b → O₁ b ∨ lv.addr v = some b) → Q () s₂) : wpAny Γ.M Γ.A (storeName Γ.env x v) Q E s₁ := by
  have hbase : ∀ a, lv.addr v = some a → Γ.F.h₁.get? a = none := by
    intro a e
    cases hb : Γ.F.h₁.get? a with
    | none => rfl
    | some o =>
      have := st₀.base a o hb
      cases lv with
      | val _ => cases e
      | own _ _ => obtain ⟨a', ev, h1, _⟩ := r; subst ev; cases e; rw [h1] at this; cases this
      | itr _ => obtain ⟨a', ev, h1, _⟩ := r; subst ev; cases e; rw [h1] at this; cases this
  have htab : ∀ a, lv.addr v = some a → ¬ Γ.F.tab a := by
    intro a e hb
    obtain ⟨_, vs, this, _⟩ := st₀.tabs a hb
    cases lv with
    | val _ => cases e
    | own _ _ => obtain ⟨a', ev, h1, _⟩ := r; subst ev; cases e; rw [h1] at this; cases this
    | itr _ => obtain ⟨a', ev, h1, _⟩ := r; subst ev; cases e; rw [h1] at this; cases this
  have honew : ∀ b, Oadd O₁ (lv.addr v) b → O₁ b ∨ s.heap.get? b = none := by
    intro b hb
    refine hb.imp id fun e => ?_
    cases lv with
    | val _ => cases e
    | own _ _ => obtain ⟨a', ev, h1, _⟩ := r; subst ev; cases e; exact h1
    | itr _ => obtain ⟨a', ev, h1, _⟩ := r; subst ev; cases e; exact h1
  have fin : ∀ (c : Addr) (h' : Heap), O₁ c → (∃ o, h'.get? c = some o) → Heap.SameBut c s₁.heap h' → Nx Γ.F H O s.heap H₁ (Oadd O₁ (lv.addr v)) h' := by
    intro c h' hc ht hsb
    refine n.then (fun b o e hb _ => ⟨o, (hsb.2 b fun z => hb (z ▸ hc)).trans e, .refl ..⟩) (fun b o e _ => ?_) (.refl _) (fun b o e => .inl e) honew
    by_cases hbc : b = c
    · exact hbc ▸ ht
    · exact ⟨o, (hsb.2 b hbc).trans e⟩
  rcases hx with hl | ⟨hl, hm, hc⟩
  · obtain ⟨m, hn⟩ := st.ns
    refine wpAny_storeName_local hl hn (fun h' hn' hsb => ?_) (by rw [st.kind]; rfl)
    obtain ⟨o', es', ep', e', d', k', f'⟩ := id hn'
    have ht : ∃ o, h'.get? Γ.env.locals = some o := ⟨o', e'⟩
    refine k _ _ (fin _ h' st.onsO ht hsb) (st.stored r Γ.env.locals st.onsO hsb ht ⟨_, hn'⟩ (.inl ⟨hl, _, hn', by simp⟩) (fun y w hne hv => ?_) (fun y d e ⟨o, w, eo, ed⟩ => ?_) (fun o eo => ⟨o', e', fun _ => ⟨es', ep', d'⟩⟩) (.inl rfl) hbase htab) (fun b o e hb => (hsb.2 b fun z => hb (z ▸ st.onsO)).trans e) (fun b hb => hb)
    · rcases hv with ⟨k1, m1, n1, e1⟩ | ⟨k1, c, o, l, eo, d⟩
      · cases ns_fun hn n1
        exact .inl ⟨k1, _, hn', by simp [hne, e1]⟩
      · exact .inr ⟨k1, c, o, l, (hsb.2 c (st.cne _ _ l)).trans eo, d⟩
    · exact ⟨o, w, (hsb.2 d (st.cne _ _ e)).trans eo, ed⟩
  · obtain ⟨c, hc⟩ := Option.isSome_iff_exists.mp hc
    obtain ⟨hO, o, w, eo, ed⟩ := st.cells x c hc
    refine wpAny_storeName_cell st.kind hl hc ⟨o, eo, ed⟩ fun h' hc' hsb => ?_
    obtain ⟨o', e', d'⟩ := hc'
    have hcO := hO hm
    have hcl : Γ.env.locals ≠ c := fun z => st.cne _ _ hc z.symm
    obtain ⟨m, hn⟩ := st.ns
    have hn' : h'.Ns Γ.env.locals m := hn.sameBut hsb hcl
    refine k _ _ (fin _ h' hcO ⟨o', e'⟩ hsb) (st.stored r c hcO hsb ⟨o', e'⟩ ⟨m, hn'⟩ (.inr ⟨.inl hl, c, o', hc, e', d'⟩) (fun y w hne hv => ?_) (fun y d e ⟨o, w, eo, ed⟩ => ?_) (fun o₂ eo₂ => ⟨o', e', fun ⟨es, ep, z⟩ => ?_⟩) (.inr ⟨x, hc⟩) hbase htab) (fun b o e hb => (hsb.2 b fun z => hb (z ▸ hcO)).trans e) (fun b hb => hb)
    · rcases hv with ⟨k1, m1, n1, e1⟩ | ⟨k1, c₂, o, l, eo, d⟩
      · cases ns_fun hn n1
        exact .inl ⟨k1, _, hn', e1⟩
      · exact .inr ⟨k1, c₂, o, l, (hsb.2 c₂ fun z => hne (st.cinj _ _ _ l (z ▸ hc))).trans eo, d⟩
    · by_cases hdc : d = c
      · subst hdc; exact ⟨o', _, e', d'⟩
      · exact ⟨o, w, (hsb.2 d hdc).trans eo, ed⟩
    · rw [eo] at eo₂; cases eo₂; rw [ed] at z; cases z
end

end Mine
end
section
open PySem PySem.W PyProof.Rows
set_option linter.unusedVariables false
namespace Mine

def NoX : Exc → Loc → Prop := fun _ _ => False

section
variable {Γ : Cx} {loc : Loc} {Q : V → Loc → Prop} {QB : Bool → Loc → Prop} {QF : Fl → Loc → Prop} {X : Exc → Loc → Prop}

theorem PostX.no {H : Hm} {O : OSet} {s s' : Shared} {e : Value} (p : PostX Γ H O s NoX e s') : False := by
  obtain ⟨_, _, _, _, _, _, _, q⟩ := p; exact q
/-- to tell of the locals only what the list l' tells -/
def Loc.sub (l' l : Loc) : Prop := ∀ p ∈ l', l.lookup p.1 = some p.2
def Loc.le (l' l : Loc) : Prop := ∀ x lv, l'.lookup x = some lv → l.lookup x = some lv
theorem Loc.le_refl (l : Loc) : l.le l := fun _ _ e => e
theorem Loc.le_trans {l l' l'' : Loc} (a : l.le l') (b : l'.le l'') : l.le l'' := fun x lv e => b x lv (a x lv e)
theorem Loc.le_cons {l l' : Loc} {x : Str} (lv : LV) (a : l.le l') (h : l.lookup x = none) : l.le ((x, lv) :: l') := fun y w e => by
  rw [lookup_cons_ne]
  · exact a y w e
  · rintro rfl; rw [h] at e; cases e
theorem exs_nil (h : QF .next loc) : Exs Γ loc [] QF X := fun H O s st => wpAny_execs_nil ⟨H, O, loc, .next, .refl .., st, rfl, h⟩

def Fl.go (Γ : Cx) (rest : List Stmt) (Q : Fl → Loc → Prop) (X : Exc → Loc → Prop) : Fl → Loc → Prop
  | .next, l => Exs Γ l rest Q X
  | .brk, l => Q .brk l
  | .cont, l => Q .cont l
  | .ret A, l => Q (.ret A) l

theorem exs_cons {st : Stmt} {rest : List Stmt} (h : Ex1 Γ loc st (Fl.go Γ rest QF X) X) : Exs Γ loc (st :: rest) QF X := by
  intro H O s hs
  refine wpAny_execs_cons (wpAny_mono (h H O s hs) (fun f s₁ p => ?_) fun _ _ p => p)
  obtain ⟨H₁, O₁, l₁, fl, n₁, st₁, r₁, q₁⟩ := p
  cases fl with
  | next => cases r₁; exact wpAny_mono (q₁ H₁ O₁ s₁ st₁) (fun _ _ p => p.back n₁) fun _ _ p => p.back n₁
  | brk => cases r₁; exact ⟨H₁, O₁, l₁, .brk, n₁, st₁, rfl, q₁⟩
  | cont => cases r₁; exact ⟨H₁, O₁, l₁, .cont, n₁, st₁, rfl, q₁⟩
  | ret A => obtain ⟨v, rfl, hv⟩ := r₁; exact ⟨H₁, O₁, l₁, .ret A, n₁, st₁, ⟨v, rfl, hv⟩, q₁⟩

theorem ex_assign {x pos' value pos} (h : Ev Γ loc value (fun lv l => QF .next ((x, lv) :: l)) X) (hx : Γ.stores x)
    (hs : swapsWith value (some (.Name x pos')) pos.line Γ.env = pure false := by rfl) : Ex1 Γ loc (.Assign [.Name x pos'] value pos) QF X := by
  intro H O s hs₀
  refine wpAny_Assign_Name (wpAny_mono (h H O s hs₀) (fun v s₁ p => ?_) fun _ _ p => p) hs
  obtain ⟨H₁, O₁, l₁, lv, n₁, st₁, r₁, q₁⟩ := p
  exact wp_store n₁ hs₀ st₁ r₁ hx fun O₂ s₂ n₂ st₂ _ _ => ⟨H₁, O₂, _, .next, n₂, st₂, rfl, q₁⟩

theorem ex_aug {x pos' op value pos} {A : V} (hv : loc.lookup x = some (.val A)) (h : Ev Γ loc value (VQ fun B l => Op2 Γ l (inplaceOp op) A B (fun C l' => QF .next ((x, .val C) :: l')) X) X) (hx : Γ.stores x)
    (hn : (x == ("__classdict__" : Str)) = false := by decide) : Ex1 Γ loc (.AugAssign (.Name x pos') op value pos) QF X := by
  intro H O s hs₀
  obtain ⟨v, hv, hl⟩ := hs₀.vars x _ hv
  refine wpAny_AugAssign_Name (wp_var hs₀.kind hv ?_ hn)
  refine wpAny_mono (h H O s hs₀) (fun b s₁ p => ?_) fun _ _ p => p
  obtain ⟨H₁, O₁, l₁, lv, n₁, st₁, r₁, q₁⟩ := p
  cases lv with
  | own _ _ => exact q₁.elim
  | itr _ => exact q₁.elim
  | val B =>
    refine wpAny_mono (q₁ H₁ O₁ s₁ v b st₁ (Rep.mono n₁.hle _ _ hl) r₁) (fun c s₂ p => ?_) fun _ _ p => p.back n₁
    obtain ⟨H₂, O₂, l₂, lv, n₂, st₂, r₂, q₂⟩ := p
    cases lv with
    | own _ _ => exact q₂.elim
    | itr _ => exact q₂.elim
    | val C => exact wp_store (n₁.trans n₂) hs₀ st₂ (Res.back r₂ n₁) hx fun O₃ s₃ n₃ st₃ _ _ => ⟨H₂, O₃, _, .next, n₃, st₃, rfl, q₂⟩

theorem ex_if {test body orelse pos} (h : Tst Γ loc test (fun b l => if b then Exs Γ l body QF X else Exs Γ l orelse QF X) X) : Ex1 Γ loc (.If test body orelse pos) QF X := by
  intro H O s hs
  refine wpAny_If (wpAny_mono (h H O s hs) (fun b s₁ p => ?_) fun _ _ p => p)
  obtain ⟨H₁, O₁, l₁, n₁, st₁, q₁⟩ := p
  cases b with
  | true => exact wpAny_mono (q₁ H₁ O₁ s₁ st₁) (fun _ _ p => p.back n₁) fun _ _ p => p.back n₁
  | false => exact wpAny_mono (q₁ H₁ O₁ s₁ st₁) (fun _ _ p => p.back n₁) fun _ _ p => p.back n₁

theorem ex_return {e pos} (h : Ev Γ loc e (VQ fun A l => QF (.ret A) l) X) : Ex1 Γ loc (.Return (some e) pos) QF X := by
  intro H O s hs
  refine wpAny_Return_some (wpAny_mono (h H O s hs) (fun v s₁ p => ?_) fun _ _ p => p)
  obtain ⟨H₁, O₁, l₁, lv, n₁, st₁, r₁, q₁⟩ := p
  cases lv with
  | own _ _ => exact q₁.elim
  | itr _ => exact q₁.elim
  | val A => exact ⟨H₁, O₁, l₁, .ret A, n₁, st₁, ⟨v, rfl, r₁⟩, q₁⟩

def Fl.loop (again : Loc → Prop) (Q : Fl → Loc → Prop) : Fl → Loc → Prop
  | .next, l => again l
  | .cont, l => again l
  | .brk, l => Q .next l
  | .ret A, l => Q (.ret A) l

theorem ex_while {test body pos} (J : Nat → Loc → Prop) (n : Nat) (h0 : J n loc)
    (turn : ∀ n l, J n l → Tst Γ l test (fun b l' => if b then Exs Γ l' body (Fl.loop (fun l'' => ∃ m, m < n ∧ J m l'') QF) NoX else QF .next l') NoX) : Ex1 Γ loc (.While test body [] pos) QF X := by
  intro H O s hs
  refine wpAny_While (codeAny_whileLoop (fun n s' => ∃ H' O' l', Nx Γ.F H O s.heap H' O' s'.heap ∧ St Γ H' O' l' s' ∧ J n l') (fun n s' ⟨H', O', l', n', st', hj⟩ => ?_) n ⟨H, O, loc, .refl .., hs, h0⟩)
  refine wpAny_mono (turn n l' hj H' O' s' st') (fun b s₁ p => ?_) fun _ _ p => p.no.elim
  obtain ⟨H₁, O₁, l₁, n₁, st₁, q₁⟩ := p
  cases b with
  | false => exact wpAny_execs_nil ⟨H₁, O₁, l₁, .next, n'.trans n₁, st₁, rfl, q₁⟩
  | true =>
    refine wpAny_mono (q₁ H₁ O₁ s₁ st₁) (fun f s₂ p => ?_) fun _ _ p => p.no.elim
    obtain ⟨H₂, O₂, l₂, fl, n₂, st₂, r₂, q₂⟩ := p
    have nn := (n'.trans n₁).trans n₂
    cases fl with
    | next => cases r₂; obtain ⟨m, hm, hj⟩ := q₂; exact ⟨m, hm, H₂, O₂, l₂, nn, st₂, hj⟩
    | cont => cases r₂; obtain ⟨m, hm, hj⟩ := q₂; exact ⟨m, hm, H₂, O₂, l₂, nn, st₂, hj⟩
    | brk => cases r₂; exact ⟨H₂, O₂, l₂, .next, nn, st₂, rfl, q₂⟩
    | ret A => obtain ⟨v, rfl, hv⟩ := r₂; exact ⟨H₂, O₂, l₂, .ret A, nn, st₂, ⟨v, rfl, hv⟩, q₂⟩

/-! ## tests -/

/-- the test of a plain expression -/
theorem tst_val {e : Expr} (h : Ev Γ loc e (VQ fun A l => Opb Γ l truthy A QB X) X)
    (he : isTrue e Γ.env (eval e Γ.env) = (do let v ← eval e Γ.env; standAt e.pos; holding [v] (truthy v)) := by rfl) : Tst Γ loc e QB X := by
  intro H O s hs
  refine wpAny_isTrue_value (wpAny_mono (h H O s hs) (fun v s₁ p => ?_) fun _ _ p => p) he
  obtain ⟨H₁, O₁, l₁, lv, n₁, st₁, r₁, q₁⟩ := p
  cases lv with
  | own _ _ => exact q₁.elim
  | itr _ => exact q₁.elim
  | val A => exact wpAny_mono (q₁ H₁ O₁ s₁ v st₁ r₁) (fun _ _ p => p.back n₁) fun _ _ p => p.back n₁

theorem tst_cmp {l op r pos} (h : Ev Γ loc l (VQ fun A l₁ => Ev Γ l₁ r (VQ fun B l₂ => Op2 Γ l₂ (compareOp op) A B (fun C l₃ => ∃ b, C = .bool b ∧ QB b l₃) X) X) X)
    (hm : behindInMarks op r = false := by with_unfolding_all rfl) : Tst Γ loc (.Compare l [op] [r] pos) QB X := by
  intro H O s st
  refine wpAny_isTrue_Compare1 (wpAny_mono (h H O s st) (fun a s₁ p => ?_) fun _ _ p => p) hm
  obtain ⟨H₁, O₁, l₁, lv, n₁, st₁, r₁, q₁⟩ := p
  cases lv with
  | own _ _ => exact q₁.elim
  | itr _ => exact q₁.elim
  | val A =>
    refine wpAny_mono (q₁ H₁ O₁ s₁ st₁) (fun b s₂ p => ?_) fun _ _ p => p.back n₁
    obtain ⟨H₂, O₂, l₂, lv, n₂, st₂, r₂, q₂⟩ := p
    cases lv with
    | own _ _ => exact q₂.elim
    | itr _ => exact q₂.elim
    | val B =>
      refine wpAny_mono (q₂ H₂ O₂ s₂ a b st₂ (Rep.mono n₂.hle _ _ r₁) r₂) (fun c s₃ p => ?_) fun _ _ p => p.back (n₁.trans n₂)
      obtain ⟨H₃, O₃, l₃, lv, n₃, st₃, r₃, q₃⟩ := p
      cases lv with
      | own _ _ => exact q₃.elim
      | itr _ => exact q₃.elim
      | val C =>
        obtain ⟨b, rfl, q⟩ := q₃
        cases Rep.bool_of (H := H₃) r₃
        exact wpAny_truthy_bool ⟨H₃, O₃, l₃, (n₁.trans n₂).trans n₃, st₃, q⟩

theorem ev_cmp {l op r pos} (h : Ev Γ loc l (VQ fun A l₁ => Ev Γ l₁ r (VQ fun B l₂ => Op2 Γ l₂ (compareOp op) A B Q X) X) X)
    (hm : behindInMarks op r = false := by with_unfolding_all rfl) : Ev Γ loc (.Compare l [op] [r] pos) (VQ Q) X := by
  intro H O s st
  refine wpAny_Compare1 (wpAny_mono (h H O s st) (fun a s₁ p => ?_) fun _ _ p => p) hm
  obtain ⟨H₁, O₁, l₁, lv, n₁, st₁, r₁, q₁⟩ := p
  cases lv with
  | own _ _ => exact q₁.elim
  | itr _ => exact q₁.elim
  | val A =>
    refine wpAny_mono (q₁ H₁ O₁ s₁ st₁) (fun b s₂ p => ?_) fun _ _ p => p.back n₁
    obtain ⟨H₂, O₂, l₂, lv, n₂, st₂, r₂, q₂⟩ := p
    cases lv with
    | own _ _ => exact q₂.elim
    | itr _ => exact q₂.elim
    | val B => exact wpAny_mono (q₂ H₂ O₂ s₂ a b st₂ (Rep.mono n₂.hle _ _ r₁) r₂) (fun _ _ p => p.back (n₁.trans n₂)) fun _ _ p => p.back (n₁.trans n₂)

theorem tst_not {e pos} (h : Tst Γ loc e (fun b l => QB (!b) l) X) : Tst Γ loc (.UnaryOp .Not e pos) QB X := by
  intro H O s hs
  exact wpAny_isTrue_Not (wpAny_mono (h H O s hs) (fun b s₁ ⟨H₁, O₁, l₁, n₁, st₁, q₁⟩ => ⟨H₁, O₁, l₁, n₁, st₁, q₁⟩) fun _ _ p => p)

/-- and, or in a test -/
def All (Γ : Cx) (loc : Loc) (op : BoolOp) (es : List Expr) (Q : Bool → Loc → Prop) (X : Exc → Loc → Prop) : Prop :=
  ∀ H O s, St Γ H O loc s → wpAny Γ.M Γ.A (allTrue op es Γ.env) (PostB Γ H O s Q) (PostX Γ H O s X) s
theorem tst_bool {op es pos} (h : All Γ loc op es QB X) : Tst Γ loc (.BoolOp op es pos) QB X := fun H O s hs => wpAny_isTrue_BoolOp (h H O s hs)
theorem all_or_nil (h : QB false loc) : All Γ loc .Or [] QB X := fun H O s hs => wpAny_allTrue_Or_nil ⟨H, O, loc, .refl .., hs, h⟩
theorem all_or {e es} (h : Tst Γ loc e (fun b l => if b then QB true l else All Γ l .Or es QB X) X) : All Γ loc .Or (e :: es) QB X := by
  intro H O s hs
  refine wpAny_allTrue_Or_cons (wpAny_mono (h H O s hs) (fun b s₁ p => ?_) fun _ _ p => p)
  obtain ⟨H₁, O₁, l₁, n₁, st₁, q₁⟩ := p
  cases b with
  | false => exact wpAny_mono (q₁ H₁ O₁ s₁ st₁) (fun _ _ p => p.back n₁) fun _ _ p => p.back n₁
  | true => exact ⟨H₁, O₁, l₁, n₁, st₁, q₁⟩

theorem ev_un {op e pos} (h : Ev Γ loc e (VQ fun A l => Op1 Γ l (unaryOp op) A Q X) X) : Ev Γ loc (.UnaryOp op e pos) (VQ Q) X := by
  intro H O s hs
  refine wpAny_UnaryOp (wpAny_mono (h H O s hs) (fun v s₁ p => ?_) fun _ _ p => p)
  obtain ⟨H₁, O₁, l₁, lv, n₁, st₁, r₁, q₁⟩ := p
  cases lv with
  | own _ _ => exact q₁.elim
  | itr _ => exact q₁.elim
  | val A => exact wpAny_mono (q₁ H₁ O₁ s₁ v st₁ r₁) (fun _ _ p => p.back n₁) fun _ _ p => p.back n₁
end
end Mine
end
section
open PySem PySem.W PyProof.Rows
set_option linter.unusedVariables false
namespace Mine

def V.items : V → List V
  | .lst As => As
  | .tup As => As
  | .rng a b c => (List.range (Builtin.Range.rangeSize a b c).toNat).map fun i => .int (a + (i : Nat) * c)
  | _ => []
def V.iter : V → Prop
  | .lst _ => True
  | .tup _ => True
  | .rng a b c => Builtin.Range.small a b c = true
  | _ => False

structure Itn (Γ : Cx) (H : Hm) (As : List V) (I : Addr) (fp : List Addr) (W : Nat → Heap → Prop) (P : Nat → Value → Prop) : Prop where
  walks : Walks Γ.F.prog Γ.F.w Γ.A I fp [I] As.length P W
  item : ∀ i v, i < As.length → P i v → ∃ A, As[i]? = some A ∧ Rep H A v
  fp : ∀ b ∈ fp, b = I ∨ ∃ o, H b = some o
  obj : ∀ i h, W i h → ∃ o vs, h.get? I = some o ∧ o.data = .fields vs

theorem rangeSize_nonneg (a b c : Int) : 0 ≤ Builtin.Range.rangeSize a b c := by
  unfold Builtin.Range.rangeSize
  split
  · split
    · have : 0 ≤ (b - a - 1) / c := Int.ediv_nonneg (by omega) (by omega)
      omega
    · omega
  · split
    · have : 0 ≤ (a - b - 1) / (-c) := Int.ediv_nonneg (by omega) (by omega)
      omega
    · omega

section
variable {Γ : Cx} {loc : Loc} {Q : V → Loc → Prop} {QB : Bool → Loc → Prop} {QF : Fl → Loc → Prop} {X : Exc → Loc → Prop}

theorem wp_iter {H : Hm} {O : OSet} {s : Shared} {A : V} {v : Value} {Q : Value → Shared → Prop} {E : Value → Shared → Prop} (st : St Γ H O loc s) (r : Rep H A v) (hi : A.iter) (hh : Γ.A.handled = none)
    (k : ∀ I fp W P (h' : Heap), Itn Γ H A.items I fp W P → W 0 h' → s.heap.get? I = none → (∀ b o, s.heap.get? b = some o → h'.get? b = some o) → (∃ o, h'.get? I = some o) → Q (.ref I) { s with heap := h' }) :
    wpAny Γ.M Γ.A (pyIter v) Q E s := by
  have fresh : s.heap.get? s.heap.objs.size = none := Heap.get?_none_of_le (Nat.le_refl _)
  cases A with
  | lst As =>
    obtain ⟨a, o, xs, n, rfl, h2, h3, h4, h5⟩ := Rep.lst_of r
    have hl : s.heap.IsList a xs := ⟨o, st.agree _ _ h2, h3, n, h4⟩
    have hne : a ≠ s.heap.objs.size := fun e => by rw [e] at h2; have := st.agree _ _ h2; rw [fresh] at this; cases this
    refine wpAny_pyIter_list hl ?_
    have W := Walks.list (prog := Γ.F.prog) (w := Γ.F.w) hh s.heap.objs.size a hne xs
    have hlen : xs.size = As.length := by rw [← h5.length]; simp
    rw [hlen] at W
    refine k _ _ _ _ _ ⟨W, fun i v _ hv => ?_, fun b hb => ?_, fun i h hw => ?_⟩ ⟨⟨_, Heap.get?_push_size _ rfl, rfl, rfl⟩, hl.at fun o e => Heap.get?_push_of_some _ e⟩ fresh (fun b o e => Heap.get?_push_of_some _ e) ⟨_, Heap.get?_push_size _ rfl⟩
    · have hv' : xs.toList[i]? = some v := by simpa using hv
      cases hA : As[i]? with
      | none => rw [h5.get_none hA] at hv'; cases hv'
      | some B =>
        obtain ⟨y, hy, hr⟩ := h5.get hA
        rw [hy] at hv'; cases hv'
        exact ⟨B, hA, hr⟩
    · rcases List.mem_cons.mp hb with rfl | hb
      · exact .inl rfl
      · rw [List.mem_singleton.mp hb]; exact .inr ⟨o, h2⟩
    · obtain ⟨⟨q, e1, _, e3⟩, _⟩ := hw; exact ⟨q, _, e1, e3⟩
  | tup As =>
    obtain ⟨a, o, xs, n, rfl, h2, h3, h4, h5⟩ := Rep.tup_of r
    have hl : s.heap.IsTuple a xs := ⟨o, st.agree _ _ h2, h3, n, h4⟩
    have hne : a ≠ s.heap.objs.size := fun e => by rw [e] at h2; have := st.agree _ _ h2; rw [fresh] at this; cases this
    refine wpAny_pyIter_tuple hl ?_
    have W := Walks.tuple (prog := Γ.F.prog) (w := Γ.F.w) hh s.heap.objs.size a hne xs
    have hlen : xs.size = As.length := by rw [← h5.length]; simp
    rw [hlen] at W
    refine k _ _ _ _ _ ⟨W, fun i v _ hv => ?_, fun b hb => ?_, fun i h hw => ?_⟩ ⟨⟨_, Heap.get?_push_size _ rfl, rfl, rfl⟩, hl.at fun o e => Heap.get?_push_of_some _ e⟩ fresh (fun b o e => Heap.get?_push_of_some _ e) ⟨_, Heap.get?_push_size _ rfl⟩
    · have hv' : xs.toList[i]? = some v := by simpa using hv
      cases hA : As[i]? with
      | none => rw [h5.get_none hA] at hv'; cases hv'
      | some B =>
        obtain ⟨y, hy, hr⟩ := h5.get hA
        rw [hy] at hv'; cases hv'
        exact ⟨B, hA, hr⟩
    · rcases List.mem_cons.mp hb with rfl | hb
      · exact .inl rfl
      · rw [List.mem_singleton.mp hb]; exact .inr ⟨o, h2⟩
    · obtain ⟨⟨q, e1, _, e3⟩, _⟩ := hw; exact ⟨q, _, e1, e3⟩
  | rng a b c =>
    simp only [Rep] at r
    obtain ⟨q, t, u, w, rfl, hq⟩ := r
    have hr : IsRange s.heap q a b c t u w := st.agree _ _ hq
    refine wpAny_pyIter_range hr hi ?_
    have W := Walks.range (prog := Γ.F.prog) (w := Γ.F.w) hh s.heap.objs.size a c (Builtin.Range.rangeSize a b c).toNat
    have hlen : (V.items (.rng a b c)).length = (Builtin.Range.rangeSize a b c).toNat := by simp [V.items]
    rw [← hlen] at W
    refine k _ _ _ _ _ ⟨W, fun i v hi hv => ?_, fun b' hb => .inl (List.mem_singleton.mp hb), fun i h hw => ⟨_, _, hw, rfl⟩⟩ ?_ fresh (fun b o e => Heap.get?_push_of_some _ e) ⟨_, Heap.get?_push_size _ rfl⟩
    · obtain ⟨t, rfl⟩ := hv
      refine ⟨.int (a + (i : Nat) * c), ?_, rep_int _ _ _⟩
      have hi' : i < (Builtin.Range.rangeSize a b c).toNat := by rw [← hlen]; exact hi
      simp [V.items, hi']
    · have e0 : a + ((0 : Nat) : Int) * c = a := by simp
      have e1 : (((V.items (.rng a b c)).length : Nat) : Int) - ((0 : Nat) : Int) = Builtin.Range.rangeSize a b c := by
        rw [hlen]; have := rangeSize_nonneg a b c; omega
      show IsRangeIter _ _ (a + ((0 : Nat) : Int) * c) ((((V.items (.rng a b c)).length : Nat) : Int) - ((0 : Nat) : Int)) c
      rw [e0, e1]
      exact Heap.get?_push_size _ rfl
  | none => exact hi.elim
  | bool _ => exact hi.elim
  | int _ => exact hi.elim
  | flt _ => exact hi.elim
  | str _ => exact hi.elim
  | con _ => exact hi.elim
  | exc _ _ => exact hi.elim

end
end Mine
end
section
open PySem PySem.W PyProof.Rows
set_option linter.unusedVariables false
namespace Mine

/-! ## comprehensions -/

def Cx.comp (Γ : Cx) (scope : Scope) (cs : List (Str × Addr)) (C : Addr) : Cx :=
  { Γ with
    env := { scope := relabel scope Γ.env, locals := C, globals := Γ.env.globals, cells := cs, qual := Γ.env.qual, func := none, code := Γ.env.code, frame := Γ.env.frame, builtins := Γ.env.builtins }
    mine := fun y => scope.names.lookup y == some .cell }

theorem cellsFrom_cases : ∀ (names : List (Str × NameKind)) (n : Nat) (acc : List (Str × Addr)) (y : Str) (c : Addr), (cellsFrom n names acc).lookup y = some c → acc.lookup y = some c ∨ n ≤ c
  | [], _, _, _, _, e => .inl e
  | (name, kind) :: r, n, acc, y, c, e => by
    unfold cellsFrom at e
    split at e
    · rcases cellsFrom_cases r _ _ y c e with h | h
      · simp only [List.lookup] at h
        split at h
        · cases h; exact .inr (Nat.le_refl _)
        · exact .inl h
      · exact .inr (by omega)
    · exact cellsFrom_cases r _ _ y c e
theorem cellsFrom_own : ∀ (names : List (Str × NameKind)) (n n₀ : Nat) (acc : List (Str × Addr)) (y : Str) (c : Addr), n₀ ≤ n → ((y, NameKind.cell) ∈ names ∨ ∀ c, acc.lookup y = some c → n₀ ≤ c) → (cellsFrom n names acc).lookup y = some c → n₀ ≤ c
  | [], _, _, _, _, _, _, h, e => by
    rcases h with h | h
    · cases h
    · exact h _ e
  | (name, kind) :: r, n, n₀, acc, y, c, hn, h, e => by
    unfold cellsFrom at e
    split at e
    · rename_i hk
      refine cellsFrom_own r (n + 1) n₀ _ y c (by omega) ?_ e
      by_cases hy : y = name
      · subst hy
        refine .inr fun c' e' => ?_
        rw [show List.lookup y ((y, n) :: acc) = some n by simp [List.lookup]] at e'
        cases e'; exact hn
      · have hb : (y == name) = false := by simpa using hy
        rcases h with h | h
        · rcases List.mem_cons.mp h with h | h
          · cases h; exact absurd rfl hy
          · exact .inl h
        · refine .inr fun c' e' => ?_
          simp [List.lookup, hb] at e'
          exact h c' e'
    · rename_i hk
      refine cellsFrom_own r n n₀ acc y c hn ?_ e
      rcases h with h | h
      · rcases List.mem_cons.mp h with h | h
        · cases h; exact absurd rfl hk
        · exact .inl h
      · exact .inr h

def CsOk (h : Heap) (cs : List (Str × Addr)) : Prop :=
  (∀ y c, cs.lookup y = some c → ∃ o w, h.get? c = some o ∧ o.data = .cell w) ∧ ∀ x y c, cs.lookup x = some c → cs.lookup y = some c → x = y

theorem csOk_from : ∀ (names : List (Str × NameKind)) (h : Heap) (acc : List (Str × Addr)), CsOk h acc → CsOk (pushCells h names) (cellsFrom h.objs.size names acc)
  | [], _, _, x => x
  | (name, kind) :: r, h, acc, x => by
    unfold pushCells cellsFrom
    split
    · have := csOk_from r (h.push { cls := .type "cell", data := .cell none }) ((name, h.objs.size) :: acc) ⟨fun y c e => ?_, fun y z c e e' => ?_⟩
      · rwa [Heap.size_push] at this
      · simp only [List.lookup] at e
        split at e
        · cases e; exact ⟨_, _, Heap.get?_push_size _ rfl, rfl⟩
        · obtain ⟨o, w, e1, e2⟩ := x.1 y c e
          exact ⟨o, w, Heap.get?_push_of_some _ e1, e2⟩
      · have old : ∀ y, acc.lookup y = some h.objs.size → False := fun y e => by
          obtain ⟨o, w, e1, _⟩ := x.1 y _ e
          exact absurd (Heap.lt_size e1) (Nat.lt_irrefl _)
        simp only [List.lookup] at e e'
        split at e <;> split at e'
        · rename_i h1 _ h2
          have a := beq_iff_eq.mp h1; have b := beq_iff_eq.mp h2
          rw [a, b]
        · cases e; exact (old _ e').elim
        · cases e'; exact (old _ e).elim
        · exact x.2 y z c e e'
    · exact csOk_from r h acc x

section
variable {M : Model} {A : Around} {E : Value → Shared → Prop} {s : Shared}
theorem wp_compEnv {scope : Scope} {globals : Addr} {cl : List (Str × Addr)} {qual : Str} {outer : Env} {builtins : Addr} {Q : Env → Shared → Prop}
    (h : Q { scope := scope, locals := s.heap.objs.size, globals := globals, cells := cellsFrom (s.heap.objs.size + 1) scope.names cl, qual := qual, func := none, code := outer.code, frame := outer.frame, builtins := outer.builtins }
      { s with heap := pushCells (s.heap.push { cls := .type "dict", data := .dict #[] }) scope.names }) :
    wpAny M A (newFunctionEnv scope globals cl [] qual none .none (some outer) builtins) Q E s := by
  simp only [newFunctionEnv, Option.isSome_some, if_true]
  refine wpAny_bind (wpAny_alloc ?_)
  refine wpAny_bind (wpAny_layCells _ (fun name kind cells => by cases hkc : kind == NameKind.cell <;> simp [hkc]) _ _ _ _ ?_)
  rw [show ({ s with heap := s.heap.push { cls := .type "dict", data := .dict #[] } } : Shared).heap.objs.size = s.heap.objs.size + 1 from Heap.size_push ..]
  exact wpAny_bind (wpAny_pure (wpAny_pure h))
end


section
variable {Γ : Cx} {loc fr : Loc} {Q : V → Loc → Prop} {QB : Bool → Loc → Prop} {QF : Fl → Loc → Prop} {X : Exc → Loc → Prop} {scope : Scope} {cl : List (Str × Addr)}

/-- what a comprehension of this frame may read: names of the frame's that are kept in cells -/
structure Frees (Γ : Cx) (loc : Loc) (scope : Scope) (cl : List (Str × Addr)) (fr : Loc) : Prop where
  clos : closureFor scope Γ.env = pure cl
  hcl : ∀ y c, cl.lookup y = some c → Γ.env.cells.lookup y = some c
  kind : scope.kind = .function
  names : ∀ y ∈ scope.names, y.2 = .local → scope.names.lookup y.1 = some .local
  fr : ∀ y lv, fr.lookup y = some lv → scope.names.lookup y = some .free ∧ (∃ B, lv = .val B) ∧ loc.lookup y = some lv ∧ (Γ.env.kindOf y = some .cell ∨ Γ.env.kindOf y = some .free) ∧
    ∀ C, (cellsFrom (C + 1) scope.names cl).lookup y = Γ.env.cells.lookup y

theorem relabel_free {env : Env} : ∀ {names : List (Str × NameKind)} {y : Str}, names.lookup y = some .free →
    (names.map fun (n, k) => if (k == NameKind.free && env.scope.kind == .function && env.kindOf n == some .cell) then (n, NameKind.cell) else (n, k)).lookup y = some .cell ∨
    (names.map fun (n, k) => if (k == NameKind.free && env.scope.kind == .function && env.kindOf n == some .cell) then (n, NameKind.cell) else (n, k)).lookup y = some .free
  | [], _, h => by simp at h
  | (n, k) :: r, y, h => by
    have ih := @relabel_free env r y
    show List.lookup y ((if (k == NameKind.free && env.scope.kind == .function && env.kindOf n == some .cell) = true then (n, NameKind.cell) else (n, k)) :: _) = _ ∨ List.lookup y ((if (k == NameKind.free && env.scope.kind == .function && env.kindOf n == some .cell) = true then (n, NameKind.cell) else (n, k)) :: _) = _
    cases hx : y == n with
    | true =>
      simp only [List.lookup_cons, hx] at h
      cases h
      by_cases hc : (NameKind.free == NameKind.free && env.scope.kind == .function && env.kindOf n == some .cell) = true
      · rw [if_pos hc]; left; simp [List.lookup_cons, hx]
      · rw [if_neg hc]; right; simp [List.lookup_cons, hx]
    | false =>
      simp only [List.lookup_cons, hx] at h
      by_cases hc : (k == NameKind.free && env.scope.kind == .function && env.kindOf n == some .cell) = true
      · rw [if_pos hc]; simp only [List.lookup_cons, hx]; exact ih h
      · rw [if_neg hc]; simp only [List.lookup_cons, hx]; exact ih h

/-- the state as the comprehension's own block sees it, at its start -/
theorem StH.comp {H : Hm} {O : OSet} {h : Heap} {os : OsState} {g : Array GenState} (st : StH Γ H O loc h os g) (fs : Frees Γ loc scope cl fr) :
    StH (Γ.comp scope (cellsFrom (h.objs.size + 1) scope.names cl) h.objs.size) H (fun b => h.objs.size ≤ b ∧ ∃ o, (pushCells (h.push { cls := .type "dict", data := .dict #[] }) scope.names).get? b = some o) fr
      (pushCells (h.push { cls := .type "dict", data := .dict #[] }) scope.names) os g := by
  have keep : ∀ b o, h.get? b = some o → (pushCells (h.push { cls := .type "dict", data := .dict #[] }) scope.names).get? b = some o := fun b o e => pushCells_keeps _ _ b o (Heap.get?_push_of_some _ e)
  have fresh : ∀ b, h.objs.size ≤ b → h.get? b = none := fun b hb => Heap.get?_none_of_le hb
  have hC : (pushCells (h.push { cls := .type "dict", data := .dict #[] }) scope.names).get? h.objs.size = some { cls := .type "dict", data := .dict #[] } := pushCells_keeps _ _ _ _ (Heap.get?_push_size _ rfl)
  have cs := csOk_from scope.names (h.push { cls := .type "dict", data := .dict #[] }) cl ⟨fun y c e => by
      obtain ⟨_, o, w, e1, e2⟩ := st.cells y c (fs.hcl y c e)
      exact ⟨o, w, Heap.get?_push_of_some _ e1, e2⟩, fun x y c e e' => st.cinj x y c (fs.hcl x c e) (fs.hcl y c e')⟩
  rw [Heap.size_push] at cs
  have noMine : ∀ y lv, fr.lookup y = some lv → lv.mine = true → False := fun y lv e m => by
    obtain ⟨_, ⟨B, rfl⟩, _⟩ := fs.fr y lv e; cases m
  exact
  { base := fun b o e => keep b o (st.base b o e)
    agree := fun b o e => keep b o (st.agree b o e)
    nofr := st.nofr
    os := st.os
    gens := st.gens
    obase := fun b hb => by
      show Γ.F.h₁.get? b = none
      cases e : Γ.F.h₁.get? b with
      | none => rfl
      | some o => have := st.base b o e; rw [fresh b hb.1] at this; cases this
    otab := fun b hb z => by obtain ⟨_, vs, e, _⟩ := st.tabs b z; rw [fresh b hb.1] at e; cases e
    tabs := fun b hb => ⟨(st.tabs b hb).1, (st.tabs b hb).2.same (F := Γ.F) fun o e => ⟨o, keep b o e, .refl ..⟩⟩
    ohm := fun b hb => by
      cases e : H b with
      | none => rfl
      | some o => have := st.agree b o e; rw [fresh b hb.1] at this; cases this
    othere := fun b hb => hb.2
    kind := fs.kind
    ns := ⟨_, (Heap.Ns.new h (.type "dict")).keeps (pushCells_keeps _ _)⟩
    onsO := ⟨Nat.le_refl _, _, hC⟩
    vars := fun y lv e => by
      obtain ⟨h1, ⟨B, rfl⟩, h3, h4, h5⟩ := fs.fr y lv e
      obtain ⟨v, hv, hl⟩ := st.vars y _ h3
      refine ⟨v, ?_, hl⟩
      rcases hv with ⟨k1, _⟩ | ⟨k1, c, o, l, eo, d⟩
      · rw [k1] at h4; rcases h4 with h4 | h4 <;> cases h4
      · exact .inr ⟨relabel_free h1, c, o, (h5 _).trans l, keep c o eo, d⟩
    sep := fun x y a lv lv' e _ m _ _ _ => (noMine x lv e m).elim
    apart := fun x a lv e m _ => (noMine x lv e m).elim
    cells := fun y c e => by
      refine ⟨fun m => ?_, cs.1 y c e⟩
      obtain ⟨o, w, e1, _⟩ := cs.1 y c e
      have m' : scope.names.lookup y = some .cell := beq_iff_eq.mp m
      have := cellsFrom_own scope.names (h.objs.size + 1) (h.objs.size + 1) cl y c (Nat.le_refl _) (.inl (mem_of_lookup m')) e
      exact ⟨by omega, o, e1⟩
    cne := fun y c e z => by
      obtain ⟨o, w, e1, e2⟩ := cs.1 y c e
      have z' : c = h.objs.size := z
      rw [z', hC] at e1
      cases e1; cases e2
    cinj := cs.2
    frames := st.frames.same fun b o e => ⟨o, keep b o e, .refl ..⟩ }

/-- the tests of a clause -/
def Ifs (Γ : Cx) (loc : Loc) (ifs : List Expr) (b : Bool) : Prop :=
  ∀ H O s, St Γ H O loc s → wpAny Γ.M Γ.A (forIn ifs true fun c r => if r = true then do let ok ← isTrue c Γ.env (eval c Γ.env); pure (ForInStep.yield ok) else pure (ForInStep.yield r))
    (PostB Γ H O s fun r l => r = b ∧ loc.le l) (PostX Γ H O s NoX) s
theorem ifs_nil {loc : Loc} : Ifs Γ loc [] true := fun H O s st => by
  rw [List.forIn_nil]; exact wpAny_pure ⟨H, O, loc, .refl .., st, rfl, Loc.le_refl _⟩
/-- what a comprehension has to be shown of: its element, under the clause's name and the free names -/
structure CompOk (Γ : Cx) (scope : Scope) (cl : List (Str × Addr)) (fr : Loc) (x : Str) (ifs : List Expr) (elt : Expr) (As : List V) (f : V → V) (p : V → Bool) : Prop where
  hx : scope.names.lookup x = some .local ∨ scope.names.lookup x = some .cell
  xfr : fr.lookup x = none
  hifs : ∀ B ∈ As, ∀ C, Ifs (Γ.comp scope (cellsFrom (C + 1) scope.names cl) C) ((x, .val B) :: fr) ifs (p B)
  helt : ∀ B ∈ As, p B = true → ∀ C, Ev (Γ.comp scope (cellsFrom (C + 1) scope.names cl) C) ((x, .val B) :: fr) elt (VQ fun R l => R = f B ∧ fr.le l) NoX

theorem cellsFrom_some : ∀ (names : List (Str × NameKind)) (n : Nat) (acc : List (Str × Addr)) (y : Str), ((y, NameKind.cell) ∈ names ∨ (acc.lookup y).isSome = true) → ((cellsFrom n names acc).lookup y).isSome = true
  | [], _, _, _, h => by
    rcases h with h | h
    · cases h
    · exact h
  | (name, kind) :: r, n, acc, y, h => by
    unfold cellsFrom
    split
    · refine cellsFrom_some r _ _ y ?_
      by_cases hy : y = name
      · right; subst hy; simp [List.lookup]
      · have hb : (y == name) = false := by simpa using hy
        rcases h with h | h
        · rcases List.mem_cons.mp h with h | h
          · cases h; exact absurd rfl hy
          · exact .inl h
        · right; simp [List.lookup, hb, h]
    · rename_i hk
      refine cellsFrom_some r _ _ y ?_
      rcases h with h | h
      · rcases List.mem_cons.mp h with h | h
        · cases h; exact absurd rfl hk
        · exact .inl h
      · exact .inr h
theorem relabel_cell {env : Env} : ∀ {names : List (Str × NameKind)} {y : Str}, names.lookup y = some .cell →
    (names.map fun (n, k) => if (k == NameKind.free && env.scope.kind == .function && env.kindOf n == some .cell) then (n, NameKind.cell) else (n, k)).lookup y = some .cell
  | [], _, h => by simp at h
  | (n, k) :: r, y, h => by
    have ih := @relabel_cell env r y
    show List.lookup y ((if (k == NameKind.free && env.scope.kind == .function && env.kindOf n == some .cell) = true then (n, NameKind.cell) else (n, k)) :: _) = _
    cases hx : y == n with
    | true =>
      simp only [List.lookup_cons, hx] at h
      cases h
      simp [List.lookup_cons, hx]
    | false =>
      simp only [List.lookup_cons, hx] at h
      by_cases hc : (k == NameKind.free && env.scope.kind == .function && env.kindOf n == some .cell) = true
      · rw [if_pos hc]; simp only [List.lookup_cons, hx]; exact ih h
      · rw [if_neg hc]; simp only [List.lookup_cons, hx]; exact ih h

theorem comp_stores {x : Str} {C : Addr} (hx : scope.names.lookup x = some .local ∨ scope.names.lookup x = some .cell) : (Γ.comp scope (cellsFrom (C + 1) scope.names cl) C).stores x := by
  rcases hx with hx | hx
  · exact .inl (lookup_relabel_local hx)
  · exact .inr ⟨relabel_cell hx, beq_iff_eq.mpr hx, cellsFrom_some _ _ _ _ (.inl (mem_of_lookup hx))⟩

/-- what a comprehension leaves -/
structure CompEnd (Γ : Cx) (H : Hm) (O : OSet) (loc : Loc) (s₂ : Shared) (I : Addr) (Rs : List V) (D C : Addr) (s' : Shared) : Prop where
  mk ::
  is : ∃ H' m xs, Hle H H' ∧ (∀ b o, H' b = some o → H b = some o ∨ s₂.heap.get? b = none) ∧ (∀ b o, s₂.heap.get? b = some o → b ≠ I → ∃ o', s'.heap.get? b = some o' ∧ Same Γ.F b o o') ∧
    St Γ H' O loc s' ∧ s₂.heap.get? D = none ∧ s₂.heap.get? C = none ∧ D ≠ C ∧ H' D = none ∧ H' C = none ∧ s'.heap.Ns C m ∧
    s'.heap.PlainList D xs ∧ Reps H' Rs xs.toList

/-- the state within a comprehension's loop -/
structure Lp (Γ Γc : Cx) (H : Hm) (s₂ : Shared) (I D : Addr) (W : Nat → Heap → Prop) (fr : Loc) (i : Nat) (Rs : List V) (H' : Hm) (O' : OSet) (lc : Loc) (s' : Shared) : Prop where
  hle : Hle H H'
  hnew : ∀ b o, H' b = some o → H b = some o ∨ s₂.heap.get? b = none
  kp : ∀ b o, s₂.heap.get? b = some o → b ≠ I → ∃ o', s'.heap.get? b = some o' ∧ Same Γ.F b o o'
  st : St Γc H' O' lc s'
  le : fr.le lc
  onew : ∀ b, O' b → s₂.heap.get? b = none ∧ b ≠ D
  dnone : H' D = none
  inone : H' I = none
  w : W i s'.heap
  d : ∃ xs, s'.heap.PlainList D xs ∧ Reps H' Rs xs.toList

theorem Lp.step {Γc : Cx} {H H' H'' : Hm} {O' O'' : OSet} {s₂ s' s'' : Shared} {I D : Addr} {As : List V} {fp : List Addr} {W : Nat → Heap → Prop} {P : Nat → Value → Prop} {i : Nat} {Rs : List V} {lc lc' : Loc}
    (it : Itn Γ H As I fp W P) (hF : Γc.F = Γ.F) (hI : ∃ o, s₂.heap.get? I = some o) (hIt : ¬ Γ.F.tab I) (L : Lp Γ Γc H s₂ I D W fr i Rs H' O' lc s') (n : Nx Γ.F H' O' s'.heap H'' O'' s''.heap) (st : St Γc H'' O'' lc' s'') (hle : fr.le lc') :
    Lp Γ Γc H s₂ I D W fr i Rs H'' O'' lc' s'' := by
  obtain ⟨xs, hl, hr⟩ := L.d
  obtain ⟨nD, eD⟩ := id hl
  obtain ⟨oI, vI, eI, dI⟩ := it.obj i _ L.w
  have hOD : ¬ O' D := fun z => (L.onew D z).2 rfl
  have hOI : ¬ O' I := fun z => by obtain ⟨o, e⟩ := hI; rw [(L.onew I z).1] at e; cases e
  have back : ∀ b, s'.heap.get? b = none → s₂.heap.get? b = none := by
    intro b e
    cases e2 : s₂.heap.get? b with
    | none => rfl
    | some o =>
      by_cases hb : b = I
      · subst hb; rw [eI] at e; cases e
      · obtain ⟨o', e', _⟩ := L.kp b o e2 hb; rw [e] at e'; cases e'
  have noneOf : ∀ b, H' b = none → ¬ O' b → (∃ o, s'.heap.get? b = some o) → H'' b = none := by
    intro b h1 h2 ⟨o, h3⟩
    cases e : H'' b with
    | none => rfl
    | some q =>
      rcases n.hnew b q e with h | h | h
      · rw [h1] at h; cases h
      · exact absurd h h2
      · rw [h3] at h; cases h
  refine ⟨L.hle.trans n.hle, fun b o e => ?_, fun b o e hb => ?_, st, hle, fun b z => ?_, noneOf D L.dnone hOD ⟨_, eD⟩, noneOf I L.inone hOI ⟨oI, eI⟩, ?_, ?_⟩
  · rcases n.hnew b o e with h | h | h
    · exact L.hnew b o h
    · exact .inr (L.onew b h).1
    · exact .inr (back b h)
  · obtain ⟨o', e', sm⟩ := L.kp b o e hb
    obtain ⟨o'', e'', sm'⟩ := n.kp b o' e' fun z => by rw [(L.onew b z).1] at e; cases e
    exact ⟨o'', e'', sm.trans sm'⟩
  · rcases n.onew b z with h | h
    · exact L.onew b h
    · exact ⟨back b h, fun q => by subst q; rw [eD] at h; cases h⟩
  · refine it.walks.frame _ _ _ L.w fun b hb o e => ?_
    rcases it.fp b hb with rfl | ⟨o', eo⟩
    · obtain ⟨o', e', sm⟩ := n.kp _ o e hOI
      rw [eI] at e; cases e
      rw [e', sm.eq_of_notab (fun es ep q => by rw [dI] at q; cases q) hIt]
    · have e2 := L.st.agree b o' (L.hle _ _ eo)
      rw [e] at e2; cases e2
      exact st.agree b o (n.hle _ _ (L.hle _ _ eo))
  · obtain ⟨o', e', sm⟩ := n.kp D _ eD hOD
    have : o' = _ := sm.eq_of_data ⟨fun es ep z => (by cases z), by simp⟩
    subst this
    exact ⟨xs, ⟨nD, e'⟩, hr.mono n.hle⟩

theorem wp_comp_block {elt iter : Expr} {x : Str} {px : Pos} {ifs : List Expr} {pos : Pos} {A : V} {f : V → V} {p : V → Bool} {H : Hm} {O : OSet} {s₂ : Shared} {I : Addr} {fp : List Addr} {W : Nat → Heap → Prop} {P : Nat → Value → Prop}
    {RR : Value → Addr → Result → Shared → Prop} {E : Value → Shared → Prop}
    (st : St Γ H O loc s₂) (fs : Frees Γ loc scope cl fr) (ok : CompOk Γ scope cl fr x ifs elt A.items f p) (it : Itn Γ H A.items I fp W P) (hw : W 0 s₂.heap) (fI : Foreign Γ H O I) (hsz : A.items.length ≤ sizeLine)
    (k : ∀ D C s', CompEnd Γ H O loc s₂ I ((A.items.filter p).map f) D C s' → RR (.ref D) C (.ok .next) s') :
    wpAny Γ.M Γ.A (newList []) (fun acc s₃ => wpAny Γ.M Γ.A (newFunctionEnv scope Γ.env.globals cl [] Γ.env.qual none .none (some Γ.env)) (fun cenv s₄ =>
      codeAny Γ.M Γ.A (.compStart (.ListComp elt [⟨.Name x px, iter, ifs, 0⟩] scope pos) 0 (.ref I) acc { cenv with scope := relabel scope Γ.env }) (RR acc cenv.locals) s₄) E s₃) E s₂ := by
  refine wpAny_newObj_type (wp_compEnv ?_)
  generalize hh₃ : s₂.heap.push { cls := .type "list", dict := none, data := .seq ([] : List Value).toArray } = h₃
  have hC : h₃.objs.size = s₂.heap.objs.size + 1 := by rw [← hh₃, Heap.size_push]
  have hDn : s₂.heap.get? s₂.heap.objs.size = none := Heap.get?_none_of_le (Nat.le_refl _)
  have hCn : s₂.heap.get? h₃.objs.size = none := Heap.get?_none_of_le (by rw [hC]; exact Nat.le_succ _)
  have keep₃ : ∀ b o, s₂.heap.get? b = some o → h₃.get? b = some o := fun b o e => hh₃ ▸ Heap.get?_push_of_some _ e
  have st₃ : St Γ H O loc { s₂ with heap := h₃ } := st.ext (fun b o e => ⟨o, keep₃ b o e, .refl ..⟩) st.gens (.refl _) fun b o e => .inl e
  have stc := st₃.comp fs
  obtain ⟨ec, mc, hΓc⟩ : ∃ ec mc, Γ.comp scope (cellsFrom (h₃.objs.size + 1) scope.names cl) h₃.objs.size = (⟨Γ.F, Γ.A, ec, mc⟩ : Cx) := ⟨_, _, rfl⟩
  rw [hΓc] at stc
  have hstores : (⟨Γ.F, Γ.A, ec, mc⟩ : Cx).stores x := by rw [← hΓc]; exact comp_stores ok.hx
  have hI : ∃ o, s₂.heap.get? I = some o := by obtain ⟨o, _, e, _⟩ := it.obj 0 _ hw; exact ⟨o, e⟩
  have hIlt : I < h₃.objs.size + 1 := by obtain ⟨o, e⟩ := hI; have := Heap.lt_size e; exact Nat.lt_succ_of_lt (by rw [hC]; exact Nat.lt_succ_of_lt this)
  have fD : Foreign Γ H O s₂.heap.objs.size := st.foreign hDn
  have inner : ∀ b (H' : Hm) (O' : OSet), Foreign Γ H O b → b < h₃.objs.size + 1 → H' b = none → ¬ O' b → Foreign (⟨Γ.F, Γ.A, ec, mc⟩ : Cx) H' O' b := by
    intro b H' O' fb hb h1 h2
    refine ⟨fb.base, h1, h2, fun y e => ?_, fun l hl => fb.fr l hl, fb.tab⟩
    have e' : List.lookup y (Γ.comp scope (cellsFrom (h₃.objs.size + 1) scope.names cl) h₃.objs.size).env.cells = some b := by rw [hΓc]; exact e
    rcases cellsFrom_cases _ _ _ _ _ e' with h | h
    · exact fb.cell y (fs.hcl y b h)
    · exact absurd hb (Nat.not_lt.mpr h)
  have hDlt : s₂.heap.objs.size < h₃.objs.size + 1 := by omega
  show codeAny _ _ (.compStart _ 0 (.ref I) (.ref s₂.heap.objs.size) (Γ.comp scope (cellsFrom (h₃.objs.size + 1) scope.names cl) h₃.objs.size).env) (RR (.ref s₂.heap.objs.size) h₃.objs.size) { s₂ with heap := pushCells (h₃.push { cls := .type "dict", data := .dict #[] }) scope.names }
  rw [hΓc]
  have keep₄ : ∀ b o, h₃.get? b = some o → (pushCells (h₃.push { cls := .type "dict", data := .dict #[] }) scope.names).get? b = some o := fun b o e => pushCells_keeps _ _ b o (Heap.get?_push_of_some _ e)
  have w₄ : W 0 (pushCells (h₃.push { cls := .type "dict", data := .dict #[] }) scope.names) := it.walks.frame _ _ _ hw fun b _ o e => keep₄ b o (keep₃ b o e)
  have L0 : Lp Γ (⟨Γ.F, Γ.A, ec, mc⟩ : Cx) H s₂ I s₂.heap.objs.size W fr 0 (((A.items.take 0).filter p).map f) H (fun b => h₃.objs.size ≤ b ∧ ∃ o, (pushCells (h₃.push { cls := .type "dict", data := .dict #[] }) scope.names).get? b = some o) fr { s₂ with heap := pushCells (h₃.push { cls := .type "dict", data := .dict #[] }) scope.names } := by
    refine ⟨.refl _, fun b o e => .inl e, fun b o e _ => ⟨o, keep₄ b o (keep₃ b o e), .refl ..⟩, stc, Loc.le_refl _, fun b z => ⟨Heap.get?_none_of_le (Nat.le_trans (by rw [hC]; exact Nat.le_succ _) z.1), fun q => by have := z.1; rw [q, hC] at this; exact Nat.not_succ_le_self _ this⟩, fD.hm, fI.hm, w₄, #[], ⟨0, keep₄ _ _ ?_⟩, by simpa using reps_nil _⟩
    rw [← hh₃]; exact Heap.get?_push_size _ rfl
  have loop : ∀ i (s' : Shared), (∃ H' O' lc, Lp Γ (⟨Γ.F, Γ.A, ec, mc⟩ : Cx) H s₂ I s₂.heap.objs.size W fr i (((A.items.take i).filter p).map f) H' O' lc s') → i ≤ A.items.length →
      codeAny Γ.M Γ.A (.compLoop (.ListComp elt [⟨.Name x px, iter, ifs, 0⟩] scope pos) 0 (.ref I) (.ref s₂.heap.objs.size) ec) (RR (.ref s₂.heap.objs.size) h₃.objs.size) s' := by
    intro i s' hL hi
    refine codeAny_compLoop_tests (fun n s' => ∃ i, n = A.items.length - i ∧ i ≤ A.items.length ∧ ∃ H' O' lc, Lp Γ (⟨Γ.F, Γ.A, ec, mc⟩ : Cx) H s₂ I s₂.heap.objs.size W fr i (((A.items.take i).filter p).map f) H' O' lc s') ?_ (A.items.length - i) ⟨i, rfl, hi, hL⟩
    rintro n s' ⟨i, rfl, hi, H', O', lc, L⟩
    have hOI : ¬ O' I := fun z => by obtain ⟨o, e⟩ := hI; rw [(L.onew I z).1] at e; cases e
    have fIc := inner I H' O' fI hIlt L.inone hOI
    by_cases hlt : i < A.items.length
    · refine it.walks.item i s' _ _ hlt L.w fun v h₅ tk hv hw₅ hk₅ => ?_
      obtain ⟨B, hB, hr⟩ := it.item i v hlt hv
      have hBm : B ∈ A.items := List.mem_of_getElem? hB
      have hk₅' : ∀ b o, b ≠ I → s'.heap.get? b = some o → h₅.get? b = some o := fun b o hb e => hk₅ b o (fun z => hb (List.mem_singleton.mp z)) e
      have hDI : s₂.heap.objs.size ≠ I := fun z => by obtain ⟨o, e⟩ := hI; rw [← z, hDn] at e; cases e
      have L₅ : Lp Γ (⟨Γ.F, Γ.A, ec, mc⟩ : Cx) H s₂ I s₂.heap.objs.size W fr (i + 1) (((A.items.take i).filter p).map f) H' O' lc { s' with heap := h₅, toks := tk } := by
        refine ⟨L.hle, L.hnew, fun b o e hb => ?_, L.st.extW (fun b => b = I) (fun b e => e ▸ fIc) (fun b o hb e => ⟨o, hk₅' b o hb e, .refl ..⟩) L.st.gens (.refl _) L.st.os (fun b o e => .inl e), L.le, L.onew, L.dnone, L.inone, hw₅, ?_⟩
        · obtain ⟨o', e', sm⟩ := L.kp b o e hb
          exact ⟨o', hk₅' b o' hb e', sm⟩
        · obtain ⟨xs, hl, hrs⟩ := L.d
          exact ⟨xs, hl.at fun o e => hk₅' _ o hDI e, hrs⟩
      have hrB : Rep H' B v := Rep.mono L.hle _ _ hr
      refine wpAny_assign_Name (wp_store (lv := .val B) (Nx.refl ..) L₅.st L₅.st hrB hstores fun O₆ s₆ n₆ st₆ ex₆ o₆ => ?_)
      have n₆' : Nx Γ.F H' O' h₅ H' O₆ s₆.heap := n₆
      have L₆ := L₅.step (Γc := ⟨Γ.F, Γ.A, ec, mc⟩) it rfl hI fI.tab n₆' st₆ (Loc.le_cons _ L₅.le ok.xfr)
      have le₆ : Loc.le ((x, .val B) :: fr) ((x, .val B) :: lc) := by
        intro y lv e
        by_cases hy : y = x
        · subst hy; rw [lookup_cons_self] at e ⊢; exact e
        · rw [lookup_cons_ne hy] at e ⊢; exact L.le y lv e
      have hifs := ok.hifs B hBm h₃.objs.size
      rw [hΓc] at hifs
      refine wpAny_mono (hifs H' O₆ s₆ (st₆.less le₆)) (fun r s₇ q => ?_) fun _ _ q => q.no.elim
      obtain ⟨H₇, O₇, l₇, n₇, st₇, rfl, le₇⟩ := q
      have frle : fr.le l₇ := Loc.le_trans (Loc.le_cons (.val B) (Loc.le_refl _) ok.xfr) le₇
      have L₆' : Lp Γ (⟨Γ.F, Γ.A, ec, mc⟩ : Cx) H s₂ I s₂.heap.objs.size W fr (i + 1) (((A.items.take i).filter p).map f) H' O₆ ((x, .val B) :: fr) s₆ := ⟨L₆.hle, L₆.hnew, L₆.kp, st₆.less le₆, Loc.le_cons _ (Loc.le_refl _) ok.xfr, L₆.onew, L₆.dnone, L₆.inone, L₆.w, L₆.d⟩
      have L₇ := L₆'.step (Γc := ⟨Γ.F, Γ.A, ec, mc⟩) it rfl hI fI.tab (n₇) st₇ frle
      have htake : A.items.take (i + 1) = A.items.take i ++ [B] := by rw [List.take_add_one, hB]; rfl
      by_cases hp : p B = true
      · rw [if_pos hp]
        have helt := ok.helt B hBm hp h₃.objs.size
        rw [hΓc] at helt
        refine wpAny_mono (helt H₇ O₇ s₇ (st₇.less le₇)) (fun y s₈ q => ?_) fun _ _ q => q.no.elim
        obtain ⟨H₈, O₈, l₈, lv, n₈, st₈, r₈, q₈⟩ := q
        cases lv with
        | own _ _ => exact q₈.elim
        | itr _ => exact q₈.elim
        | val R =>
          obtain ⟨rfl, le₈⟩ := q₈
          have L₇' : Lp Γ (⟨Γ.F, Γ.A, ec, mc⟩ : Cx) H s₂ I s₂.heap.objs.size W fr (i + 1) (((A.items.take i).filter p).map f) H₇ O₇ ((x, .val B) :: fr) s₇ := ⟨L₇.hle, L₇.hnew, L₇.kp, st₇.less le₇, Loc.le_cons _ (Loc.le_refl _) ok.xfr, L₇.onew, L₇.dnone, L₇.inone, L₇.w, L₇.d⟩
          have L₈ := L₇'.step (Γc := ⟨Γ.F, Γ.A, ec, mc⟩) it rfl hI fI.tab (n₈) st₈ le₈
          obtain ⟨xs, hl, hrs⟩ := L₈.d
          have hxs : xs.size ≤ sizeLine := by
            have h1 : xs.size = (((A.items.take i).filter p).map f).length := by rw [← hrs.length]; simp
            rw [h1, List.length_map]
            exact Nat.le_trans (List.length_filter_le _ _) (Nat.le_trans (by rw [List.length_take]; exact Nat.min_le_right _ _) hsz)
          refine wpAny_list_append_plain hl (fun h₉ hl₉ hs₉ => ?_) hxs
          have hOD : ¬ O₈ s₂.heap.objs.size := fun z => (L₈.onew _ z).2 rfl
          refine ⟨A.items.length - (i + 1), by omega, i + 1, rfl, hlt, H₈, O₈, l₈, L₈.hle, L₈.hnew, fun b o e hb => ?_, ?_, L₈.le, L₈.onew, L₈.dnone, L₈.inone, ?_, xs.push y, hl₉, ?_⟩
          · obtain ⟨o', e', sm⟩ := L₈.kp b o e hb
            exact ⟨o', (hs₉.2 b fun z => by rw [z, hDn] at e; cases e).trans e', sm⟩
          · exact L₈.st.extW (fun b => b = s₂.heap.objs.size) (fun b e => e ▸ inner _ _ _ fD hDlt L₈.dnone hOD) (fun b o hb e => ⟨o, (hs₉.2 b hb).trans e, .refl ..⟩) L₈.st.gens (.refl _) L₈.st.os (fun b o e => .inl e)
          · refine it.walks.frame _ _ _ L₈.w fun b hb o e => (hs₉.2 b fun z => ?_).trans e
            rcases it.fp b hb with h | ⟨o', eo⟩
            · exact hDI (z ▸ h)
            · rw [z] at eo; rw [fD.hm] at eo; cases eo
          · rw [htake, List.filter_append, List.map_append, Array.toList_push]
            refine hrs.append ?_
            simp only [List.filter_cons, hp, if_true, List.filter_nil, List.map_cons, List.map_nil]
            exact reps_cons r₈ (reps_nil _)
      · rw [if_neg hp]
        refine ⟨A.items.length - (i + 1), by omega, i + 1, rfl, hlt, H₇, O₇, l₇, ?_⟩
        rw [htake, List.filter_append]
        simp only [List.filter_cons, hp, Bool.false_eq_true, if_false, List.filter_nil, List.append_nil]
        exact L₇
    · have hie : i = A.items.length := by omega
      subst hie
      refine it.walks.done s' _ _ L.w fun h₅ tk hk₅ => ?_
      have hk₅' : ∀ b o, b ≠ I → s'.heap.get? b = some o → h₅.get? b = some o := fun b o hb e => hk₅ b o (fun z => hb (List.mem_singleton.mp z)) e
      have hDI : s₂.heap.objs.size ≠ I := fun z => by obtain ⟨o, e⟩ := hI; rw [← z, hDn] at e; cases e
      have hCI : h₃.objs.size ≠ I := fun z => by obtain ⟨o, e⟩ := hI; rw [← z, hCn] at e; cases e
      obtain ⟨xs, hl, hrs⟩ := L.d
      obtain ⟨m, hm⟩ := L.st.ns
      have hloc : ec.locals = h₃.objs.size := congrArg (fun c : Cx => c.env.locals) hΓc.symm
      rw [hloc] at hm
      have hOC : O' h₃.objs.size := hloc ▸ L.st.onsO
      rw [List.take_length] at hrs
      refine k _ _ _ ⟨H', m, xs, L.hle, L.hnew, fun b o e hb => ?_, ?_, hDn, hCn, fun z => (L.onew _ (z ▸ hOC)).2 rfl, L.dnone, L.st.ohm _ hOC, hm.at' fun o e => hk₅' _ o hCI e, hl.at fun o e => hk₅' _ o hDI e, hrs⟩
      · obtain ⟨o', e', sm⟩ := L.kp b o e hb
        exact ⟨o', hk₅' b o' hb e', sm⟩
      · refine st.extW (fun b => b = I) (fun b e => e ▸ fI) (fun b o hb e => ?_) L.st.gens L.hle (L.st.os) fun b o e => ?_
        · obtain ⟨o', e', sm⟩ := L.kp b o e hb
          exact ⟨o', hk₅' b o' hb e', sm⟩
        · rcases L.hnew b o e with h | h
          · exact .inl h
          · refine .inr ⟨fun z => (by obtain ⟨o', e'⟩ := st.othere b z; rw [h] at e'; cases e'), hk₅' b o (fun z => by obtain ⟨o', e'⟩ := hI; rw [← z, h] at e'; cases e') (L.st.agree b o e), L.st.nofr b o e⟩
  refine codeAny_compStart_list (loop 0 _ ⟨_, _, _, L0⟩ (Nat.zero_le _)) (it.walks.self 0 _ _ _ w₄ (loop 0 _ ⟨_, _, _, L0⟩ (Nat.zero_le _)))

def Hset (H : Hm) (a : Addr) (o : Obj) : Hm := fun b => if b = a then some o else H b
theorem Hset.le {H : Hm} {a : Addr} {o : Obj} (h : H a = none) : Hle H (Hset H a o) := fun b q e => by
  unfold Hset
  split
  · subst b; rw [h] at e; cases e
  · exact e
theorem Hset.self (H : Hm) (a : Addr) (o : Obj) : Hset H a o a = some o := by simp [Hset]
theorem Hset.cases {H : Hm} {a b : Addr} {o q : Obj} (e : Hset H a o b = some q) : (b = a ∧ q = o) ∨ H b = some q := by
  unfold Hset at e
  split at e
  · cases e; exact .inl ⟨by assumption, rfl⟩
  · exact .inr e

/-- a new object is known from now on, and never changed -/
theorem StH.freeze {H : Hm} {O : OSet} {h : Heap} {os : OsState} {g : Array GenState} (st : StH Γ H O loc h os g) {a : Addr} {o : Obj} (e : h.get? a = some o) (hd : Solid o) (ho : ¬ O a) (hm : H a = none) :
    StH Γ (Hset H a o) O loc h os g :=
  st.extW (fun _ => False) (fun _ z => z.elim) (fun b q _ e => ⟨q, e, .refl ..⟩) st.gens (Hset.le hm) st.os fun b q e' => by
    rcases Hset.cases e' with ⟨rfl, rfl⟩ | h1
    · exact .inr ⟨ho, e, hd⟩
    · exact .inl h1
theorem Nx.freeze {F : Fix} {H H' : Hm} {O O' : OSet} {h h' : Heap} (n : Nx F H O h H' O' h') {a : Addr} {o : Obj} (hm : H' a = none) (hn : h.get? a = none) : Nx F H O h (Hset H' a o) O' h' :=
  n.then (fun b q e _ _ => ⟨q, e, .refl ..⟩) (fun b q e _ => ⟨q, e⟩) (Hset.le hm) (fun b q e => by
    rcases Hset.cases e with ⟨rfl, rfl⟩ | h1
    · exact .inr (.inr hn)
    · exact .inl h1) fun b e => .inl e

theorem CompEnd.fin {H H₁ : Hm} {O O₁ : OSet} {s s₁ s₂ s' : Shared} {I D C : Addr} {Rs : List V} {h'' : Heap} (ce : CompEnd Γ H₁ O₁ loc s₂ I Rs D C s') (n₁ : Nx Γ.F H O s.heap H₁ O₁ s₁.heap) (st₂ : St Γ H₁ O₁ loc s₂)
    (hk : ∀ b o, s₁.heap.get? b = some o → s₂.heap.get? b = some o) (hI : s₁.heap.get? I = none) (hsb : Heap.SameBut C s'.heap h'') :
    ∃ H' xs, Nx Γ.F H O s.heap H' O₁ h'' ∧ StH Γ H' O₁ loc h'' s'.os s'.gens ∧ s.heap.get? D = none ∧ ¬ O₁ D ∧ H' D = none ∧ h''.PlainList D xs ∧ Reps H' Rs xs.toList := by
  obtain ⟨H', m, xs, hle, hnew, kp, st', hD, hC, hDC, hDm, hCm, hns, hl, hr⟩ := ce.is
  have none₁ : ∀ b, s₂.heap.get? b = none → s₁.heap.get? b = none := fun b e => by
    cases e' : s₁.heap.get? b with
    | none => rfl
    | some o => rw [hk b o e'] at e; cases e
  have fC := st₂.foreign hC
  have fD := st₂.foreign hD
  refine ⟨H', xs, n₁.then (fun b o e hb hne => ?_) (fun b o e hne => ?_) hle (fun b o e => ?_) (fun b e => .inl e), ?_, n₁.none_back (none₁ _ hD), fD.o, hDm, hl.extBut hsb.extBut hDC, hr⟩
  · obtain ⟨o', e', sm⟩ := kp b o (hk b o e) fun z => by rw [z, hI] at e; cases e
    exact ⟨o', (hsb.2 b fun z => by rw [z, none₁ _ hC] at e; cases e).trans e', sm⟩
  · obtain ⟨o', e', sm⟩ := kp b o (hk b o e) fun z => by rw [z, hI] at e; cases e
    exact ⟨o', (hsb.2 b fun z => by rw [z, none₁ _ hC] at e; cases e).trans e'⟩
  · rcases hnew b o e with h | h
    · exact .inl h
    · exact .inr (.inr (n₁.none_back (none₁ _ h)))
  · exact st'.extW (fun b => b = C) (fun b e => e ▸ { fC with hm := hCm }) (fun b o hb e => ⟨o, (hsb.2 b hb).trans e, .refl ..⟩) st'.gens (.refl _) st'.os fun b o e => .inl e

/-- the list display [elt for x in iter if ..], its value never changed again -/
theorem ev_comp {elt iter : Expr} {x : Str} {px : Pos} {ifs : List Expr} {pos : Pos} (hh : Γ.A.handled = none)
    (h : Ev Γ loc iter (VQ fun A l => A.iter ∧ A.items.length ≤ sizeLine ∧ ∃ cl fr f p, Frees Γ l scope cl fr ∧ CompOk Γ scope cl fr x ifs elt A.items f p ∧ Q (.lst ((A.items.filter p).map f)) l) X)
    (hs : ∀ x, foldedSetIterable iter Γ.env x = pure x := by intro _; rfl) (hk : scope.kind = .function := by rfl) (hn : ∀ y ∈ scope.names, y.2 = .local → scope.names.lookup y.1 = some .local := by decide)
    (hc : ∃ cl, closureFor scope Γ.env = pure cl := by exact ⟨_, rfl⟩) : Ev Γ loc (.ListComp elt [⟨.Name x px, iter, ifs, 0⟩] scope pos) (VQ Q) X := by
  intro H O s hs₀
  obtain ⟨cl₀, hcl₀⟩ := hc
  rw [eval_ListComp]
  refine wpAny_comprehension_free (use := none) rfl hs hcl₀ hk hn (wpAny_mono (h H O s hs₀) (fun v s₁ p => ?_) fun _ _ p => p)
  obtain ⟨H₁, O₁, l₁, lv, n₁, st₁, r₁, q₁⟩ := p
  cases lv with
  | own _ _ => exact q₁.elim
  | itr _ => exact q₁.elim
  | val A =>
    obtain ⟨hi, hsz, cl, fr, f, p, fs, ok, q⟩ := q₁
    have hcl : cl₀ = cl := by have := hcl₀.symm.trans fs.clos; cases this; rfl
    subst hcl
    refine wp_iter st₁ r₁ hi hh fun I fp W P h₂ it hw hI hk₂ _ => ?_
    have st₂ : St Γ H₁ O₁ l₁ { s₁ with heap := h₂ } := st₁.ext (fun b o e => ⟨o, hk₂ b o e, .refl ..⟩) st₁.gens (.refl _) fun b o e => .inl e
    refine wp_comp_block (RR := fun acc C => compPost Γ.M Γ.A (PostX Γ H O s X) none (PostV Γ H O s (VQ Q)) acc C) st₂ fs ok it hw (st₁.foreign hI) hsz fun D C s' ce => ?_
    obtain ⟨H', m, xs, e1, e2, e3, e4, e5, e6, e7, e8, e9, hns, e11⟩ := ce.is
    refine ⟨m, hns, fun h'' hsb => ?_⟩
    obtain ⟨H', xs, nx, st', hD, hDO, hDm, hl, hr⟩ := ce.fin n₁ st₂ hk₂ hI hsb
    obtain ⟨no, eo⟩ := hl
    obtain ⟨o, hoo⟩ : ∃ o : Obj, o = { cls := .type "list", data := .seq xs no } := ⟨_, rfl⟩
    rw [← hoo] at eo
    have co : o.cls = .type "list" := by rw [hoo]
    have dO : o.data = .seq xs no := by rw [hoo]
    have hd : Solid o := ⟨fun es ep z => (by rw [dO] at z; cases z), by rw [co]; simp⟩
    exact ⟨Hset H' D o, O₁, l₁, .val (.lst ((A.items.filter p).map f)), nx.freeze hDm hD, st'.freeze eo hd hDO hDm, rep_lst (Hset.self ..) co dO (hr.mono (Hset.le hDm)), q⟩

/-- y = [elt for x in iter if ..]; the list is the frame's own from now on, or never changed (own = false) -/
theorem ex_assign_comp (own : Bool) {elt iter : Expr} {x y : Str} {px py : Pos} {ifs : List Expr} {pos spos : Pos} (hh : Γ.A.handled = none) (hy : Γ.stores y)
    (h : Ev Γ loc iter (VQ fun A l => A.iter ∧ A.items.length ≤ sizeLine ∧ ∃ cl fr f p, Frees Γ l scope cl fr ∧ CompOk Γ scope cl fr x ifs elt A.items f p ∧
      ∀ b, QF .next ((y, if own then .own b ((A.items.filter p).map f) else .val (.lst ((A.items.filter p).map f))) :: l)) X)
    (hsw : swapsWith (.ListComp elt [⟨.Name x px, iter, ifs, 0⟩] scope pos) (some (.Name y py)) spos.line Γ.env = pure true := by rfl)
    (hs : ∀ x, foldedSetIterable iter Γ.env x = pure x := by intro _; rfl) (hk : scope.kind = .function := by rfl) (hn : ∀ y ∈ scope.names, y.2 = .local → scope.names.lookup y.1 = some .local := by decide)
    (hc : ∃ cl, closureFor scope Γ.env = pure cl := by exact ⟨_, rfl⟩) : Ex1 Γ loc (.Assign [.Name y py] (.ListComp elt [⟨.Name x px, iter, ifs, 0⟩] scope pos) spos) QF X := by
  intro H O s hs₀
  obtain ⟨cl₀, hcl₀⟩ := hc
  rw [exec_Assign_Name_used _ _ _ _ hsw]
  refine wpAny_bind (wpAny_standAt (wpAny_bind ?_))
  show wpAny _ _ (do let _ ← comprehension (.ListComp elt [⟨.Name x px, iter, ifs, 0⟩] scope pos) scope Γ.env _ (newList []) false (eval iter Γ.env) (some (assign (.Name y py) Γ.env))) _ _ s
  refine wpAny_bind (wpAny_mono (wpAny_comprehension_free (use := some (assign (.Name y py) Γ.env)) (Q := fun _ s' => PostF Γ H O s QF .next s') rfl hs hcl₀ hk hn
    (wpAny_mono (h H O s hs₀) (fun v s₁ p => ?_) fun _ _ p => p)) (fun _ s' hq => wpAny_pure (wpAny_pure hq)) fun _ _ p => p)
  obtain ⟨H₁, O₁, l₁, lv, n₁, st₁, r₁, q₁⟩ := p
  cases lv with
  | own _ _ => exact q₁.elim
  | itr _ => exact q₁.elim
  | val A =>
    obtain ⟨hi, hsz, cl, fr, f, p, fs, ok, q⟩ := q₁
    have hcl : cl₀ = cl := by have := hcl₀.symm.trans fs.clos; cases this; rfl
    subst hcl
    refine wp_iter st₁ r₁ hi hh fun I fp W P h₂ it hw hI hk₂ _ => ?_
    have st₂ : St Γ H₁ O₁ l₁ { s₁ with heap := h₂ } := st₁.ext (fun b o e => ⟨o, hk₂ b o e, .refl ..⟩) st₁.gens (.refl _) fun b o e => .inl e
    refine wp_comp_block (RR := fun acc C => compPost Γ.M Γ.A (PostX Γ H O s X) (some (assign (.Name y py) Γ.env)) (fun _ s' => PostF Γ H O s QF .next s') acc C) st₂ fs ok it hw (st₁.foreign hI) hsz fun D C s' ce => ?_
    obtain ⟨_, m, _, _, _, _, _, hD₂, hC₂, hDC, _, _, hns, _⟩ := ce.is
    have fC := st₂.foreign hC₂
    have hCs : s.heap.get? C = none := n₁.none_back (by
      cases e : s₁.heap.get? C with
      | none => rfl
      | some o => have := hk₂ C o e; rw [hC₂] at this; cases this)
    obtain ⟨H', xs, nx, st', hD, hDO, hDm, hl, hr⟩ := ce.fin n₁ st₂ hk₂ hI (.refl ..)
    obtain ⟨no, eo⟩ := hl
    obtain ⟨o, hoo⟩ : ∃ o : Obj, o = { cls := .type "list", data := .seq xs no } := ⟨_, rfl⟩
    rw [← hoo] at eo
    have co : o.cls = .type "list" := by rw [hoo]
    have dO : o.data = .seq xs no := by rw [hoo]
    have hd : Solid o := ⟨fun es ep z => (by rw [dO] at z; cases z), by rw [co]; simp⟩
    -- the list as it is kept
    obtain ⟨H₃, nx₃, st₃, r₃, hC₃⟩ : ∃ H₃, Nx Γ.F H O s.heap H₃ O₁ s'.heap ∧ StH Γ H₃ O₁ l₁ s'.heap s'.os s'.gens ∧
        Res H₃ O₁ s.heap s'.heap (if own then .own D ((A.items.filter p).map f) else .val (.lst ((A.items.filter p).map f))) (.ref D) ∧ H₃ C = none := by
      have hCm : H' C = none := by
        obtain ⟨oC, _, _, eC, dC, _⟩ := hns
        cases e : H' C with
        | none => rfl
        | some q => have := st'.agree C q e; rw [eC] at this; cases this; exact absurd dC ((st'.nofr C _ e).1 _ _)
      cases own with
      | true => exact ⟨H', nx, st', ⟨D, rfl, hD, hDO, hDm, rfl, o, xs, no, eo, co, dO, by rw [hoo]; exact ⟨rfl, rfl⟩, hr⟩, hCm⟩
      | false => exact ⟨Hset H' D o, nx.freeze hDm hD, st'.freeze eo hd hDO hDm, rep_lst (Hset.self ..) co dO (hr.mono (Hset.le hDm)), by simp [Hset, hCm, Ne.symm hDC]⟩
    show wpAny _ _ (assign (.Name y py) Γ.env (.ref D)) _ _ _
    refine wpAny_assign_Name (wp_store nx₃ hs₀ st₃ r₃ hy fun O₄ s₄ nx₄ st₄ ex₄ o₄ => ?_)
    refine ⟨m, hns.at' fun o e => ex₄ C o e fC.o, fun h'' hsb => ?_⟩
    have hCO : ¬ O₄ C := fun z => by
      rcases o₄ C z with h | h
      · exact fC.o h
      · cases own with
        | true => cases h; exact hDC rfl
        | false => cases h
    refine ⟨H₃, O₄, _, .next, nx₄.then (fun b o e _ hne => ⟨o, (hsb.2 b fun z => hne (z ▸ hCs)).trans e, .refl ..⟩) (fun b o e hne => ⟨o, (hsb.2 b fun z => hne (z ▸ hCs)).trans e⟩) (.refl _) (fun b o e => .inl e) (fun b e => .inl e), ?_, rfl, q D⟩
    exact st₄.extW (fun b => b = C) (fun b e => e ▸ { fC with hm := hC₃, o := hCO }) (fun b o hb e => ⟨o, (hsb.2 b hb).trans e, .refl ..⟩) st₄.gens (.refl _) st₄.os fun b o e => .inl e
end
end Mine
end
section
open PySem PySem.W PyProof.Rows
set_option linter.unusedVariables false
namespace Mine

/-! ## exceptions in flight -/

structure FlyT (H : Hm) (O : OSet) (h₀ h : Heap) (e : Value) (x : Exc) : Prop where
  mk ::
  is : ∃ a o vs tb otb tvs, e = .ref a ∧ h₀.get? a = none ∧ ¬ O a ∧ H a = none ∧ h.get? a = some o ∧ o.cls = x.cls ∧ o.data = .fields vs ∧ ArgOk H x vs ∧
    vs[1]? = some (.ref tb) ∧ h₀.get? tb = none ∧ ¬ O tb ∧ H tb = none ∧ tb ≠ a ∧ h.get? tb = some otb ∧ otb.cls = .type "traceback" ∧ otb.data = .fields tvs ∧ 3 < tvs.size

section
variable {Γ : Cx} {H H' : Hm} {O O' : OSet} {loc loc₀ : Loc} {s₀ s : Shared} {e : Value} {x : Exc} {L : Addr} {outer : List Env} {E : Value → Shared → Prop} {Q : Unit → Shared → Prop}

/-- objects that are new since s₀ and no fact's are changed -/
theorem change {W : Addr → Prop} {h' : Heap} (st₀ : St Γ H O loc₀ s₀) (n : Nx Γ.F H O s₀.heap H' O' s.heap) (st : St Γ H' O' loc s)
    (hW : ∀ b, W b → s₀.heap.get? b = none ∧ H' b = none ∧ ¬ O' b) (k : ∀ b o, ¬ W b → s.heap.get? b = some o → ∃ o', h'.get? b = some o' ∧ Same Γ.F b o o') :
    Nx Γ.F H O s₀.heap H' O' h' ∧ StH Γ H' O' loc h' s.os s.gens := by
  refine ⟨n.then (fun b o e _ hne => k b o (fun z => hne (hW b z).1) e) (fun b o e hne => ?_) (.refl _) (fun b o e => .inl e) (fun b e => .inl e), ?_⟩
  · obtain ⟨o', e', _⟩ := k b o (fun z => hne (hW b z).1) e; exact ⟨o', e'⟩
  · exact st.extW W (fun b z => { st₀.foreign (hW b z).1 with hm := (hW b z).2.1, o := (hW b z).2.2 }) k st.gens (.refl _) st.os fun b o e => .inl e

theorem wp_setFlight {fa : Option Addr} (st₀ : St Γ H O loc₀ s₀) (n : Nx Γ.F H O s₀.heap H' O' s.heap) (st : St Γ H' O' loc s) (fl : FlyT H' O' s₀.heap s.heap e x)
    (k : ∀ h', Nx Γ.F H O s₀.heap H' O' h' → StH Γ H' O' loc h' s.os s.gens → FlyT H' O' s₀.heap h' e x → Q () { s with heap := h' }) : wpAny Γ.M Γ.A (setFlight e fa) Q E s := by
  obtain ⟨a, o, vs, tb, otb, tvs, rfl, h2, h3, h4, h5, h6, h7, h8, k1, k2, k3, k4, k5, k6, k7, k8, k9⟩ := fl.is
  unfold setFlight
  refine wpAny_bind (wpAny_field h5 h7 k1 ?_)
  rw [if_pos (show (Value.ref tb != Value.none) = true from by simp)]
  refine wpAny_setField k6 k8 k9 ?_
  have hd := Obj.data_mapFields k8 (·.setIfInBounds 3 (fa.elim Value.none fun f => rawInt f))
  have hs := Heap.get?_update_self (Obj.mapFields (·.setIfInBounds 3 (fa.elim Value.none fun f => rawInt f))) k6 (Obj.isFreed_of_fields hd)
  obtain ⟨n', st'⟩ := change (W := fun b => b = tb) (h' := s.heap.update tb (Obj.mapFields (·.setIfInBounds 3 (fa.elim Value.none fun f => rawInt f)))) st₀ n st (fun b z => z ▸ ⟨k2, k4, k3⟩)
    fun b o hb e => ⟨o, (Heap.get?_update_other _ _ (Ne.symm hb)).trans e, .refl ..⟩
  refine k _ n' st' ⟨a, o, vs, tb, _, _, rfl, h2, h3, h4, (Heap.get?_update_other _ _ k5).trans h5, h6, h7, h8, k1, k2, k3, k4, k5, hs, (Obj.cls_mapFields _ _).trans k7, hd, by simpa using k9⟩

theorem funFrames {A : Around} {F : Fix} {h : Heap} {l : List Env} (x : FrOk A F h) (hl : A.frames = some l) : h.FunFrames F.h₁ l := by
  obtain ⟨l', hl', r⟩ := x
  rw [hl] at hl'; cases hl'
  clear hl
  induction l with
  | nil => trivial
  | cons env rest ih =>
    obtain ⟨h1, L, o, es, ep, h2, h3, h4, h5⟩ := r env List.mem_cons_self
    exact ⟨h1, ⟨L, o, h2, h5, h3, fun vs z => by rw [h4] at z; cases z⟩, ih fun e he => r e (List.mem_cons_of_mem _ he)⟩

theorem slots_same {A : Around} {F : Fix} {h h' : Heap} {l : List Env} (x : FrOk A F h) (hl : A.frames = some l) (hs : Heap.SlotsOnly (l.filterMap (·.frame)) h h') : ∀ b o, h.get? b = some o → ∃ o', h'.get? b = some o' ∧ Same F b o o' := by
  obtain ⟨l', hl', r⟩ := x
  rw [hl] at hl'; cases hl'
  intro b o e
  by_cases hb : b ∈ l.filterMap (·.frame)
  · obtain ⟨sl, e'⟩ := hs.2.2 b o e
    obtain ⟨env, he, hf⟩ := List.mem_filterMap.mp hb
    obtain ⟨h1, L, o', es, ep, h2, h3, h4, h5⟩ := r env he
    rw [hf] at h2; cases h2
    rw [e] at h3; cases h3
    exact ⟨_, e', .inr (.inl ⟨h5, ⟨es, ep, h4⟩, rfl, rfl, rfl⟩)⟩
  · exact ⟨o, (hs.2.1 b hb).trans e, .refl ..⟩

theorem wp_newEntry (st₀ : St Γ H O loc₀ s₀) (n : Nx Γ.F H O s₀.heap H' O' s.heap) (st : St Γ H' O' loc s) (hfr : Γ.A.frames = some (Γ.env :: outer)) (hL : Γ.env.frame = some L) {head : Value} {hadNext : Bool}
    {a : Addr} {o : Obj} {vs : Array Value} (h2 : s₀.heap.get? a = none) (h3 : ¬ O' a) (h4 : H' a = none) (h5 : s.heap.get? a = some o) (h6 : o.cls = x.cls) (h7 : o.data = .fields vs) (h8 : ArgOk H' x vs) (hsz : 1 < vs.size)
    (k : ∀ h', Nx Γ.F H O s₀.heap H' O' h' → StH Γ H' O' loc h' s.os s.gens → FlyT H' O' s₀.heap h' (.ref a) x → Q () { s with heap := h' }) :
    wpAny Γ.M Γ.A (do let f ← frameOf Γ.env; let pl ← entryPlaceOf L hadNext; let b ← EntryCells.newEntry head f .none (rawInt L) .none pl; setField (.ref a) 1 b) Q E s := by
  have hff := funFrames st.frames hfr
  refine wpAny_bind (wpAny_frameOf_fun hfr hff hL fun h₁ hs₁ => ?_)
  have same₁ := slots_same st.frames hfr hs₁
  have ha₁ : h₁.get? a = some o := by
    obtain ⟨o', e', sm⟩ := same₁ a o h5
    rw [e', sm.eq_of_notab (fun es ep z => by rw [h7] at z; cases z) (st₀.foreign h2).tab]
  refine wpAny_bind (wpAny_entryPlaceOf fun pl hpl => ?_)
  unfold EntryCells.newEntry newFields
  refine wpAny_bind (wpAny_newObj_type ?_ (hpl.sizeOk5 _ _ _ _ _))
  generalize htb : (⟨.type "traceback", none, .fields ([head, .ref L, .none, rawInt L, .none] ++ (if pl.isEmpty then List.replicate 6 Value.none else pl)).toArray, #[]⟩ : Obj) = ob
  have hobd : ob.data = .fields ([head, .ref L, .none, rawInt L, .none] ++ (if pl.isEmpty then List.replicate 6 Value.none else pl)).toArray := by rw [← htb]
  have hobc : ob.cls = .type "traceback" := by rw [← htb]
  have hfree : ob.isFreed = false := by rw [← htb]; rfl
  have ha₂ := Heap.get?_push_of_some (h := h₁) ob ha₁
  refine wpAny_setField ha₂ h7 hsz ?_
  have hTa : h₁.objs.size ≠ a := Nat.ne_of_gt (Heap.lt_size ha₁)
  have hd₃ := Obj.data_mapFields h7 (·.setIfInBounds 1 (Value.ref h₁.objs.size))
  have ha₃ := Heap.get?_update_self (Obj.mapFields (·.setIfInBounds 1 (Value.ref h₁.objs.size))) ha₂ (Obj.isFreed_of_fields hd₃)
  have hT₃ := (Heap.get?_update_other (h₁.push ob) (Obj.mapFields (·.setIfInBounds 1 (Value.ref h₁.objs.size))) (Ne.symm hTa)).trans (Heap.get?_push_size h₁ hfree)
  have hTs : s.heap.get? h₁.objs.size = none := Heap.get?_none_of_le (by rw [hs₁.1]; exact Nat.le_refl _)
  have fT := st.foreign hTs
  obtain ⟨n', st'⟩ := change (W := fun b => b = a) (h' := (h₁.push ob).update a (Obj.mapFields (·.setIfInBounds 1 (Value.ref h₁.objs.size)))) st₀ n st (fun b z => z ▸ ⟨h2, h4, h3⟩) fun b q hb e => by
    obtain ⟨q', e', sm⟩ := same₁ b q e
    exact ⟨q', (Heap.get?_update_other _ _ (Ne.symm hb)).trans (Heap.get?_push_of_some _ e'), sm⟩
  refine k _ n' st' ⟨a, _, _, h₁.objs.size, ob, _, rfl, h2, h3, h4, ha₃, (Obj.cls_mapFields _ _).trans h6, hd₃, ?_, ?_, n.none_back hTs, fT.o, fT.hm, hTa, hT₃, hobc, hobd, ?_⟩
  · have e0 : (vs.setIfInBounds 1 (Value.ref h₁.objs.size))[0]? = vs[0]? := by simp [Array.getElem?_setIfInBounds]
    have e2 : (vs.setIfInBounds 1 (Value.ref h₁.objs.size))[2]? = vs[2]? := by simp [Array.getElem?_setIfInBounds]
    unfold ArgOk
    rw [e0, e2]; exact h8
  · simp [hsz]
  · simp only [List.size_toArray, List.length_append, List.length_cons, List.length_nil]; omega

theorem wp_note (st₀ : St Γ H O loc₀ s₀) (n : Nx Γ.F H O s₀.heap H' O' s.heap) (st : St Γ H' O' loc s) (fl : Fly H' O' s₀.heap s.heap e x) (hfr : Γ.A.frames = some (Γ.env :: outer)) (hL : Γ.env.frame = some L)
    (k : ∀ h', Nx Γ.F H O s₀.heap H' O' h' → StH Γ H' O' loc h' s.os s.gens → FlyT H' O' s₀.heap h' e x → Q () { s with heap := h' }) : wpAny Γ.M Γ.A (noteFrame e Γ.env) Q E s := by
  obtain ⟨a, o, vs, rfl, h2, h3, h4, h5, h6, h7, h8, h9⟩ := fl.is
  unfold noteFrame
  simp only [hL]
  rcases h9 with h9 | ⟨tb, otb, tvs, k1, k2, k3, k4, k5, k6, k7, k8, k9⟩
  · refine wpAny_bind (wpAny_field h5 h7 h9 ?_)
    rw [if_neg (by decide)]
    exact wp_newEntry st₀ n st hfr hL h2 h3 h4 h5 h6 h7 h8 (Array.getElem?_eq_some_iff.mp h9).1 k
  · refine wpAny_bind (wpAny_field h5 h7 k1 ?_)
    rw [if_pos (show (Value.ref tb != Value.none) = true from by simp)]
    obtain ⟨w, hw⟩ : ∃ w, tvs[3]? = some w := ⟨tvs[3], by simp [k9]⟩
    refine wpAny_bind (wpAny_field k6 k8 hw ?_)
    by_cases hwe : (w == rawInt L) = true
    · rw [if_pos hwe]
      exact wpAny_pure (k _ n st ⟨a, o, vs, tb, otb, tvs, rfl, h2, h3, h4, h5, h6, h7, h8, k1, k2, k3, k4, k5, k6, k7, k8, k9⟩)
    · rw [if_neg hwe]
      refine wpAny_bind (wpAny_setField k6 k8 k9 ?_)
      obtain ⟨n', st'⟩ := change (W := fun b => b = tb) (h' := s.heap.update tb (Obj.mapFields (·.setIfInBounds 3 Value.none))) st₀ n st (fun b z => z ▸ ⟨k2, k4, k3⟩)
        fun b o hb e => ⟨o, (Heap.get?_update_other _ _ (Ne.symm hb)).trans e, .refl ..⟩
      exact wp_newEntry (s := { s with heap := s.heap.update tb (Obj.mapFields (·.setIfInBounds 3 Value.none)) }) st₀ n' st' hfr hL h2 h3 h4 ((Heap.get?_update_other _ _ k5).trans h5) h6 h7 h8 (Array.getElem?_eq_some_iff.mp k1).1 k

theorem wp_leaving (st₀ : St Γ H O loc₀ s₀) (n : Nx Γ.F H O s₀.heap H' O' s.heap) (st : St Γ H' O' loc s) (fl : Fly H' O' s₀.heap s.heap e x) (hfr : Γ.A.frames = some (Γ.env :: outer)) (hL : Γ.env.frame = some L)
    (k : ∀ h', Nx Γ.F H O s₀.heap H' O' h' → StH Γ H' O' loc h' s.os s.gens → FlyT H' O' s₀.heap h' e x → Q () { s with heap := h' }) : wpAny Γ.M Γ.A (leaving Γ.env e) Q E s := by
  unfold leaving
  refine wpAny_bind (wp_note st₀ n st fl hfr hL fun h' n' st' fl' => ?_)
  exact wp_setFlight (s := { s with heap := h' }) st₀ n' st' fl' fun h'' n'' st'' fl'' => k h'' n'' st'' fl''
end
end Mine
end
section
open PySem PySem.W PyProof.Rows
set_option linter.unusedVariables false
namespace Mine

/-! ## calls of the text's own functions -/

structure Wsp (F : Fix) (A : Around) (H : Hm) (h : Heap) (os : OsState) (g : Array GenState) : Prop where
  base : ∀ b o, F.h₁.get? b = some o → h.get? b = some o
  agree : ∀ b o, H b = some o → h.get? b = some o
  nofr : ∀ b o, H b = some o → Solid o
  os : os = F.os
  gens : AllBare g
  frames : FrOk A F h
  tabs : ∀ b, F.tab b → F.h₁.get? b = none ∧ TabAt h b

theorem StH.wsp {Γ : Cx} {H : Hm} {O : OSet} {loc : Loc} {h : Heap} {os : OsState} {g : Array GenState} (st : StH Γ H O loc h os g) : Wsp Γ.F Γ.A H h os g := ⟨st.base, st.agree, st.nofr, st.os, st.gens, st.frames, st.tabs⟩

structure FnAt (F : Fix) (a : Addr) (fd : FuncData) (body : List Stmt) : Prop where
  o : ∃ o, F.h₁.get? a = some o ∧ o.data = .func fd
  lim : F.h₁.NoLimit
  cd : F.h₁.CodeRec fd.code fd.qualname
  body : fd.body = .stmts body
  clos : fd.closure = []
  co : fd.scope.isCoroutine = false
  gen : fd.scope.isGenerator = false
  kind : fd.scope.kind = .function

def Fix.fn (F : Fix) (A : Around) (fd : FuncData) (a L : Addr) : Cx := ⟨F, A.deeper (callEnvC fd L a), callEnvC fd L a, fun _ => true⟩

/-- the values handed over; what is the callee's own from now on lies in O -/
structure ArgsAt (F : Fix) (A : Around) (H : Hm) (O : OSet) (h : Heap) (lvs : List LV) (vals : List Value) : Prop where
  len : vals.length = lvs.length
  at_ : ∀ (i : Nat) (lv : LV) (v : Value), lvs[i]? = some lv → vals[i]? = some v → LVAt H O h lv v
  sep : ∀ (i j : Nat) (lv lv' : LV) (a : Addr), lvs[i]? = some lv → lvs[j]? = some lv' → lv.mine = true → lv'.mine = true → vals[i]? = some (.ref a) → vals[j]? = some (.ref a) → i = j
  own : ∀ b, O b → F.h₁.get? b = none ∧ H b = none ∧ (∃ o, h.get? b = some o ∧ ∀ es ep, o.data ≠ .dict es ep) ∧ ¬ F.tab b

def CallQ (F : Fix) (A : Around) (H : Hm) (O : OSet) (s : Shared) (Q : V → Prop) (v : Value) (s' : Shared) : Prop :=
  ∃ H' R, Nx F H O s.heap H' (fun _ => False) s'.heap ∧ Wsp F A H' s'.heap s'.os s'.gens ∧ Rep H' R v ∧ Q R
def CallX (F : Fix) (A : Around) (H : Hm) (O : OSet) (s : Shared) (X : Exc → Prop) (e : Value) (s' : Shared) : Prop :=
  ∃ H' x, Nx F H O s.heap H' (fun _ => False) s'.heap ∧ Wsp F A H' s'.heap s'.os s'.gens ∧ Fly H' (fun _ => False) s.heap s'.heap e x ∧ X x

theorem zip_lookup {α : Type} : ∀ {names : List Str} {xs : List α} {x : Str} {y : α}, (names.zip xs).lookup x = some y → ∃ i : Nat, names[i]? = some x ∧ xs[i]? = some y
  | [], _, _, _, h => by simp at h
  | _ :: _, [], _, _, h => by simp at h
  | n :: ns, z :: zs, x, y, h => by
    rw [List.zip_cons_cons, List.lookup_cons] at h
    cases hb : x == n with
    | true => rw [hb] at h; cases h; exact ⟨0, by rw [beq_iff_eq.mp hb]; rfl, rfl⟩
    | false =>
      rw [hb] at h
      obtain ⟨i, h1, h2⟩ := zip_lookup h
      exact ⟨i + 1, by simpa using h1, by simpa using h2⟩

theorem bindL_not {kindOf : Str → Option NameKind} : ∀ (binds : List (Str × Value)) (m : Str → Option Value) (x : Str), x ∉ binds.map (·.1) → bindL kindOf binds m x = m x
  | [], _, _, _ => rfl
  | (n, v) :: r, m, x, h => by
    simp only [List.map_cons, List.mem_cons, not_or] at h
    unfold bindL
    rw [bindL_not r _ x h.2]
    split
    · simp [h.1]
    · rfl
theorem bindL_get {kindOf : Str → Option NameKind} : ∀ (names : List Str) (vals : List Value) (m : Str → Option Value) (i : Nat) (x : Str) (v : Value), names.Nodup → names[i]? = some x → vals[i]? = some v → kindOf x = some .local → bindL kindOf (names.zip vals) m x = some v
  | [], _, _, _, _, _, _, h, _, _ => by simp at h
  | _ :: _, [], _, _, _, _, _, _, h, _ => by simp at h
  | n :: ns, w :: ws, m, 0, x, v, hn, h1, h2, hk => by
    simp at h1 h2; subst h1; subst h2
    rw [List.zip_cons_cons]
    unfold bindL
    rw [bindL_not, if_pos hk]
    · simp
    · intro hm
      obtain ⟨p, hp, he⟩ := List.mem_map.mp hm
      have := (List.of_mem_zip hp).1
      rw [he] at this
      exact (List.nodup_cons.mp hn).1 this
  | n :: ns, w :: ws, m, i + 1, x, v, hn, h1, h2, hk => by
    rw [List.zip_cons_cons]
    unfold bindL
    exact bindL_get ns ws _ i x v (List.nodup_cons.mp hn).2 (by simpa using h1) (by simpa using h2) hk
theorem bindC_not {kindOf : Str → Option NameKind} : ∀ (binds : List (Str × Value)) (m : Str → Option Value) (x : Str), x ∉ binds.map (·.1) → bindC kindOf binds m x = m x
  | [], _, _, _ => rfl
  | (n, v) :: r, m, x, h => by
    simp only [List.map_cons, List.mem_cons, not_or] at h
    unfold bindC
    rw [bindC_not r _ x h.2]
    split
    · rfl
    · simp [h.1]
theorem bindC_get {kindOf : Str → Option NameKind} : ∀ (names : List Str) (vals : List Value) (m : Str → Option Value) (i : Nat) (x : Str) (v : Value), names.Nodup → names[i]? = some x → vals[i]? = some v → kindOf x = some .cell → bindC kindOf (names.zip vals) m x = some v
  | [], _, _, _, _, _, _, h, _, _ => by simp at h
  | _ :: _, [], _, _, _, _, _, _, h, _ => by simp at h
  | n :: ns, w :: ws, m, 0, x, v, hn, h1, h2, hk => by
    simp at h1 h2; subst h1; subst h2
    rw [List.zip_cons_cons]
    unfold bindC
    rw [bindC_not, if_neg (by rw [hk]; decide)]
    · simp
    · intro hm
      obtain ⟨p, hp, he⟩ := List.mem_map.mp hm
      have := (List.of_mem_zip hp).1
      rw [he] at this
      exact (List.nodup_cons.mp hn).1 this
  | n :: ns, w :: ws, m, i + 1, x, v, hn, h1, h2, hk => by
    rw [List.zip_cons_cons]
    unfold bindC
    exact bindC_get ns ws _ i x v (List.nodup_cons.mp hn).2 (by simpa using h1) (by simpa using h2) hk

section
variable {F : Fix} {A : Around} {H : Hm} {O : OSet} {s s₁ : Shared} {fd : FuncData} {a : Addr} {body : List Stmt} {names : List Str} {lvs : List LV} {vals : List Value}

theorem enter (ws : Wsp F A H s.heap s.os s.gens) (ar : ArgsAt F A H O s.heap lvs vals) (fn : FnAt F a fd body) (hn : names.Nodup)
    (hk : ∀ x ∈ names, fd.scope.names.lookup x = some .local ∨ fd.scope.names.lookup x = some .cell) (hlen : names.length = vals.length)
    (x : InCallC s (callEnvC fd s.heap.objs.size a).locals (bindL (callEnvC fd s.heap.objs.size a).kindOf (names.zip vals) fun _ => none) (callEnvC fd s.heap.objs.size a).cells (bindC (callEnvC fd s.heap.objs.size a).kindOf (names.zip vals) fun _ => none) s₁) :
    St (F.fn A fd a s.heap.objs.size) H (fun b => O b ∨ (s.heap.get? b = none ∧ ∃ o, s₁.heap.get? b = some o)) (names.zip lvs) s₁ := by
  obtain ⟨h', tk, rfl⟩ := x.toInCall.same
  have hL : (callEnvC fd s.heap.objs.size a).locals = s.heap.objs.size := rfl
  have hLs : s.heap.get? s.heap.objs.size = none := Heap.get?_none_of_le (Nat.le_refl _)
  have keep : ∀ b o, s.heap.get? b = some o → h'.get? b = some o := x.toInCall.keep
  have ns := x.toInCall.ns
  have nsx : ∃ o, h'.get? s.heap.objs.size = some o := let ⟨o, _, _, e, _⟩ := ns; ⟨o, e⟩
  have cellNew : ∀ y c, (callEnvC fd s.heap.objs.size a).cells.lookup y = some c → s.heap.objs.size < c := fun y c e => x.above y c (mem_of_lookup e)
  have cellNone : ∀ y c, (callEnvC fd s.heap.objs.size a).cells.lookup y = some c → s.heap.get? c = none := fun y c e => Heap.get?_none_of_le (Nat.le_of_lt (cellNew y c e))
  have oOld : ∀ b, O b → ∃ o, s.heap.get? b = some o := fun b hb => let ⟨o, e, _⟩ := (ar.own b hb).2.2.1; ⟨o, e⟩
  -- what a name holds
  have isAt : ∀ y lv, (names.zip lvs).lookup y = some lv → ∃ (i : Nat) (v : Value), names[i]? = some y ∧ lvs[i]? = some lv ∧ vals[i]? = some v ∧ VarIs (callEnvC fd s.heap.objs.size a) h' y v := by
    intro y lv e
    obtain ⟨i, h1, h2⟩ := zip_lookup e
    have hi : i < vals.length := by rw [← hlen]; exact (List.getElem?_eq_some_iff.mp h1).1
    refine ⟨i, vals[i], h1, h2, by simp [hi], ?_⟩
    have hv : vals[i]? = some vals[i] := by simp [hi]
    rcases hk y (List.mem_of_getElem? h1) with hl | hc
    · exact .inl ⟨hl, _, ns, bindL_get names vals _ i y _ hn h1 hv hl⟩
    · have hcs : ((callEnvC fd s.heap.objs.size a).cells.lookup y).isSome = true := cellsFrom_some _ _ _ _ (.inl (mem_of_lookup hc))
      obtain ⟨c, hcs⟩ := Option.isSome_iff_exists.mp hcs
      obtain ⟨o, eo, dO⟩ := x.cell y c hcs
      rw [bindC_get names vals _ i y _ hn h1 hv hc] at dO
      exact .inr ⟨.inl hc, c, o, hcs, eo, dO⟩
  have noFr : ∀ b, O b → ∀ o, s.heap.get? b = some o → ∀ es ep, o.data ≠ .dict es ep := fun b hb o e => by
    obtain ⟨o', e', d⟩ := (ar.own b hb).2.2.1
    rw [e] at e'; cases e'; exact d
  exact
  { base := fun b o e => keep b o (ws.base b o e)
    agree := fun b o e => keep b o (ws.agree b o e)
    nofr := ws.nofr
    os := ws.os
    gens := ws.gens
    obase := fun b hb => by
      rcases hb with hb | ⟨hb, _⟩
      · exact (ar.own b hb).1
      · show F.h₁.get? b = none
        cases e : F.h₁.get? b with
        | none => rfl
        | some o => have := ws.base b o e; rw [hb] at this; cases this
    otab := fun b hb z => by
      rcases hb with hb | ⟨hb, _⟩
      · exact (ar.own b hb).2.2.2 z
      · obtain ⟨_, vs, e, _⟩ := ws.tabs b z; rw [hb] at e; cases e
    tabs := fun b hb => ⟨(ws.tabs b hb).1, (ws.tabs b hb).2.same (F := F) fun o e => ⟨o, keep b o e, .refl ..⟩⟩
    ohm := fun b hb => by
      rcases hb with hb | ⟨hb, _⟩
      · exact (ar.own b hb).2.1
      · cases e : H b with
        | none => rfl
        | some o => have := ws.agree b o e; rw [hb] at this; cases this
    othere := fun b hb => by
      rcases hb with hb | ⟨_, hb⟩
      · obtain ⟨o, e⟩ := oOld b hb; exact ⟨o, keep b o e⟩
      · exact hb
    kind := fn.kind
    ns := ⟨_, ns⟩
    onsO := .inr ⟨hLs, nsx⟩
    vars := fun y lv e => by
      obtain ⟨i, v, h1, h2, h3, h4⟩ := isAt y lv e
      exact ⟨v, h4, (ar.at_ i lv v h2 h3).keep (fun _ q => .inl q) fun b o _ _ e => keep b o e⟩
    sep := fun y z b l1 l2 e1 e2 m1 m2 v1 v2 => by
      obtain ⟨i, v, h1, h2, h3, h4⟩ := isAt y l1 e1
      obtain ⟨j, w, k1, k2, k3, k4⟩ := isAt z l2 e2
      rw [h4.inj v1] at h3
      rw [k4.inj v2] at k3
      have := ar.sep i j l1 l2 b h2 k2 m1 m2 h3 k3
      subst this
      rw [h1] at k1; exact Option.some.inj k1
    apart := fun y b lv e m v1 => by
      obtain ⟨i, v, h1, h2, h3, h4⟩ := isAt y lv e
      obtain ⟨b', ev, ho⟩ := (ar.at_ i lv v h2 h3).isO m
      have := h4.inj v1
      rw [ev] at this; cases this
      obtain ⟨o, eo⟩ := oOld b ho
      have hlt := Heap.lt_size eo
      exact ⟨Nat.ne_of_lt hlt, fun y c e => Nat.ne_of_lt (Nat.lt_trans hlt (cellNew y c e))⟩
    cells := fun y c e => by
      obtain ⟨o, eo, d⟩ := x.cell y c e
      exact ⟨fun _ => .inr ⟨cellNone y c e, o, eo⟩, o, _, eo, d⟩
    cne := fun y c e => Nat.ne_of_gt (cellNew y c e)
    cinj := fun y z c e e' => name_of_addr x.apart (mem_of_lookup e) (mem_of_lookup e')
    frames := by
      obtain ⟨l, hl, r⟩ := ws.frames
      refine ⟨callEnvC fd s.heap.objs.size a :: l, Around.frames_deeper hl, fun env he => ?_⟩
      rcases List.mem_cons.mp he with rfl | he
      · obtain ⟨o, es, ep, eo, d, _⟩ := ns
        refine ⟨by show fd.scope.kind ≠ .module; rw [fn.kind]; decide, s.heap.objs.size, o, es, ep, rfl, eo, d, ?_⟩
        show F.h₁.get? _ = none
        cases e : F.h₁.get? s.heap.objs.size with
        | none => rfl
        | some o => have := ws.base _ o e; rw [hLs] at this; cases this
      · obtain ⟨h1, L, o, es, ep, h2, h3, h4, h5⟩ := r env he
        exact ⟨h1, L, o, es, ep, h2, keep L o h3, h4, h5⟩ }

theorem frOk_out {A A' : Around} {F : Fix} {h : Heap} {env : Env} {l : List Env} (x : FrOk A' F h) (h' : A'.frames = some (env :: l)) (hl : A.frames = some l) : FrOk A F h := by
  obtain ⟨l', e, r⟩ := x
  rw [h'] at e; cases e
  exact ⟨l, hl, fun q hq => r q (List.mem_cons_of_mem _ hq)⟩

/-- how a function's end is told -/
def FnQ (Q : V → Prop) : Fl → Loc → Prop
  | .ret R, _ => Q R
  | .next, _ => Q .none
  | _, _ => False

/-- a call of a function of the text's: its body under its parameters -/
theorem call_fn {args : Args} {Q : V → Prop} {X : Exc → Prop} (fn : FnAt F a fd body) (hroom : A.depth < recursionLimit) (ws : Wsp F A H s.heap s.os s.gens) (ar : ArgsAt F A H O s.heap lvs vals) (hn : names.Nodup)
    (hk : ∀ x ∈ names, fd.scope.names.lookup x = some .local ∨ fd.scope.names.lookup x = some .cell) (hlen : names.length = vals.length)
    (hbind : ∀ (Q' : List (Str × Value) → Shared → Prop) (E' : Value → Shared → Prop), Q' (names.zip vals) s → wpAny (model F.prog F.w) A.in1 (bindArgs fd args) Q' E' s)
    (h : ∀ L, Exs (F.fn A fd a L) (names.zip lvs) body (FnQ Q) (fun x _ => X x)) :
    wpAny (model F.prog F.w) A (runValue (.call (.ref a) args)) (CallQ F A H O s Q) (CallX F A H O s X) s := by
  obtain ⟨o, ho, hd⟩ := fn.o
  refine wpAny_runValue (codeAny_call_function hroom (ws.base _ _ ho) hd fn.co fn.gen fn.body (fn.cd.keeps ws.base) (hbind _ _ ?_))
  rw [fn.clos]
  refine wpAny_newFunctionEnv_cells fn.kind (fun x hx => ?_) fun env he s₁ hin => ?_
  · obtain ⟨y, v⟩ := x
    rcases hk y (List.of_mem_zip hx).1 with h1 | h1
    · exact .inl h1
    · exact .inr ⟨h1, cellsFrom_some _ _ _ _ (.inl (mem_of_lookup h1))⟩
  subst he
  refine ⟨(fn.lim.keeps ws.base).keeps hin.toInCall.keep, codeAny_func ?_⟩
  have st := enter ws ar fn hn hk hlen hin
  have keep := hin.toInCall.keep
  have out : ∀ (H' : Hm) (O' : OSet) (h' : Heap), Nx F H (fun b => O b ∨ (s.heap.get? b = none ∧ ∃ o, s₁.heap.get? b = some o)) s₁.heap H' O' h' → Nx F H O s.heap H' (fun _ => False) h' := by
    intro H' O' h' n
    refine ⟨fun b o e hb => ?_, fun b o e => n.there b o (keep b o e), n.hle, fun b o e => ?_, fun b z => z.elim⟩
    · exact n.kp b o (keep b o e) fun z => z.elim hb fun q => by rw [q.1] at e; cases e
    · rcases n.hnew b o e with h1 | h1 | h1
      · exact .inl h1
      · exact .inr (h1.imp id fun q => q.1)
      · refine .inr (.inr ?_)
        cases e' : s.heap.get? b with
        | none => rfl
        | some q => rw [keep b q e'] at h1; cases h1
  obtain ⟨l, hl, _⟩ := ws.frames
  have hfr : (F.fn A fd a s.heap.objs.size).A.frames = some ((F.fn A fd a s.heap.objs.size).env :: l) := Around.frames_deeper hl
  have wout : ∀ (H' : Hm) (O' : OSet) (loc : Loc) (h' : Heap) (os : OsState) (g : Array GenState), StH (F.fn A fd a s.heap.objs.size) H' O' loc h' os g → Wsp F A H' h' os g :=
    fun H' O' loc h' os g st => ⟨st.base, st.agree, st.nofr, st.os, st.gens, frOk_out st.frames hfr hl, st.tabs⟩
  refine wpAny_mono (h s.heap.objs.size H _ s₁ st) (fun f s' p => ?_) fun e s' p => ?_
  · obtain ⟨H', O', l', fl, n, st', r, q⟩ := p
    cases fl with
    | ret R =>
      obtain ⟨v, rfl, hr⟩ := r
      exact ⟨H', R, out _ _ _ n, wout _ _ _ _ _ _ st', hr, q⟩
    | next => cases r; exact ⟨H', .none, out _ _ _ n, wout _ _ _ _ _ _ st', rep_none _, q⟩
    | brk => exact q.elim
    | cont => exact q.elim
  · obtain ⟨H', O', l', x, n, st', fl, q⟩ := p
    refine wp_leaving (Γ := F.fn A fd a s.heap.objs.size) (L := s.heap.objs.size) st n st' fl hfr rfl fun h' n' st'' fl' => ?_
    refine ⟨H', x, out _ _ _ n', wout _ _ _ _ _ _ st'', ?_, q⟩
    obtain ⟨b, o, vs, tb, otb, tvs, e1, e2, e3, e4, e5, e6, e7, e8, k1, k2, k3⟩ := fl'.is
    have nb : ∀ b, s₁.heap.get? b = none → s.heap.get? b = none := fun b e => by
      cases e' : s.heap.get? b with
      | none => rfl
      | some q => rw [keep b q e'] at e; cases e
    exact ⟨b, o, vs, e1, nb b e2, id, e4, e5, e6, e7, e8, .inr ⟨tb, otb, tvs, k1, nb tb k2, id, k3.2⟩⟩
end
end Mine
end
section
open PySem PySem.W PyProof.Rows
set_option linter.unusedVariables false
namespace Mine

structure Room (A : Around) (d : Nat) : Prop where
  handled : A.handled = none
  depth : A.depth + d < recursionLimit
  units : A.units + 3 * d + 100 < cLine
theorem Room.deeper {A : Around} {d : Nat} (r : Room A (d + 1)) (env : Env) : Room (A.deeper env) d :=
  ⟨r.handled, by show A.depth + 1 + d < recursionLimit; have := r.depth; omega, by show A.units + 3 + 3 * d + 100 < cLine; have := r.units; omega⟩
theorem Room.less {A : Around} {d d' : Nat} (r : Room A d) (h : d' ≤ d) : Room A d' := ⟨r.handled, by have := r.depth; omega, by have := r.units; omega⟩

/-- a global name of the text's, or a built-in one -/
def GlobAt (F : Fix) (x : Str) (v : Value) : Prop :=
  (∃ mg, F.h₁.Ns mainGlobals mg ∧ mg x = some v) ∨ (∃ mg mb, F.h₁.Ns mainGlobals mg ∧ mg x = none ∧ F.h₁.Ns builtinsNs mb ∧ mb x = some v)

section
variable {Γ : Cx} {loc : Loc} {Q : V → Loc → Prop} {QL : LV → Loc → Prop} {QB : Bool → Loc → Prop} {QF : Fl → Loc → Prop} {X : Exc → Loc → Prop}

theorem wp_glob {M : Model} {A : Around} {E : Value → Shared → Prop} {H : Hm} {O : OSet} {s : Shared} {x : Str} {v : Value} {Q : Value → Shared → Prop} (st : St Γ H O loc s) (g : GlobAt Γ.F x v) (h : Q v s)
    (hg : Γ.env.globals = mainGlobals) (hb : Γ.env.builtins = builtinsNs) : wpAny M A (loadGlobal Γ.env x) Q E s := by
  rcases g with ⟨mg, h1, h2⟩ | ⟨mg, mb, h1, h2, h3, h4⟩
  · exact Calls.loadGlobal_global (hg ▸ h1.keeps st.base) h2 h
  · exact Calls.loadGlobal_builtin (hg ▸ h1.keeps st.base) h2 (hb ▸ h3.keeps st.base) h4 h

theorem ev_glob {x : Str} {pos} {v : Value} (g : GlobAt Γ.F x v) (h : Q (.con v) loc) (hk : Γ.env.kindOf x = some .globalImplicit := by rfl) (hg : Γ.env.globals = mainGlobals := by rfl) (hb : Γ.env.builtins = builtinsNs := by rfl)
    (hd : (x == ("__debug__" : Str)) = false := by decide) : Ev Γ loc (.Name x pos) (VQ Q) X :=
  fun H O s st => Calls.Name_function_global st.kind hk (wp_glob st g (PostV.here' st (rep_con _ _) h) hg hb) hd

/-- values that wait for a call -/
structure Temps (H : Hm) (O : OSet) (h₀ h : Heap) (lvs : List LV) (vs : List Value) : Prop where
  len : vs.length = lvs.length
  at_ : ∀ (i : Nat) (lv : LV) (v : Value), lvs[i]? = some lv → vs[i]? = some v → Res H O h₀ h lv v
  sep : ∀ (i j : Nat) (lv lv' : LV) (a : Addr), lvs[i]? = some lv → lvs[j]? = some lv' → lv.mine = true → lv'.mine = true → vs[i]? = some (.ref a) → vs[j]? = some (.ref a) → i = j

def PostA (Γ : Cx) (H : Hm) (O : OSet) (s : Shared) (Q : List LV → Loc → Prop) (vs : List Value) (s' : Shared) : Prop :=
  ∃ H' O' loc' lvs, Nx Γ.F H O s.heap H' O' s'.heap ∧ St Γ H' O' loc' s' ∧ Temps H' O' s.heap s'.heap lvs vs ∧ Q lvs loc'
def Args' (Γ : Cx) (loc : Loc) (pos : Pos) (es : List Expr) (Q : List LV → Loc → Prop) (X : Exc → Loc → Prop) : Prop :=
  ∀ H O s, St Γ H O loc s → wpAny Γ.M Γ.A (spliced (backTo pos (starEach es Γ.env))) (PostA Γ H O s Q) (PostX Γ H O s X) s
def Kws (Γ : Cx) (loc : Loc) (ts : List (Sem Value)) (Q : List LV → Loc → Prop) (X : Exc → Loc → Prop) : Prop :=
  ∀ H O s, St Γ H O loc s → wpAny Γ.M Γ.A (evalAll ts) (PostA Γ H O s Q) (PostX Γ H O s X) s

theorem Temps.nil (H : Hm) (O : OSet) (h₀ h : Heap) : Temps H O h₀ h [] [] := ⟨rfl, fun i lv v e _ => by simp at e, fun i j lv lv' a e => by simp at e⟩

/-- a waiting value outlives the next one's evaluation -/
theorem Res.on {F : Fix} {H₁ H₂ : Hm} {O₁ O₂ : OSet} {h₀ h₁ h₂ : Heap} {lv : LV} {v : Value} (r : Res H₁ O₁ h₀ h₁ lv v) (n : Nx F H₁ O₁ h₁ H₂ O₂ h₂) : Res H₂ O₂ h₀ h₂ lv v := by
  cases lv with
  | val A => exact Rep.mono n.hle _ _ r
  | own b As =>
    obtain ⟨a, e, h1, h2, h3, eb, o, xs, k, h4, h5, h6, h8, h7⟩ := r
    obtain ⟨o', e', sm⟩ := n.kp a o h4 h2
    have : o' = o := sm.eq_of_data ⟨fun es ep z => (by rw [h6] at z; cases z), by rw [h5]; simp⟩
    subst this
    refine ⟨a, e, h1, fun z => (n.onew a z).elim h2 fun q => (by rw [h4] at q; cases q), ?_, eb, o', xs, k, e', h5, h6, h8, h7.mono n.hle⟩
    cases q : H₂ a with
    | none => rfl
    | some w => rcases n.hnew a w q with z | z | z
                · rw [h3] at z; cases z
                · exact absurd z h2
                · rw [h4] at z; cases z
  | itr As =>
    obtain ⟨a, e, h1, h2, h3, l, i, ol, xs, k, ⟨o, h4, h5, h6⟩, h7, h8, h9, h10⟩ := r
    obtain ⟨o', e', sm⟩ := n.kp a o h4 h2
    refine ⟨a, e, h1, fun z => (n.onew a z).elim h2 fun q => (by rw [h4] at q; cases q), ?_, l, i, ol, xs, k, ⟨o', e', sm.cls.trans h5, (sm.data (.inr (by rw [h5]; simp))).trans h6⟩, n.hle _ _ h7, h8, h9, h10.mono n.hle⟩
    cases q : H₂ a with
    | none => rfl
    | some w => rcases n.hnew a w q with z | z | z
                · rw [h3] at z; cases z
                · exact absurd z h2
                · rw [h4] at z; cases z

theorem Temps.cons {F : Fix} {H : Hm} {O : OSet} {H₁ H₂ : Hm} {O₁ O₂ : OSet} {h₀ h₁ h₂ : Heap} {lv : LV} {v : Value} {lvs : List LV} {vs : List Value} (n₀ : Nx F H O h₀ H₁ O₁ h₁) (r : Res H₁ O₁ h₀ h₁ lv v) (n : Nx F H₁ O₁ h₁ H₂ O₂ h₂) (t : Temps H₂ O₂ h₁ h₂ lvs vs) :
    Temps H₂ O₂ h₀ h₂ (lv :: lvs) (v :: vs) := by
  have r' := r.on n
  have new : lv.mine = true → ∃ a, v = .ref a ∧ ∃ o, h₁.get? a = some o := fun m => by obtain ⟨a, e, _, _, _, _, o, e', _⟩ := r.new_obj m; exact ⟨a, e, o, e'⟩
  have ne : ∀ (j : Nat) (lv' : LV) (a : Addr), lvs[j]? = some lv' → lv.mine = true → lv'.mine = true → v = .ref a → vs[j]? = some (.ref a) → False := by
    intro j lv' a e m m' ev ew
    obtain ⟨a', e1, o, e2⟩ := new m
    rw [ev] at e1; cases e1
    obtain ⟨a'', e3, _, e4, _⟩ := (t.at_ j lv' _ e ew).new_obj m'
    cases e3
    rw [e2] at e4; cases e4
  refine ⟨by simp [t.len], fun i w u e e' => ?_, fun i j w w' a e e' m m' ev ew => ?_⟩
  · cases i with
    | zero => simp at e e'; subst e; subst e'; exact r'
    | succ i => exact (t.at_ i w u (by simpa using e) (by simpa using e')).back n₀
  · cases i with
    | zero =>
      cases j with
      | zero => rfl
      | succ j =>
        simp at e ev; subst e
        exact (ne j w' a (by simpa using e') m m' ev (by simpa using ew)).elim
    | succ i =>
      cases j with
      | zero =>
        simp at e' ew; subst e'
        exact (ne i w a (by simpa using e) m' m ew (by simpa using ev)).elim
      | succ j => rw [t.sep i j w w' a (by simpa using e) (by simpa using e') m m' (by simpa using ev) (by simpa using ew)]

theorem args_nil {pos : Pos} {QA : List LV → Loc → Prop} (h : QA [] loc) : Args' Γ loc pos [] QA X :=
  fun H O s st => wpAny_items_nil ⟨H, O, loc, [], .refl .., st, .nil .., h⟩
theorem args_cons {pos : Pos} {e : Expr} {es : List Expr} {QA : List LV → Loc → Prop} (h : Ev Γ loc e (fun lv l => Args' Γ l pos es (fun lvs l' => QA (lv :: lvs) l') X) X)
    (he : starEach (e :: es) Γ.env = (false, eval e Γ.env) :: starEach es Γ.env := by rfl) : Args' Γ loc pos (e :: es) QA X := by
  intro H O s st
  refine wpAny_items_cons (wpAny_mono (h H O s st) (fun v s₁ p => ?_) fun _ _ p => p) he
  obtain ⟨H₁, O₁, l₁, lv, n₁, st₁, r₁, q₁⟩ := p
  refine wpAny_mono (q₁ H₁ O₁ s₁ st₁) (fun vs s₂ p => ?_) fun _ _ p => p.back n₁
  obtain ⟨H₂, O₂, l₂, lvs, n₂, st₂, t₂, q₂⟩ := p
  exact ⟨H₂, O₂, l₂, lv :: lvs, n₁.trans n₂, st₂, .cons n₁ r₁ n₂ t₂, q₂⟩
theorem kws_nil {QA : List LV → Loc → Prop} (h : QA [] loc) : Kws Γ loc [] QA X :=
  fun H O s st => wpAny_evalAll_nil ⟨H, O, loc, [], .refl .., st, .nil .., h⟩
theorem Temps.append {F : Fix} {H : Hm} {O : OSet} {H₁ H₂ : Hm} {O₁ O₂ : OSet} {h₀ h₁ h₂ : Heap} {lvs lws : List LV} {vs ws : List Value} (n₀ : Nx F H O h₀ H₁ O₁ h₁) (t : Temps H₁ O₁ h₀ h₁ lvs vs) (n : Nx F H₁ O₁ h₁ H₂ O₂ h₂) (t' : Temps H₂ O₂ h₁ h₂ lws ws) :
    Temps H₂ O₂ h₀ h₂ (lvs ++ lws) (vs ++ ws) := by
  induction lvs generalizing vs with
  | nil =>
    have : vs = [] := List.eq_nil_of_length_eq_zero (by simpa using t.len)
    subst this
    refine ⟨t'.len, fun i lv v e e' => (t'.at_ i lv v e e').back n₀, t'.sep⟩
  | cons lv lvs ih =>
    cases vs with
    | nil => have := t.len; simp at this
    | cons v vs =>
      have t₁ : Temps H₁ O₁ h₀ h₁ lvs vs := ⟨by simpa using t.len, fun i w u e e' => t.at_ (i + 1) w u (by simpa using e) (by simpa using e'), fun i j w w' a e e' m m' ev ew => by
        have := t.sep (i + 1) (j + 1) w w' a (by simpa using e) (by simpa using e') m m' (by simpa using ev) (by simpa using ew); omega⟩
      have t₂ := ih t₁
      have r := (t.at_ 0 lv v rfl rfl)
      refine ⟨by simp [t₂.len], fun i w u e e' => ?_, fun i j w w' a e e' m m' ev ew => ?_⟩
      · cases i with
        | zero => simp at e e'; subst e; subst e'; exact r.on n
        | succ i => exact t₂.at_ i w u (by simpa using e) (by simpa using e')
      · have hd : ∀ (j : Nat) (w' : LV) (a : Addr), (lvs ++ lws)[j]? = some w' → lv.mine = true → w'.mine = true → v = .ref a → (vs ++ ws)[j]? = some (.ref a) → False := by
          intro j w' a e' m m' ev ew
          have hl : vs.length = lvs.length := t₁.len
          by_cases hj : j < lvs.length
          · rw [List.getElem?_append_left hj] at e'
            rw [List.getElem?_append_left (by omega)] at ew
            have := t.sep 0 (j + 1) lv w' a rfl (by simpa using e') m m' (by rw [ev]; rfl) (by simpa using ew)
            omega
          · rw [List.getElem?_append_right (by omega)] at e'
            rw [List.getElem?_append_right (by omega), hl] at ew
            obtain ⟨a', e1, _, _, _, _, o, e2, _⟩ := r.new_obj m
            rw [ev] at e1; cases e1
            obtain ⟨a'', e3, _, e4, _⟩ := (t'.at_ _ w' _ e' ew).new_obj m'
            cases e3
            rw [e2] at e4; cases e4
        cases i with
        | zero =>
          cases j with
          | zero => rfl
          | succ j =>
            simp at e ev; subst e
            exact (hd j w' a (by simpa using e') m m' ev (by simpa using ew)).elim
        | succ i =>
          cases j with
          | zero =>
            simp at e' ew; subst e'
            exact (hd i w a (by simpa using e) m' m ew (by simpa using ev)).elim
          | succ j => rw [t₂.sep i j w w' a (by simpa using e) (by simpa using e') m m' (by simpa using ev) (by simpa using ew)]

/-- a contract of a function of the text's -/
def Calls (F : Fix) (fv : Value) (d : Nat) (lvs : List LV) (kn : List Str) (klvs : List LV) (Q : V → Prop) (X : Exc → Prop) : Prop :=
  ∀ A H O s vals kvals, Room A d → Wsp F A H s.heap s.os s.gens → vals.length = lvs.length → ArgsAt F A H O s.heap (lvs ++ klvs) (vals ++ kvals) →
    wpAny (model F.prog F.w) A (call fv vals (kn.zip kvals)) (CallQ F A H O s Q) (CallX F A H O s X) s

/-- the values waiting are handed over -/
def handed (lvs : List LV) (vs : List Value) : OSet := fun b => ∃ (i : Nat) (lv : LV), lvs[i]? = some lv ∧ lv.mine = true ∧ vs[i]? = some (.ref b)

theorem Temps.args {H : Hm} {O : OSet} {s₀ s : Shared} {lvs : List LV} {vs : List Value} {loc₀ : Loc} {H₀ : Hm} {O₀ : OSet} (st₀ : St Γ H₀ O₀ loc₀ s₀) (t : Temps H O s₀.heap s.heap lvs vs) : ArgsAt Γ.F Γ.A H (handed lvs vs) s.heap lvs vs := by
  refine ⟨t.len, fun i lv v e e' => ?_, t.sep, fun b hb => ?_⟩
  · have r := t.at_ i lv v e e'
    cases lv with
    | val A => exact r
    | own b As => obtain ⟨a, ev, _, _, _, r⟩ := r; subst ev; exact ⟨a, rfl, ⟨i, _, e, rfl, e'⟩, r⟩
    | itr As => obtain ⟨a, ev, _, _, _, r⟩ := r; subst ev; exact ⟨a, rfl, ⟨i, _, e, rfl, e'⟩, r⟩
  · obtain ⟨i, lv, e, m, e'⟩ := hb
    obtain ⟨a, ev, _, h1, h2, h3, o, eo, _, hd⟩ := (t.at_ i lv _ e e').new_obj m
    cases ev
    refine ⟨?_, h3, ⟨o, eo, hd⟩, (st₀.foreign h1).tab⟩
    cases q : Γ.F.h₁.get? b with
    | none => rfl
    | some w => have := st₀.base _ w q; rw [h1] at this; cases this

theorem Temps.foreign {H : Hm} {O : OSet} {s₀ s : Shared} {lvs : List LV} {vs : List Value} {loc₀ : Loc} {H₀ : Hm} {O₀ : OSet} (st₀ : St Γ H₀ O₀ loc₀ s₀) (t : Temps H O s₀.heap s.heap lvs vs) : ∀ b, handed lvs vs b → Foreign Γ H O b := by
  rintro b ⟨i, lv, e, m, e'⟩
  obtain ⟨a, ev, _, h1, h2, h3, _⟩ := (t.at_ i lv _ e e').new_obj m
  cases ev
  exact { st₀.foreign h1 with hm := h3, o := h2 }

/-- behind a call: the caller's state -/
theorem StH.after {H H' : Hm} {O Oc : OSet} {h h' : Heap} {os os' : OsState} {g g' : Array GenState} (st : StH Γ H O loc h os g) (n : Nx Γ.F H Oc h H' (fun _ => False) h') (ws : Wsp Γ.F Γ.A H' h' os' g') (hO : ∀ b, Oc b → Foreign Γ H O b) : StH Γ H' O loc h' os' g' :=
  st.extW Oc hO (fun b o hb e => n.kp b o e hb) ws.gens n.hle ws.os fun b o e => by
    rcases n.hnew b o e with h1 | h1 | h1
    · exact .inl h1
    · exact .inr ⟨(hO b h1).o, ws.agree b o e, ws.nofr b o e⟩
    · exact .inr ⟨fun z => (by obtain ⟨o', e'⟩ := st.othere b z; rw [h1] at e'; cases e'), ws.agree b o e, ws.nofr b o e⟩
theorem Nx.after {F : Fix} {H₀ H H' : Hm} {O₀ O Oc : OSet} {h₀ h h' : Heap} (n₀ : Nx F H₀ O₀ h₀ H O h) (n : Nx F H Oc h H' (fun _ => False) h') (hO : ∀ b, Oc b → h₀.get? b = none) : Nx F H₀ O₀ h₀ H' O h' :=
  n₀.then (fun b o e hb hne => n.kp b o e fun z => hne (hO b z)) (fun b o e _ => n.there b o e) n.hle (fun b o e => by
    rcases n.hnew b o e with h1 | h1 | h1
    · exact .inl h1
    · exact .inr (.inr (hO b h1))
    · exact .inr (.inr (n₀.none_back h1))) fun b e => .inl e

theorem handed_new {H : Hm} {O : OSet} {h₀ h : Heap} {lvs : List LV} {vs : List Value} (t : Temps H O h₀ h lvs vs) : ∀ b, handed lvs vs b → h₀.get? b = none := by
  rintro b ⟨i, lv, e, m, e'⟩
  obtain ⟨a, ev, _, h1, _⟩ := (t.at_ i lv _ e e').new_obj m
  cases ev; exact h1

/-- f(args, name=value ..) of a function of the text's -/
theorem ev_call {x : Str} {p pos : Pos} {e : Expr} {es : List Expr} {ks : List Keyword} {a : Addr} {fd : FuncData} {body : List Stmt} (g : GlobAt Γ.F x (.ref a)) (fn : FnAt Γ.F a fd body)
    (h : Args' Γ loc pos (e :: es) (fun lvs l => Kws Γ l ((backToKw pos (keywordEach ks Γ.env)).map (·.2)) (fun klvs l' =>
      ∃ d Q' X', Room Γ.A d ∧ Calls Γ.F (.ref a) d lvs ((backToKw pos (keywordEach ks Γ.env)).filterMap (·.1)) klvs Q' X' ∧ (∀ R, Q' R → Q R l') ∧ (∀ x, X' x → X x l')) X) X)
    (hk : Γ.env.kindOf x = some .globalImplicit := by rfl) (hg : Γ.env.globals = mainGlobals := by rfl) (hb : Γ.env.builtins = builtinsNs := by rfl)
    (hd : (x == ("__debug__" : Str)) = false := by decide) (he : ∃ r, backTo pos (starEach (e :: es) Γ.env) = (false, eval e Γ.env) :: r := by exact ⟨_, rfl⟩)
    (hkw : (backToKw pos (keywordEach ks Γ.env)).all (·.1.isSome) = true := by rfl) : Ev Γ loc (.Call (.Name x p) (e :: es) ks pos) (VQ Q) X := by
  intro H O s st
  refine wpAny_Call_Name_kw (Calls.Name_function_global st.kind hk (wp_glob st g ?_ hg hb) hd)
  obtain ⟨o, ho, hdat⟩ := fn.o
  obtain ⟨r, hr⟩ := he
  have hh := h H O s st
  refine callWith_function_kw (o := o) (fd := fd) ?_
  rw [hr] at hh ⊢
  refine evalArgs_kw hkw (wpAny_mono hh (fun vs s₁ p => ?_) fun _ _ p => p)
  obtain ⟨H₁, O₁, l₁, lvs, n₁, st₁, t₁, q₁⟩ := p
  refine wpAny_mono (q₁ H₁ O₁ s₁ st₁) (fun kvs s₂ p => ?_) fun _ _ p => p.back n₁
  obtain ⟨H₂, O₂, l₂, klvs, n₂, st₂, t₂, d, Q', X', hroom, hc, hQ, hX⟩ := p
  have tt := Temps.append n₁ t₁ n₂ t₂
  have nn := n₁.trans n₂
  refine ⟨⟨st₂.base _ _ ho, hdat⟩, ?_⟩
  refine wpAny_mono (hc Γ.A H₂ _ s₂ vs kvs hroom st₂.wsp t₁.len (tt.args st)) (fun v s₃ p => ?_) fun ex s₃ p => ?_
  · obtain ⟨H₃, R, n₃, ws, hr, hq⟩ := p
    exact ⟨H₃, O₂, l₂, .val R, nn.after n₃ (handed_new tt), st₂.after n₃ ws (tt.foreign st), hr, hQ R hq⟩
  · obtain ⟨H₃, x', n₃, ws, fl, hq⟩ := p
    refine ⟨H₃, O₂, l₂, x', nn.after n₃ (handed_new tt), st₂.after n₃ ws (tt.foreign st), ?_, hX _ hq⟩
    obtain ⟨b, o, ws', e1, e2, e3, e4, e5, e6, e7, e8, e9⟩ := fl.is
    have nO : ∀ b, s₂.heap.get? b = none → ¬ O₂ b := fun b e z => by obtain ⟨o, e'⟩ := st₂.othere b z; rw [e] at e'; cases e'
    refine ⟨b, o, ws', e1, nn.none_back e2, nO b e2, e4, e5, e6, e7, e8, e9.imp id ?_⟩
    rintro ⟨tb, otb, tvs, k1, k2, k3, k4⟩
    exact ⟨tb, otb, tvs, k1, nn.none_back k2, nO tb k2, k4⟩

/-- a built-in function, or a built-in type, is called with plain values -/
def OpN (Γ : Cx) (loc : Loc) (t : List Value → Sem Value) (As : List V) (Q : LV → Loc → Prop) (X : Exc → Loc → Prop) : Prop :=
  ∀ H O s vs, St Γ H O loc s → Reps H As vs → wpAny Γ.M Γ.A (t vs) (PostV Γ H O s Q) (PostX Γ H O s X) s

def AllVal (Q : List V → Loc → Prop) (lvs : List LV) (l : Loc) : Prop := ∃ As, lvs = As.map .val ∧ Q As l

theorem Temps.reps {H : Hm} {O : OSet} {h₀ h : Heap} {As : List V} {vs : List Value} (t : Temps H O h₀ h (As.map .val) vs) : Reps H As vs := by
  refine Reps.of_get (by simpa using t.len) fun i A y e e' => ?_
  exact t.at_ i (.val A) y (by simp [e]) e'

theorem ev_builtin {x : Str} {p pos : Pos} {e : Expr} {es : List Expr} {id : String} (g : GlobAt Γ.F x (.builtin id)) (h : Args' Γ loc pos (e :: es) (AllVal fun As l => OpN Γ l (fun vs => call (.builtin id) vs) As QL X) X)
    (hk : Γ.env.kindOf x = some .globalImplicit := by rfl) (hg : Γ.env.globals = mainGlobals := by rfl) (hb : Γ.env.builtins = builtinsNs := by rfl)
    (hd : (x == ("__debug__" : Str)) = false := by decide) (he : ∃ r, backTo pos (starEach (e :: es) Γ.env) = (false, eval e Γ.env) :: r ∧ r.any (·.1) = false := by exact ⟨_, rfl, rfl⟩) : Ev Γ loc (.Call (.Name x p) (e :: es) [] pos) QL X := by
  intro H O s st
  refine wpAny_Call_Name_kw (Calls.Name_function_global st.kind hk (wp_glob st g ?_ hg hb) hd)
  obtain ⟨r, hr, hr'⟩ := he
  have hh := h H O s st
  rw [hr] at hh ⊢
  show wpAny _ _ (callWith pos (.builtin id) [] _ []) _ _ _
  refine Calls.callWith_builtin (by rw [List.any_cons, hr']; rfl) (Calls.evalArgs_plain (wpAny_mono hh (fun vs s₁ p => ?_) fun _ _ p => p))
  obtain ⟨H₁, O₁, l₁, lvs, n₁, st₁, t₁, As, rfl, q₁⟩ := p
  exact wpAny_mono (q₁ H₁ O₁ s₁ vs st₁ t₁.reps) (fun _ _ p => p.back n₁) fun _ _ p => p.back n₁

theorem ev_type {x : Str} {p pos : Pos} {e : Expr} {es : List Expr} {T : String} (g : GlobAt Γ.F x (.type T)) (h : Args' Γ loc pos (e :: es) (AllVal fun As l => OpN Γ l (fun vs => call (.type T) vs) As QL X) X)
    (hk : Γ.env.kindOf x = some .globalImplicit := by rfl) (hg : Γ.env.globals = mainGlobals := by rfl) (hb : Γ.env.builtins = builtinsNs := by rfl)
    (hd : (x == ("__debug__" : Str)) = false := by decide) (he : ∃ r, backTo pos (starEach (e :: es) Γ.env) = (false, eval e Γ.env) :: r ∧ r.any (·.1) = false := by exact ⟨_, rfl, rfl⟩) : Ev Γ loc (.Call (.Name x p) (e :: es) [] pos) QL X := by
  intro H O s st
  refine wpAny_Call_Name_kw (Calls.Name_function_global st.kind hk (wp_glob st g ?_ hg hb) hd)
  obtain ⟨r, hr, hr'⟩ := he
  have hh := h H O s st
  rw [hr] at hh ⊢
  show wpAny _ _ (callWith pos (.type T) [] _ []) _ _ _
  refine PySem.callWith_type (by rw [List.any_cons, hr']; rfl) (Calls.evalArgs_plain (wpAny_mono hh (fun vs s₁ p => ?_) fun _ _ p => p))
  obtain ⟨H₁, O₁, l₁, lvs, n₁, st₁, t₁, As, rfl, q₁⟩ := p
  exact wpAny_mono (q₁ H₁ O₁ s₁ vs st₁ t₁.reps) (fun _ _ p => p.back n₁) fun _ _ p => p.back n₁
end
end Mine
end
section
open PySem PySem.W PyProof.Rows
set_option linter.unusedVariables false
namespace Mine

section
variable {Γ : Cx} {loc : Loc} {Q : V → Loc → Prop} {QL : LV → Loc → Prop} {QB : Bool → Loc → Prop} {QF : Fl → Loc → Prop} {X : Exc → Loc → Prop} {a b : Int} {x y : UInt64} {p q : Bool} {u v : Str}

/-- an exception that the interpreter has just made -/
theorem PostX.new {H : Hm} {O : OSet} {s : Shared} {h' : Heap} {tk : Nat} {e : Addr} {cls : String} (st : St Γ H O loc s) (ne : Heap.NewExc s.heap h' e cls) (hx : X ⟨.type cls, none⟩ loc) : PostX Γ H O s X (.ref e) { s with heap := h', toks := tk } := by
  obtain ⟨ob, t, e1, e2, e3⟩ := ne.there
  have fe := st.foreign ne.new
  refine ⟨H, O, loc, ⟨.type cls, none⟩, ⟨fun b o e _ => ⟨o, ne.keeps b o e, .refl ..⟩, fun b o e => ⟨o, ne.keeps b o e⟩, .refl _, fun b o e => .inl e, fun b e => .inl e⟩,
    st.ext (fun b o e => ⟨o, ne.keeps b o e, .refl ..⟩) st.gens (.refl _) fun b o e => .inl e, ⟨e, ob, _, rfl, ne.new, fe.o, fe.hm, e1, e2, e3, ⟨fun A hA => (by cases hA), fun _ => rfl⟩, .inl rfl⟩, hx⟩

/-! ### ints -/
theorem op_add (h : Q (.int (a + b)) loc) : Op2 Γ loc (binaryOp .Add) (.int a) (.int b) Q X := fun H O s va vb st ra rb => by
  obtain ⟨t, rfl⟩ := ra.int_of; obtain ⟨t', rfl⟩ := rb.int_of; exact PyProof.Rows.add_int (PostV.here st (rep_int ..) h _)
theorem op_sub (h : Q (.int (a - b)) loc) : Op2 Γ loc (binaryOp .Sub) (.int a) (.int b) Q X := fun H O s va vb st ra rb => by
  obtain ⟨t, rfl⟩ := ra.int_of; obtain ⟨t', rfl⟩ := rb.int_of; exact PyProof.Rows.sub_int (PostV.here st (rep_int ..) h _)
theorem op_mul (h : Q (.int (a * b)) loc) (hm : IntMulOk a b) : Op2 Γ loc (binaryOp .Mult) (.int a) (.int b) Q X := fun H O s va vb st ra rb => by
  obtain ⟨t, rfl⟩ := ra.int_of; obtain ⟨t', rfl⟩ := rb.int_of; exact PyProof.Rows.mul_int (PostV.here st (rep_int ..) h _) hm
theorem op_mod (hb : b ≠ 0) (h : Q (.int (a.fmod b)) loc) : Op2 Γ loc (binaryOp .Mod) (.int a) (.int b) Q X := fun H O s va vb st ra rb => by
  obtain ⟨t, rfl⟩ := ra.int_of; obtain ⟨t', rfl⟩ := rb.int_of; exact PyProof.Rows.mod_int' hb (PostV.here st (rep_int ..) h _)
theorem op_fdiv (hb : b ≠ 0) (hp : Builtin.divisionGoesByPylong a b = false) (h : Q (.int (a.fdiv b)) loc) : Op2 Γ loc (binaryOp .FloorDiv) (.int a) (.int b) Q X := fun H O s va vb st ra rb => by
  obtain ⟨t, rfl⟩ := ra.int_of; obtain ⟨t', rfl⟩ := rb.int_of; exact PyProof.Rows.floordiv_int hb (PostV.here st (rep_int ..) h _) (.inl hp)
theorem op_pow (hn : 0 ≤ b) (hz : (Builtin.Int.intBits a : Int) * b ≤ 2 ^ 27) (h : Q (.int (a ^ b.toNat)) loc) : Op2 Γ loc (binaryOp .Pow) (.int a) (.int b) Q X := fun H O s va vb st ra rb => by
  obtain ⟨t, rfl⟩ := ra.int_of; obtain ⟨t', rfl⟩ := rb.int_of; exact PyProof.Rows.pow_int hn hz (PostV.here st (rep_int ..) h _)
theorem op_div_ii (hb : b ≠ 0) (hf : ¬ Float64.isInf (Float64.ofFrac (decide (a < 0) != decide (b < 0)) a.natAbs b.natAbs) = true) (h : Q (.flt (Float64.ofFrac (decide (a < 0) != decide (b < 0)) a.natAbs b.natAbs)) loc) :
    Op2 Γ loc (binaryOp .Div) (.int a) (.int b) Q X := fun H O s va vb st ra rb => by
  obtain ⟨t, rfl⟩ := ra.int_of; obtain ⟨t', rfl⟩ := rb.int_of; exact AutoIntOps.truediv_2 (by simpa using hb) hf (PostV.here st (rep_flt ..) h _)
theorem op_neg (h : Q (.int (-a)) loc) : Op1 Γ loc (unaryOp .USub) (.int a) Q X := fun H O s va st ra => by
  obtain ⟨t, rfl⟩ := ra.int_of; exact PyProof.Rows.neg_int (PostV.here st (rep_int ..) h _)

/-! ### floats -/
/-! an int and a float -/
theorem op_div_fi (hi : Float64.isInf (Float64.ofInt a) = false) (hz : Float64.isZero (Float64.ofInt a) = false) (h : Q (.flt (Float64.div x (Float64.ofInt a))) loc) : Op2 Γ loc (binaryOp .Div) (.flt x) (.int a) Q X := fun H O s va vb st ra rb => by
  obtain ⟨t, rfl⟩ := ra.flt_of; obtain ⟨t', rfl⟩ := rb.int_of
  exact AutoFloatOpsIf.truediv_fi (by rw [if_neg (by simp [hi]), if_neg (by simp [hz])]; exact PostV.here st (rep_flt ..) h _)

/-! ### comparisons -/
theorem cmp_eq (h : Q (.bool (a == b)) loc) : Op2 Γ loc (compareOp .Eq) (.int a) (.int b) Q X := fun H O s va vb st ra rb => by
  obtain ⟨t, rfl⟩ := ra.int_of; obtain ⟨t', rfl⟩ := rb.int_of; exact PyProof.Rows.eq_int (PostV.here' st (rep_bool ..) h)
theorem cmp_ne (h : Q (.bool (a != b)) loc) : Op2 Γ loc (compareOp .NotEq) (.int a) (.int b) Q X := fun H O s va vb st ra rb => by
  obtain ⟨t, rfl⟩ := ra.int_of; obtain ⟨t', rfl⟩ := rb.int_of; exact PyProof.Rows.ne_int (PostV.here' st (rep_bool ..) h)
theorem cmp_lt (h : Q (.bool (decide (a < b))) loc) : Op2 Γ loc (compareOp .Lt) (.int a) (.int b) Q X := fun H O s va vb st ra rb => by
  obtain ⟨t, rfl⟩ := ra.int_of; obtain ⟨t', rfl⟩ := rb.int_of; exact PyProof.Rows.lt_int (PostV.here' st (rep_bool ..) h)
theorem cmp_eqF (h : Q (.bool (Float64.cmp x y == some .eq)) loc) : Op2 Γ loc (compareOp .Eq) (.flt x) (.flt y) Q X := fun H O s va vb st ra rb => by
  obtain ⟨t, rfl⟩ := ra.flt_of; obtain ⟨t', rfl⟩ := rb.flt_of; exact AutoFloatOps.eq_0 (PostV.here' st (rep_bool ..) h)
def V.isNone : V → Bool
  | .none => true
  | .con v => v == .none
  | _ => false
/-! ### truth -/
theorem tr_bool (h : QB p loc) : Opb Γ loc truthy (.bool p) QB X := fun H O s va st ra => by
  cases ra.bool_of; exact wpAny_truthy_bool ⟨H, O, loc, .refl .., st, h⟩
/-! ### new objects -/
/-- a new object, never changed again -/
theorem PostV.made {H : Hm} {O : OSet} {s : Shared} {h' : Heap} {tk : Nat} {o : Obj} {A : V} {a : Addr} (st : St Γ H O loc s) (hk : ∀ b o, s.heap.get? b = some o → h'.get? b = some o) (hn : s.heap.get? a = none) (e : h'.get? a = some o)
    (hd : Solid o) (r : Rep (Hset H a o) A (.ref a)) (q : QL (.val A) loc) : PostV Γ H O s QL (.ref a) { s with heap := h', toks := tk } := by
  have fa := st.foreign hn
  have st₁ : StH Γ H O loc h' s.os s.gens := st.ext (fun b o e => ⟨o, hk b o e, .refl ..⟩) st.gens (.refl _) fun b o e => .inl e
  have n₁ : Nx Γ.F H O s.heap H O h' := ⟨fun b o e _ => ⟨o, hk b o e, .refl ..⟩, fun b o e => ⟨o, hk b o e⟩, .refl _, fun b o e => .inl e, fun b e => .inl e⟩
  exact ⟨Hset H a o, O, loc, .val A, n₁.freeze fa.hm hn, st₁.freeze e hd fa.o fa.hm, r, q⟩
theorem fresh_none (h : Heap) : h.get? h.objs.size = none := Heap.get?_none_of_le (Nat.le_refl _)
theorem seq_nodict {o : Obj} {xs : Array Value} {n : Nat} (h : o.data = .seq xs n) (hc : o.cls ≠ .none := by simp) : Solid o := ⟨fun es ep z => (by rw [h] at z; cases z), hc⟩
theorem rep_new_lst {H : Hm} {As : List V} {a : Addr} {o : Obj} {xs : Array Value} {n : Nat} (hm : H a = none) (h3 : o.cls = .type "list") (h4 : o.data = .seq xs n) (h5 : Reps H As xs.toList) : Rep (Hset H a o) (.lst As) (.ref a) :=
  rep_lst (Hset.self ..) h3 h4 (h5.mono (Hset.le hm))
theorem rep_new_tup {H : Hm} {As : List V} {a : Addr} {o : Obj} {xs : Array Value} {n : Nat} (hm : H a = none) (h3 : o.cls = .type "tuple") (h4 : o.data = .seq xs n) (h5 : Reps H As xs.toList) : Rep (Hset H a o) (.tup As) (.ref a) :=
  rep_tup (Hset.self ..) h3 h4 (h5.mono (Hset.le hm))

theorem ev_list {es : List Expr} {pos : Pos} (h : Args' Γ loc pos es (AllVal fun As l => As.length ≤ sizeLine ∧ Q (.lst As) l) X) : Ev Γ loc (.List es pos) (VQ Q) X := by
  intro H O s st
  refine wpAny_List (wpAny_mono (h H O s st) (fun vs s₁ p => ?_) fun _ _ p => p)
  obtain ⟨H₁, O₁, l₁, lvs, n₁, st₁, t₁, As, rfl, hsz, q⟩ := p
  have r := t₁.reps
  have fa := st₁.foreign (fresh_none s₁.heap)
  refine ⟨by rw [r.length]; exact hsz, PostV.back n₁ (PostV.made (tk := s₁.toks) st₁ (fun b o e => Heap.get?_push_of_some _ e) (fresh_none _) (Heap.get?_push_size _ rfl) (seq_nodict rfl) (rep_new_lst fa.hm rfl rfl (by simpa using r)) q)⟩
/-- the values of a display, one by one -/
theorem args_val {pos : Pos} {e : Expr} {es : List Expr} {QA : List V → Loc → Prop} (h : Ev Γ loc e (VQ fun A l => Args' Γ l pos es (AllVal fun As l' => QA (A :: As) l') X) X)
    (he : starEach (e :: es) Γ.env = (false, eval e Γ.env) :: starEach es Γ.env := by rfl) : Args' Γ loc pos (e :: es) (AllVal QA) X := by
  refine args_cons (h.mono (fun lv l q => ?_) fun _ _ x => x) he
  cases lv with
  | own _ _ => exact q.elim
  | itr _ => exact q.elim
  | val A => exact fun H O s st => wpAny_mono (q H O s st) (fun vs s' ⟨H', O', l', lvs, n, st', t, As, e, q'⟩ => ⟨H', O', l', lvs, n, st', t, A :: As, by rw [e]; rfl, q'⟩) fun _ _ p => p
theorem args_val_nil {pos : Pos} {QA : List V → Loc → Prop} (h : QA [] loc) : Args' Γ loc pos [] (AllVal QA) X := args_nil ⟨[], rfl, h⟩

/-! ### built-in functions -/
theorem bi_len_lst {As : List V} (hz : As.length ≤ sizeLine) (h : Q (.int As.length) loc) : OpN Γ loc (fun vs => call (.builtin "len") vs) [.lst As] (VQ Q) X := fun H O s vs st r => by
  simp only [Reps] at r
  obtain ⟨y, ys, rfl, hy, rfl⟩ := r
  obtain ⟨a, o, xs, n, rfl, h2, h3, h4, h5⟩ := hy.lst_of
  have hl : xs.size = As.length := by rw [← h5.length]; simp
  have hz' : As.length ≤ 2 ^ 24 := hz
  refine len_list ⟨o, st.agree _ _ h2, h3, n, h4⟩ (by rw [hl]; omega) ?_
  rw [hl]; exact PostV.here st (rep_int ..) h _
theorem bi_len_tup {As : List V} (hz : As.length ≤ sizeLine) (h : Q (.int As.length) loc) : OpN Γ loc (fun vs => call (.builtin "len") vs) [.tup As] (VQ Q) X := fun H O s vs st r => by
  simp only [Reps] at r
  obtain ⟨y, ys, rfl, hy, rfl⟩ := r
  obtain ⟨a, o, xs, n, rfl, h2, h3, h4, h5⟩ := hy.tup_of
  have hl : xs.size = As.length := by rw [← h5.length]; simp
  have hz' : As.length ≤ 2 ^ 24 := hz
  refine len_tuple ⟨o, st.agree _ _ h2, h3, n, h4⟩ (by rw [hl]; omega) ?_
  rw [hl]; exact PostV.here st (rep_int ..) h _

theorem bi_abs (h : Q (.int (if a < 0 then -a else a)) loc) : OpN Γ loc (fun vs => call (.builtin "abs") vs) [.int a] (VQ Q) X := fun H O s vs st r => by
  simp only [Reps] at r
  obtain ⟨y, _, rfl, hy, rfl⟩ := r
  obtain ⟨t, rfl⟩ := hy.int_of
  exact call_abs_int fun u tk => PostV.here st (rep_int ..) h _
theorem bi_float (hh : Γ.A.handled = none) (hx : Float64.isInf (Float64.ofInt a) = true → X ⟨.type "OverflowError", none⟩ loc) (h : Float64.isInf (Float64.ofInt a) = false → Q (.flt (Float64.ofInt a)) loc) :
    OpN Γ loc (fun vs => call (.type "float") vs) [.int a] (VQ Q) X := fun H O s vs st r => by
  simp only [Reps] at r
  obtain ⟨y, _, rfl, hy, rfl⟩ := r
  obtain ⟨t, rfl⟩ := hy.int_of
  refine call_float_int_or hh (fun hi h' tk e ne => PostX.new st ne (hx hi)) fun hi => PostV.here st (rep_flt ..) (h (by simpa using hi)) _
/-- list(xs) -/
theorem bi_list {A : V} {As : List V} (hA : A = .lst As ∨ A = .tup As) (hz : As.length ≤ sizeLine) (h : Q (.lst As) loc) : OpN Γ loc (fun vs => call (.type "list") vs) [A] (VQ Q) X := fun H O s vs st r => by
  simp only [Reps] at r
  obtain ⟨y, _, rfl, hy, rfl⟩ := r
  have fa := st.foreign (fresh_none s.heap)
  rcases hA with rfl | rfl
  · obtain ⟨a, o, xs, n, rfl, h2, h3, h4, h5⟩ := hy.lst_of
    have hl : xs.size = As.length := by rw [← h5.length]; simp
    exact call_list_seq a (.inl rfl) (st.agree _ _ h2) h3 h4 (fun h' c' hk e => PostV.made (tk := s.toks) st hk (fresh_none _) e (seq_nodict rfl) (rep_new_lst fa.hm rfl rfl h5) h) (by rw [hl]; exact hz)
  · obtain ⟨a, o, xs, n, rfl, h2, h3, h4, h5⟩ := hy.tup_of
    have hl : xs.size = As.length := by rw [← h5.length]; simp
    exact call_list_seq a (.inr rfl) (st.agree _ _ h2) h3 h4 (fun h' c' hk e => PostV.made (tk := s.toks) st hk (fresh_none _) e (seq_nodict rfl) (rep_new_lst fa.hm rfl rfl h5) h) (by rw [hl]; exact hz)
/-- tuple(xs) of a list -/
theorem bi_tuple {As : List V} (hz : As.length ≤ sizeLine) (h : Q (.tup As) loc) : OpN Γ loc (fun vs => call (.type "tuple") vs) [.lst As] (VQ Q) X := fun H O s vs st r => by
  simp only [Reps] at r
  obtain ⟨y, _, rfl, hy, rfl⟩ := r
  obtain ⟨a, o, xs, n, rfl, h2, h3, h4, h5⟩ := hy.lst_of
  have hl : xs.size = As.length := by rw [← h5.length]; simp
  refine call_tuple_list ⟨o, st.agree _ _ h2, h3, n, h4⟩ (fun h' hk => ?_) (by rw [hl]; exact hz)
  have hn : s.heap.get? h'.objs.size = none := by
    cases e : s.heap.get? h'.objs.size with
    | none => rfl
    | some o => exact absurd (Heap.lt_size (hk _ _ e)) (Nat.lt_irrefl _)
  exact PostV.made (tk := s.toks) st (fun b o e => Heap.get?_push_of_some _ (hk b o e)) hn (Heap.get?_push_size _ rfl) (seq_nodict rfl) (rep_new_tup (st.foreign hn).hm rfl rfl h5) h
end
end Mine
end
section
open PySem PySem.W PyProof.Rows
set_option linter.unusedVariables false
namespace Mine

section
variable {Γ : Cx} {loc : Loc} {Q : V → Loc → Prop} {QL : LV → Loc → Prop} {QB : Bool → Loc → Prop} {QF : Fl → Loc → Prop} {X : Exc → Loc → Prop} {x : Str} {As : List V} {a : Addr}

/-! ### items -/
theorem ev_sub {value slice : Expr} {pos : Pos} (h : Ev Γ loc value (VQ fun A l₁ => Ev Γ l₁ slice (VQ fun B l₂ => Op2 Γ l₂ (subscriptTail value slice) A B Q X) X) X) : Ev Γ loc (.Subscript value slice pos) (VQ Q) X := by
  intro H O s st
  refine Subscript_ (wpAny_mono (h H O s st) (fun a s₁ p => ?_) fun _ _ p => p)
  obtain ⟨H₁, O₁, l₁, lv, n₁, st₁, r₁, q₁⟩ := p
  cases lv with
  | own _ _ => exact q₁.elim
  | itr _ => exact q₁.elim
  | val A =>
    refine wpAny_mono (q₁ H₁ O₁ s₁ st₁) (fun b s₂ p => ?_) fun _ _ p => p.back n₁
    obtain ⟨H₂, O₂, l₂, lv, n₂, st₂, r₂, q₂⟩ := p
    cases lv with
    | own _ _ => exact q₂.elim
    | itr _ => exact q₂.elim
    | val B => exact wpAny_mono (q₂ H₂ O₂ s₂ a b st₂ (Rep.mono n₂.hle _ _ r₁) r₂) (fun _ _ p => p.back (n₁.trans n₂)) fun _ _ p => p.back (n₁.trans n₂)

def pyIdx (k : Int) (n : Nat) : Nat := if k < 0 then (k + n).toNat else k.toNat

theorem wp_item_list {M : Model} {prog : Program} {w : World} {A : Around} {E : Value → Shared → Prop} {s : Shared} {value slice : Expr} {l : Addr} {xs : Array Value} {k : Int} {t : Tok} {y : Value} {Q : Value → Shared → Prop}
    (hl : s.heap.IsList l xs) (hk : -(xs.size : Int) ≤ k ∧ k < xs.size) (hz : xs.size ≤ 2 ^ 24) (hy : xs[pyIdx k xs.size]? = some y) (h : Q y s)
    (hs : subscripted slice false (.ref l) (.int k t) = operate [.ref l, .int k t] (getItem (.ref l) (.int k t))) : wpAny (model prog w) A (subscriptTail value slice (.ref l) (.int k t)) Q E s := by
  unfold pyIdx at hy
  by_cases h0 : k < 0
  · rw [if_pos h0] at hy
    exact PyProof.Rows.tail_any hl.typeIs slot_list_getitem.lookup (wpAny_getItem_list_neg hl h0 hk.1 (by omega) hy h) hs
  · rw [if_neg h0] at hy
    exact PyProof.Rows.tail_any hl.typeIs slot_list_getitem.lookup (wpAny_getItem_list hl (by omega) (by omega) hy h) hs

theorem it_lst {value slice : Expr} {k : Int} {R : V} (hz : As.length ≤ sizeLine) (hk : -(As.length : Int) ≤ k ∧ k < As.length) (hR : As[pyIdx k As.length]? = some R) (h : Q R loc)
    (hs : ∀ o i, subscripted slice false o i = operate [o, i] (getItem o i) := by intro _ _; with_unfolding_all rfl) : Op2 Γ loc (subscriptTail value slice) (.lst As) (.int k) Q X := fun H O s va vb st ra rb => by
  obtain ⟨a, o, xs, n, rfl, h2, h3, h4, h5⟩ := ra.lst_of
  obtain ⟨t, rfl⟩ := rb.int_of
  have hl : xs.size = As.length := by rw [← h5.length]; simp
  obtain ⟨y, hy, hr⟩ := h5.get hR
  have hz' : As.length ≤ 2 ^ 24 := hz
  refine wp_item_list (M := Γ.M) ⟨o, st.agree _ _ h2, h3, n, h4⟩ (by rw [hl]; exact hk) (by omega) (y := y) (by rw [hl]; simpa using hy) (PostV.here' st hr h) (hs _ _)
/-! ### slices -/
def Pt (Γ : Cx) (loc : Loc) (oe : Option Expr) (Q : Option Int → Loc → Prop) (X : Exc → Loc → Prop) : Prop :=
  match oe with
  | none => Q none loc
  | some e => Ev Γ loc e (VQ fun A l => ∃ k, A = .int k ∧ Q (some k) l) X
theorem pt_none {QP : Option Int → Loc → Prop} (h : QP none loc) : Pt Γ loc none QP X := h
theorem pt_some {e : Expr} {QP : Option Int → Loc → Prop} (h : Ev Γ loc e (VQ fun A l => ∃ k, A = .int k ∧ QP (some k) l) X) : Pt Γ loc (some e) QP X := h

theorem wp_pt {oe : Option Expr} {QP : Option Int → Loc → Prop} (h : Pt Γ loc oe QP X) {H : Hm} {O : OSet} {s : Shared} (st : St Γ H O loc s) :
    wpAny Γ.M Γ.A (evalPart oe Γ.env) (fun v s' => ∃ H' O' l' k, Nx Γ.F H O s.heap H' O' s'.heap ∧ St Γ H' O' l' s' ∧ IsPart v k ∧ QP k l') (PostX Γ H O s X) s := by
  cases oe with
  | none => rw [evalPart_none]; exact wpAny_pure ⟨H, O, loc, none, .refl .., st, .none, h⟩
  | some e =>
    rw [evalPart_some]
    refine wpAny_mono (h H O s st) (fun v s₁ p => ?_) fun _ _ p => p
    obtain ⟨H₁, O₁, l₁, lv, n₁, st₁, r₁, q₁⟩ := p
    cases lv with
    | own _ _ => exact q₁.elim
    | itr _ => exact q₁.elim
    | val A =>
      obtain ⟨k, rfl, q⟩ := q₁
      obtain ⟨t, rfl⟩ := Rep.int_of (H := H₁) r₁
      exact ⟨H₁, O₁, l₁, some k, n₁, st₁, .int _ _, q⟩

/-- xs[lo:hi] -/
def slc (As : List V) (lo hi : Option Int) : List V := (As.drop (lo.elim 0 (clipAt As.length))).take (hi.elim As.length (clipAt As.length) - lo.elim 0 (clipAt As.length))

theorem slice_end {H₀ H : Hm} {O₀ O : OSet} {s₀ s : Shared} {l' : Loc} {vl vu : Value} {lo hi : Option Int} {b : Addr} {xs : Array Value} (n : Nx Γ.F H₀ O₀ s₀.heap H O s.heap) (st : St Γ H O l' s) (hr : Reps H As xs.toList) (q : Q (.lst (slc As lo hi)) l') :
    PostV Γ H₀ O₀ s₀ (VQ Q) (.ref (s.heap.objs.size + 1)) { s with heap := (s.heap.push { cls := .type "slice", data := .fields #[vl, vu, .none] }).push { cls := .type "list", data := .seq (slicePick xs lo hi none) } } := by
  have hl : xs.size = As.length := by rw [← hr.length]; simp
  have hn : s.heap.get? (s.heap.objs.size + 1) = none := Heap.get?_none_of_le (Nat.le_succ _)
  refine PostV.back n (PostV.made (tk := s.toks) (o := { cls := .type "list", data := .seq (slicePick xs lo hi none) }) st (fun b o e => Heap.get?_push_of_some _ (Heap.get?_push_of_some _ e)) hn ?_ (seq_nodict rfl) (rep_new_lst (st.foreign hn).hm rfl rfl ?_) q)
  · have := Heap.get?_push_size (s.heap.push { cls := .type "slice", data := .fields #[vl, vu, .none] }) (o := { cls := .type "list", data := .seq (slicePick xs lo hi none) }) rfl
    rw [Heap.size_push] at this; exact this
  · rw [slicePick_plain]
    unfold slc
    rw [← hl]
    exact (hr.drop _).take _

theorem ev_slice {value : Expr} {lower upper : Option Expr} {p pos : Pos} (h : Ev Γ loc value (VQ fun A l => ∃ As, A = .lst As ∧ As.length ≤ sizeLine ∧ Pt Γ l lower (fun lo l₁ => Pt Γ l₁ upper (fun hi l₂ => Q (.lst (slc As lo hi)) l₂) X) X) X)
    (ht : ∀ o r, letTemporaryGo value o r = pure () := by intro _ _; rfl) : Ev Γ loc (.Subscript value (.Slice lower upper none p) pos) (VQ Q) X := by
  intro H O s st
  refine wpAny_Subscript_list_slice (wpAny_mono (h H O s st) (fun a s₁ pq => ?_) fun _ _ p => p) ht
  obtain ⟨H₁, O₁, l₁, lv, n₁, st₁, r₁, q₁⟩ := pq
  cases lv with
  | own _ _ => exact q₁.elim
  | itr _ => exact q₁.elim
  | val A =>
    obtain ⟨As, rfl, hz, q₁⟩ := q₁
    refine wpAny_mono (wp_pt q₁ st₁) (fun vl s₂ pq => ?_) fun _ _ p => p.back n₁
    obtain ⟨H₂, O₂, l₂, lo, n₂, st₂, pl, q₂⟩ := pq
    refine wpAny_mono (wp_pt q₂ st₂) (fun vu s₃ pq => ?_) fun _ _ p => p.back (n₁.trans n₂)
    obtain ⟨H₃, O₃, l₃, hi, n₃, st₃, pu, q₃⟩ := pq
    obtain ⟨b, o, xs, n, rfl, h2, h3, h4, h5⟩ := Rep.lst_of (H := H₁) r₁
    have h2' := n₃.hle _ _ (n₂.hle _ _ h2)
    have hl : xs.size = As.length := by rw [← h5.length]; simp
    refine ⟨b, xs, lo, hi, rfl, ⟨o, st₃.agree _ _ h2', h3, n, h4⟩, by rw [hl]; exact hz, pl, pu, slice_end (b := b) ((n₁.trans n₂).trans n₃) st₃ (h5.mono (n₂.hle.trans n₃.hle)) q₃⟩

/-! ### the frame's own lists are changed -/
end
end Mine
end
section
open PySem PySem.W PyProof.Rows
set_option linter.unusedVariables false
namespace Mine

/-! ## try, except -/
def Cx.isFn (Γ : Cx) : Prop := (∀ l, Γ.A.frames = some l → ∃ outer, l = Γ.env :: outer) ∧ ∃ L, Γ.env.frame = some L
def Cx.mark (Γ : Cx) (e : Value) : Cx := { Γ with A := Γ.A.mark (some e) }
def Matches (F : Fix) (cls tv : Value) (b : Bool) : Prop :=
  ∀ (M : Model) (A : Around) (E : Value → Shared → Prop) (s : Shared) (e : Addr) (o : Obj) (Q : Bool → Shared → Prop), (∀ b o, F.h₁.get? b = some o → s.heap.get? b = some o) → s.heap.get? e = some o → o.cls = cls → Q b s → wpAny M A (excMatches (.ref e) tv) Q E s
section
variable {Γ : Cx} {loc : Loc} {Q : V → Loc → Prop} {QL : LV → Loc → Prop} {QB : Bool → Loc → Prop} {QF : Fl → Loc → Prop} {X : Exc → Loc → Prop} {x : Exc}

/-- the handlers, an exception having landed -/
def Hd (Γ : Cx) (loc : Loc) (x : Exc) (hs : List ExceptHandler) (Q : Fl → Loc → Prop) (X : Exc → Loc → Prop) : Prop :=
  ∀ H₀ O₀ s₀ loc₀ H O s e, St Γ H₀ O₀ loc₀ s₀ → Nx Γ.F H₀ O₀ s₀.heap H O s.heap → St Γ H O loc s → FlyT H O s₀.heap s.heap e x →
    wpAny Γ.M Γ.A (handleBy e Γ.env hs) (PostF Γ H₀ O₀ s₀ Q) (PostX Γ H₀ O₀ s₀ X) s

end
end Mine
end
section
open PySem PySem.W PyProof.Rows
set_option linter.unusedVariables false
set_option maxRecDepth 100000
namespace Mine

/-! ## isinstance of a list's iterator -/
section
variable {prog : Program} {w : World} {A : Around} {E : Value → Shared → Prop} {h : Heap} {g : Array GenState} {d : Drawn} {t : Nat} {os : OsState} {a : Addr} {o : Obj}
end
end Mine
end
section
open PySem PySem.W PyProof.Rows
set_option linter.unusedVariables false
set_option maxRecDepth 100000
namespace Mine
theorem fs_entry : entryFor table "math.fsum" = some Builtin.«math.fsum» := entryFor_of_tree (by kernel_rfl)
theorem fs_entry_loop : entryFor table "math.fsum.loop" = some Builtin.«math.fsum.loop» := entryFor_of_tree (by kernel_rfl)
theorem fs_plain : plainId "math.fsum" = true := by decide +kernel
theorem fs_plain_loop : plainId "math.fsum.loop" = true := by decide +kernel
theorem fs_args (a : Value) : argsOk "math.fsum" ⟨[a], []⟩ := by unfold argsOk; kernel_rfl
theorem fs_kind : builtinKind "math.fsum" = none := by decide +kernel

/-- the float of a number; none: too great -/
def V.real : V → Option UInt64
  | .flt x => some x
  | .int i => if Float64.isInf (Float64.ofInt i) then Option.none else some (Float64.ofInt i)
  | .bool b => some (Float64.ofInt (if b then 1 else 0))
  | _ => Option.none
def V.fin : V → Prop
  | .flt x => Float64.isFinite x = true
  | .int _ => True
  | .bool _ => True
  | _ => False

/-- what fsum comes to; none: OverflowError -/
def fsumRun : List UInt64 → List V → Option UInt64
  | ps, [] => some (Float64.fsumEnd ps)
  | ps, A :: As =>
    match A.real with
    | none => none
    | some x => if Float64.isFinite (Float64.fsumAdd ps x).2 then fsumRun (if Float64.isZero (Float64.fsumAdd ps x).2 then (Float64.fsumAdd ps x).1 else (Float64.fsumAdd ps x).1 ++ [(Float64.fsumAdd ps x).2]) As else none

theorem bits_back (x : UInt64) : (Int.ofNat x.toNat).toNat.toUInt64 = x := by simp
theorem pack_back (ps : List UInt64) {f : Value → UInt64} (hf : ∀ x : UInt64, f (rawInt x.toNat) = x) : (ps.map fun x => rawInt x.toNat).map f = ps := by
  induction ps with
  | nil => rfl
  | cons x xs ih => simp only [List.map_cons, ih, hf]

theorem fsumAdd_length (ps : List UInt64) : ∀ x, (Float64.fsumAdd ps x).1.length ≤ ps.length := by
  induction ps with
  | nil => intro x; simp [Float64.fsumAdd]
  | cons y ps ih =>
    intro x
    simp only [Float64.fsumAdd]
    generalize (if Float64.lt (Float64.abs x) (Float64.abs y) = true then (y, x) else (x, y)) = p
    obtain ⟨a, b⟩ := p
    have := ih (Float64.add a b)
    split <;> simp only [List.length_cons] <;> omega

theorem real_fin {A : V} {x : UInt64} (h : A.fin) (e : A.real = some x) : Float64.isFinite x = true := by
  cases A with
  | flt y => simp only [V.real, Option.some.injEq] at e; subst e; exact h
  | int i =>
    simp only [V.real] at e
    split at e
    · cases e
    · rename_i hi; cases e
      have hn : Float64.isInf (Float64.ofInt i) = false := by simpa using hi
      exact PySem.Flt.finite_ofInt (fun c => by have := PySem.Flt.inf_of_over c; rw [this] at hn; cases hn)
  | bool b => cases b <;> (simp only [V.real, Option.some.injEq] at e; subst e; decide +kernel)
  | none => exact h.elim
  | str _ => exact h.elim
  | tup _ => exact h.elim
  | lst _ => exact h.elim
  | con _ => exact h.elim
  | rng _ _ _ => exact h.elim
  | exc _ _ => exact h.elim

section
variable {prog : Program} {w : World} {A : Around}

theorem slot_bool_float : Slot "bool" "__float__" "int.__float__" :=
  .of (owner := "int") (n := "__float__") (by rw [typeLookup_type, builtinLookup_eq_fast]; kernel_rfl) (by decide +kernel) (by decide +kernel) (by decide +kernel)
    (by first | exact .inl (by decide +kernel) | exact .inr (by decide +kernel)) (by rw [isSubtype_type]; kernel_rfl)
theorem bool_not_over (b : Bool) : ¬ Float64.isInf (Float64.ofInt (if b then 1 else 0)) = true := by cases b <;> decide +kernel
theorem gives_bool_float (b : Bool) : Gives (Builtin.«int.__float__» ⟨[.bool b], []⟩) (.float (Float64.ofInt (if b then 1 else 0))) :=
  .of_wp fun M A E s Q h => by
    have hc := bool_not_over b
    obtain ⟨hp, g, d, tk, os⟩ := s
    wp_walk
    all_goals first | exact ⟨_, rfl, h⟩ | skip
/-- realArg of a number -/
theorem wp_real {s : Shared} {H : Hm} {B : V} {v : Value} {Q : UInt64 → Shared → Prop} {E : Value → Shared → Prop} (hA : A.handled = none) (hB : B.fin) (r : Rep H B v)
    (h0 : B.real = none → PySem.Flt.Throws "OverflowError" E s) (h : ∀ x tk, B.real = some x → Q x { s with toks := tk }) : wpAny (model prog w) A (Builtin.Math.realArg v) Q E s := by
  cases B with
  | flt x =>
    obtain ⟨t, rfl⟩ := r.flt_of
    have := h x s.toks rfl
    obtain ⟨hp, g, d, tk, os⟩ := s
    unfold Builtin.Math.realArg
    wp_walk
    exact this
  | int i =>
    obtain ⟨t, rfl⟩ := r.int_of
    refine PySem.Flt.realArg_int hA (fun c => h0 ?_) fun c => h _ _ ?_
    · simp only [V.real, PySem.Flt.inf_of_over c, if_true]
    · simp only [V.real]; rw [if_neg (PySem.Flt.fin_of_fits c)]
  | bool b =>
    cases r.bool_of
    have h' := fun tk => h _ tk rfl
    have hT : s.TypeIs (.bool b) "bool" := rfl
    obtain ⟨hp, g, d, tk, os⟩ := s
    have f3 := slot_bool_float.lookup
    have f4 := slot_bool_float.bind (.bool b)
    unfold Builtin.Math.realArg
    repeat (any_goals (first | assumption | ((with_reducible show wpAny _ _ (call (Value.builtin "int.__float__") _ _) _ _ _); refine call_gives slot_bool_float hT PySem.F.entry_int_float (PySem.F.args_int_float_1 _) (gives_bool_float b) ?_; dsimp only [Made.post]) | wp_step))
    all_goals first | exact h' _ | skip
  | none => exact hB.elim
  | str _ => exact hB.elim
  | tup _ => exact hB.elim
  | lst _ => exact hB.elim
  | con _ => exact hB.elim
  | rng _ _ _ => exact hB.elim
  | exc _ _ => exact hB.elim

/-- what a builtin that walks along an iterator leaves -/
def Grow (I : Addr → Prop) (h h' : Heap) : Prop := ∀ b o, ¬ I b → h.get? b = some o → h'.get? b = some o
theorem Grow.trans {I : Addr → Prop} {h h' h'' : Heap} (x : Grow I h h') (y : Grow I h' h'') : Grow I h h'' := fun b o hb e => y b o hb (x b o hb e)
theorem Grow.push (I : Addr → Prop) (h : Heap) (o : Obj) : Grow I h (h.push o) := fun b o _ e => Heap.get?_push_of_some _ e

/-- the answer of a run of a builtin -/
abbrev Answer (Q : Value → Shared → Prop) (E : Value → Shared → Prop) : Result → Shared → Prop := fun r s' => match r with | .ok (.ret v) => Q v s' | .ok _ => False | .error e => E e s'

def nextPs (ps : List UInt64) (x : UInt64) : List UInt64 := if Float64.isZero (Float64.fsumAdd ps x).2 then (Float64.fsumAdd ps x).1 else (Float64.fsumAdd ps x).1 ++ [(Float64.fsumAdd ps x).2]
theorem nextPs_length (ps : List UInt64) (x : UInt64) : (nextPs ps x).length ≤ ps.length + 1 := by
  have := fsumAdd_length ps x
  unfold nextPs
  split
  · omega
  · simp; omega

/-- the end of a walk; the iterator is still there, where that is asked -/
def Last (prog : Program) (w : World) (A : Around) (I : Addr) (n : Nat) (W : Nat → Heap → Prop) (L : Prop) : Prop :=
  ∀ (s : Shared) (Q : Option Value → Shared → Prop) (E : Value → Shared → Prop), W n s.heap → (∀ h' tk, (∀ b o, b ∉ [I] → s.heap.get? b = some o → h'.get? b = some o) → (L → ∃ o, h'.get? I = some o) → Q none { s with heap := h', toks := tk }) →
    wpAny (model prog w) A (pyNext (.ref I)) Q E s
theorem Last.of_walks {I : Addr} {fp : List Addr} {n : Nat} {P : Nat → Value → Prop} {W : Nat → Heap → Prop} {L : Prop} (Wk : Walks prog w A I fp [I] n P W) (hL : ¬ L) : Last prog w A I n W L :=
  fun s Q E hw h => Wk.done s Q E hw fun h' tk hk => h h' tk hk fun z => absurd z hL

theorem fsum_loop {L : Prop} {H : Hm} {I : Addr} {fp : List Addr} {n : Nat} {P : Nat → Value → Prop} {W : Nat → Heap → Prop} {As : List V} {Q : Value → Shared → Prop} {E : Value → Shared → Prop} (hA : A.handled = none) (Wk : Walks prog w A.in1 I fp [I] n P W) (La : Last prog w A.in1 I n W L) (hn : As.length = n)
    (hz : n < sizeLine) (hth : ∀ i h, W i h → ∃ o, h.get? I = some o) (hi : ∀ i v, i < n → P i v → ∃ B, As[i]? = some B ∧ Rep H B v ∧ B.fin) :
    ∀ (k i : Nat) (s : Shared) (ps : List UInt64) (tp ts : Addr) (op os : Obj) (n₁ n₂ : Nat), n - i = k → i ≤ n → ps.length ≤ i → W i s.heap → I ≠ tp → I ≠ ts →
    s.heap.get? tp = some op → op.data = .seq (ps.map fun x => rawInt x.toNat).toArray n₁ → s.heap.get? ts = some os → os.data = .seq #[rawInt (Float64.zero false).toNat, rawInt (Float64.zero false).toNat] n₂ →
    (∀ r t h' tk, fsumRun ps (As.drop i) = some r → Grow (· = I) s.heap h' → (L → ∃ o, h'.get? I = some o) → Q (.float r t) { s with heap := h', toks := tk }) →
    (fsumRun ps (As.drop i) = none → ∀ h' h'' tk e, Grow (· = I) s.heap h' → (L → ∃ o, h'.get? I = some o) → Heap.NewExc h' h'' e "OverflowError" → E (.ref e) { s with heap := h'', toks := tk }) →
    codeAny (model prog w) A (.builtin "math.fsum.loop" ⟨[.ref I, .ref tp, .ref ts], []⟩) (Answer Q E) s := by
  intro k
  induction k with
  | zero =>
    intro i s ps tp ts op os n₁ n₂ hk hile hpl hw h1 h2 htp dtp hts dts hQ hE
    have hin : i = n := by omega
    subst hin
    refine codeAny_builtin fs_entry_loop ?_
    rw [Around.under_plainId fs_plain_loop _]
    show wpAny _ A.in1 ((seqItems? (.ref tp) >>= _) >>= _) _ _ s
    refine wpAny_bind (wpAny_bind (wpAny_seqItems htp dtp (wpAny_pure ?_)))
    show wpAny _ A.in1 ((seqItems? (.ref ts) >>= _) >>= _) _ _ s
    refine wpAny_bind (wpAny_bind (wpAny_seqItems hts dts (wpAny_pure ?_)))
    show wpAny _ A.in1 (pyNext (.ref I) >>= _) _ _ s
    refine wpAny_bind (La s _ _ hw fun h' tk hk' hl => ?_)
    dsimp only [Option.getD]
    rw [if_neg (by decide +kernel), pack_back ps fun x => bits_back x]
    have hd : As.drop i = [] := List.drop_of_length_le (by omega)
    refine wpAny_bind (wpAny_mkFloat (wpAny_pure ?_))
    exact hQ _ _ h' _ (by rw [hd]; rfl) (fun b o hb e => hk' b o (by simpa using hb) e) hl
  | succ k ih =>
    intro i s ps tp ts op os n₁ n₂ hk hile hpl hw h1 h2 htp dtp hts dts hQ hE
    have hlt : i < n := by omega
    refine codeAny_builtin fs_entry_loop ?_
    rw [Around.under_plainId fs_plain_loop _]
    show wpAny _ A.in1 ((seqItems? (.ref tp) >>= _) >>= _) _ _ s
    refine wpAny_bind (wpAny_bind (wpAny_seqItems htp dtp (wpAny_pure ?_)))
    show wpAny _ A.in1 ((seqItems? (.ref ts) >>= _) >>= _) _ _ s
    refine wpAny_bind (wpAny_bind (wpAny_seqItems hts dts (wpAny_pure ?_)))
    show wpAny _ A.in1 (pyNext (.ref I) >>= _) _ _ s
    refine wpAny_bind (Wk.item i s _ _ hlt hw fun v h' tk hP hw' hk' => ?_)
    obtain ⟨B, hB, rB, fB⟩ := hi i v hlt hP
    dsimp only [Option.getD]
    have hd : As.drop i = B :: As.drop (i + 1) := by
      obtain ⟨hlt', eB⟩ := List.getElem?_eq_some_iff.mp hB
      rw [List.drop_eq_getElem_cons hlt', eB]
    have gr : Grow (· = I) s.heap h' := fun b o hb e => hk' b o (by simpa using hb) e
    refine wpAny_bind (wpAny_holding (wp_real (by exact hA) fB rB (fun c => ?_) fun x tk' c => ?_))
    · intro h₂ tk₂ e ne
      exact hE (by rw [hd]; simp only [fsumRun, c]) h' h₂ tk₂ e gr (fun _ => hth _ _ hw') ne
    · rw [pack_back ps fun x => bits_back x]
      have hrun : fsumRun ps (As.drop i) = if Float64.isFinite (Float64.fsumAdd ps x).2 then fsumRun (nextPs ps x) (As.drop (i + 1)) else none := by rw [hd]; simp only [fsumRun, c]; rfl
      by_cases hf : Float64.isFinite (Float64.fsumAdd ps x).2 = true
      · rw [if_pos hf] at hrun ⊢
        show wpAny _ _ (newTuple ((nextPs ps x).map fun x => rawInt x.toNat) >>= _) _ _ _
        have hl := nextPs_length ps x
        refine wpAny_bind (wpAny_newTuple (wpAny_pure ⟨plainId_quiet fs_plain_loop _, ?_⟩) (by simp; omega))
        have hkp : ∀ b o, b ≠ I → s.heap.get? b = some o → (h'.push { cls := .type "tuple", data := .seq ((nextPs ps x).map fun x => rawInt x.toNat).toArray }).get? b = some o := fun b o hb e => Heap.get?_push_of_some _ (hk' b o (by simpa using hb) e)
        have hIn : ∃ o, h'.get? I = some o := hth _ _ hw'
        refine ih (i + 1) _ (nextPs ps x) h'.objs.size ts _ os 0 n₂ (by omega) (by omega) (by omega) (Wk.frame _ _ _ hw' fun b hb o e => Heap.get?_push_of_some _ e) ?_ h2 (Heap.get?_push_size _ rfl) rfl (hkp ts os (fun z => h2 z.symm) hts) dts ?_ ?_
        · intro z
          obtain ⟨o, e⟩ := hIn
          rw [z, fresh_none] at e; cases e
        · intro r t h₂ tk₂ hr hg hl
          exact hQ r t h₂ tk₂ (by rw [hrun]; exact hr) ((gr.trans (.push _ _ _)).trans hg) hl
        · intro hr h₂ h₃ tk₂ e hg hl ne
          exact hE (by rw [hrun]; exact hr) h₂ h₃ tk₂ e ((gr.trans (.push _ _ _)).trans hg) hl ne
      · rw [if_neg hf] at hrun ⊢
        rw [if_pos (real_fin fB c)]
        refine wpAny_bind (wpAny_rule (wpAny_bind (wpAny_raiseErrorWords plainExc_OverflowError hA fun h₂ tk₂ e ne => ?_)))
        exact hE hrun h' h₂ tk₂ e gr (fun _ => hth _ _ hw') ne
end
end Mine
end
section
open PySem PySem.W PyProof.Rows
set_option linter.unusedVariables false
set_option maxRecDepth 100000
namespace Mine
theorem sp_entry : entryFor table "math.sumprod" = some Builtin.«math.sumprod» := entryFor_of_tree (by kernel_rfl)
theorem sp_entry_loop : entryFor table "math.sumprod.loop" = some Builtin.«math.sumprod.loop» := entryFor_of_tree (by kernel_rfl)
theorem sp_plain : plainId "math.sumprod" = true := by decide +kernel
theorem sp_plain_loop : plainId "math.sumprod.loop" = true := by decide +kernel
theorem sp_args (a b : Value) : argsOk "math.sumprod" ⟨[a, b], []⟩ := by unfold argsOk; kernel_rfl
theorem sp_kind : builtinKind "math.sumprod" = none := by decide +kernel

/-- an int or a float -/
def V.nm : V → Prop
  | .int _ => True
  | .flt _ => True
  | _ => False
/-- an int, a float or a bool -/
def V.nmb : V → Prop
  | .int _ => True
  | .flt _ => True
  | .bool _ => True
  | _ => False
def b01 (b : Bool) : Int := if b then 1 else 0
def nmul : V → V → Option V
  | .int a, .int b => some (.int (a * b))
  | .int a, .bool b => some (.int (a * b01 b))
  | .flt x, .flt y => some (.flt (Float64.mul x y))
  | .flt x, .int b => if Float64.isInf (Float64.ofInt b) then none else some (.flt (Float64.mul x (Float64.ofInt b)))
  | .flt x, .bool b => some (.flt (Float64.mul x (Float64.ofInt (b01 b))))
  | .int a, .flt y => if Float64.isInf (Float64.ofInt a) then none else some (.flt (Float64.mul (Float64.ofInt a) y))
  | _, _ => none
def nadd : V → V → Option V
  | .int a, .int b => some (.int (a + b))
  | .flt x, .flt y => some (.flt (Float64.add x y))
  | .flt x, .int b => if Float64.isInf (Float64.ofInt b) then none else some (.flt (Float64.add x (Float64.ofInt b)))
  | .int a, .flt y => if Float64.isInf (Float64.ofInt a) then none else some (.flt (Float64.add (Float64.ofInt a) y))
  | _, _ => none
theorem nmul_nm {A B C : V} (h : nmul A B = some C) : C.nm := by
  unfold nmul at h
  split at h <;> first | (cases h; trivial) | (split at h <;> first | (cases h; done) | (cases h; trivial)) | cases h
theorem nadd_nm {A B C : V} (h : nadd A B = some C) : C.nm := by
  unfold nadd at h
  split at h <;> first | (cases h; trivial) | (split at h <;> first | (cases h; done) | (cases h; trivial)) | cases h
def mulOk : V → V → Prop
  | .int a, .int b => IntMulOk a b
  | _, _ => True

section
variable {prog : Program} {w : World} {A : Around} {s : Shared} {H : Hm} {Q : Value → Shared → Prop} {E : Value → Shared → Prop} {B C : V} {vb vc : Value}

theorem mul_fb {a : UInt64} {t : Tok} {b : Bool} (h : (Made.float (Float64.mul a (Float64.ofInt (if b = true then (1 : Int) else 0)))).post Q s) : wpAny (model prog w) A (binaryOp .Mult (.float a t) (.bool b)) Q E s :=
  binaryOp_left_gives (op := .Mult) (by decide) (typeIs_float s a t) (fun s' => rfl) F.fills_float_mul F.fills_bool_mul F.sub_bool_float F.slot_float_mul F.slot_bool_rmul F.entry_float_mul (F.args_float_mul_2 _ _) (AutoFloatG6.float___mul___float_bool_1 a t b (bool_not_over b)) trivial h

theorem wp_nmul (hA : A.handled = none) (hB : B.nm) (hC : C.nmb) (ho : mulOk B C) (rb : Rep H B vb) (rc : Rep H C vc) (h0 : nmul B C = none → PySem.Flt.Throws "OverflowError" E s) (h : ∀ D v tk, nmul B C = some D → Rep H D v → Q v { s with toks := tk }) :
    wpAny (model prog w) A (binaryOp .Mult vb vc) Q E s := by
  cases B with
  | int b =>
    obtain ⟨t, rfl⟩ := rb.int_of
    cases C with
    | int c => obtain ⟨t', rfl⟩ := rc.int_of; exact PyProof.Rows.mul_int (h _ _ _ rfl (rep_int ..)) ho
    | bool c => cases rc.bool_of; exact PySem.IntBool.mul_int_bool (h _ _ _ rfl (rep_int ..))
    | flt c =>
      obtain ⟨t', rfl⟩ := rc.flt_of
      refine AutoFloatOpsIf.mul_if ?_
      by_cases hi : Float64.isInf (Float64.ofInt b) = true
      · rw [if_pos hi]; exact ⟨hA, fun h' tk e ne => h0 (by simp only [nmul, hi, if_true]) h' tk e ne⟩
      · rw [if_neg hi]; exact h _ _ _ (by simp only [nmul]; rw [if_neg hi]) (rep_flt ..)
    | _ => exact hC.elim
  | flt b =>
    obtain ⟨t, rfl⟩ := rb.flt_of
    cases C with
    | int c =>
      obtain ⟨t', rfl⟩ := rc.int_of
      refine AutoFloatOpsIf.mul_fi ?_
      by_cases hi : Float64.isInf (Float64.ofInt c) = true
      · rw [if_pos hi]; exact ⟨hA, fun h' tk e ne => h0 (by simp only [nmul, hi, if_true]) h' tk e ne⟩
      · rw [if_neg hi]; exact h _ _ _ (by simp only [nmul]; rw [if_neg hi]) (rep_flt ..)
    | bool c => cases rc.bool_of; exact mul_fb (h _ _ _ rfl (rep_flt ..))
    | flt c => obtain ⟨t', rfl⟩ := rc.flt_of; exact PyProof.Rows.mul_float (h _ _ _ rfl (rep_flt ..))
    | _ => exact hC.elim
  | _ => exact hB.elim
theorem wp_nadd (hA : A.handled = none) (hB : B.nm) (hC : C.nm) (rb : Rep H B vb) (rc : Rep H C vc) (h0 : nadd B C = none → PySem.Flt.Throws "OverflowError" E s) (h : ∀ D v tk, nadd B C = some D → Rep H D v → Q v { s with toks := tk }) :
    wpAny (model prog w) A (binaryOp .Add vb vc) Q E s := by
  cases B with
  | int b =>
    obtain ⟨t, rfl⟩ := rb.int_of
    cases C with
    | int c => obtain ⟨t', rfl⟩ := rc.int_of; exact PyProof.Rows.add_int (h _ _ _ rfl (rep_int ..))
    | flt c =>
      obtain ⟨t', rfl⟩ := rc.flt_of
      refine AutoFloatOpsIf.add_if ?_
      by_cases hi : Float64.isInf (Float64.ofInt b) = true
      · rw [if_pos hi]; exact ⟨hA, fun h' tk e ne => h0 (by simp only [nadd, hi, if_true]) h' tk e ne⟩
      · rw [if_neg hi]; exact h _ _ _ (by simp only [nadd]; rw [if_neg hi]) (rep_flt ..)
    | _ => exact hC.elim
  | flt b =>
    obtain ⟨t, rfl⟩ := rb.flt_of
    cases C with
    | int c =>
      obtain ⟨t', rfl⟩ := rc.int_of
      refine AutoFloatOpsIf.add_fi ?_
      by_cases hi : Float64.isInf (Float64.ofInt c) = true
      · rw [if_pos hi]; exact ⟨hA, fun h' tk e ne => h0 (by simp only [nadd, hi, if_true]) h' tk e ne⟩
      · rw [if_neg hi]; exact h _ _ _ (by simp only [nadd]; rw [if_neg hi]) (rep_flt ..)
    | flt c => obtain ⟨t', rfl⟩ := rc.flt_of; exact PyProof.Rows.add_float (h _ _ _ rfl (rep_flt ..))
    | _ => exact hC.elim
  | _ => exact hB.elim
end

abbrev Tri := UInt64 × UInt64 × UInt64
def V.isF : V → Bool
  | .flt _ => true
  | _ => false
def tryF (t : Tri) (A B : V) : Option Tri :=
  if A.isF || B.isF then
    match A.real, B.real with
    | some x, some y => if Float64.isFinite (Builtin.Math.tlFma x y t).1 then some (Builtin.Math.tlFma x y t) else none
    | _, _ => none
  else none
def fitsI (i : Int) : Bool := decide (-(2 ^ 63) ≤ i) && decide (i ≤ Builtin.Math.maxSsize)
def tryI (s : Int) : V → V → Option Int
  | .int a, .int b => if fitsI a && fitsI b && fitsI (a * b) && fitsI (s + a * b) then some (s + a * b) else none
  | _, _ => none
/-- how far sumprod has come: ints, floats, whatever -/
inductive SP where
  | I (s : Int) (u : Bool)
  | F (T : V) (t : Tri)
  | G (T : V)
def intT (s : Int) (u : Bool) : V := if u then .int (0 + s) else .int 0
def genG (T A B : V) : Option SP :=
  match nmul A B with
  | none => none
  | some C => (nadd T C).map .G
def zero3 : Tri := (Float64.zero false, Float64.zero false, Float64.zero false)
def spStep : SP → V → V → Option SP
  | .I s u, A, B =>
    match tryI s A B with
    | some s' => some (.I s' true)
    | none =>
      match tryF zero3 A B with
      | some t => some (.F (intT s u) t)
      | none => genG (intT s u) A B
  | .F T t, A, B =>
    match tryF t A B with
    | some t' => some (.F T t')
    | none =>
      match nadd T (.flt (Builtin.Math.tlToFloat t)) with
      | none => none
      | some T' => genG T' A B
  | .G T, A, B => genG T A B
def spEnd : SP → Option V
  | .I s u => some (intT s u)
  | .F T t => nadd T (.flt (Builtin.Math.tlToFloat t))
  | .G T => some T
def spRun : SP → List V → List V → Except String V
  | S, [], [] => match spEnd S with | none => .error "OverflowError" | some T => .ok T
  | S, A :: As, B :: Bs => match spStep S A B with | none => .error "OverflowError" | some S' => spRun S' As Bs
  | _, _, _ => .error "ValueError"

def SP.ok : SP → Prop
  | .I _ _ => True
  | .F T _ => T.nm
  | .G T => T.nm
def TriAt (h : Heap) (tt : Addr) (t : Tri) : Prop := ∃ o n, h.get? tt = some o ∧ o.data = .seq #[rawInt t.1.toNat, rawInt t.2.1.toNat, rawInt t.2.2.toNat] n
def SPAt (H : Hm) (h : Heap) (tt : Addr) : SP → List Value → Prop
  | .I s u, vs => ∃ t, vs = [.int 0 t, .bool true, rawInt s, .bool u, .bool true, .ref tt, .bool false] ∧ TriAt h tt zero3
  | .F T t, vs => ∃ v, vs = [v, .bool false, rawInt 0, .bool false, .bool true, .ref tt, .bool true] ∧ Rep H T v ∧ TriAt h tt t
  | .G T, vs => ∃ v t, vs = [v, .bool false, rawInt 0, .bool false, .bool false, .ref tt, .bool false] ∧ Rep H T v ∧ TriAt h tt t

theorem intT_nm (s : Int) (u : Bool) : (intT s u).nm := by cases u <;> trivial
end Mine
end
section
open PySem PySem.W PyProof.Rows
set_option linter.unusedVariables false
set_option maxRecDepth 100000
namespace Mine
section
variable {prog : Program} {w : World} {A : Around} {s : Shared} {H : Hm} {I J tt : Addr} {Q : PySem.Fin → Shared → Prop} {E : Value → Shared → Prop} {B C : V} {vb vc : Value}

/-- what one turn leaves: the next state, at a heap that has only grown -/
def Turn (H : Hm) (I J tt : Addr) (s : Shared) (R : Option SP) (Q : PySem.Fin → Shared → Prop) (E : Value → Shared → Prop) : Prop :=
  (∀ S' h' tk tt' vs, R = some S' → S'.ok → (∀ b o, s.heap.get? b = some o → h'.get? b = some o) → (∃ o, h'.get? tt' = some o) → (s.heap.objs.size ≤ tt' ∨ tt' = tt) → SPAt H h' tt' S' vs →
    Q (.again (.builtin "math.sumprod.loop" ⟨.ref I :: .ref J :: vs, []⟩)) { s with heap := h', toks := tk }) ∧
  (R = none → ∀ h' tk e, Heap.NewExc s.heap h' e "OverflowError" → E (.ref e) { s with heap := h', toks := tk })

theorem Turn.toks {R : Option SP} (t : Turn H I J tt s R Q E) (n : Nat) : Turn H I J tt { s with toks := n } R Q E := ⟨t.1, t.2⟩

theorem turn_G {T : V} {v : Value} {t : Tri} (hA : A.handled = none) (hT : T.nm) (rT : Rep H T v) (ht : TriAt s.heap tt t) (hB : B.nm) (hC : C.nmb) (ho : mulOk B C) (rb : Rep H B vb) (rc : Rep H C vc) (h : Turn H I J tt s (genG T B C) Q E)
    {l1 : List Value} {l2 : Value → List Value} : wpAny (model prog w) A (do
      let term ← holding l1 (binaryOp .Mult vb vc)
      let total ← holding (l2 term) (binaryOp .Add v term)
      again (.builtin "math.sumprod.loop" ⟨[.ref I, .ref J, total, .bool false, rawInt 0, .bool false, .bool false, .ref tt, .bool false], []⟩)) Q E s := by
  refine wpAny_bind (wpAny_holding (wp_nmul hA hB hC ho rb rc (fun c => h.2 (by simp only [genG, c])) fun D u tk c rD => ?_))
  refine wpAny_bind (wpAny_holding (wp_nadd hA hT (nmul_nm c) rT rD (fun c' => h.2 (by simp only [genG, c, c', Option.map])) fun D' u' tk' c' rD' => wpAny_pure ?_))
  obtain ⟨o, n, e, d⟩ := ht
  exact h.1 (.G D') s.heap tk' tt _ (by simp only [genG, c, c', Option.map]) (nadd_nm c') (fun _ _ e => e) ⟨o, e⟩ (.inr rfl) ⟨u', t, rfl, rD', o, n, e, d⟩
end





theorem bits_back' (x : UInt64) : ((x.toNat : Int)).toNat.toUInt64 = x := by simp

/-- both iterators give an item -/
def Two (M : Model) (A : Around) (I J : Addr) (E : Value → Shared → Prop) (s : Shared) (K : Value → Value → Shared → Prop) : Prop :=
  ∀ (R : Option Value → Option Value → Shared → Prop), (∀ vb vc s₂, K vb vc s₂ → R (some vb) (some vc) s₂) → wpAny M A (pyNext (.ref I)) (fun p s₁ => wpAny M A (pyNext (.ref J)) (R p) E s₁) E s

/-- after the floats, with a triple in use -/
theorem turn_FG {prog : Program} {w : World} {A : Around} {s : Shared} {H : Hm} {I J tt : Addr} {Q : PySem.Fin → Shared → Prop} {E : Value → Shared → Prop} {B C : V} {vb vc : Value} {T : V} {v : Value} {t : Tri} (hA : A.handled = none) (hT : T.nm) (rT : Rep H T v) (ht : TriAt s.heap tt t) (hB : B.nm) (hC : C.nmb) (ho : mulOk B C) (rb : Rep H B vb) (rc : Rep H C vc)
    (h : Turn H I J tt s (match nadd T (.flt (Builtin.Math.tlToFloat t)) with | none => none | some T' => genG T' B C) Q E) {l0 : List Value} {l1 : Value → List Value} {l2 : Value → Value → List Value} : wpAny (model prog w) A (do
      let f ← mkFloat (Builtin.Math.tlToFloat t)
      let total ← holding l0 (binaryOp .Add v f)
      let term ← holding (l1 total) (binaryOp .Mult vb vc)
      let total ← holding (l2 total term) (binaryOp .Add total term)
      again (.builtin "math.sumprod.loop" ⟨[.ref I, .ref J, total, .bool false, rawInt 0, .bool false, .bool false, .ref tt, .bool false], []⟩)) Q E s := by
  refine wpAny_bind (wpAny_mkFloat ?_)
  refine wpAny_bind (wpAny_holding (wp_nadd hA hT (C := .flt (Builtin.Math.tlToFloat t)) trivial rT (rep_flt ..) (fun c => h.2 (by simp only [c])) fun D u tk c rD => ?_))
  exact turn_G (s := { s with toks := tk }) hA (nadd_nm c) rD ht hB hC ho rb rc (by simp only [c] at h; exact h.toks tk)

/-- the floats go on -/
theorem turn_F {prog : Program} {w : World} {A : Around} {s : Shared} {H : Hm} {I J tt : Addr} {Q : PySem.Fin → Shared → Prop} {E : Value → Shared → Prop} {T : V} {v : Value} {t : Tri} (hT : T.nm) (rT : Rep H T v)
    (h : Turn H I J tt s (some (.F T t)) Q E) : wpAny (model prog w) A (do
      let u ← newTuple [rawInt t.1.toNat, rawInt t.2.1.toNat, rawInt t.2.2.toNat]
      again (.builtin "math.sumprod.loop" ⟨[.ref I, .ref J, v, .bool false, rawInt 0, .bool false, .bool true, u, .bool true], []⟩)) Q E s := by
  refine wpAny_bind (wpAny_newTuple (wpAny_pure ?_) (by show 3 ≤ sizeLine; decide))
  exact h.1 _ _ s.toks _ _ rfl hT (fun b o e => Heap.get?_push_of_some _ e) ⟨_, Heap.get?_push_size _ rfl⟩ (.inl (Nat.le_refl _)) ⟨v, rfl, rT, _, 0, Heap.get?_push_size _ rfl, rfl⟩

section
variable {prog : Program} {w : World} {A : Around} {s : Shared} {H : Hm} {I J tt : Addr} {Q : PySem.Fin → Shared → Prop} {E : Value → Shared → Prop} {B C : V} {vs : List Value} {K : Value → Value → Shared → Prop}

theorem sp_turn_G {T : V} (hA : A.handled = none) (hT : T.nm) (hS : SPAt H s.heap tt (.G T) vs) (two : Two (model prog w) A I J E s K) (hB : B.nm) (hC : C.nmb) (ho : mulOk B C)
    (hK : ∀ vb vc s₂, K vb vc s₂ → Rep H B vb ∧ Rep H C vc ∧ (∀ t, TriAt s.heap tt t → TriAt s₂.heap tt t) ∧ Turn H I J tt s₂ (genG T B C) Q E) :
    wpAny (model prog w) A (Builtin.«math.sumprod.loop» ⟨.ref I :: .ref J :: vs, []⟩) Q E s := by
  obtain ⟨v, t, rfl, rT, ot, n, ht, hd⟩ := hS
  show wpAny _ _ (seqItems? (.ref tt) >>= _) _ _ s
  refine wpAny_bind (wpAny_seqItems ht hd ?_)
  show wpAny _ _ (pyNext (.ref I) >>= _) _ _ s
  refine wpAny_bind (wpAny_mono (two _ ?_) (fun p s₁ h => wpAny_bind (wpAny_holding h)) fun _ _ h => h)
  intro vb vc s₂ k
  obtain ⟨rb, rc, ht', h⟩ := hK vb vc s₂ k
  dsimp only [Option.isSome, bne, Option.toList]
  rw [if_neg (by simp)]
  exact turn_G hA hT rT (ht' _ ⟨ot, n, ht, hd⟩) hB hC ho rb rc h

theorem sp_turn_F {T : V} {t : Tri} (hA : A.handled = none) (hT : T.nm) (hS : SPAt H s.heap tt (.F T t) vs) (two : Two (model prog w) A I J E s K) (hB : B.nm) (hC : C.nmb) (ho : mulOk B C)
    (hK : ∀ vb vc s₂, K vb vc s₂ → Rep H B vb ∧ Rep H C vc ∧ (∀ t, TriAt s.heap tt t → TriAt s₂.heap tt t) ∧ Turn H I J tt s₂ (spStep (.F T t) B C) Q E) :
    wpAny (model prog w) A (Builtin.«math.sumprod.loop» ⟨.ref I :: .ref J :: vs, []⟩) Q E s := by
  obtain ⟨v, rfl, rT, ot, n, ht, hd⟩ := hS
  show wpAny _ _ (seqItems? (.ref tt) >>= _) _ _ s
  refine wpAny_bind (wpAny_seqItems ht hd ?_)
  show wpAny _ _ (pyNext (.ref I) >>= _) _ _ s
  refine wpAny_bind (wpAny_mono (two _ ?_) (fun p s₁ h => wpAny_bind (wpAny_holding h)) fun _ _ h => h)
  intro vb vc s₂ k
  obtain ⟨rb, rc, ht', h⟩ := hK vb vc s₂ k
  dsimp only [Option.isSome, bne, Option.toList]
  rw [if_neg (by simp), if_neg (by simp), if_pos rfl]
  simp only [bits_back']
  have leave : tryF t B C = none → ∀ {l0 : List Value} {l1 : Value → List Value} {l2 : Value → Value → List Value}, wpAny (model prog w) A (do
      let f ← mkFloat (Builtin.Math.tlToFloat t)
      let total ← holding l0 (binaryOp .Add v f)
      let term ← holding (l1 total) (binaryOp .Mult vb vc)
      let total ← holding (l2 total term) (binaryOp .Add total term)
      again (.builtin "math.sumprod.loop" ⟨[.ref I, .ref J, total, .bool false, rawInt 0, .bool false, .bool false, .ref tt, .bool false], []⟩)) Q E s₂ := fun c l0 l1 l2 =>
    turn_FG hA hT rT (ht' _ ⟨ot, n, ht, hd⟩) hB hC ho rb rc (by simp only [spStep, c] at h; exact h)
  have stay : ∀ x y, tryF t B C = some (Builtin.Math.tlFma x y t) → wpAny (model prog w) A (do
      let u ← newTuple [rawInt (Builtin.Math.tlFma x y t).1.toNat, rawInt (Builtin.Math.tlFma x y t).2.1.toNat, rawInt (Builtin.Math.tlFma x y t).2.2.toNat]
      again (.builtin "math.sumprod.loop" ⟨[.ref I, .ref J, v, .bool false, rawInt 0, .bool false, .bool true, u, .bool true], []⟩)) Q E s₂ := fun x y c =>
    turn_F hT rT (by simp only [spStep, c] at h; exact h)
  cases B with
  | int xb =>
    obtain ⟨tb, rfl⟩ := rb.int_of
    cases C with
    | int xc =>
      obtain ⟨tc, rfl⟩ := rc.int_of
      dsimp only
      (try simp only [Bool.false_eq_true, if_false, Bool.or_self, Bool.or_false])
      refine wpAny_bind (wpAny_rule ?_); (try simp only [eq_self, if_true]); exact leave (by simp [tryF, V.isF])
    | flt xc =>
      obtain ⟨tc, rfl⟩ := rc.flt_of
      dsimp only
      (try simp only [Bool.or_true, Bool.true_or, Bool.or_self, if_true])
      by_cases hi : Float64.isInf (Float64.ofInt xb) = true
      · simp only [hi, if_true]
        refine wpAny_bind (wpAny_rule ?_); (try simp only [eq_self, if_true]); exact leave (by simp only [tryF, V.isF, V.real, Bool.or_true, Bool.true_or, if_true, hi])
      · simp only [hi, if_false, Bool.false_eq_true]
        by_cases hf : Float64.isFinite (Builtin.Math.tlFma (Float64.ofInt xb) xc t).1 = true
        · rw [if_pos (by exact hf)]; exact stay _ _ (by simp only [tryF, V.isF, V.real, Bool.or_true, Bool.true_or, if_true, hi, Bool.false_eq_true, if_false, hf])
        · rw [if_neg (by exact hf)]; refine wpAny_bind (wpAny_rule ?_); (try simp only [eq_self, if_true]); exact leave (by simp only [tryF, V.isF, V.real, Bool.or_true, Bool.true_or, if_true, hi, Bool.false_eq_true, if_false, hf])
    | bool xc =>
      cases rc.bool_of
      dsimp only
      (try simp only [Bool.false_eq_true, if_false, Bool.or_self, Bool.or_false])
      refine wpAny_bind (wpAny_rule ?_); (try simp only [eq_self, if_true]); exact leave (by simp [tryF, V.isF])
    | _ => exact hC.elim
  | flt xb =>
    obtain ⟨tb, rfl⟩ := rb.flt_of
    cases C with
    | int xc =>
      obtain ⟨tc, rfl⟩ := rc.int_of
      dsimp only
      (try simp only [Bool.or_true, Bool.true_or, Bool.or_self, if_true])
      by_cases hi : Float64.isInf (Float64.ofInt xc) = true
      · simp only [hi, if_true]
        refine wpAny_bind (wpAny_rule ?_); (try simp only [eq_self, if_true]); exact leave (by simp only [tryF, V.isF, V.real, Bool.or_true, Bool.true_or, if_true, hi])
      · simp only [hi, if_false, Bool.false_eq_true]
        by_cases hf : Float64.isFinite (Builtin.Math.tlFma xb (Float64.ofInt xc) t).1 = true
        · rw [if_pos (by exact hf)]; exact stay _ _ (by simp only [tryF, V.isF, V.real, Bool.or_true, Bool.true_or, if_true, hi, Bool.false_eq_true, if_false, hf])
        · rw [if_neg (by exact hf)]; refine wpAny_bind (wpAny_rule ?_); (try simp only [eq_self, if_true]); exact leave (by simp only [tryF, V.isF, V.real, Bool.or_true, Bool.true_or, if_true, hi, Bool.false_eq_true, if_false, hf])
    | flt xc =>
      obtain ⟨tc, rfl⟩ := rc.flt_of
      dsimp only
      (try simp only [Bool.or_true, Bool.true_or, Bool.or_self, if_true])
      by_cases hf : Float64.isFinite (Builtin.Math.tlFma xb xc t).1 = true
      · rw [if_pos (by exact hf)]; exact stay _ _ (by simp only [tryF, V.isF, V.real, Bool.or_true, Bool.true_or, if_true, Bool.false_eq_true, if_false, hf])
      · rw [if_neg (by exact hf)]; refine wpAny_bind (wpAny_rule ?_); (try simp only [eq_self, if_true]); exact leave (by simp only [tryF, V.isF, V.real, Bool.or_true, Bool.true_or, if_true, Bool.false_eq_true, if_false, hf])
    | bool xc =>
      cases rc.bool_of
      dsimp only
      (try simp only [Bool.or_true, Bool.true_or, Bool.or_self, if_true])
      by_cases hf : Float64.isFinite (Builtin.Math.tlFma xb (Float64.ofInt (if xc = true then 1 else 0)) t).1 = true
      · rw [if_pos (by exact hf)]; exact stay _ _ (by simp only [tryF, V.isF, V.real, Bool.or_true, Bool.true_or, if_true, Bool.false_eq_true, if_false, hf])
      · rw [if_neg (by exact hf)]; refine wpAny_bind (wpAny_rule ?_); (try simp only [eq_self, if_true]); exact leave (by simp only [tryF, V.isF, V.real, Bool.or_true, Bool.true_or, if_true, Bool.false_eq_true, if_false, hf])
    | _ => exact hC.elim
  | _ => exact hB.elim
theorem sp_turn_I {z : Int} {u : Bool} (hA : A.handled = none) (hS : SPAt H s.heap tt (.I z u) vs) (two : Two (model prog w) A I J E s K) (hB : B.nm) (hC : C.nmb) (ho : mulOk B C)
    (hK : ∀ vb vc s₂, K vb vc s₂ → Rep H B vb ∧ Rep H C vc ∧ (∀ t, TriAt s.heap tt t → TriAt s₂.heap tt t) ∧ Turn H I J tt s₂ (spStep (.I z u) B C) Q E) :
    wpAny (model prog w) A (Builtin.«math.sumprod.loop» ⟨.ref I :: .ref J :: vs, []⟩) Q E s := by
  obtain ⟨t0, rfl, ot, n, ht, hd⟩ := hS
  show wpAny _ _ (seqItems? (.ref tt) >>= _) _ _ s
  refine wpAny_bind (wpAny_seqItems ht hd ?_)
  show wpAny _ _ (pyNext (.ref I) >>= _) _ _ s
  refine wpAny_bind (wpAny_mono (two _ ?_) (fun p s₁ h => wpAny_bind (wpAny_holding h)) fun _ _ h => h)
  intro vb vc s₂ k
  obtain ⟨rb, rc, ht', h⟩ := hK vb vc s₂ k
  dsimp only [Option.isSome, bne, Option.toList]
  rw [if_neg (by simp), if_pos rfl]
  simp only [bits_back']
  have leave : ∀ v tk, tryI z B C = none → tryF zero3 B C = none → Rep H (intT z u) v → ∀ {l1 : List Value} {l2 : Value → List Value}, wpAny (model prog w) A (do
      let term ← holding l1 (binaryOp .Mult vb vc)
      let total ← holding (l2 term) (binaryOp .Add v term)
      again (.builtin "math.sumprod.loop" ⟨[.ref I, .ref J, total, .bool false, rawInt 0, .bool false, .bool false, .ref tt, .bool false], []⟩)) Q E { s₂ with toks := tk } := fun v tk c1 c2 rv l1 l2 =>
    turn_G (s := { s₂ with toks := tk }) hA (intT_nm z u) rv (ht' _ ⟨ot, n, ht, hd⟩) hB hC ho rb rc (by simp only [spStep, c1, c2] at h; exact h.toks tk)
  have stay : ∀ v tk x y, tryI z B C = none → tryF zero3 B C = some (Builtin.Math.tlFma x y zero3) → Rep H (intT z u) v → wpAny (model prog w) A (do
      let u ← newTuple [rawInt (Builtin.Math.tlFma x y zero3).1.toNat, rawInt (Builtin.Math.tlFma x y zero3).2.1.toNat, rawInt (Builtin.Math.tlFma x y zero3).2.2.toNat]
      again (.builtin "math.sumprod.loop" ⟨[.ref I, .ref J, v, .bool false, rawInt 0, .bool false, .bool true, u, .bool true], []⟩)) Q E { s₂ with toks := tk } := fun v tk x y c1 c2 rv =>
    turn_F (s := { s₂ with toks := tk }) (intT_nm z u) rv (by simp only [spStep, c1, c2] at h; exact h.toks tk)
  cases B with
  | int xb =>
    obtain ⟨tb, rfl⟩ := rb.int_of
    cases C with
    | int xc =>
      obtain ⟨tc, rfl⟩ := rc.int_of
      dsimp only
      by_cases hf : (fitsI xb && fitsI xc && fitsI (xb * xc) && fitsI (z + xb * xc)) = true
      · rw [if_pos (by exact hf)]
        refine wpAny_pure (h.1 (.I (z + xb * xc) true) s₂.heap s₂.toks tt _ (by simp only [spStep, tryI, hf, if_true]) trivial (fun _ _ e => e) ?_ (.inr rfl) ⟨t0, rfl, ht' _ ⟨ot, n, ht, hd⟩⟩)
        obtain ⟨o, _, e, _⟩ := ht' _ ⟨ot, n, ht, hd⟩; exact ⟨o, e⟩
      · rw [if_neg (by exact hf)]
        refine wpAny_bind (wpAny_rule ?_)
        cases u with
        | true =>
          (try simp only [eq_self, if_true])
          refine wpAny_bind (wpAny_mkInt (wpAny_bind (wpAny_holding (PyProof.Rows.add_int ?_))))
          (try simp only [eq_self, if_true])
          (try simp only [Bool.false_eq_true, if_false, Bool.or_self, Bool.or_false])
          refine wpAny_bind (wpAny_rule ?_); (try simp only [Bool.false_eq_true, if_false]); exact leave _ _ (by simp only [tryI, hf, Bool.false_eq_true, if_false]) (by simp [tryF, V.isF]) (rep_int ..)
        | false =>
          (try simp only [Bool.false_eq_true, if_false, Bool.or_self, Bool.or_false])
          (try simp only [eq_self, if_true])
          (try simp only [Bool.false_eq_true, if_false, Bool.or_self, Bool.or_false])
          refine wpAny_bind (wpAny_rule ?_); (try simp only [Bool.false_eq_true, if_false]); exact leave _ s₂.toks (by simp only [tryI, hf, Bool.false_eq_true, if_false]) (by simp [tryF, V.isF]) (rep_int ..)
    | flt xc =>
      obtain ⟨tc, rfl⟩ := rc.flt_of
      dsimp only
      refine wpAny_bind (wpAny_rule ?_)
      cases u with
      | true =>
        (try simp only [eq_self, if_true])
        refine wpAny_bind (wpAny_mkInt (wpAny_bind (wpAny_holding (PyProof.Rows.add_int ?_))))
        (try simp only [eq_self, if_true])
        (try simp only [Bool.or_true, Bool.true_or, Bool.or_self, if_true])
        by_cases hi : Float64.isInf (Float64.ofInt xb) = true
        · simp only [hi, if_true]
          refine wpAny_bind (wpAny_rule ?_); (try simp only [Bool.false_eq_true, if_false]); exact leave _ _ (by rfl) (by simp only [tryF, V.isF, V.real, Bool.or_true, Bool.true_or, if_true, hi]) (rep_int ..)
        · simp only [hi, if_false, Bool.false_eq_true]
          by_cases hf : Float64.isFinite (Builtin.Math.tlFma (Float64.ofInt xb) xc zero3).1 = true
          · rw [if_pos (by exact hf)]; exact stay _ _ _ _ (by rfl) (by simp only [tryF, V.isF, V.real, Bool.or_true, Bool.true_or, if_true, hi, Bool.false_eq_true, if_false, hf]) (rep_int ..)
          · rw [if_neg (by exact hf)]; refine wpAny_bind (wpAny_rule ?_); (try simp only [Bool.false_eq_true, if_false]); exact leave _ _ (by rfl) (by simp only [tryF, V.isF, V.real, Bool.or_true, Bool.true_or, if_true, hi, Bool.false_eq_true, if_false, hf]) (rep_int ..)
      | false =>
        (try simp only [Bool.false_eq_true, if_false, Bool.or_self, Bool.or_false])
        (try simp only [eq_self, if_true])
        (try simp only [Bool.or_true, Bool.true_or, Bool.or_self, if_true])
        by_cases hi : Float64.isInf (Float64.ofInt xb) = true
        · simp only [hi, if_true]
          refine wpAny_bind (wpAny_rule ?_); (try simp only [Bool.false_eq_true, if_false]); exact leave _ s₂.toks (by rfl) (by simp only [tryF, V.isF, V.real, Bool.or_true, Bool.true_or, if_true, hi]) (rep_int ..)
        · simp only [hi, if_false, Bool.false_eq_true]
          by_cases hf : Float64.isFinite (Builtin.Math.tlFma (Float64.ofInt xb) xc zero3).1 = true
          · rw [if_pos (by exact hf)]; exact stay _ s₂.toks _ _ (by rfl) (by simp only [tryF, V.isF, V.real, Bool.or_true, Bool.true_or, if_true, hi, Bool.false_eq_true, if_false, hf]) (rep_int ..)
          · rw [if_neg (by exact hf)]; refine wpAny_bind (wpAny_rule ?_); (try simp only [Bool.false_eq_true, if_false]); exact leave _ s₂.toks (by rfl) (by simp only [tryF, V.isF, V.real, Bool.or_true, Bool.true_or, if_true, hi, Bool.false_eq_true, if_false, hf]) (rep_int ..)
    | bool xc =>
      cases rc.bool_of
      dsimp only
      refine wpAny_bind (wpAny_rule ?_)
      cases u with
      | true =>
        (try simp only [eq_self, if_true])
        refine wpAny_bind (wpAny_mkInt (wpAny_bind (wpAny_holding (PyProof.Rows.add_int ?_))))
        (try simp only [eq_self, if_true])
        (try simp only [Bool.false_eq_true, if_false, Bool.or_self, Bool.or_false])
        refine wpAny_bind (wpAny_rule ?_); (try simp only [Bool.false_eq_true, if_false]); exact leave _ _ (by rfl) (by simp [tryF, V.isF]) (rep_int ..)
      | false =>
        (try simp only [Bool.false_eq_true, if_false, Bool.or_self, Bool.or_false])
        (try simp only [eq_self, if_true])
        (try simp only [Bool.false_eq_true, if_false, Bool.or_self, Bool.or_false])
        refine wpAny_bind (wpAny_rule ?_); (try simp only [Bool.false_eq_true, if_false]); exact leave _ s₂.toks (by rfl) (by simp [tryF, V.isF]) (rep_int ..)
    | _ => exact hC.elim
  | flt xb =>
    obtain ⟨tb, rfl⟩ := rb.flt_of
    cases C with
    | int xc =>
      obtain ⟨tc, rfl⟩ := rc.int_of
      dsimp only
      refine wpAny_bind (wpAny_rule ?_)
      cases u with
      | true =>
        (try simp only [eq_self, if_true])
        refine wpAny_bind (wpAny_mkInt (wpAny_bind (wpAny_holding (PyProof.Rows.add_int ?_))))
        (try simp only [eq_self, if_true])
        (try simp only [Bool.or_true, Bool.true_or, Bool.or_self, if_true])
        by_cases hi : Float64.isInf (Float64.ofInt xc) = true
        · simp only [hi, if_true]
          refine wpAny_bind (wpAny_rule ?_); (try simp only [Bool.false_eq_true, if_false]); exact leave _ _ (by rfl) (by simp only [tryF, V.isF, V.real, Bool.or_true, Bool.true_or, if_true, hi]) (rep_int ..)
        · simp only [hi, if_false, Bool.false_eq_true]
          by_cases hf : Float64.isFinite (Builtin.Math.tlFma xb (Float64.ofInt xc) zero3).1 = true
          · rw [if_pos (by exact hf)]; exact stay _ _ _ _ (by rfl) (by simp only [tryF, V.isF, V.real, Bool.or_true, Bool.true_or, if_true, hi, Bool.false_eq_true, if_false, hf]) (rep_int ..)
          · rw [if_neg (by exact hf)]; refine wpAny_bind (wpAny_rule ?_); (try simp only [Bool.false_eq_true, if_false]); exact leave _ _ (by rfl) (by simp only [tryF, V.isF, V.real, Bool.or_true, Bool.true_or, if_true, hi, Bool.false_eq_true, if_false, hf]) (rep_int ..)
      | false =>
        (try simp only [Bool.false_eq_true, if_false, Bool.or_self, Bool.or_false])
        (try simp only [eq_self, if_true])
        (try simp only [Bool.or_true, Bool.true_or, Bool.or_self, if_true])
        by_cases hi : Float64.isInf (Float64.ofInt xc) = true
        · simp only [hi, if_true]
          refine wpAny_bind (wpAny_rule ?_); (try simp only [Bool.false_eq_true, if_false]); exact leave _ s₂.toks (by rfl) (by simp only [tryF, V.isF, V.real, Bool.or_true, Bool.true_or, if_true, hi]) (rep_int ..)
        · simp only [hi, if_false, Bool.false_eq_true]
          by_cases hf : Float64.isFinite (Builtin.Math.tlFma xb (Float64.ofInt xc) zero3).1 = true
          · rw [if_pos (by exact hf)]; exact stay _ s₂.toks _ _ (by rfl) (by simp only [tryF, V.isF, V.real, Bool.or_true, Bool.true_or, if_true, hi, Bool.false_eq_true, if_false, hf]) (rep_int ..)
          · rw [if_neg (by exact hf)]; refine wpAny_bind (wpAny_rule ?_); (try simp only [Bool.false_eq_true, if_false]); exact leave _ s₂.toks (by rfl) (by simp only [tryF, V.isF, V.real, Bool.or_true, Bool.true_or, if_true, hi, Bool.false_eq_true, if_false, hf]) (rep_int ..)
    | flt xc =>
      obtain ⟨tc, rfl⟩ := rc.flt_of
      dsimp only
      refine wpAny_bind (wpAny_rule ?_)
      cases u with
      | true =>
        (try simp only [eq_self, if_true])
        refine wpAny_bind (wpAny_mkInt (wpAny_bind (wpAny_holding (PyProof.Rows.add_int ?_))))
        (try simp only [eq_self, if_true])
        (try simp only [Bool.or_true, Bool.true_or, Bool.or_self, if_true])
        by_cases hf : Float64.isFinite (Builtin.Math.tlFma xb xc zero3).1 = true
        · rw [if_pos (by exact hf)]; exact stay _ _ _ _ (by rfl) (by simp only [tryF, V.isF, V.real, Bool.or_true, Bool.true_or, if_true, Bool.false_eq_true, if_false, hf]) (rep_int ..)
        · rw [if_neg (by exact hf)]; refine wpAny_bind (wpAny_rule ?_); (try simp only [Bool.false_eq_true, if_false]); exact leave _ _ (by rfl) (by simp only [tryF, V.isF, V.real, Bool.or_true, Bool.true_or, if_true, Bool.false_eq_true, if_false, hf]) (rep_int ..)
      | false =>
        (try simp only [Bool.false_eq_true, if_false, Bool.or_self, Bool.or_false])
        (try simp only [eq_self, if_true])
        (try simp only [Bool.or_true, Bool.true_or, Bool.or_self, if_true])
        by_cases hf : Float64.isFinite (Builtin.Math.tlFma xb xc zero3).1 = true
        · rw [if_pos (by exact hf)]; exact stay _ s₂.toks _ _ (by rfl) (by simp only [tryF, V.isF, V.real, Bool.or_true, Bool.true_or, if_true, Bool.false_eq_true, if_false, hf]) (rep_int ..)
        · rw [if_neg (by exact hf)]; refine wpAny_bind (wpAny_rule ?_); (try simp only [Bool.false_eq_true, if_false]); exact leave _ s₂.toks (by rfl) (by simp only [tryF, V.isF, V.real, Bool.or_true, Bool.true_or, if_true, Bool.false_eq_true, if_false, hf]) (rep_int ..)
    | bool xc =>
      cases rc.bool_of
      dsimp only
      refine wpAny_bind (wpAny_rule ?_)
      cases u with
      | true =>
        (try simp only [eq_self, if_true])
        refine wpAny_bind (wpAny_mkInt (wpAny_bind (wpAny_holding (PyProof.Rows.add_int ?_))))
        (try simp only [eq_self, if_true])
        (try simp only [Bool.or_true, Bool.true_or, Bool.or_self, if_true])
        by_cases hf : Float64.isFinite (Builtin.Math.tlFma xb (Float64.ofInt (if xc = true then 1 else 0)) zero3).1 = true
        · rw [if_pos (by exact hf)]; exact stay _ _ _ _ (by rfl) (by simp only [tryF, V.isF, V.real, Bool.or_true, Bool.true_or, if_true, Bool.false_eq_true, if_false, hf]) (rep_int ..)
        · rw [if_neg (by exact hf)]; refine wpAny_bind (wpAny_rule ?_); (try simp only [Bool.false_eq_true, if_false]); exact leave _ _ (by rfl) (by simp only [tryF, V.isF, V.real, Bool.or_true, Bool.true_or, if_true, Bool.false_eq_true, if_false, hf]) (rep_int ..)
      | false =>
        (try simp only [Bool.false_eq_true, if_false, Bool.or_self, Bool.or_false])
        (try simp only [eq_self, if_true])
        (try simp only [Bool.or_true, Bool.true_or, Bool.or_self, if_true])
        by_cases hf : Float64.isFinite (Builtin.Math.tlFma xb (Float64.ofInt (if xc = true then 1 else 0)) zero3).1 = true
        · rw [if_pos (by exact hf)]; exact stay _ s₂.toks _ _ (by rfl) (by simp only [tryF, V.isF, V.real, Bool.or_true, Bool.true_or, if_true, Bool.false_eq_true, if_false, hf]) (rep_int ..)
        · rw [if_neg (by exact hf)]; refine wpAny_bind (wpAny_rule ?_); (try simp only [Bool.false_eq_true, if_false]); exact leave _ s₂.toks (by rfl) (by simp only [tryF, V.isF, V.real, Bool.or_true, Bool.true_or, if_true, Bool.false_eq_true, if_false, hf]) (rep_int ..)
    | _ => exact hC.elim
  | _ => exact hB.elim
end
end Mine
end
section
open PySem PySem.W PyProof.Rows
set_option linter.unusedVariables false
set_option maxRecDepth 100000
namespace Mine
def Two' (M : Model) (A : Around) (I J : Addr) (E : Value → Shared → Prop) (s : Shared) (p q : Option Unit) (K : Shared → Prop) : Prop :=
  ∀ (R : Option Value → Option Value → Shared → Prop), (∀ p' q' s₂, p'.isSome = p.isSome → q'.isSome = q.isSome → K s₂ → R p' q' s₂) → wpAny M A (pyNext (.ref I)) (fun p s₁ => wpAny M A (pyNext (.ref J)) (R p) E s₁) E s
section
variable {prog : Program} {w : World} {A : Around} {s : Shared} {H : Hm} {I J tt : Addr} {Q : PySem.Fin → Shared → Prop} {E : Value → Shared → Prop} {B C : V} {vs : List Value} {K : Shared → Prop}

theorem sp_end {S : SP} (hA : A.handled = none) (hok : S.ok) (hS : SPAt H s.heap tt S vs) (two : Two' (model prog w) A I J E s none none K)
    (hK : ∀ s₂, K s₂ → (∀ T v tk, spEnd S = some T → Rep H T v → Q (.done (.ret v)) { s₂ with toks := tk }) ∧ (spEnd S = none → PySem.Flt.Throws "OverflowError" E s₂)) :
    wpAny (model prog w) A (Builtin.«math.sumprod.loop» ⟨.ref I :: .ref J :: vs, []⟩) Q E s := by
  cases S with
  | I z u =>
    obtain ⟨t0, rfl, ot, n, ht, hd⟩ := hS
    show wpAny _ _ (seqItems? (.ref tt) >>= _) _ _ s
    refine wpAny_bind (wpAny_seqItems ht hd ?_)
    show wpAny _ _ (pyNext (.ref I) >>= _) _ _ s
    refine wpAny_bind (wpAny_mono (two _ ?_) (fun p s₁ h => wpAny_bind (wpAny_holding h)) fun _ _ h => h)
    intro p' q' s₂ hp hq k
    obtain ⟨h1, h2⟩ := hK s₂ k
    cases p' with
    | some _ => cases hp
    | none =>
      cases q' with
      | some _ => cases hq
      | none =>
        dsimp only [Option.isSome, bne, Option.toList]
        rw [if_neg (by simp), if_pos rfl]
        refine wpAny_bind (wpAny_rule ?_)
        cases u with
        | true =>
          rw [if_pos rfl]
          refine wpAny_bind (wpAny_mkInt (wpAny_bind (wpAny_holding (PyProof.Rows.add_int ?_))))
          rw [if_pos rfl]
          refine wpAny_bind (wpAny_rule ?_)
          rw [if_neg (by simp)]
          exact wpAny_pure (h1 _ _ _ rfl (rep_int ..))
        | false =>
          rw [if_neg (by simp), if_pos rfl]
          refine wpAny_bind (wpAny_rule ?_)
          rw [if_neg (by simp)]
          exact wpAny_pure (h1 _ _ s₂.toks rfl (rep_int ..))
  | F T t =>
    obtain ⟨v, rfl, rT, ot, n, ht, hd⟩ := hS
    show wpAny _ _ (seqItems? (.ref tt) >>= _) _ _ s
    refine wpAny_bind (wpAny_seqItems ht hd ?_)
    show wpAny _ _ (pyNext (.ref I) >>= _) _ _ s
    refine wpAny_bind (wpAny_mono (two _ ?_) (fun p s₁ h => wpAny_bind (wpAny_holding h)) fun _ _ h => h)
    intro p' q' s₂ hp hq k
    obtain ⟨h1, h2⟩ := hK s₂ k
    cases p' with
    | some _ => cases hp
    | none =>
      cases q' with
      | some _ => cases hq
      | none =>
        dsimp only [Option.isSome, bne, Option.toList]
        simp only [bits_back']
        rw [if_neg (by simp), if_neg (by simp)]
        (try simp only [eq_self, if_true])
        refine wpAny_bind (wpAny_rule ?_)
        (try simp only [eq_self, if_true])
        refine wpAny_bind (wpAny_mkFloat ?_)
        refine wpAny_bind (wpAny_holding (wp_nadd hA hok (C := .flt (Builtin.Math.tlToFloat t)) trivial rT (rep_flt ..) (fun c => h2 c) fun D u tk c rD => ?_))
        exact wpAny_pure (h1 _ _ _ c rD)
  | G T =>
    obtain ⟨v, t, rfl, rT, ot, n, ht, hd⟩ := hS
    show wpAny _ _ (seqItems? (.ref tt) >>= _) _ _ s
    refine wpAny_bind (wpAny_seqItems ht hd ?_)
    show wpAny _ _ (pyNext (.ref I) >>= _) _ _ s
    refine wpAny_bind (wpAny_mono (two _ ?_) (fun p s₁ h => wpAny_bind (wpAny_holding h)) fun _ _ h => h)
    intro p' q' s₂ hp hq k
    obtain ⟨h1, h2⟩ := hK s₂ k
    cases p' with
    | some _ => cases hp
    | none =>
      cases q' with
      | some _ => cases hq
      | none =>
        dsimp only [Option.isSome, bne, Option.toList]
        rw [if_neg (by simp)]
        exact wpAny_pure (h1 _ _ s₂.toks rfl rT)
end

def Cx.in1 (Γ : Cx) : Cx := { Γ with A := Γ.A.in1 }

theorem TriAt.keep {h h' : Heap} {tt : Addr} {t : Tri} (x : TriAt h tt t) (k : ∀ o, h.get? tt = some o → h'.get? tt = some o) : TriAt h' tt t := by
  obtain ⟨o, n, e, d⟩ := x
  exact ⟨o, n, k o e, d⟩

end Mine
end
section
open PySem PySem.W PyProof.Rows
set_option linter.unusedVariables false
set_option maxRecDepth 100000
namespace Mine
theorem StH.in1 {Γ : Cx} {H : Hm} {O : OSet} {loc : Loc} {h : Heap} {os : OsState} {g : Array GenState} (st : StH Γ H O loc h os g) : StH Γ.in1 H O loc h os g :=
  { base := st.base, agree := st.agree, nofr := st.nofr, os := st.os, gens := st.gens, obase := st.obase, otab := st.otab, tabs := st.tabs, ohm := st.ohm, othere := st.othere, kind := st.kind, ns := st.ns, onsO := st.onsO, vars := st.vars, sep := st.sep, apart := st.apart, cells := st.cells, cne := st.cne, cinj := st.cinj, frames := st.frames }

/-- a list iterator, from where it stands -/
theorem walks_from {prog : Program} {w : World} {A : Around} (hh : A.handled = none) (I ax : Addr) (hne : ax ≠ I) (items : Array Value) (k : Nat) :
    Walks prog w A I [I, ax] [I] (items.size - k) (fun i v => items[k + i]? = some v) (fun i h => h.IsListIter I ax (k + i) ∧ h.IsList ax items) where
  sub := fun b hb => by simp at hb; simp [hb]
  frame := fun _ _ _ st hk => ⟨st.1.at fun o e => hk I (by simp) o e, st.2.at fun o e => hk ax (by simp) o e⟩
  item := fun i s Q E hi st hQ => by
    have hi' : k + i < items.size := by omega
    refine wpAny_pyNext_list_item st.1 st.2 (x := items[k + i]) (by simp [hi']) fun h' hit' hs' => ?_
    exact hQ _ h' s.toks (by simp [hi']) ⟨hit', st.2.extBut hs'.extBut hne⟩ fun b o hb e => hs'.extBut b o (fun h => hb (by simp [h])) e
  done := fun s Q E st hQ => wpAny_pyNext_list_end hh st.1 st.2 (by simp; omega) fun h' he' => hQ h' s.toks fun b o hb e => he' b o (fun h => hb (by simp [h])) e
  self := fun _ _ _ _ st hQ => wpAny_pyIter_listiter st.1 hQ

/-- at the end of a list's iterator: it is still there -/
theorem li_end {prog : Program} {w : World} {A : Around} {E : Value → Shared → Prop} {s : Shared} {it l : Addr} {i : Nat} {items} {Q : Option Value → Shared → Prop} (hh : A.handled = none)
    (hit : s.heap.IsListIter it l i) (hl : s.heap.IsList l items) (hx : items[i]? = none)
    (hQ : ∀ h', Heap.ExtBut it s.heap h' → (∃ o, h'.get? it = some o) → Q none { s with heap := h' }) : wpAny (model prog w) A (pyNext (.ref it)) Q E s := by
  obtain ⟨o, ho, hc, hd⟩ := id hit
  obtain ⟨ol, hol, _, nl, hdl⟩ := hl
  unfold pyNext
  refine wpAny_bind (wpAny_attempt (wpAny_callSpecial?_slot (name := Str.ofString "__next__") hit.typeIs slot_listiter_next
    (wpAny_call_entry slot_listiter_next hit.typeIs entry_listiter_next ?_ (args_listiter_next _))))
  refine wpAny_bind (m := field (.ref it) 0) (wpAny_field ho hd (x := .ref l) rfl ?_)
  show wpAny _ _ (if (Value.ref l == Value.none) = true then _ else _) _ _ s
  rw [if_neg (show ¬ ((Value.ref l == Value.none) = true) from Bool.false_ne_true)]
  refine wpAny_bind (m := field (.ref it) 1) (wpAny_field ho hd (x := .int i 0) rfl ?_)
  refine wpAny_bind (m := seqItems? (.ref l)) (wpAny_seqItems hol hdl ?_)
  simp only [Int.toNat_natCast, hx]
  refine wpAny_bind (wpAny_rule (wpAny_bind (wpAny_setField ho hd (by simp) ?_)))
  refine wpAny_bind (m := newExc (.type "StopIteration") []) ?_
  simp only [newExc, newTuple]
  refine wpAny_bind (wpAny_newObj_type ?_ (by size_fits))
  refine wpAny_bind (m := firstArgMember _ _) (wpAny_of_eq (a := Value.none) (by first | rfl | (simp only [firstArgMember]; rfl)) ?_)
  refine wpAny_newObj_type ?_ (by size_fits)
  simp only [raiseNew]
  refine wpAny_bind (wpAny_handled ?_)
  rw [show A.in1.handled = none from hh]
  refine wpAny_bind (wpAny_pure (wpAny_throw ?_))
  refine wpAny_bind (wpAny_isInstance (T := "StopIteration") (b := true) ⟨_, Heap.get?_push_size _ rfl, rfl⟩ isSubtype_stop ?_)
  exact wpAny_pure (hQ _ (((Heap.SameBut.update ..).extBut.push _).push _) ⟨_, Heap.get?_push_of_some _ (Heap.get?_push_of_some _ (Heap.get?_update_self _ ho (Obj.isFreed_of_fields (Obj.data_mapFields hd _))))⟩)

theorem li_last {prog : Program} {w : World} {A : Around} (hh : A.handled = none) (I ax : Addr) (items : Array Value) (k : Nat) (L : Prop) : Last prog w A I (items.size - k) (fun i h => h.IsListIter I ax (k + i) ∧ h.IsList ax items) L :=
  fun s Q E st hQ => li_end hh st.1 st.2 (by simp; omega) fun h' he' ht => hQ h' s.toks (fun b o hb e => he' b o (fun h => hb (by simp [h])) e) fun _ => ht

/-- what is walked along: a list, a tuple; or an iterator -/
def SrcV (H : Hm) (h : Heap) (rel : Addr → Prop) (v : Value) (As : List V) : Prop :=
  (∃ A, (A = .lst As ∨ A = .tup As) ∧ Rep H A v) ∨ (∃ a, v = .ref a ∧ H a = none ∧ rel a ∧ ItrL H h a As)

section
variable {Γ : Cx} {loc : Loc} {QL : LV → Loc → Prop} {Q : V → Loc → Prop} {X : Exc → Loc → Prop}

theorem wp_src {H : Hm} {O : OSet} {s : Shared} {v : Value} {As : List V} {rel : Addr → Prop} {Q : Value → Shared → Prop} {E : Value → Shared → Prop} (st : St Γ H O loc s) (r : SrcV H s.heap rel v As) (hh : Γ.A.handled = none)
    (k : ∀ I fp W P (h' : Heap), Itn Γ H As I fp W P → Last Γ.F.prog Γ.F.w Γ.A I As.length W (∃ o, s.heap.get? I = some o) → W 0 h' → H I = none → (s.heap.get? I = none ∨ rel I) → (∀ b o, s.heap.get? b = some o → h'.get? b = some o) → Q (.ref I) { s with heap := h' }) :
    wpAny Γ.M Γ.A (pyIter v) Q E s := by
  rcases r with ⟨A, hA, r⟩ | ⟨a, rfl, hm, hr, l, i, o, xs, n, hit, hl, hc, hd, rs⟩
  · have hi : A.items = As ∧ A.iter := by rcases hA with rfl | rfl <;> exact ⟨rfl, trivial⟩
    refine wp_iter st r hi.2 hh fun I fp W P h' it w0 hI hk ho => k I fp W P h' (hi.1 ▸ it) (.of_walks (hi.1 ▸ it.walks) fun ⟨o, e⟩ => by rw [hI] at e; cases e) w0 ?_ (.inl hI) hk
    cases e : H I with
    | none => rfl
    | some o => have := st.agree I o e; rw [hI] at this; cases this
  · have hne : l ≠ a := fun z => by rw [z, hm] at hl; cases hl
    refine wpAny_pyIter_listiter hit ?_
    have W := walks_from (prog := Γ.F.prog) (w := Γ.F.w) hh a l hne xs i
    have La := li_last (prog := Γ.F.prog) (w := Γ.F.w) hh a l xs i (∃ o, s.heap.get? a = some o)
    have hlen : xs.size - i = As.length := by rw [← rs.length]; simp
    rw [hlen] at W La
    refine k _ _ _ _ _ ⟨W, fun j v hj hv => ?_, fun b hb => ?_, fun j h hw => ?_⟩ La ⟨hit, o, st.agree _ _ hl, hc, n, hd⟩ hm (.inr hr) (fun b o e => e)
    · have hv' : (xs.toList.drop i)[j]? = some v := by simpa using hv
      cases hA : As[j]? with
      | none => rw [List.getElem?_eq_none_iff] at hA; omega
      | some B =>
        obtain ⟨y, ey, ry⟩ := rs.get hA
        rw [hv'] at ey; cases ey
        exact ⟨B, rfl, ry⟩
    · rcases List.mem_cons.mp hb with rfl | hb
      · exact .inl rfl
      · rw [List.mem_singleton.mp hb]; exact .inr ⟨o, hl⟩
    · obtain ⟨⟨q, e1, _, e3⟩, _⟩ := hw; exact ⟨q, _, e1, e3⟩

/-- what a builtin that walks along a source leaves -/
def GrowT (rel : Addr → Prop) (h h' : Heap) : Prop := Grow rel h h' ∧ ∀ b o, rel b → h.get? b = some o → ∃ o', h'.get? b = some o'

/-- check of a builtin function's arguments -/
theorem wp_check {prog : Program} {w : World} {A : Around} {id : String} {args : List Value} {s : Shared} {Q : Unit → Shared → Prop} {E : Value → Shared → Prop} (hk : builtinKind id = none) (ha : argsOk id ⟨args, []⟩) (h : Q () s) :
    wpAny (model prog w) A (checkBuiltinCall id ⟨args, []⟩) Q E s := by
  simp only [checkBuiltinCall, hk]
  cases hsig : Manifest.signature? id with
  | none => exact wpAny_pure h
  | some sig =>
    have ha' : Bind.checkArgs id sig ⟨args, []⟩ = pure () := by simpa only [argsOk, hsig] using ha
    simp only [ha']
    exact wpAny_pure h

theorem wp_fsum {H : Hm} {O : OSet} {s : Shared} {v : Value} {As : List V} {rel : Addr → Prop} {Q : Value → Shared → Prop} {E : Value → Shared → Prop} (st : St Γ H O loc s) (r : SrcV H s.heap rel v As) (hh : Γ.A.handled = none) (hz : As.length < sizeLine) (hf : ∀ (i : Nat) A, As[i]? = some A → A.fin)
    (hQ : ∀ x t h' tk, fsumRun [] As = some x → GrowT rel s.heap h' → Q (.float x t) { s with heap := h', toks := tk })
    (hE : ∀ h' h'' tk e, fsumRun [] As = none → GrowT rel s.heap h' → Heap.NewExc h' h'' e "OverflowError" → E (.ref e) { s with heap := h'', toks := tk }) :
    wpAny Γ.M Γ.A (call (.builtin "math.fsum") [v]) Q E s := by
  refine wpAny_call (codeAny_call_builtin fs_plain fs_entry (wp_check fs_kind (fs_args v) ?_))
  show wpAny _ Γ.A.in1 (pyIter v >>= _) _ _ s
  refine wpAny_bind (wp_src (Γ := Γ.in1) st.in1 r hh fun I fp W P h' it La w0 hI hnr hk => ?_)
  show wpAny _ Γ.A.in1 (newTuple [] >>= _) _ _ _
  refine wpAny_bind (wpAny_newTuple ?_ (by decide))
  show wpAny _ Γ.A.in1 (newTuple [rawInt (Float64.zero false).toNat, rawInt (Float64.zero false).toNat] >>= _) _ _ _
  refine wpAny_bind (wpAny_newTuple (wpAny_pure ⟨plainId_quiet fs_plain_loop _, ?_⟩) (by show 2 ≤ sizeLine; decide))
  have g : Grow rel s.heap h' := fun b o _ e => hk b o e
  have gI : ∀ {h₁ h₂ h₃ : Heap}, Grow rel s.heap h₁ → (∀ b o, s.heap.get? b = some o → h₁.get? b = some o) → Grow (· = I) h₁ h₂ → Grow rel s.heap h₂ := fun g hk g' b o hb e => g' b o (fun z => by
    subst z
    rcases hnr with q | q
    · rw [q] at e; cases e
    · exact hb q) (g b o hb e)
  have tt : ∀ {h₁ h₂ : Heap}, ((∃ o, s.heap.get? I = some o) → ∃ o, h₂.get? I = some o) → Grow (· = I) ((h'.push { cls := .type "tuple", data := .seq ([] : List Value).toArray }).push { cls := .type "tuple", data := .seq [rawInt (Float64.zero false).toNat, rawInt (Float64.zero false).toNat].toArray }) h₂ →
      ∀ b o, s.heap.get? b = some o → ∃ o', h₂.get? b = some o' := fun hl hg b o e => by
    by_cases z : b = I
    · subst z; exact hl ⟨o, e⟩
    · exact ⟨o, hg b o z (Heap.get?_push_of_some _ (Heap.get?_push_of_some _ (hk b o e)))⟩
  have hth : ∀ i h, W i h → ∃ o, h.get? I = some o := fun i h hw => let ⟨o, _, e, _⟩ := it.obj i h hw; ⟨o, e⟩
  obtain ⟨oI, eI⟩ := hth _ _ w0
  have ltI := Heap.lt_size eI
  refine fsum_loop (H := H) (A := Γ.A) hh it.walks La rfl hz hth (fun i v hi hv => ?_) As.length 0 _ [] _ _ _ _ 0 0 rfl (Nat.zero_le _) (Nat.le_refl _) (it.walks.frame _ _ _ w0 fun b _ o e => Heap.get?_push_of_some _ (Heap.get?_push_of_some _ e)) ?_ ?_ (Heap.get?_push_of_some _ (Heap.get?_push_size _ rfl)) rfl (Heap.get?_push_size _ rfl) rfl ?_ ?_
  · obtain ⟨B, hB, rB⟩ := it.item i v hi hv
    exact ⟨B, hB, rB, hf i B hB⟩
  · exact fun z => absurd (z ▸ ltI) (Nat.lt_irrefl _)
  · intro z
    have : (h'.push { cls := .type "tuple", data := .seq ([] : List Value).toArray }).get? I = some oI := Heap.get?_push_of_some _ eI
    have := Heap.lt_size this
    exact absurd (z ▸ this) (Nat.lt_irrefl _)
  · intro x t h₂ tk hx hg hl
    have g₂ : Grow rel s.heap h₂ := gI (h₃ := h₂) ((g.trans (.push _ _ _)).trans (.push _ _ _)) (fun b o e => Heap.get?_push_of_some _ (Heap.get?_push_of_some _ (hk b o e))) hg
    exact hQ x t h₂ tk hx ⟨g₂, fun b o hb e => tt (h₁ := h₂) hl hg b o e⟩
  · intro hx h₂ h₃ tk e hg hl ne
    have g₂ : Grow rel s.heap h₂ := gI (h₃ := h₂) ((g.trans (.push _ _ _)).trans (.push _ _ _)) (fun b o e => Heap.get?_push_of_some _ (Heap.get?_push_of_some _ (hk b o e))) hg
    exact hE h₂ h₃ tk e hx ⟨g₂, fun b o hb e => tt (h₁ := h₂) hl hg b o e⟩ ne

end
end Mine
end
section
open PySem PySem.W PyProof.Rows
set_option linter.unusedVariables false
set_option maxRecDepth 100000
namespace Mine

section
variable {prog : Program} {w : World} {A : Around} {s : Shared} {R : Result → Shared → Prop} {I : Addr} {fp : List Addr} {n : Nat} {P : Nat → Value → Prop} {W : Nat → Heap → Prop}

end
end Mine
end
section
open PySem PySem.W PyProof.Rows
set_option linter.unusedVariables false
set_option maxRecDepth 100000
namespace Mine
section
variable {Γ : Cx} {loc loc' : Loc} {Q : V → Loc → Prop} {QL : LV → Loc → Prop} {QB : Bool → Loc → Prop} {X : Exc → Loc → Prop} {x y : Str} {As Bs : List V}

/-- an iterator of the frame's own is let go: nobody speaks of it any more -/
theorem StH.release {H : Hm} {O : OSet} {h : Heap} {os : OsState} {g : Array GenState} (st : StH Γ H O loc h os g) (hx : loc.lookup x = some (.itr As)) (hw : ∀ y lv, loc'.lookup y = some lv → loc.lookup y = some lv) (hn : loc'.lookup x = none) :
    ∃ a, VarIs Γ.env h x (.ref a) ∧ ItrL H h a As ∧ O a ∧ Foreign Γ H (fun b => O b ∧ b ≠ a) a ∧ StH Γ H (fun b => O b ∧ b ≠ a) loc' h os g := by
  obtain ⟨v, hv, a, rfl, hO, hi⟩ := st.vars x _ hx
  have ap := st.apart x a _ hx rfl hv
  have ne : ∀ y lv, loc'.lookup y = some lv → lv.mine = true → ∀ b, VarIs Γ.env h y (.ref b) → b ≠ a := fun y lv ey m b hb z => by
    subst z
    have := st.sep y x b lv _ (hw y lv ey) hx m rfl hb hv
    subst this; rw [hn] at ey; cases ey
  have hobj : ∃ o vs, h.get? a = some o ∧ o.data = .fields vs := by
    obtain ⟨l, i, o, xs, n, ⟨o', e1, _, e3⟩, _⟩ := hi; exact ⟨o', _, e1, e3⟩
  refine ⟨a, hv, hi, hO, ⟨st.obase a hO, st.ohm a hO, fun z => z.2 rfl, fun y e => ap.2 y a e rfl, fun l hl env he ef => ?_, st.otab a hO⟩, ?_⟩
  · obtain ⟨l', hl', hf⟩ := st.frames
    rw [hl] at hl'; cases hl'
    obtain ⟨_, L, o, es, ep, e1, e2, e3, _⟩ := hf env he
    rw [ef] at e1; cases e1
    obtain ⟨o', vs, e4, e5⟩ := hobj
    rw [e4] at e2; cases e2
    rw [e5] at e3; cases e3
  · exact
    { base := st.base, agree := st.agree, nofr := st.nofr, os := st.os, gens := st.gens
      obase := fun b hb => st.obase b hb.1
      otab := fun b hb => st.otab b hb.1
      tabs := st.tabs
      ohm := fun b hb => st.ohm b hb.1
      othere := fun b hb => st.othere b hb.1
      kind := st.kind, ns := st.ns
      onsO := ⟨st.onsO, fun z => ap.1 z.symm⟩
      vars := fun y lv e => by
        obtain ⟨w, hw', hl⟩ := st.vars y lv (hw y lv e)
        refine ⟨w, hw', ?_⟩
        cases lv with
        | val B => exact hl
        | own c Bs =>
          obtain ⟨b, rfl, hb, rfl, l⟩ := hl
          exact ⟨c, rfl, ⟨hb, ne y _ e rfl _ hw'⟩, rfl, l⟩
        | itr Bs =>
          obtain ⟨b, rfl, hb, l⟩ := hl
          exact ⟨b, rfl, ⟨hb, ne y _ e rfl _ hw'⟩, l⟩
      sep := fun y z b l1 l2 e1 e2 => st.sep y z b l1 l2 (hw _ _ e1) (hw _ _ e2)
      apart := fun y b l1 e1 => st.apart y b l1 (hw _ _ e1)
      cells := fun y c e' => ⟨fun m => ⟨(st.cells y c e').1 m, fun z => ap.2 y c e' z.symm⟩, (st.cells y c e').2⟩
      cne := st.cne, cinj := st.cinj, frames := st.frames }

/-- the name of a source: a list or a tuple; an iterator, which is gone behind it -/
def Src (loc : Loc) (x : Str) (As : List V) (loc' : Loc) : Prop :=
  (∃ A, (A = .lst As ∨ A = .tup As) ∧ loc.lookup x = some (.val A) ∧ loc' = loc) ∨
  (loc.lookup x = some (.itr As) ∧ (∀ y lv, loc'.lookup y = some lv → loc.lookup y = some lv) ∧ loc'.lookup x = none)

/-- a source, opened: the state behind it, and what may change -/
theorem Src.open {H : Hm} {O : OSet} {s : Shared} (sr : Src loc x As loc') (st : St Γ H O loc s) :
    ∃ v O' rel, VarIs Γ.env s.heap x v ∧ SrcV H s.heap rel v As ∧ St Γ H O' loc' s ∧ Nx Γ.F H O s.heap H O' s.heap ∧ (∀ b, rel b → Foreign Γ H O' b ∧ O b) := by
  rcases sr with ⟨A, hA, hx, rfl⟩ | ⟨hx, hw, hn⟩
  · obtain ⟨v, hv, r⟩ := st.vars x _ hx
    exact ⟨v, O, fun _ => False, hv, .inl ⟨A, hA, r⟩, st, .refl .., fun b z => z.elim⟩
  · obtain ⟨a, hv, hi, hO, fa, st'⟩ := st.release hx hw hn
    refine ⟨.ref a, _, fun b => b = a, hv, .inr ⟨a, rfl, fa.hm, rfl, hi⟩, st', ⟨fun b o e _ => ⟨o, e, .refl ..⟩, fun b o e => ⟨o, e⟩, .refl _, fun b o e => .inl e, fun b e => .inl e.1⟩, fun b z => by subst z; exact ⟨fa, hO⟩⟩

/-- behind a walk along a source -/
theorem walked {H : Hm} {O O' : OSet} {s : Shared} {h' : Heap} {rel : Addr → Prop} (st : St Γ H O' loc' s) (n : Nx Γ.F H O s.heap H O' s.heap) (hr : ∀ b, rel b → Foreign Γ H O' b ∧ O b) (g : GrowT rel s.heap h') :
    StH Γ H O' loc' h' s.os s.gens ∧ Nx Γ.F H O s.heap H O' h' := by
  refine ⟨st.extW rel (fun b hb => (hr b hb).1) (fun b o hb e => ⟨o, g.1 b o hb e, .refl ..⟩) st.gens (.refl _) st.os fun b o e => .inl e, ?_⟩
  refine ⟨fun b o e hb => ⟨o, g.1 b o (fun z => hb (hr b z).2) e, .refl ..⟩, fun b o e => ?_, .refl _, fun b o e => .inl e, n.onew⟩
  by_cases z : rel b
  · exact g.2 b o z e
  · exact ⟨o, g.1 b o z e⟩

theorem walkedV {H : Hm} {O O' : OSet} {s : Shared} {h' : Heap} {tk : Nat} {rel : Addr → Prop} {R : V} {v : Value} (st : St Γ H O' loc' s) (n : Nx Γ.F H O s.heap H O' s.heap) (hr : ∀ b, rel b → Foreign Γ H O' b ∧ O b) (g : GrowT rel s.heap h')
    (r : Rep H R v) (q : Q R loc') : PostV Γ H O s (VQ Q) v { s with heap := h', toks := tk } :=
  let ⟨st', n'⟩ := walked st n hr g
  ⟨H, O', loc', .val R, n', st', r, q⟩
theorem walkedX {H : Hm} {O O' : OSet} {s : Shared} {h' h'' : Heap} {tk : Nat} {rel : Addr → Prop} {cls : String} {e : Addr} (st : St Γ H O' loc' s) (n : Nx Γ.F H O s.heap H O' s.heap) (hr : ∀ b, rel b → Foreign Γ H O' b ∧ O b) (g : GrowT rel s.heap h')
    (ne : Heap.NewExc h' h'' e cls) (q : X ⟨.type cls, none⟩ loc') : PostX Γ H O s X (.ref e) { s with heap := h'', toks := tk } := by
  obtain ⟨st', n'⟩ := walked st n hr g
  have p := PostX.new (s := { s with heap := h' }) (tk := tk) st' ne q
  exact p.back n'

/-- a builtin function is called with names -/
theorem ev_call1 {f : Str} {p px pos : Pos} {id : String} {v : Value} {H : Hm} {O : OSet} {s : Shared} {Qv Ev' : Value → Shared → Prop} (g : GlobAt Γ.F f (.builtin id)) (st : St Γ H O loc s) (hv : VarIs Γ.env s.heap x v) (h : wpAny Γ.M Γ.A (call (.builtin id) [v]) Qv Ev' s)
    (hk : Γ.env.kindOf f = some .globalImplicit := by rfl) (hg : Γ.env.globals = mainGlobals := by rfl) (hb : Γ.env.builtins = builtinsNs := by rfl)
    (hd : (f == ("__debug__" : Str)) = false := by decide) (hdx : (x == ("__debug__" : Str)) = false := by decide) (hn : (x == ("__classdict__" : Str)) = false := by decide) :
    wpAny Γ.M Γ.A (eval (.Call (.Name f p) [.Name x px] [] pos) Γ.env) Qv Ev' s := by
  refine wpAny_Call_Name_kw (Calls.Name_function_global st.kind hk (wp_glob st g ?_ hg hb) hd)
  show wpAny _ _ (callWith pos (.builtin id) [] _ []) _ _ _
  refine Calls.callWith_builtin (by rfl) (Calls.evalArgs_plain ?_)
  exact wpAny_items_cons (wpAny_Name (wp_var st.kind hv (wpAny_items_nil h) hn) hdx)
/-- fsum(x) -/
theorem ev_fsum {p px pos : Pos} (g : GlobAt Γ.F "fsum" (.builtin "math.fsum")) (sr : Src loc x As loc') (hh : Γ.A.handled = none) (hz : As.length < sizeLine) (hf : ∀ (i : Nat) A, As[i]? = some A → A.fin)
    (hQ : ∀ d, fsumRun [] As = some d → Q (.flt d) loc') (hX : fsumRun [] As = none → X ⟨.type "OverflowError", none⟩ loc')
    (hk : Γ.env.kindOf "fsum" = some .globalImplicit := by rfl) (hg : Γ.env.globals = mainGlobals := by rfl) (hb : Γ.env.builtins = builtinsNs := by rfl) (hdx : (x == ("__debug__" : Str)) = false := by decide) (hn : (x == ("__classdict__" : Str)) = false := by decide) :
    Ev Γ loc (.Call (.Name "fsum" p) [.Name x px] [] pos) (VQ Q) X := by
  intro H O s st
  obtain ⟨v, O', rel, hv, sv, st', n', hr⟩ := sr.open st
  refine ev_call1 g st hv (wp_fsum st' sv hh hz hf ?_ ?_) hk hg hb (by decide) hdx hn
  · intro d t h' tk hd gr
    exact walkedV st' n' hr gr (rep_flt ..) (hQ d hd)
  · intro h' h'' tk e hd gr ne
    exact walkedX st' n' hr gr ne (hX hd)

end
end Mine
end
section
open PySem PySem.W PyProof.Rows
set_option linter.unusedVariables false
set_option maxRecDepth 100000
namespace Mine
section
variable {Γ : Cx} {loc loc' : Loc} {Q : V → Loc → Prop} {QL : LV → Loc → Prop} {QB : Bool → Loc → Prop} {X : Exc → Loc → Prop} {x y : Str} {As Bs : List V}

def LV.isSeq : LV → Option Bool
  | .val (.lst _) => some true
  | .val (.tup _) => some true
  | .itr _ => some false
  | _ => none

end
end Mine
end
section
open PySem PySem.W PyProof.Rows
set_option linter.unusedVariables false
set_option maxRecDepth 100000
namespace Mine
/-- what the law stands on -/
structure Land (K : Frag) (F : Fix) : Prop where
  kin : K.In F.h₁
  g : ∃ mg, F.h₁.Ns mainGlobals mg
  b : ∃ mb, F.h₁.Ns builtinsNs mb ∧ ∀ x : Str, x ≠ "__name__" → mb x = bootBuiltins x
  lim : F.h₁.NoLimit
section
variable {K : Frag} {F : Fix}
theorem Land.glob (l : Land K F) {x : Str} {v : Value} (e : nsIn K mainGlobals x = some (some v)) : GlobAt F x v :=
  let ⟨mg, hg⟩ := l.g
  .inl ⟨mg, hg, mg_of l.kin hg e⟩
theorem Land.bi (l : Land K F) {x : Str} {v : Value} (e : nsIn K mainGlobals x = some none) (e' : bootBuiltins x = some v) (hn : x ≠ "__name__") : GlobAt F x v :=
  let ⟨mg, hg⟩ := l.g
  let ⟨mb, hb, hb'⟩ := l.b
  .inr ⟨mg, mb, hg, mg_none_of l.kin hg e, hb, (hb' x hn).trans e'⟩
def fnOk (K : Frag) (a : Addr) (fd : FuncData) (body : List Stmt) : Prop :=
  (∃ o, K.lookup a = some o ∧ o.data = .func fd) ∧ (∃ c o vs t, fd.code = .ref c ∧ K.lookup c = some o ∧ o.data = .fields vs ∧ vs[1]? = some (.str fd.qualname t)) ∧ fd.body = .stmts body ∧ fd.closure = [] ∧ fd.scope.isCoroutine = false ∧ fd.scope.isGenerator = false ∧ fd.scope.kind = .function
theorem Land.fn (l : Land K F) {a : Addr} {fd : FuncData} {body : List Stmt} (h : fnOk K a fd body) : FnAt F a fd body :=
  let ⟨⟨o, e1, e2⟩, ⟨c, oc, vs, t, c1, c2, c3, c4⟩, h3, h4, h5, h6, h7⟩ := h
  { o := ⟨o, l.kin _ _ e1, e2⟩, lim := l.lim, cd := ⟨c, oc, vs, t, c1, l.kin _ _ c2, c3, c4⟩, body := h3, clos := h4, co := h5, gen := h6, kind := h7 }
end
def dummyFn : FuncData := { name := "", qualname := "", params := { posonlyargs := [], args := [], vararg := none, kwonlyargs := [], kw_defaults := [], kwarg := none, defaults := [] }, body := .stmts [], scope := { kind := .function, names := [], isGenerator := false, isCoroutine := false }, globals := 0, closure := [], defaults := .none, kwdefaults := .none }
/-- the function that lies at a place of the fragment -/
def fdAt (K : Frag) (k : Nat) : FuncData :=
  match (K.getD k (0, { cls := .none, data := .plain })).2.data with
  | .func fd => fd
  | _ => dummyFn
def bdAt (K : Frag) (k : Nat) : List Stmt :=
  match (fdAt K k).body with
  | .stmts b => b
  | _ => []
end Mine
end
section
open PySem PySem.W PyProof.Rows
set_option linter.unusedVariables false
set_option maxRecDepth 100000
namespace Mine
/-- a contract out of the body -/
theorem calls_of {F : Fix} {fd : FuncData} {a : Addr} {body : List Stmt} {names : List Str} {lvs klvs : List LV} {kn : List Str} {Q : V → Prop} {X : Exc → Prop} {d : Nat} (fn : FnAt F a fd body) (hn : names.Nodup)
    (hk : ∀ x ∈ names, fd.scope.names.lookup x = some .local ∨ fd.scope.names.lookup x = some .cell) (hlen : names.length = lvs.length + klvs.length)
    (hbind : ∀ (s : Shared) (vals kvals : List Value), (∀ b o, F.h₁.get? b = some o → s.heap.get? b = some o) → vals.length = lvs.length → kvals.length = klvs.length → BindsTo s fd ⟨vals, kn.zip kvals⟩ (names.zip (vals ++ kvals)))
    (h : ∀ A L, Room A (d + 1) → Exs (F.fn A fd a L) (names.zip (lvs ++ klvs)) body (FnQ Q) (fun x _ => X x)) : Calls F (.ref a) (d + 1) lvs kn klvs Q X := by
  intro A H O s vals kvals hr ws hl ar
  have hl2 : (vals ++ kvals).length = (lvs ++ klvs).length := ar.len
  have hl3 : kvals.length = klvs.length := by simp at hl2; omega
  refine call_fn fn (by have := hr.depth; omega) ws ar hn hk (by rw [hl2]; simp; omega) (fun Q' E' q => hbind s vals kvals ws.base hl hl3 _ _ _ _ q) fun L => h A L hr
end Mine
end
section
open PySem PySem.W PyProof.Rows
set_option linter.unusedVariables false
set_option maxRecDepth 100000
namespace Mine
theorem noPylong {x y : Int} (h : y.natAbs < 2 ^ 64) : Builtin.divisionGoesByPylong x y = false := by
  have : y.natAbs.log2 < 64 := by
    by_cases c : y.natAbs = 0
    · rw [c]; decide
    · exact (Nat.log2_lt c).mpr h
  unfold Builtin.divisionGoesByPylong
  simp only [Bool.and_eq_false_imp, decide_eq_true_eq]
  intro hh
  exfalso
  split at hh <;> omega
end Mine
namespace Mine
end Mine
namespace Mine
section
variable {Γ : Cx} {loc : Loc} {QF : Fl → Loc → Prop} {X : Exc → Loc → Prop} {x : Str}
/-- x = value, and on -/
theorem exs_let {pos' pos : Pos} {value : Expr} {rest : List Stmt} (hx : Γ.stores x) (h : Ev Γ loc value (VQ fun A l => Exs Γ ((x, .val A) :: l) rest QF X) X)
    (hs : swapsWith value (some (.Name x pos')) pos.line Γ.env = pure false := by rfl) : Exs Γ loc (.Assign [.Name x pos'] value pos :: rest) QF X := by
  refine exs_cons (ex_assign (h.mono (fun lv l q => ?_) fun _ _ q => q) hx hs)
  cases lv with
  | val A => exact q
  | own _ _ => exact q.elim
  | itr _ => exact q.elim
theorem exs_ret {pos : Pos} {value : Expr} {rest : List Stmt} (h : Ev Γ loc value (VQ fun A l => QF (.ret A) l) X) : Exs Γ loc (.Return (some value) pos :: rest) QF X :=
  exs_cons (ex_return h)
end
theorem loc_put {l : Loc} {x y : Str} {lv : LV} {w : Option LV} (h : l.lookup y = w) (hne : (y == x) = false) : List.lookup y ((x, lv) :: l) = w := by
  rw [List.lookup_cons, hne]; exact h
theorem len6 {n : Nat} (h : n ≤ 70) : n ≤ sizeLine := Nat.le_trans h (by decide)
end Mine
namespace Mine
/-- a name holds a value -/
abbrev Has (l : Loc) (x : Str) (A : V) : Prop := l.lookup x = some (.val A)
end Mine
end
section
open PySem PySem.W PyProof.Rows
set_option linter.unusedVariables false
namespace Mine
section
variable {Γ : Cx} {loc : Loc} {QL : LV → Loc → Prop} {X : Exc → Loc → Prop}
theorem ev_val {e : Expr} (h : Ev Γ loc e (VQ fun A l => QL (.val A) l) X) : Ev Γ loc e QL X := h.mono (fun lv l q => by
  cases lv with
  | val A => exact q
  | own _ _ => exact q.elim
  | itr _ => exact q.elim) fun _ _ q => q
end
end Mine
end
section
open PySem PySem.W PyProof.Rows
set_option linter.unusedVariables false
set_option maxRecDepth 100000
namespace Mine
section
variable {Γ : Cx} {loc : Loc} {Q : V → Loc → Prop} {X : Exc → Loc → Prop}
def V.isFlt : V → Option Bool
  | .flt _ => some true
  | .str _ => some false
  | _ => Option.none
/-- list + list -/
theorem op_add_lst {As Bs : List V} (hz : As.length + Bs.length ≤ sizeLine) (h : Q (.lst (As ++ Bs)) loc) : Op2 Γ loc (binaryOp .Add) (.lst As) (.lst Bs) Q X := fun H O s va vb st ra rb => by
  obtain ⟨a, o, xs, n, rfl, h2, h3, h4, h5⟩ := ra.lst_of
  obtain ⟨a', o', xs', n', rfl, h2', h3', h4', h5'⟩ := rb.lst_of
  have hl : xs.size = As.length := by rw [← h5.length]; simp
  have hl' : xs'.size = Bs.length := by rw [← h5'.length]; simp
  have fa := st.foreign (fresh_none s.heap)
  obtain ⟨cls, dd, data, sl⟩ := o
  obtain ⟨cls2, dd2, data2, sl2⟩ := o'
  simp only at h3 h4 h3' h4'
  subst h3 h4 h3' h4'
  have ho := st.agree _ _ h2
  have ho2 := st.agree _ _ h2'
  refine concat_meets ⟨_, ho, rfl⟩ ⟨_, ho2, rfl⟩ noFill_list_add seq_list_add PySem.F.slot_list_add PySem.F.entry_list_add (PySem.F.args_list_add_2 _ _) (list_addW a a' xs xs' n n' dd dd2 sl sl2 (by omega)) ⟨ho, ho2, ?_⟩
  exact PostV.made (tk := s.toks) st (fun b o e => Heap.get?_push_of_some _ e) (fresh_none _) (Heap.get?_push_size _ rfl) (seq_nodict rfl) (rep_new_lst fa.hm rfl rfl (by simpa using h5.append h5')) h
end
end Mine
end
section
open PySem PySem.W PyProof.Rows
set_option linter.unusedVariables false
set_option maxRecDepth 100000
namespace Mine
theorem reps_ints {H : Hm} : ∀ {vs : List Value} {ns : List Int}, IntsAre vs ns → Reps H (ns.map .int) vs
  | [], [], _ => reps_nil H
  | v :: vs, n :: ns, h => by
    cases h with
    | cons _ _ h2 => exact reps_cons (rep_int ..) (reps_ints h2)
end Mine
end
section
open PySem PySem.W PyProof.Rows
set_option linter.unusedVariables false
set_option maxRecDepth 100000
namespace Mine

/-! ## the text's own exceptions -/
abbrev veMro : List Value := [.type "ValueError", .type "Exception", .type "BaseException", .type "object"]
/-- a class of the text's whose base is ValueError -/
structure ExcCls (F : Fix) (C : Addr) : Prop where
  mk ::
  is : ∃ nm q N bs hdct sn sub ab col dd k0 k1 k2 k3 k5 mN, F.h₁.get? C = some (excClassObj nm q C N bs veMro hdct sn sub ab col dd k0 k1 k2 k3 k5 "ValueError.__new__") ∧ F.h₁.Ns N mN ∧
    mN "__init__" = none ∧ mN "__str__" = none
theorem ve_base : ExcBaseFacts "ValueError" "ValueError.__new__" "ValueError.__init__" veMro := PySem.F.excBase_ValueError
section
variable {prog : Program} {w : World} {A : Around} {E : Value → Shared → Prop} {s : Shared}
variable {nm q : Str} {C N : Addr} {bs : List Value} {hdct : Bool} {sn : List Str} {sub : List Value} {ab : Bool} {col : Option Bool} {dd : Option Addr} {k0 k1 k2 k3 k5 : Option Value} {env : Env}
theorem wp_raiseStmt {x : Sem Value} {Q : Flow → Shared → Prop}
    (h : wpAny (model prog w) A x (fun v s₁ => ∃ e t, v = .ref e ∧ s₁.heap.get? C = some (excClassObj nm q C N bs veMro hdct sn sub ab col dd k0 k1 k2 k3 k5 "ValueError.__new__") ∧
      s₁.heap.get? e = some { cls := .ref C, data := .fields #[.ref t, .none, .none, .none, .bool false, .none] } ∧ wpAny (model prog w) A (raiseNew (.ref e) : Sem Flow) Q E s₁) E s) :
    wpAny (model prog w) A (raiseStmt env (some x) none) Q E s := by
  have hcB : (Value.ref C :: veMro).contains (.type "BaseException") = true := by rw [List.contains_cons]; exact (Bool.or_true _ ▸ rfl)
  unfold raiseStmt
  refine wpAny_bind (wpAny_mono h (fun v s₁ h₁ => ?_) fun _ _ x => x)
  obtain ⟨e, t, rfl, hC, he, hE⟩ := h₁
  obtain ⟨hp, g, d, tk, os⟩ := s₁
  repeat (first | with_reducible refine wpAny_loadPart_at he ?_ | with_reducible refine wpAny_loadPart_at hC ?_ | (with_reducible refine wpAny_isSubtype_exc hC ?_; rw [hcB]) | wp_step)
  exact hE
end
section
variable {Γ : Cx} {loc : Loc} {Q : V → Loc → Prop} {QL : LV → Loc → Prop} {QF : Fl → Loc → Prop} {X : Exc → Loc → Prop}
theorem wp_raise {c m : Str} {C : Addr} {k : Nat} {np mp cpos pos : Pos} {H : Hm} {O : OSet} {s : Shared} {Qf : Flow → Shared → Prop} {E : Value → Shared → Prop} (cls : ExcCls Γ.F C) (g : GlobAt Γ.F c (.ref C)) (st : St Γ H O loc s)
    (hk : Γ.env.kindOf c = some .globalImplicit) (hg : Γ.env.globals = mainGlobals) (hb : Γ.env.builtins = builtinsNs) (hd : (c == ("__debug__" : Str)) = false)
    (hr : ∀ H₁ O₁ s₁ h' e tk, Nx Γ.F H O s.heap H₁ O₁ s₁.heap → St Γ H₁ O₁ loc s₁ → Heap.MadeExcOf s₁.heap h' e (.ref C) [.str m tk] → wpAny Γ.M Γ.A (raiseNew (.ref e) : Sem Flow) Qf E { s₁ with heap := h' }) :
    wpAny Γ.M Γ.A (exec (.Raise (some (.Call (.Name c np) [.Constant (.str m) k mp] [] cpos)) none pos) Γ.env) Qf E s := by
  obtain ⟨nm, q, N, bs, hdct, sn, sub, ab, col, dd, k0, k1, k2, k3, k5, mN, hC, hN, hi, hs⟩ := cls.is
  have hh : Args' Γ loc cpos [.Constant (.str m) k mp] (AllVal fun As l => As = [.str m] ∧ l = loc) NoX := args_val (ev_str (args_val_nil ⟨rfl, rfl⟩))
  rw [arm_exec_Raise]
  refine wpAny_bind (wpAny_standAt ?_)
  show wpAny Γ.M Γ.A (raiseStmt Γ.env (some (do let v ← eval (.Call (.Name c np) [.Constant (.str m) k mp] [] cpos) Γ.env; standAt pos; pure v)) none) _ _ _
  refine wp_raiseStmt (nm := nm) (q := q) (C := C) (N := N) (bs := bs) (hdct := hdct) (sn := sn) (sub := sub) (ab := ab) (col := col) (dd := dd) (k0 := k0) (k1 := k1) (k2 := k2) (k3 := k3) (k5 := k5) ?_
  refine wpAny_bind (wpAny_mono (Q := fun v s₁ => ∃ e t, v = .ref e ∧ s₁.heap.get? C = some (excClassObj nm q C N bs veMro hdct sn sub ab col dd k0 k1 k2 k3 k5 "ValueError.__new__") ∧
      s₁.heap.get? e = some { cls := .ref C, data := .fields #[.ref t, .none, .none, .none, .bool false, .none] } ∧ wpAny Γ.M Γ.A (raiseNew (.ref e) : Sem Flow) Qf E s₁) ?_ (fun v s₁ p => wpAny_bind (wpAny_standAt (wpAny_pure p))) fun _ _ p => p)
  refine wpAny_Call_ofName (Calls.Name_function_global st.kind hk (wp_glob st g ?_ hg hb) hd)
  unfold callWith
  refine wpAny_bind (wpAny_holding (Calls.evalArgs_plain (wpAny_mono (hh H O s st) (fun vs s₁ p => ?_) fun _ _ p => p.no.elim)))
  obtain ⟨H₁, O₁, l₁, lvs, n₁, st₁, t₁, As, rfl, rfl, rfl⟩ := p
  obtain ⟨y, ys, rfl, ⟨tk, rfl⟩, rfl⟩ : ∃ y ys, vs = y :: ys ∧ (∃ tk, y = .str m tk) ∧ ys = [] := by
    have := t₁.reps
    simp only [Reps] at this
    obtain ⟨y, ys, h1, h2, h3⟩ := this
    exact ⟨y, ys, h1, h2.str_of, h3⟩
  have hC₁ := st₁.base _ _ hC
  have hN₁ := hN.keeps st₁.base
  refine wpAny_bind (wpAny_standAt ?_)
  obtain ⟨hp, gg, d, tks, os⟩ := s₁
  refine wpAny_bind (wpAny_keeperOf_exc hC₁ ?_)
  refine wpAny_bind (wpAny_call_exc_sub ve_base hC₁ hN₁ hi (fun h' e hm => wpAny_bind (wpAny_holding (wpAny_point (wpAny_pure ?_)))))
  obtain ⟨t, ht, _, _⟩ := hm.there
  exact ⟨e, t, rfl, hm.keeps _ _ hC₁, ht, hr H₁ O₁ _ h' e tk n₁ st₁ hm⟩
/-- an exception of the text's, just made -/
theorem PostX.made {H : Hm} {O : OSet} {s : Shared} {h' : Heap} {e t C : Addr} {oe ot : Obj} {us : Array Value} {n : Nat} {tk : Tok} {m : Str} (st : St Γ H O loc s) (hk : ∀ b o, s.heap.get? b = some o → h'.get? b = some o) (hne : s.heap.get? e = none) (hnt : s.heap.get? t = none) (het : e ≠ t)
    (he : h'.get? e = some oe) (hc : oe.cls = .ref C) (hd : oe.data = .fields us) (h0 : us[0]? = some (.ref t)) (h1 : us[1]? = some .none) (ht : h'.get? t = some ot) (htc : ot.cls = .type "tuple") (htd : ot.data = .seq #[.str m tk] n)
    (hx : X ⟨.ref C, some m⟩ loc) : PostX Γ H O s X (.ref e) { s with heap := h' } := by
  have fe := st.foreign hne
  have ft := st.foreign hnt
  have st₁ : StH Γ H O loc h' s.os s.gens := st.ext (fun b o e => ⟨o, hk b o e, .refl ..⟩) st.gens (.refl _) fun b o e => .inl e
  have n₁ : Nx Γ.F H O s.heap H O h' := ⟨fun b o e _ => ⟨o, hk b o e, .refl ..⟩, fun b o e => ⟨o, hk b o e⟩, .refl _, fun b o e => .inl e, fun b e => .inl e⟩
  refine ⟨Hset H t ot, O, loc, ⟨.ref C, some m⟩, n₁.freeze ft.hm hnt, st₁.freeze ht ⟨fun es ep z => (by rw [htd] at z; cases z), by rw [htc]; simp⟩ ft.o ft.hm,
    ⟨e, oe, us, rfl, hne, fe.o, ?_, he, hc, hd, ⟨fun m' hm' => ?_, fun z => by cases z⟩, .inl h1⟩, hx⟩
  · unfold Hset; rw [if_neg het]; exact fe.hm
  · cases hm'
    exact ⟨t, ot, n, tk, h0, Hset.self _ _ _, htc, htd⟩
/-- raise C('m') -/
theorem ex_raise {c m : Str} {C : Addr} {k : Nat} {np mp cpos pos : Pos} (cls : ExcCls Γ.F C) (g : GlobAt Γ.F c (.ref C)) (hh : Γ.A.handled = none) (hx : X ⟨.ref C, some m⟩ loc)
    (hk : Γ.env.kindOf c = some .globalImplicit := by rfl) (hg : Γ.env.globals = mainGlobals := by rfl) (hb : Γ.env.builtins = builtinsNs := by rfl) (hd : (c == ("__debug__" : Str)) = false := by decide) :
    Ex1 Γ loc (.Raise (some (.Call (.Name c np) [.Constant (.str m) k mp] [] cpos)) none pos) QF X := by
  intro H O s st
  refine wp_raise cls g st hk hg hb hd fun H₁ O₁ s₁ h' e tk n₁ st₁ hm => wpAny_raiseNew_none hh ?_
  obtain ⟨t, h1, h2, h3⟩ := hm.there
  exact (PostX.made (X := X) st₁ hm.keeps hm.new h2 (fun z => by rw [z, h3] at h1; cases h1) h1 rfl rfl rfl rfl h3 rfl rfl hx).back n₁
end
end Mine
end
section
open PySem PySem.W PyProof.Rows
set_option linter.unusedVariables false
set_option maxRecDepth 100000
namespace Mine
section
variable {Γ : Cx} {loc : Loc} {Q : V → Loc → Prop} {QL : LV → Loc → Prop} {QB : Bool → Loc → Prop} {QF : Fl → Loc → Prop} {X : Exc → Loc → Prop} {x : Exc}
def V.plain : V → Prop
  | .none => True
  | .bool _ => True
  | .int _ => True
  | .flt _ => True
  | .str _ => True
  | _ => False
end
end Mine
end
section
open PySem PySem.W PyProof.Rows
set_option linter.unusedVariables false
set_option maxRecDepth 100000
namespace Mine

/-! ## str of an exception of the text's -/
open Builtin Builtin.Str Builtin.BaseException Builtin.Exceptions in
section
variable {prog : Program} {w : World} {A : Around} {E : Value → Shared → Prop} {h : Heap} {g : Array GenState} {d : Drawn} {t : Nat} {os : OsState} {a t0 : Addr} {o : Obj} {vs : Array Value} {m : Str} {tk : Tok}
variable {nm q : Str} {C N : Addr} {bs : List Value} {hdct : Bool} {sn : List Str} {sub : List Value} {ab : Bool} {col : Option Bool} {dd : Option Addr} {k0 k1 k2 k3 k5 : Option Value} {mN : Str → Option Value}
end
section
variable {Γ : Cx} {loc : Loc} {Q : V → Loc → Prop} {X : Exc → Loc → Prop}
end
end Mine
end
section
open PySem PySem.W PyProof.Rows
set_option linter.unusedVariables false
set_option maxRecDepth 100000
namespace Mine

/-! ## and, or as values; equality; values told to the object -/
section
variable {Γ : Cx} {loc : Loc} {Q : V → Loc → Prop} {QL : LV → Loc → Prop} {QB : Bool → Loc → Prop} {QF : Fl → Loc → Prop} {X : Exc → Loc → Prop}
def Bo (Γ : Cx) (loc : Loc) (pos : Pos) (op : BoolOp) (es : List Expr) (Q : V → Loc → Prop) (X : Exc → Loc → Prop) : Prop :=
  ∀ H O s, St Γ H O loc s → wpAny Γ.M Γ.A (boolOp pos op (evalEach es Γ.env)) (PostV Γ H O s (VQ Q)) (PostX Γ H O s X) s
theorem ev_bool_op {op : BoolOp} {es : List Expr} {pos : Pos} (h : Bo Γ loc pos op es Q X) : Ev Γ loc (.BoolOp op es pos) (VQ Q) X := fun H O s st => h H O s st
theorem bo_last {op : BoolOp} {e : Expr} {pos : Pos} (h : Ev Γ loc e (VQ Q) X) : Bo Γ loc pos op [e] Q X := fun H O s st => h H O s st
theorem bo_cons {op : BoolOp} {e e' : Expr} {es : List Expr} {pos : Pos} (h : Ev Γ loc e (VQ fun A l => Opb Γ l truthy A (fun b l' => if b == (op == .And) then Bo Γ l' pos op (e' :: es) Q X else Q A l') X) X) : Bo Γ loc pos op (e :: e' :: es) Q X := by
  intro H O s st
  show wpAny Γ.M Γ.A (boolOp pos op (eval e Γ.env :: eval e' Γ.env :: evalEach es Γ.env)) _ _ _
  unfold boolOp
  refine wpAny_bind (wpAny_mono (h H O s st) (fun v s₁ p => wpAny_bind (wpAny_standAt ?_)) fun _ _ p => p)
  obtain ⟨H₁, O₁, l₁, lv, n₁, st₁, r₁, q₁⟩ := p
  cases lv with
  | own _ _ => exact q₁.elim
  | itr _ => exact q₁.elim
  | val A =>
    refine wpAny_bind (wpAny_holding (wpAny_mono (q₁ H₁ O₁ s₁ v st₁ r₁) (fun b s₂ p => ?_) fun _ _ p => p.back n₁))
    obtain ⟨H₂, O₂, l₂, n₂, st₂, q₂⟩ := p
    have go : Bo Γ l₂ pos op (e' :: es) Q X → wpAny Γ.M Γ.A (boolOp pos op (eval e' Γ.env :: evalEach es Γ.env)) (PostV Γ H O s (VQ Q)) (PostX Γ H O s X) s₂ := fun z =>
      wpAny_mono (z H₂ O₂ s₂ st₂) (fun _ _ p => (p.back n₂).back n₁) fun _ _ p => (p.back n₂).back n₁
    have stop : Q A l₂ → wpAny Γ.M Γ.A (pure v) (PostV Γ H O s (VQ Q)) (PostX Γ H O s X) s₂ := fun z =>
      wpAny_pure ⟨H₂, O₂, l₂, .val A, n₁.trans n₂, st₂, Rep.mono n₂.hle _ _ r₁, z⟩
    cases op <;> cases b
    · exact stop q₂
    · exact go q₂
    · exact go q₂
    · exact stop q₂
end
/-- told to the object -/
def Sub (A B : V) : Prop := ∀ H v, Rep H A v → Rep H B v
inductive Subs : List V → List V → Prop
  | nil : Subs [] []
  | cons {A B : V} {As Bs : List V} : Sub A B → Subs As Bs → Subs (A :: As) (B :: Bs)
theorem Subs.reps {As Bs : List V} (h : Subs As Bs) : ∀ {H : Hm} {vs : List Value}, Reps H As vs → Reps H Bs vs := by
  induction h with
  | nil => exact fun r => r
  | cons h1 _ ih =>
    intro H vs r
    simp only [Reps] at r ⊢
    obtain ⟨y, ys, rfl, r1, r2⟩ := r
    exact ⟨y, ys, rfl, h1 _ _ r1, ih r2⟩
theorem Subs.lst {As Bs : List V} (h : Subs As Bs) : Sub (.lst As) (.lst Bs) := fun H v r => by
  obtain ⟨a, o, xs, n, rfl, h2, h3, h4, h5⟩ := r.lst_of
  exact rep_lst h2 h3 h4 (h.reps h5)
def V.scal : V → Prop := V.plain
theorem Rep.scal {A : V} (h : A.scal) {H H' : Hm} {v : Value} (r : Rep H A v) : Rep H' A v := by
  cases A <;> first | (simp only [Rep] at r ⊢; exact r) | exact h.elim
theorem Subs.con : ∀ {As : List V} {vs : List Value} {H : Hm}, (∀ A ∈ As, A.scal) → Reps H As vs → Subs (vs.map .con) As
  | [], vs, H, _, r => by simp only [Reps] at r; subst r; exact .nil
  | A :: As, vs, H, h, r => by
    simp only [Reps] at r
    obtain ⟨y, ys, rfl, r1, r2⟩ := r
    exact .cons (fun H' v e => by cases e.con_of; exact r1.scal (h A List.mem_cons_self)) (Subs.con (fun B hB => h B (List.mem_cons_of_mem _ hB)) r2)
theorem reps_con {H : Hm} : ∀ (vs : List Value), Reps H (vs.map .con) vs
  | [] => reps_nil H
  | v :: vs => reps_cons (rep_con H v) (reps_con vs)
section
variable {Γ : Cx} {loc : Loc} {Q : V → Loc → Prop} {QL : LV → Loc → Prop} {QB : Bool → Loc → Prop} {QF : Fl → Loc → Prop} {X : Exc → Loc → Prop} {x : Str} {As : List V}
/-- a name's value is told anew -/
theorem StH.know {H : Hm} {O : OSet} {h : Heap} {os : OsState} {g : Array GenState} {A B : V} {v : Value} (st : StH Γ H O loc h os g) (hv : VarIs Γ.env h x v) (r : Rep H B v) : StH Γ H O ((x, .val B) :: loc) h os g :=
  { st with
    vars := fun y lv e => by
      by_cases hy : y = x
      · subst hy; rw [lookup_cons_self] at e; cases e; exact ⟨v, hv, r⟩
      · rw [lookup_cons_ne hy] at e; exact st.vars y lv e
    sep := fun y z a lv lv' e e' m m' => by
      by_cases hy : y = x
      · subst hy; rw [lookup_cons_self] at e; cases e; cases m
      · by_cases hz : z = x
        · subst hz; rw [lookup_cons_self] at e'; cases e'; cases m'
        · rw [lookup_cons_ne hy] at e; rw [lookup_cons_ne hz] at e'; exact st.sep y z a lv lv' e e' m m'
    apart := fun y a lv e m => by
      by_cases hy : y = x
      · subst hy; rw [lookup_cons_self] at e; cases e; cases m
      · rw [lookup_cons_ne hy] at e; exact st.apart y a lv e m }
theorem exs_con {ss : List Stmt} (hx : Has loc x (.lst As)) (hs : ∀ A ∈ As, A.scal) (h : ∀ vs : List Value, Subs (vs.map .con) As → Exs Γ ((x, .val (.lst (vs.map .con))) :: loc) ss QF X) : Exs Γ loc ss QF X := by
  intro H O s st
  obtain ⟨v, hv, r⟩ := st.vars x _ hx
  obtain ⟨a, o, xs, n, rfl, h2, h3, h4, h5⟩ := Rep.lst_of (H := H) r
  exact h xs.toList (Subs.con hs h5) H O s (st.know (A := .lst As) hv (rep_lst h2 h3 h4 (reps_con _)))
theorem ev_as {e : Expr} {A : V} (B : V) (hs : Sub A B) (h : Q B loc) (he : ∀ Q : V → Loc → Prop, Q A loc → Ev Γ loc e (VQ Q) X) : Ev Γ loc e (VQ Q) X := by
  intro H O s st
  refine wpAny_mono (he (fun C l => C = A ∧ l = loc) ⟨rfl, rfl⟩ H O s st) (fun v s₁ p => ?_) fun _ _ p => p
  obtain ⟨H₁, O₁, l₁, lv, n₁, st₁, r₁, q₁⟩ := p
  cases lv with
  | own _ _ => exact q₁.elim
  | itr _ => exact q₁.elim
  | val C =>
    obtain ⟨rfl, rfl⟩ := q₁
    exact ⟨H₁, O₁, l₁, .val B, n₁, st₁, hs _ _ r₁, h⟩
/-- the name's value, told more loosely -/
theorem ev_name_as {pos} {A : V} (B : V) (hs : Sub A B) (hx : Has loc x A) (h : Q B loc) (hd : (x == ("__debug__" : Str)) = false := by decide) (hn : (x == ("__classdict__" : Str)) = false := by decide) : Ev Γ loc (.Name x pos) (VQ Q) X :=
  ev_as B hs h fun _ q => ev_name hx q hd hn
end
/-- values that are equal to themselves -/
inductive EqS : Nat → V → Prop
  | none (d : Nat) : EqS d .none
  | bool (d : Nat) (b : Bool) : EqS d (.bool b)
  | int (d : Nat) (i : Int) : EqS d (.int i)
  | str (d : Nat) (x : Str) : EqS d (.str x)
  | con (d : Nat) (v : Value) : EqS d (.con v)
  | tup {d : Nat} {As : List V} : (∀ B ∈ As, EqS d B) → EqS (d + 1) (.tup As)
  | lst {d : Nat} {As : List V} : (∀ B ∈ As, EqS d B) → EqS (d + 1) (.lst As)
open SeqAt EqBoolInt in
theorem items_eq {H : Hm} {s : Shared} {Ar : Around} {As : List V} {xs ys : Array Value} (ih : ∀ B ∈ As, ∀ a b, Rep H B a → Rep H B b → EqAt Ar.in1 s a b true) (h : Reps H As xs.toList) (h' : Reps H As ys.toList) :
    ∀ j (h1 : j < xs.size) (h2 : j < ys.size), EqAt Ar.in1 s xs[j] ys[j] true := by
  intro j h1 h2
  have hl : xs.size = As.length := by rw [← h.length]; simp
  have hA : As[j]? = some (As[j]'(by omega)) := List.getElem?_eq_getElem (by omega)
  obtain ⟨a, ea, ra⟩ := h.get hA
  obtain ⟨b, eb, rb⟩ := h'.get hA
  have ea' : xs[j]? = some a := by simpa using ea
  have eb' : ys[j]? = some b := by simpa using eb
  rw [Array.getElem?_eq_getElem h1] at ea'
  rw [Array.getElem?_eq_getElem h2] at eb'
  cases ea'; cases eb'
  exact ih _ (List.getElem_mem _) _ _ ra rb
theorem all_true (n : Nat) : (List.range n).all (fun _ => true) = true := by simp
open SeqAt EqBoolInt in
theorem eqAt_same {H : Hm} {s : Shared} (ag : ∀ b o, H b = some o → s.heap.get? b = some o) {d : Nat} {A : V} (h : EqS d A) : ∀ (Ar : Around) (a b : Value), Ar.units + d < cLine → Rep H A a → Rep H A b → EqAt Ar s a b true := by
  induction h with
  | none d => intro Ar a b _ ra rb; cases ra.none_of; cases rb.none_of; exact EqAt.same _
  | bool d x => intro Ar a b _ ra rb; cases ra.bool_of; cases rb.bool_of; exact EqAt.same _
  | con d v => intro Ar a b _ ra rb; cases ra.con_of; cases rb.con_of; exact EqAt.same _
  | int d i => intro Ar a b _ ra rb; obtain ⟨t, rfl⟩ := ra.int_of; obtain ⟨u, rfl⟩ := rb.int_of; have := EqAt.int_int (A := Ar) (s := s) i t i u; rwa [beq_self_eq_true] at this
  | str d i => intro Ar a b _ ra rb; obtain ⟨t, rfl⟩ := ra.str_of; obtain ⟨u, rfl⟩ := rb.str_of; have := EqAt.str_str (A := Ar) (s := s) i t i u; rwa [beq_self_eq_true] at this
  | @tup d As _ ih =>
    intro Ar a b hu ra rb
    obtain ⟨x, o, xs, n, rfl, h2, h3, h4, h5⟩ := ra.tup_of
    obtain ⟨y, o', ys, n', rfl, k2, k3, k4, k5⟩ := rb.tup_of
    by_cases hxy : x = y
    · subst hxy; exact EqAt.same _
    have hl : xs.size = As.length := by rw [← h5.length]; simp
    have hl' : ys.size = As.length := by rw [← k5.length]; simp
    have := RcAt.tuples (A := Ar) (e := fun _ => true) ⟨o, ag _ _ h2, h3, n, h4⟩ ⟨o', ag _ _ k2, k3, n', k4⟩ (by omega) (items_eq (fun B hB a b ra rb => ih B hB Ar.in1 a b (by show Ar.units + 1 + d < cLine; omega) ra rb) h5 k5)
    rw [all_true, hl, hl', beq_self_eq_true] at this
    exact EqAt.of_refs hxy this
  | @lst d As _ ih =>
    intro Ar a b hu ra rb
    obtain ⟨x, o, xs, n, rfl, h2, h3, h4, h5⟩ := ra.lst_of
    obtain ⟨y, o', ys, n', rfl, k2, k3, k4, k5⟩ := rb.lst_of
    by_cases hxy : x = y
    · subst hxy; exact EqAt.same _
    have hl : xs.size = As.length := by rw [← h5.length]; simp
    have hl' : ys.size = As.length := by rw [← k5.length]; simp
    have := RcAt.lists (A := Ar) (e := fun _ => true) ⟨o, ag _ _ h2, h3, n, h4⟩ ⟨o', ag _ _ k2, k3, n', k4⟩ (by omega) (by omega) (items_eq (fun B hB a b ra rb => ih B hB Ar.in1 a b (by show Ar.units + 1 + d < cLine; omega) ra rb) h5 k5)
    rw [all_true] at this
    exact EqAt.of_refs hxy this
section
variable {Γ : Cx} {loc : Loc} {Q : V → Loc → Prop} {X : Exc → Loc → Prop} {As Bs : List V} {d : Nat}
open SeqAt EqBoolInt in
/-- two equal lists -/
theorem cmp_eqL (he : ∀ B ∈ As, EqS d B) (hu : Γ.A.units + 1 + d < cLine) (h : Q (.bool true) loc) : Op2 Γ loc (compareOp .Eq) (.lst As) (.lst As) Q X := fun H O s va vb st ra rb => by
  obtain ⟨x, o, xs, n, rfl, h2, h3, h4, h5⟩ := ra.lst_of
  obtain ⟨y, o', ys, n', rfl, k2, k3, k4, k5⟩ := rb.lst_of
  have hl : xs.size = As.length := by rw [← h5.length]; simp
  have hl' : ys.size = As.length := by rw [← k5.length]; simp
  refine eq_listAt (e := fun _ => true) ⟨o, st.agree _ _ h2, h3, n, h4⟩ ⟨o', st.agree _ _ k2, k3, n', k4⟩ (by omega) (by omega) (items_eq (fun B hB a b ra rb => eqAt_same st.agree (he B hB) _ a b (by show Γ.A.units + 1 + d < cLine; omega) ra rb) h5 k5) ?_
  rw [all_true]; exact PostV.here' st (rep_bool ..) h
end
end Mine
end
section
open PySem PySem.W PyProof.Rows
set_option linter.unusedVariables false
set_option maxRecDepth 100000
set_option exponentiation.threshold 3000
namespace Mine
open PySem.Float64 (decode val add sub mul div fma neg abs cmp isZero isFinite isInf ofInt Right pack infMag zero sgn)

/-- a float of that value, in units of 2 ** -1074 -/
def FV (x : UInt64) (v : Int) : Prop := (∃ a m e, decode x = .fin a m e) ∧ val x = v
/-- a value that some float has -/
def Rp (v : Int) : Prop := ∃ t, t < infMag ∧ Float64.V t = v.natAbs

theorem V_of {q k : Nat} (hq : q ≤ 2 ^ 53) (hk : k ≤ 2000) : ∃ t, t < infMag ∧ Float64.V t = q * 2 ^ k := by
  induction k generalizing q with
  | zero =>
    refine ⟨q, ?_, ?_⟩
    · have : infMag = 2047 * 2 ^ 52 := rfl
      omega
    · have := PySem.Float64.V_at (k := 0) (q := q) hq (.inr rfl)
      simpa using this
  | succ k ih =>
    by_cases h : 2 ^ 52 ≤ q
    · refine ⟨(k + 1) * 2 ^ 52 + q, ?_, PySem.Float64.V_at hq (.inl h)⟩
      have : infMag = 2047 * 2 ^ 52 := rfl
      omega
    · obtain ⟨t, h1, h2⟩ := ih (q := q * 2) (by omega) (by omega)
      exact ⟨t, h1, by rw [h2, Nat.pow_succ, Nat.mul_assoc, Nat.mul_comm 2]⟩

theorem V_inj {t t' : Nat} (h : Float64.V t = Float64.V t') : t = t' := by
  rcases Nat.lt_trichotomy t t' with c | c | c
  · have := PySem.Float64.V_lt c; omega
  · exact c
  · have := PySem.Float64.V_lt c; omega

/-- the float nearest to what a float has is that -/
theorem right_exact {r : UInt64} {ng : Bool} {W D : Nat} {v : Int} (h : Right r ng W D) (hv : Rp v) (hD : 0 < D) (hW : W = D * v.natAbs) (hs : v ≠ 0 → ng = decide (v < 0)) : FV r v := by
  obtain ⟨t', ht', hV⟩ := hv
  obtain ⟨t, rfl, hle, hov, hnear⟩ := h
  have hlt : t < infMag := by
    rcases Nat.lt_or_ge t infMag with c | c
    · exact c
    · exfalso
      have : t = infMag := by omega
      have hh := hov.mp this
      have hmax : Float64.V t' ≤ (2 ^ 53 - 1) * 2 ^ 2045 := by
        have e0 : infMag - 1 = 2045 * 2 ^ 52 + (2 ^ 53 - 1) := rfl
        have e1 := PySem.Float64.V_at (k := 2045) (q := 2 ^ 53 - 1) (by omega) (.inl (by omega))
        rw [← e0] at e1
        rw [← e1]
        exact PySem.Float64.V_mono (by omega)
      rw [hW, ← hV] at hh
      have h2 : D * (2 * Float64.V t') ≤ D * (2 * ((2 ^ 53 - 1) * 2 ^ 2045)) := Nat.mul_le_mul_left _ (Nat.mul_le_mul_left _ hmax)
      have h3 : D * (2 * ((2 ^ 53 - 1) * 2 ^ 2045)) < D * ((2 ^ 54 - 1) * 2 ^ 2045) := Nat.mul_lt_mul_of_pos_left (by decide +kernel) hD
      have h4 : 2 * (D * Float64.V t') = D * (2 * Float64.V t') := by rw [Nat.mul_left_comm]
      omega
  have hd := (hnear hlt t').1
  have hz : PySem.Float64.dist W (D * Float64.V t') = 0 := by rw [hW, hV]; unfold PySem.Float64.dist; omega
  rw [hz] at hd
  have hz2 : PySem.Float64.dist W (D * Float64.V t) = 0 := by omega
  have heq : D * Float64.V t = D * v.natAbs := by rw [← hW]; unfold PySem.Float64.dist at hz2; omega
  have hVt : Float64.V t = v.natAbs := Nat.eq_of_mul_eq_mul_left hD heq
  obtain ⟨m, ex, hdec, _⟩ := PySem.Float64.decode_pack ng hlt
  refine ⟨⟨_, _, _, hdec⟩, ?_⟩
  rw [PySem.Float64.val_pack ng hlt, hVt]
  unfold sgn
  by_cases c : v = 0
  · subst c; cases ng <;> simp
  · have := hs c
    subst this
    by_cases c2 : v < 0
    · simp [c2]; omega
    · simp [c2]; omega

theorem fv_zero (b : Bool) : FV (zero b) 0 := by
  cases b
  · exact ⟨⟨false, 0, -1074, by kernel_rfl⟩, by decide +kernel⟩
  · exact ⟨⟨true, 0, -1074, by kernel_rfl⟩, by decide +kernel⟩

section
variable {x y z : UInt64} {a b c : Int}
theorem FV.add (hx : FV x a) (hy : FV y b) (hr : Rp (a + b)) : FV (add x y) (a + b) := by
  obtain ⟨⟨_, _, _, hx⟩, rfl⟩ := hx
  obtain ⟨⟨_, _, _, hy⟩, rfl⟩ := hy
  obtain ⟨h0, h1⟩ := PySem.Float64.add_right hx hy
  by_cases c : val x + val y = 0
  · rw [h0 c, c]; exact fv_zero _
  · exact right_exact (h1 c) hr (by decide) (by simp) fun _ => rfl
theorem FV.sub (hx : FV x a) (hy : FV y b) (hr : Rp (a - b)) : FV (sub x y) (a - b) := by
  obtain ⟨⟨_, _, _, hx⟩, rfl⟩ := hx
  obtain ⟨⟨_, _, _, hy⟩, rfl⟩ := hy
  obtain ⟨h0, h1⟩ := PySem.Float64.sub_right hx hy
  by_cases c : val x - val y = 0
  · rw [h0 c, c]; exact fv_zero _
  · exact right_exact (h1 c) hr (by decide) (by simp) fun _ => rfl
theorem FV.neg (hx : FV x a) : FV (neg x) (-a) := by
  obtain ⟨⟨_, _, _, hx⟩, rfl⟩ := hx
  exact ⟨⟨_, _, _, PySem.Float64.neg_decode hx⟩, PySem.Float64.neg_val hx⟩

theorem sgn_neg_of {x : UInt64} {s : Bool} {m : Nat} {e : Int} (h : decode x = .fin s m e) (hz : val x ≠ 0) : s = decide (val x < 0) := by
  have := PySem.Float64.val_eq h
  generalize m * 2 ^ (e + 1074).toNat = M at this
  unfold sgn at this
  cases s
  · simp only [Bool.false_eq_true, if_false] at this
    exact (decide_eq_false (by omega)).symm
  · simp only [if_true] at this
    exact (decide_eq_true (by omega)).symm

theorem FV.mul (hx : FV x a) (hy : FV y b) (he : a * b = c * 2 ^ 1074) (hr : Rp c) : FV (mul x y) c := by
  obtain ⟨⟨s, m, e, hx⟩, rfl⟩ := hx
  obtain ⟨⟨s', m', e', hy⟩, rfl⟩ := hy
  refine right_exact (PySem.Float64.mul_right hx hy) hr (Nat.two_pow_pos _) ?_ fun hc => ?_
  · rw [← Int.natAbs_mul, he, Int.natAbs_mul, Nat.mul_comm]
    congr 1
  · have hne : val x * val y ≠ 0 := by rw [he]; exact Int.mul_ne_zero hc (by decide +kernel)
    have hx0 : val x ≠ 0 := fun z => hne (by rw [z, Int.zero_mul])
    have hy0 : val y ≠ 0 := fun z => hne (by rw [z, Int.mul_zero])
    rw [sgn_neg_of hx hx0, sgn_neg_of hy hy0]
    have hp : (0 : Int) < 2 ^ 1074 := by decide +kernel
    have hc2 : c < 0 ↔ val x * val y < 0 := by
      rw [he]
      constructor
      · intro h; exact Int.mul_neg_of_neg_of_pos h hp
      · intro h
        rcases Int.lt_or_le c 0 with q | q
        · exact q
        · have := Int.mul_nonneg q (Int.le_of_lt hp); omega
    rcases Int.lt_or_gt_of_ne hx0 with h1 | h1 <;> rcases Int.lt_or_gt_of_ne hy0 with h2 | h2
    · have := Int.mul_pos_of_neg_of_neg h1 h2
      have hcn : ¬ c < 0 := fun z => by have := hc2.mp z; omega
      simp [h1, h2, hcn]
    · have := Int.mul_neg_of_neg_of_pos h1 h2
      have hcn : c < 0 := hc2.mpr this
      have h2' : ¬ val y < 0 := by omega
      simp [h1, h2', hcn]
    · have := Int.mul_neg_of_pos_of_neg h1 h2
      have hcn : c < 0 := hc2.mpr this
      have h1' : ¬ val x < 0 := by omega
      simp [h1', h2, hcn]
    · have := Int.mul_pos h1 h2
      have hcn : ¬ c < 0 := fun z => by have := hc2.mp z; omega
      have h1' : ¬ val x < 0 := by omega
      have h2' : ¬ val y < 0 := by omega
      simp [h1', h2', hcn]
end
end Mine
end
section
open PySem PySem.W PyProof.Rows
set_option linter.unusedVariables false
set_option maxRecDepth 100000
set_option exponentiation.threshold 3000
namespace Mine
open PySem.Float64 (decode val add sub mul div fma neg abs cmp isZero isFinite isInf ofInt Right pack infMag zero sgn)
section
variable {x y z : UInt64} {a b c : Int}
theorem neg_iff_mul {c p : Int} (hp : 0 < p) : c < 0 ↔ c * p < 0 := by
  constructor
  · intro h; exact Int.mul_neg_of_neg_of_pos h hp
  · intro h
    rcases Int.lt_or_le c 0 with q | q
    · exact q
    · have := Int.mul_nonneg q (Int.le_of_lt hp); omega
/-- signs of two numbers and of their product's kin -/
theorem sign_mul {a b c : Int} (ha : a ≠ 0) (hb : b ≠ 0) (h : c < 0 ↔ a * b < 0) : (decide (a < 0) != decide (b < 0)) = decide (c < 0) := by
  rcases Int.lt_or_gt_of_ne ha with h1 | h1 <;> rcases Int.lt_or_gt_of_ne hb with h2 | h2
  · have := Int.mul_pos_of_neg_of_neg h1 h2
    have hcn : ¬ c < 0 := fun z => by have := h.mp z; omega
    simp [h1, h2, hcn]
  · have := Int.mul_neg_of_neg_of_pos h1 h2
    have hcn : c < 0 := h.mpr this
    have h2' : ¬ b < 0 := by omega
    simp [h1, h2', hcn]
  · have := Int.mul_neg_of_pos_of_neg h1 h2
    have hcn : c < 0 := h.mpr this
    have h1' : ¬ a < 0 := by omega
    simp [h1', h2, hcn]
  · have := Int.mul_pos h1 h2
    have hcn : ¬ c < 0 := fun z => by have := h.mp z; omega
    have h1' : ¬ a < 0 := by omega
    have h2' : ¬ b < 0 := by omega
    simp [h1', h2', hcn]

theorem FV.div (hx : FV x a) (hy : FV y b) (hb : b ≠ 0) (he : a * 2 ^ 1074 = c * b) (hr : Rp c) : FV (div x y) c := by
  obtain ⟨⟨s, m, e, hx⟩, rfl⟩ := hx
  obtain ⟨⟨s', m', e', hy⟩, rfl⟩ := hy
  have hm : m' ≠ 0 := fun z => hb (by rw [PySem.Float64.val_eq hy, z]; simp [sgn])
  refine right_exact (PySem.Float64.div_right hx hy hm) hr (by omega) ?_ fun hc => ?_
  · have := congrArg Int.natAbs he
    rw [Int.natAbs_mul, Int.natAbs_mul] at this
    rw [Nat.mul_comm (val y).natAbs, ← this]
    congr 1
  · have hx0 : val x ≠ 0 := fun z => by
      rw [z, Int.zero_mul] at he
      exact Int.mul_ne_zero hc hb he.symm
    rw [sgn_neg_of hx hx0, sgn_neg_of hy hb]
    refine sign_mul hx0 hb ?_
    have hp : (0 : Int) < 2 ^ 1074 := by decide +kernel
    have h2 : val x * val y * 2 ^ 1074 = c * (val y * val y) := by
      rw [Int.mul_right_comm, he, Int.mul_assoc]
    have hyy : 0 < val y * val y := by
      rcases Int.lt_or_gt_of_ne hb with h | h
      · exact Int.mul_pos_of_neg_of_neg h h
      · exact Int.mul_pos h h
    rw [neg_iff_mul hyy, ← h2, ← neg_iff_mul hp]
theorem FV.ofInt {i : Int} (hr : Rp (i * 2 ^ 1074)) : FV (ofInt i) (i * 2 ^ 1074) := by
  refine right_exact (PySem.Float64.ofInt_right i) hr (by decide) ?_ fun hc => ?_
  · rw [Int.natAbs_mul, Nat.one_mul]; congr 1
  · have hp : (0 : Int) < 2 ^ 1074 := by decide +kernel
    exact decide_eq_decide.mpr (neg_iff_mul hp)
theorem FV.isZero (hx : FV x a) : isZero x = decide (a = 0) := by
  obtain ⟨⟨s, m, e, hx⟩, rfl⟩ := hx
  unfold PySem.Float64.isZero
  have := PySem.Float64.val_natAbs hx
  rw [hx]
  cases m with
  | zero => simp at this; simp [this]
  | succ m =>
    have hp : 0 < 2 ^ (e + 1074).toNat := Nat.two_pow_pos _
    have : 0 < (m + 1) * 2 ^ (e + 1074).toNat := Nat.mul_pos (by omega) hp
    exact (decide_eq_false (by omega)).symm
theorem FV.fin (hx : FV x a) : isFinite x = true := by
  obtain ⟨⟨s, m, e, hx⟩, rfl⟩ := hx
  unfold PySem.Float64.isFinite; rw [hx]
theorem FV.notInf (hx : FV x a) : isInf x = false := by
  obtain ⟨⟨s, m, e, hx⟩, rfl⟩ := hx
  unfold PySem.Float64.isInf; rw [hx]
theorem FV.cmp (hx : FV x a) (hy : FV y b) : cmp x y = some (compare a b) := by
  obtain ⟨⟨s, m, e, hx⟩, rfl⟩ := hx
  obtain ⟨⟨s', m', e', hy⟩, rfl⟩ := hy
  exact PySem.Float64.cmp_right hx hy
/-- the rest of an exact product -/
theorem FV.fma0 (hx : FV x a) (hy : FV y b) (hz : FV z c) (h : a * b = -c * 2 ^ 1074) : FV (fma x y z) 0 := by
  obtain ⟨⟨s, m, e, hx⟩, rfl⟩ := hx
  obtain ⟨⟨s', k, f, hy⟩, rfl⟩ := hy
  obtain ⟨⟨s'', n, g, hz⟩, rfl⟩ := hz
  have he := PySem.Float64.decode_ge hx
  have hf := PySem.Float64.decode_ge hy
  have hg := PySem.Float64.decode_ge hz
  have key : sgn (s != s') (m * k * 2 ^ (e + f - min (e + f) g).toNat) + sgn s'' (n * 2 ^ (g - min (e + f) g).toNat) = 0 := by
    have hK : (0 : Int) < ((2 ^ (min (e + f) g + 2148).toNat : Nat) : Int) := Int.ofNat_lt.mpr (Nat.two_pow_pos _)
    have e1 : (e + f - min (e + f) g).toNat + (min (e + f) g + 2148).toNat = (e + 1074).toNat + (f + 1074).toNat := by omega
    have e2 : (g - min (e + f) g).toNat + (min (e + f) g + 2148).toNat = (g + 1074).toNat + 1074 := by omega
    have m1 : sgn (s != s') (m * k * 2 ^ (e + f - min (e + f) g).toNat) * ((2 ^ (min (e + f) g + 2148).toNat : Nat) : Int) = val x * val y := by
      rw [← PySem.Float64.sgn_mul, Nat.mul_assoc, ← Nat.pow_add, e1, Nat.pow_add, PySem.Float64.val_eq hx, PySem.Float64.val_eq hy]
      have : m * k * (2 ^ (e + 1074).toNat * 2 ^ (f + 1074).toNat) = (m * 2 ^ (e + 1074).toNat) * (k * 2 ^ (f + 1074).toNat) := by ac_rfl
      rw [this]
      generalize m * 2 ^ (e + 1074).toNat = A
      generalize k * 2 ^ (f + 1074).toNat = B
      unfold sgn
      cases s <;> cases s' <;> simp [Int.neg_mul, Int.mul_neg]
    have m2 : sgn s'' (n * 2 ^ (g - min (e + f) g).toNat) * ((2 ^ (min (e + f) g + 2148).toNat : Nat) : Int) = val z * 2 ^ 1074 := by
      rw [← PySem.Float64.sgn_mul, Nat.mul_assoc, ← Nat.pow_add, e2, Nat.pow_add, ← Nat.mul_assoc, PySem.Float64.sgn_mul, ← PySem.Float64.val_eq hz]
      congr 1
    have : (sgn (s != s') (m * k * 2 ^ (e + f - min (e + f) g).toNat) + sgn s'' (n * 2 ^ (g - min (e + f) g).toNat)) * ((2 ^ (min (e + f) g + 2148).toNat : Nat) : Int) = 0 := by
      rw [Int.add_mul, m1, m2, h, Int.neg_mul]; omega
    rcases Int.mul_eq_zero.mp this with q | q
    · exact q
    · omega
  unfold PySem.Float64.fma
  rw [hx, hy, hz]
  dsimp only
  split
  · exact fv_zero _
  · rename_i hne
    exact absurd (beq_iff_eq.mpr key) hne

/-! ### fsum of exact sums -/
/-- the partials of an exact sum -/
def PS (ps : List UInt64) (s : Int) : Prop := (ps = [] ∧ s = 0) ∨ (∃ p, ps = [p] ∧ FV p s)
theorem rp_zero : Rp 0 := ⟨0, by decide, by decide⟩
theorem PS.step {ps : List UInt64} {s : Int} (h : PS ps s) (hx : FV x a) (rs : Rp s) (ra : Rp a) (rsum : Rp (s + a)) : isFinite (PySem.Float64.fsumAdd ps x).2 = true ∧ PS (nextPs ps x) (s + a) := by
  rcases h with ⟨rfl, rfl⟩ | ⟨p, rfl, hp⟩
  · refine ⟨hx.fin, ?_⟩
    show PS (if isZero x = true then [] else [x]) (0 + a)
    rw [Int.zero_add]
    by_cases hz : isZero x = true
    · rw [if_pos hz]
      rw [hx.isZero] at hz
      exact .inl ⟨rfl, of_decide_eq_true hz⟩
    · rw [if_neg hz]; exact .inr ⟨x, rfl, hx⟩
  · have two : ∀ (u v : UInt64) (c d : Int), FV u c → FV v d → Rp d → Rp (c + d) → FV (add u v) (c + d) ∧ isZero (sub v (sub (add u v) u)) = true := by
      intro u v c d hu hv rd rcd
      have h1 := hu.add hv rcd
      have h2 := h1.sub hu (by rw [show c + d - c = d by omega]; exact rd)
      rw [show c + d - c = d by omega] at h2
      have h3 := hv.sub h2 (by rw [Int.sub_self]; exact rp_zero)
      rw [Int.sub_self] at h3
      exact ⟨h1, by rw [h3.isZero]; rfl⟩
    have main : ∀ (u v : UInt64) (c d : Int), c + d = s + a → FV u c → FV v d → Rp d → isFinite (add u v) = true ∧ isZero (sub v (sub (add u v) u)) = true ∧ PS (if isZero (add u v) then [] else [add u v]) (s + a) := by
      intro u v c d e hu hv rd
      obtain ⟨h1, h2⟩ := two u v c d hu hv rd (by rw [e]; exact rsum)
      rw [e] at h1
      refine ⟨h1.fin, h2, ?_⟩
      split
      · rename_i hz
        rw [h1.isZero] at hz
        exact .inl ⟨rfl, of_decide_eq_true hz⟩
      · exact .inr ⟨_, rfl, h1⟩
    simp only [nextPs, PySem.Float64.fsumAdd]
    by_cases hc : PySem.Float64.lt (PySem.Float64.abs x) (PySem.Float64.abs p) = true
    · obtain ⟨h1, h2, h3⟩ := main p x s a rfl hp hx ra
      simp only [hc, if_true, h2, List.nil_append]
      exact ⟨h1, h3⟩
    · obtain ⟨h1, h2, h3⟩ := main x p a s (Int.add_comm _ _) hx hp rs
      simp only [hc, if_false, Bool.false_eq_true, h2, if_true, List.nil_append]
      exact ⟨h1, h3⟩

/-- numbers and their values -/
inductive Vals : List V → List Int → Prop
  | nil : Vals [] []
  | cons {A : V} {As : List V} {x : UInt64} {a : Int} {as : List Int} : A.real = some x → FV x a → Vals As as → Vals (A :: As) (a :: as)
def isum : List Int → Int
  | [] => 0
  | a :: as => a + isum as
/-- all sums on the way fit -/
def Fits : Int → List Int → Prop
  | s, [] => Rp s
  | s, a :: as => Rp s ∧ Rp a ∧ Fits (s + a) as
theorem fsum_exact {As : List V} {as : List Int} (h : Vals As as) : ∀ {ps : List UInt64} {s : Int}, PS ps s → Fits s as → ∃ d, fsumRun ps As = some d ∧ FV d (s + isum as) := by
  induction h with
  | nil =>
    intro ps s hp hf
    rcases hp with ⟨rfl, rfl⟩ | ⟨p, rfl, hp⟩
    · exact ⟨_, rfl, by rw [isum]; exact fv_zero false⟩
    · refine ⟨p, rfl, by simpa [isum] using hp⟩
  | cons hr hx _ ih =>
    rename_i A As x a as hvals
    intro ps s hp hf
    obtain ⟨f1, f2, f3⟩ := hf
    have f4 : Rp (s + a) := by cases as with | nil => exact f3 | cons _ _ => exact f3.1
    obtain ⟨h1, h2⟩ := hp.step hx f1 f2 f4
    obtain ⟨d, h3, h4⟩ := ih h2 f3
    refine ⟨d, ?_, ?_⟩
    · simp only [fsumRun, hr, h1, if_true]; exact h3
    · rw [isum, ← Int.add_assoc]; exact h4
end
end Mine
end
section
open PySem PySem.W PyProof.Rows
set_option linter.unusedVariables false
set_option maxRecDepth 100000
set_option exponentiation.threshold 3000
namespace Mine
open PySem.Float64 (decode val add sub mul div fma neg abs cmp isZero isFinite isInf ofInt Right pack infMag zero sgn)
/-- a unit: 2 ** -u -/
def Un (u : Nat) : Int := 2 ^ (1074 - u)
theorem two_pos : (0 : Int) < 2 ^ 1074 := by decide +kernel
theorem rp_un {u : Nat} (hu : u ≤ 1000) {k : Int} (hk : k.natAbs ≤ 2 ^ 53) : Rp (k * Un u) := by
  obtain ⟨t, h1, h2⟩ := V_of hk (show 1074 - u ≤ 2000 by omega)
  refine ⟨t, h1, ?_⟩
  rw [h2, Int.natAbs_mul]
  unfold Un
  rw [Int.natAbs_pow]
  rfl
/-- an int, a float or a bool of that value -/
def Nv (A : V) (a : Int) : Prop := (∃ i, A = .int i ∧ a = i * 2 ^ 1074 ∧ Rp a) ∨ (∃ x, A = .flt x ∧ FV x a) ∨ (∃ b, A = .bool b ∧ a = b01 b * 2 ^ 1074)
theorem rp_b01 (b : Bool) : Rp (b01 b * 2 ^ 1074) := by
  have := rp_un (u := 0) (by decide) (k := b01 b) (by cases b <;> decide)
  exact this
theorem Nv.real {A : V} {a : Int} (h : Nv A a) : ∃ x, A.real = some x ∧ FV x a := by
  rcases h with ⟨i, rfl, rfl, hr⟩ | ⟨x, rfl, hx⟩ | ⟨b, rfl, rfl⟩
  · have := FV.ofInt hr
    exact ⟨_, by simp only [V.real, this.notInf, Bool.false_eq_true, if_false], this⟩
  · exact ⟨x, rfl, hx⟩
  · exact ⟨_, rfl, FV.ofInt (rp_b01 b)⟩
/-- a total -/
def Tv (u : Nat) (T : V) (k : Int) : Prop := (∃ i, T = .int i ∧ i * 2 ^ 1074 = k * Un u) ∨ (∃ x, T = .flt x ∧ FV x (k * Un u))

section
variable {x y z : UInt64} {a b c p s : Int} {t : Tri}
theorem dlSum_exact (hx : FV x a) (hy : FV y b) (ra : Rp a) (rb : Rp b) (rab : Rp (a + b)) : FV (Builtin.Math.dlSum x y).1 (a + b) ∧ FV (Builtin.Math.dlSum x y).2 0 := by
  have h1 := hx.add hy rab
  have h2 := h1.sub hx (by rw [show a + b - a = b by omega]; exact rb)
  rw [show a + b - a = b by omega] at h2
  have h3 := h1.sub h2 (by rw [show a + b - b = a by omega]; exact ra)
  rw [show a + b - b = a by omega] at h3
  have h4 := hx.sub h3 (by rw [Int.sub_self]; exact rp_zero)
  have h5 := hy.sub h2 (by rw [Int.sub_self]; exact rp_zero)
  rw [Int.sub_self] at h4 h5
  have h6 := h4.add h5 (by exact rp_zero)
  exact ⟨h1, h6⟩
theorem tlFma_exact (hx : FV x a) (hy : FV y b) (he : a * b = p * 2 ^ 1074) (rp : Rp p) (rs : Rp s) (rsp : Rp (s + p)) (h1 : FV t.1 s) (h2 : FV t.2.1 0) (h3 : FV t.2.2 0) :
    FV (Builtin.Math.tlFma x y t).1 (s + p) ∧ FV (Builtin.Math.tlFma x y t).2.1 0 ∧ FV (Builtin.Math.tlFma x y t).2.2 0 := by
  have hz := hx.mul hy he rp
  have hf := hx.fma0 hy hz.neg (by rw [he, Int.neg_neg])
  obtain ⟨s1, s2⟩ := dlSum_exact h1 hz rs rp rsp
  obtain ⟨r1, r2⟩ := dlSum_exact h2 hf rp_zero rp_zero rp_zero
  obtain ⟨q1, q2⟩ := dlSum_exact r1 s2 rp_zero rp_zero rp_zero
  exact ⟨s1, q1, (h3.add r2 rp_zero).add q2 rp_zero⟩
theorem tlToFloat_exact (rs : Rp s) (h1 : FV t.1 s) (h2 : FV t.2.1 0) (h3 : FV t.2.2 0) : FV (Builtin.Math.tlToFloat t) s := by
  obtain ⟨r1, r2⟩ := dlSum_exact h2 h1 rp_zero rs (by rw [Int.zero_add]; exact rs)
  rw [Int.zero_add] at r1
  have h4 := h3.add r2 rp_zero
  have h5 := h4.add r1 (by rw [Int.zero_add, Int.zero_add]; exact rs)
  rw [Int.zero_add, Int.zero_add] at h5
  exact h5
end

variable {u : Nat}
/-- how far sumprod has come, in units -/
def SPx (u : Nat) (m : Nat) (s : Int) : SP → Prop
  | .I z b => (b = false → z = 0) ∧ z * 2 ^ 1074 = s * Un u ∧ s.natAbs ≤ m
  | .F T t => ∃ s0 s1, Tv u T s0 ∧ FV t.1 (s1 * Un u) ∧ FV t.2.1 0 ∧ FV t.2.2 0 ∧ s = s0 + s1 ∧ s0.natAbs + s1.natAbs ≤ m
  | .G T => Tv u T s ∧ s.natAbs ≤ m
/-- data, weights and their products in units -/
inductive Prods (u : Nat) : List V → List V → List Int → Prop
  | nil : Prods u [] [] []
  | cons {A B : V} {As Bs : List V} {a b k : Int} {ks : List Int} : Nv A a → A.nm → Nv B b → a * b = k * Un u * 2 ^ 1074 → Prods u As Bs ks → Prods u (A :: As) (B :: Bs) (k :: ks)
def asum : List Int → Nat
  | [] => 0
  | k :: ks => k.natAbs + asum ks
end Mine
end
section
open PySem PySem.W PyProof.Rows
set_option linter.unusedVariables false
set_option maxRecDepth 100000
set_option exponentiation.threshold 3000
namespace Mine
open PySem.Float64 (decode val add sub mul div fma neg abs cmp isZero isFinite isInf ofInt Right pack infMag zero sgn)
def dot : List Int → List Int → Int
  | y :: ys, w :: ws => y * w + dot ys ws
  | _, _ => 0
theorem isum_mul (ks : List Int) (c : Int) : isum (ks.map (· * c)) = isum ks * c := by
  induction ks with
  | nil => simp [isum]
  | cons k ks ih => simp only [List.map_cons, isum, ih, Int.add_mul]
end Mine
end
section
open PySem PySem.W PyProof.Rows
set_option linter.unusedVariables false
set_option maxRecDepth 100000
namespace Mine

/-! ## lists of the frame's own: pop, == [], comprehensions; sum -/
theorem preSum_isum : ∀ (ns : List Int), preSum (fun i => ns.getD i 0) ns.length = isum ns := by
  have gen : ∀ (ns : List Int) (k : Nat), k ≤ ns.length → preSum (fun i => ns.getD i 0) k = isum (ns.take k) := by
    intro ns k
    induction k with
    | zero => intro _; simp [preSum, isum]
    | succ k ih =>
      intro h
      have app : ∀ (a : List Int) (x : Int), isum (a ++ [x]) = isum a + x := by
        intro a x
        induction a with
        | nil => simp [isum]
        | cons y a ih => simp only [List.cons_append, isum, ih]; omega
      rw [preSum, ih (by omega), List.take_succ_eq_append_getElem (by omega), app]
      show _ + ns.getD k 0 = _
      rw [List.getD_eq_getElem?_getD, List.getElem?_eq_getElem (by omega)]; rfl
  intro ns
  rw [gen ns ns.length (Nat.le_refl _), List.take_length]
section
variable {Γ : Cx} {loc : Loc} {Q : V → Loc → Prop} {QL : LV → Loc → Prop} {QB : Bool → Loc → Prop} {QF : Fl → Loc → Prop} {X : Exc → Loc → Prop} {x : Str} {As : List V} {a : Addr}
/-- sum(xs) of ints -/
theorem bi_sum {ns : List Int} (hh : Γ.A.handled = none) (h : Q (.int (isum ns)) loc) : OpN Γ loc (fun vs => call (.builtin "sum") vs) [.lst (ns.map .int)] (VQ Q) X := fun H O s vs st r => by
  simp only [Reps] at r
  obtain ⟨y, _, rfl, hy, rfl⟩ := r
  obtain ⟨a, o, xs, n, rfl, h2, h3, h4, h5⟩ := hy.lst_of
  have fresh := fresh_none s.heap
  have hl : s.heap.IsList a xs := ⟨o, st.agree _ _ h2, h3, n, h4⟩
  have hne : a ≠ s.heap.objs.size := fun e => by rw [e] at h2; have := st.agree _ _ h2; rw [fresh] at this; cases this
  have hlen : xs.size = ns.length := by have := h5.length; simpa using this
  refine call_sum_walkG (wpAny_pyIter_list hl ?_)
  refine ⟨_, _, _, _, _, _, fun i => ns.getD i 0, rfl, Walks.list (prog := Γ.F.prog) (w := Γ.F.w) (A := Γ.A.in1) hh s.heap.objs.size a hne xs, ⟨⟨_, Heap.get?_push_size _ rfl, rfl, rfl⟩, hl.at fun o e => Heap.get?_push_of_some _ e⟩, fun b hb => ?_, fun i v hv => ?_, fun h' tk t' hk => ?_⟩
  · rcases List.mem_cons.mp hb with rfl | hb
    · exact Heap.lt_size (Heap.get?_push_size _ rfl)
    · obtain rfl := List.mem_singleton.mp hb
      exact Heap.lt_size (Heap.get?_push_of_some _ (st.agree _ _ h2))
  · have hv' : xs.toList[i]? = some v := by simpa using hv
    have hi : i < ns.length := by have := (Array.getElem?_eq_some_iff.mp hv).1; omega
    obtain ⟨y, e, r⟩ := h5.get (show (ns.map V.int)[i]? = some (.int (ns.getD i 0)) by rw [List.getElem?_map, List.getD_eq_getElem?_getD, List.getElem?_eq_getElem hi]; rfl)
    rw [e] at hv'; cases hv'
    exact r.int_of
  · rw [hlen, preSum_isum]
    have keep : ∀ b o, s.heap.get? b = some o → h'.get? b = some o := fun b o e => hk b o (fun hb => absurd (Heap.lt_size e) ((List.mem_singleton.mp hb) ▸ Nat.lt_irrefl _)) (Heap.get?_push_of_some _ e)
    exact ⟨H, O, loc, .val (.int (isum ns)), ⟨fun b o e _ => ⟨o, keep b o e, .refl ..⟩, fun b o e => ⟨o, keep b o e⟩, .refl _, fun b o e => .inl e, fun b e => .inl e⟩, st.ext (fun b o e => ⟨o, keep b o e, .refl ..⟩) st.gens (.refl _) fun b o e => .inl e, rep_int H _ _, h⟩
end
end Mine
end
section
open PySem PySem.W PyProof.Rows
set_option linter.unusedVariables false
set_option maxRecDepth 100000
namespace Mine
section
variable {Γ : Cx} {loc fr : Loc} {Q : V → Loc → Prop} {X : Exc → Loc → Prop} {x y : Str} {As : List V} {a : Addr} {scope : Scope}
/-- a tuple of plain values -/
def V.flat : V → Prop
  | .tup Bs => ∀ B ∈ Bs, B.scal
  | _ => False
theorem Reps.scals : ∀ {Bs : List V} {H H' : Hm} {vs : List Value}, (∀ B ∈ Bs, B.scal) → Reps H Bs vs → Reps H' Bs vs
  | [], H, H', vs, _, r => r
  | B :: Bs, H, H', vs, h, r => by
    simp only [Reps] at r ⊢
    obtain ⟨y, ys, rfl, r1, r2⟩ := r
    exact ⟨y, ys, rfl, r1.scal (h B List.mem_cons_self), Reps.scals (fun C hC => h C (List.mem_cons_of_mem _ hC)) r2⟩
end
end Mine
end
section
open PySem PySem.W PyProof.Rows
set_option linter.unusedVariables false
set_option maxRecDepth 100000
namespace Mine

/-! ## generator expressions that sumprod walks along -/
/-- what the land must have for a generator expression of a function whose code lies at c -/
structure GenLand (F : Fix) (c P : Addr) : Prop where
  tab : F.tab P
  code : ∃ o vs file tf flags tg inF text tt, F.h₁.get? c = some o ∧ o.cls = .type "code" ∧ o.data = .fields vs ∧ vs[11]? = some (.ref P) ∧ vs.getD 18 .none = .str file tf ∧ vs.getD 7 .none = .int flags tg ∧ vs.getD 9 .none = .bool inF ∧ vs.getD 10 .none = .int text tt
  bm : ∃ mg bm ob, BMod F.h₁ mainGlobals mg bm ob
  lim : F.h₁.NoLimit
/-- the state of a generator at its j-th item; what it leans on is fp -/
abbrev GAt (F : Fix) (A : Around) (a : Addr) (g : Nat) (C I : Addr) (fp : List Addr) (n : Nat) (ds : List UInt64) (j : Nat) (s : Shared) : Prop :=
  GenAt F.prog F.w A a g C fp [I] (fun _ => true) n (fun i y => ∃ t, y = Value.float (ds.getD i 0) t) j s
theorem passing_all (n : Nat) : passing (fun _ => true) n 0 = List.range n := by
  unfold passing; simp
theorem GenAt.frameG {prog : Program} {w : World} {A : Around} {a : Addr} {g : Nat} {C : Addr} {fp wr : List Addr} {pz : Nat → Bool} {n₀ : Nat} {Fv : Nat → Value → Prop} {j : Nat} {s s' : Shared} (x : GenAt prog w A a g C fp wr pz n₀ Fv j s) (hcs : cStatics ∈ fp)
    (hk : ∀ b ∈ a :: C :: fp, ∀ o, s.heap.get? b = some o → s'.heap.get? b = some o) (hg : s'.gens[g]? = s.gens[g]?) : GenAt prog w A a g C fp wr pz n₀ Fv j s' :=
  ⟨let ⟨o, nm, qn, ho, r⟩ := x.1; ⟨o, nm, qn, hk a (List.mem_cons_self ..) o ho, r⟩,
   (let ⟨mc, hns, hnn⟩ := x.2.1; ⟨mc, hns.at' fun o e => hk cStatics (List.mem_cons_of_mem _ (List.mem_cons_of_mem _ hcs)) o e, hnn⟩),
   let ⟨gs, hgs, hgo⟩ := x.2.2; ⟨gs, hg.trans hgs, fun s'' hal => hgo s'' fun b hb o e => hal b hb o (hk b (List.mem_cons_of_mem _ hb) o e)⟩⟩
/-- int or float less a float -/
def nsub : V → UInt64 → Option UInt64
  | .flt x, y => some (Float64.sub x y)
  | .int a, y => if Float64.isInf (Float64.ofInt a) then none else some (Float64.sub (Float64.ofInt a) y)
  | _, _ => none
/-- all of them -/
inductive Subt (y : UInt64) : List V → List UInt64 → Prop
  | nil : Subt y [] []
  | cons {A : V} {As : List V} {d : UInt64} {ds : List UInt64} : nsub A y = some d → Subt y As ds → Subt y (A :: As) (d :: ds)
theorem Subt.length {y : UInt64} {As : List V} {ds : List UInt64} (h : Subt y As ds) : ds.length = As.length := by
  induction h with
  | nil => rfl
  | cons _ _ ih => simp [ih]
theorem Subt.get {y : UInt64} {As : List V} {ds : List UInt64} (h : Subt y As ds) : ∀ (i : Nat) (A : V), As[i]? = some A → nsub A y = some (ds.getD i 0) := by
  induction h with
  | nil => intro i A e; simp at e
  | cons h1 _ ih =>
    intro i A e
    cases i with
    | zero => simp at e; subst e; simpa using h1
    | succ i => simpa using ih i A (by simpa using e)
section
variable {prog : Program} {w : World} {A : Around} {E : Value → Shared → Prop} {s : Shared}
theorem wp_nsub {H : Hm} {B : V} {v : Value} {y d : UInt64} {t : Tok} (r : Rep H B v) (h : nsub B y = some d) : wpAny (model prog w) A (binaryOp .Sub v (.float y t)) (fun z s' => (∃ u, z = Value.float d u) ∧ Keeps s s') E s := by
  cases B with
  | flt x =>
    obtain ⟨u, rfl⟩ := r.flt_of
    cases h
    exact PyProof.Rows.sub_float ⟨⟨_, rfl⟩, s.heap, _, rfl, fun _ _ e => e⟩
  | int a =>
    obtain ⟨u, rfl⟩ := r.int_of
    simp only [nsub] at h
    split at h
    · cases h
    · rename_i hi
      cases h
      exact AutoFloatOpsIf.sub_if (by rw [if_neg hi]; exact ⟨⟨_, rfl⟩, s.heap, _, rfl, fun _ _ e => e⟩)
  | _ => simp [nsub] at h
end
section
variable {prog : Program} {w : World} {A : Around} {E : Value → Shared → Prop} {s : Shared}
theorem wp_iterVal {H : Hm} {B : V} {v : Value} {Q : Value → Shared → Prop} (hB : (∃ As, B = .lst As) ∨ ∃ As, B = .tup As) (r : Rep H B v) (ag : ∀ b o, H b = some o → s.heap.get? b = some o)
    (k : ∀ l (items : Array Value) oi W o, H l = some o → Reps H B.items items.toList → (∀ A' : Around, A'.handled = none → Walks prog w A' s.heap.objs.size [s.heap.objs.size, l] [s.heap.objs.size] items.size (fun i v => items[i]? = some v) W) → W 0 (s.heap.push oi) → (s.heap.push oi).get? s.heap.objs.size = some oi → Q (.ref s.heap.objs.size) { s with heap := s.heap.push oi }) :
    wpAny (model prog w) A (pyIter v) Q E s := by
  rcases hB with ⟨As, rfl⟩ | ⟨As, rfl⟩
  · obtain ⟨a, o, xs, n, rfl, h1, h2, h3, h4⟩ := r.lst_of
    have hl : s.heap.IsList a xs := ⟨o, ag a o h1, h2, n, h3⟩
    have hne : a ≠ s.heap.objs.size := Nat.ne_of_lt (Heap.lt_size (ag a o h1))
    exact wpAny_pyIter_list hl (k a xs _ _ o h1 h4 (fun A' hh => Walks.list hh _ a hne xs) ⟨⟨_, Heap.get?_push_size _ rfl, rfl, rfl⟩, hl.push _⟩ (Heap.get?_push_size _ rfl))
  · obtain ⟨a, o, xs, n, rfl, h1, h2, h3, h4⟩ := r.tup_of
    have hl : s.heap.IsTuple a xs := ⟨o, ag a o h1, h2, n, h3⟩
    have hne : a ≠ s.heap.objs.size := Nat.ne_of_lt (Heap.lt_size (ag a o h1))
    exact wpAny_pyIter_tuple hl (k a xs _ _ o h1 h4 (fun A' hh => Walks.tuple hh _ a hne xs) ⟨⟨_, Heap.get?_push_size _ rfl, rfl, rfl⟩, hl.push _⟩ (Heap.get?_push_size _ rfl))
theorem wp_gcode {F : Fix} {env : Env} {c P : Addr} {pos : Pos} {qn : Str} {scope : Scope} {Q : Value → Shared → Prop} (gl : GenLand F c P) (hb : ∀ b o, F.h₁.get? b = some o → s.heap.get? b = some o) (hP : F.h₁.get? P = none) (ht : TabAt s.heap P) (hc : env.code = .ref c)
    (k : ∀ code h' tk, (∀ b o, s.heap.get? b = some o → ∃ o', h'.get? b = some o' ∧ Same F b o o') → (∀ b o, b ≠ P → s.heap.get? b = some o → h'.get? b = some o) → Q code { s with heap := h', toks := tk }) :
    wpAny (model F.prog F.w) A (genexprCode env pos qn scope) Q E s := by
  obtain ⟨o, vs, file, tf, flags, tg, inF, text, tt, h1, h2, h3, h4, h5, h6, h7, h8⟩ := gl.code
  obtain ⟨ps, e, tr⟩ := ht
  have hne : c ≠ P := fun z => by rw [z, hP] at h1; cases h1
  have ic : s.heap.IsCode c P ps := ⟨o, vs, file, tf, flags, tg, inF, text, tt, _, hb _ _ h1, h3, by simp [Array.getD_eq_getD_getElem?, h4], h5, h6, h7, h8, e, rfl, tr, hne⟩
  have ta : s.heap.TableAt c P ps := ⟨⟨o, vs, hb _ _ h1, h2, h3, h4⟩, e⟩
  cases hf : codeAmong pos ps.toList with
  | some c' => exact wpAny_genexprCode_hit hc ic hf (k c' s.heap s.toks (fun b o e => ⟨o, e, .refl ..⟩) fun b o _ e => e)
  | none =>
    refine wpAny_genexprCodeX hc ic ta hf fun c' h' tk hx _ _ ic' _ ta' _ => k (.ref c') h' tk (fun b o' eb => ?_) fun b o hb e => hx b o hb e
    by_cases hbP : b = P
    · subst hbP
      rw [e] at eb; cases eb
      obtain ⟨_, _, _, _, _, _, _, _, _, op, _, _, _, _, _, _, _, eo, ed, tr', _⟩ := ic'
      exact ⟨_, ta'.2, .inr (.inr ⟨gl.tab, hP, ps, _, rfl, rfl, tr'⟩)⟩
    · exact ⟨o', hx b o' hbP eb, .refl ..⟩
end
/-- new objects -/
def NewIn (h h' : Heap) (l : List Addr) : Prop := ∀ b ∈ l, h.get? b = none ∧ ∃ o, h'.get? b = some o
section
variable {Γ : Cx} {loc : Loc} {Q : V → Loc → Prop} {X : Exc → Loc → Prop}
/-- a generator expression (x - bar for x in data) is made -/
theorem wp_gen {H : Hm} {O : OSet} {s : Shared} {x bar src : Str} {px pb pe pt pi ppos : Pos} {scope : Scope} {cl : List (Str × Addr)} {c P cb : Addr} {A : V} {y : UInt64} {ds : List UInt64} {Qv : Value → Shared → Prop} {E : Value → Shared → Prop}
    (gl : GenLand Γ.F c P) (st : St Γ H O loc s) (hh : Γ.A.handled = none) (hroom : Γ.A.depth < recursionLimit)
    (hsrc : Has loc src A) (hA : (∃ As, A = .lst As) ∨ ∃ As, A = .tup As) (hbar : Has loc bar (.flt y)) (hds : Subt y A.items ds)
    (hco : scope.isCoroutine = false) (hclos : closureFor scope Γ.env = pure cl) (hcell : ∀ z ∈ scope.names, z.2 ≠ .cell) (h0 : scope.names.lookup (".0" : Str) = some NameKind.local) (hx : scope.names.lookup x = some .local) (hkind : scope.kind = .function)
    (hb : scope.names.lookup bar = some .free) (hcb : cl.lookup bar = some cb) (hcb' : Γ.env.cells.lookup bar = some cb) (hbk : Γ.env.kindOf bar = some .cell) (hcode : Γ.env.code = .ref c) (hg : Γ.env.globals = mainGlobals)
    (hd1 : (x == ("__debug__" : Str)) = false) (hd2 : (x == ("__classdict__" : Str)) = false) (hd3 : (bar == ("__debug__" : Str)) = false) (hd4 : (bar == ("__classdict__" : Str)) = false) (hd5 : (src == ("__debug__" : Str)) = false) (hd6 : (src == ("__classdict__" : Str)) = false)
    (k : ∀ a C I l (s' : Shared) gs, (∀ b o, b ≠ P → s.heap.get? b = some o → s'.heap.get? b = some o) → St Γ H O loc s' → Nx Γ.F H O s.heap H O s'.heap → s'.gens = s.gens.push gs → NewIn s.heap s'.heap [a, C, I] → a ≠ C → I ≠ C → I ≠ a → I < a → C < a →
      (∀ b ∈ [cStatics, l, cb], b ≠ P ∧ ∃ o, s.heap.get? b = some o) → (∃ o, s.heap.get? P = some o) → (∃ o, H l = some o) →
      (∀ A' : Around, A'.handled = none → GAt Γ.F A' a s.gens.size C I [cStatics, I, l, cb] A.items.length ds 0 s') → Qv (.ref a) s') :
    wpAny Γ.M Γ.A (eval (.GeneratorExp (.BinOp (.Name x px) .Sub (.Name bar pb) pe) [⟨.Name x pt, .Name src pi, [], 0⟩] scope ppos) Γ.env) Qv E s := by
  obtain ⟨xv, hxv, rx⟩ := st.vars src _ hsrc
  obtain ⟨bv, hbv, rb⟩ := st.vars bar _ hbar
  obtain ⟨t, rfl⟩ := Rep.flt_of (H := H) rb
  obtain ⟨hP, tP⟩ := st.tabs P gl.tab
  obtain ⟨oc, ec, dc⟩ : ∃ oc, s.heap.get? cb = some oc ∧ oc.data = .cell (some (.float y t)) := by
    rcases hbv with ⟨kk, _⟩ | ⟨_, c', o, e, g, d⟩
    · rw [hbk] at kk; cases kk
    · rw [hcb'] at e; cases e; exact ⟨o, g, d⟩
  have hlim : s.heap.NoLimit := gl.lim.keeps st.base
  refine wpAny_GeneratorExp_make hco hclos hcell h0 hkind hroom ?_ (fun _ => rfl)
  refine wpAny_Name (wp_var st.kind hxv ?_ hd6) hd5
  refine wp_iterVal hA rx st.agree fun l items oi W ol hl hit hW w0 eI => ?_
  have k₁ : ∀ b o, s.heap.get? b = some o → (s.heap.push oi).get? b = some o := fun b o e => Heap.get?_push_of_some _ e
  refine ⟨hlim.push _, wp_gcode gl (fun b o e => k₁ b o (st.base b o e)) hP (tP.same (F := Γ.F) fun o e => ⟨o, k₁ _ o e, .refl ..⟩) hcode fun code h₃ tk₃ hs₃ hk₃ => ?_⟩
  obtain ⟨mg, bm, ob, B⟩ := gl.bm
  have base₃ : ∀ b o, Γ.F.h₁.get? b = some o → h₃.get? b = some o := fun b o e => hk₃ b o (fun z => by rw [z, hP] at e; cases e) (k₁ b o (st.base b o e))
  refine wpAny_builtinsFor (hg ▸ B.ns.keeps base₃) B.name B.ne (base₃ _ _ B.obj) B.cls B.dict B.data ?_
  intro h' hn' hs'
  have up : ∀ b o, h₃.get? b = some o → h'.get? b = some o := fun b o e => hs'.extBut b o (Nat.ne_of_lt (Heap.lt_size e)) (Heap.get?_push_of_some _ e)
  have hsz : h'.objs.size = h₃.objs.size + 1 := by rw [hs'.1, Heap.size_push]
  have nP : s.heap.objs.size ≠ P := fun z => by obtain ⟨vs, e, _⟩ := tP; exact Nat.lt_irrefl _ (z ▸ Heap.lt_size e)
  have eI₃ := hk₃ _ _ nP eI
  have hlt : s.heap.objs.size < h₃.objs.size := Heap.lt_size eI₃
  have no : ∀ b, s.heap.objs.size ≤ b → s.heap.get? b = none := fun b hb => by
    cases e : s.heap.get? b with
    | none => rfl
    | some o => exact absurd (Heap.lt_size e) (Nat.not_lt.mpr hb)
  generalize hgo : ({ cls := .type "generator", data := .fields #[.int s.gens.size 0, .str "<genexpr>" (tk₃ + 1), .str (Γ.env.qual ++ "<genexpr>") (tk₃ + 1 + 1)] } : Obj) = og
  have up5 : ∀ b o, h₃.get? b = some o → (h'.push og).get? b = some o := fun b o e => Heap.get?_push_of_some _ (up b o e)
  have keep : ∀ b o, b ≠ P → s.heap.get? b = some o → (h'.push og).get? b = some o := fun b o hb e => up5 b o (hk₃ b o hb (k₁ b o e))
  have same : ∀ b o, s.heap.get? b = some o → ∃ o', (h'.push og).get? b = some o' ∧ Same Γ.F b o o' := fun b o e => by
    obtain ⟨o', e', sm⟩ := hs₃ b o (k₁ b o e)
    exact ⟨o', up5 b o' e', sm⟩
  have eC : ∃ o, (h'.push og).get? h₃.objs.size = some o := let ⟨o, _, _, e, _⟩ := hn'; ⟨o, Heap.get?_push_of_some _ e⟩
  have hfr : og.isFreed = false := by rw [← hgo]; rfl
  have fpk : ∀ b ∈ [cStatics, l, cb], b ≠ P ∧ ∃ o, s.heap.get? b = some o := by
    intro b hb
    rcases List.mem_cons.mp hb with rfl | hb
    · obtain ⟨m, hn, _⟩ := gl.lim
      obtain ⟨o, es, ep, e, _⟩ := hn
      exact ⟨fun z => (by rw [z, hP] at e; cases e), o, st.base _ _ e⟩
    · rcases List.mem_cons.mp hb with rfl | hb
      · exact ⟨fun z => (by rw [z, st.tabH gl.tab] at hl; cases hl), ol, st.agree _ _ hl⟩
      · rw [List.mem_singleton.mp hb]
        refine ⟨fun z => ?_, oc, ec⟩
        obtain ⟨vs, e, _⟩ := tP
        rw [z, e] at ec; cases ec; cases dc
  have ncs : ∀ b ∈ [cStatics, l, cb], b < s.heap.objs.size := fun b hb => let ⟨_, o, e⟩ := fpk b hb; Heap.lt_size e
  have n1 : (h'.objs.size : Nat) ≠ h₃.objs.size := by omega
  have n2 : (s.heap.objs.size : Nat) ≠ h₃.objs.size := by omega
  have n4 : (s.heap.objs.size : Nat) < h'.objs.size := by omega
  have n5 : (h₃.objs.size : Nat) < h'.objs.size := by omega
  have n3 : (s.heap.objs.size : Nat) ≠ h'.objs.size := by omega
  refine k h'.objs.size h₃.objs.size s.heap.objs.size l _ _ keep ?st ?nx rfl ?new n1 n2 n3 n4 n5 fpk (let ⟨vs, e, _⟩ := tP; ⟨_, e⟩) ⟨ol, hl⟩ ?gat
  case st =>
    exact st.ext (g' := _) same (fun y hy => by
      rcases Array.mem_push.mp hy with hy | rfl
      · exact st.gens y hy
      · rfl) (.refl _) fun b o e => .inl e
  case nx =>
    exact ⟨fun b o e _ => same b o e, fun b o e => let ⟨o', e', _⟩ := same b o e; ⟨o', e'⟩, .refl _, fun b o e => .inl e, fun b e => .inl e⟩
  case new =>
    intro b hb
    simp only [List.mem_cons, List.not_mem_nil, or_false] at hb
    rcases hb with rfl | rfl | rfl
    · exact ⟨no _ (Nat.le_of_lt (hsz ▸ Nat.lt_succ_of_lt hlt)), og, Heap.get?_push_size _ hfr⟩
    · exact ⟨no _ (Nat.le_of_lt hlt), eC⟩
    · exact ⟨no _ (Nat.le_refl _), oi, up5 _ _ eI₃⟩
  case gat =>
    intro A' hA'
    have hlen : items.size = A.items.length := by rw [← hit.length]; simp
    rw [← hlen]
    refine GenAt.fresh (cenv := genEnv scope cl h₃.objs.size code builtinsNs Γ.env) (m := fun y => if y = ".0" then some (.ref s.heap.objs.size) else none) hA' (fun A'' hA'' => (hW A'' hA'').mono_fp (by intro b hb; simp only [List.mem_cons, List.not_mem_nil, or_false] at hb ⊢; rcases hb with rfl | rfl <;> simp)) _ _ hx (by simp [genEnv, hkind]) hco ?_ ⟨?_, ?_⟩ ⟨_, _, _, (by rw [← hgo]; exact Heap.get?_push_size _ rfl), rfl, rfl, rfl⟩ (Array.getElem?_push_size ..) ((hW A' hA').frame _ _ _ w0 fun b hb o e => ?_) (hn'.push _) ((hlim.push oi).at fun o e => ?_)
    · intro hm
      have hm' : h₃.objs.size = s.heap.objs.size ∨ h₃.objs.size ∈ [cStatics, l, cb] := by
        simp only [genEnv, List.mem_cons, List.not_mem_nil, or_false] at hm ⊢
        rcases hm with h | h | h | h <;> simp [h]
      rcases hm' with hm' | hm'
      · exact n2 hm'.symm
      · exact absurd (ncs _ hm') (Nat.not_lt.mpr (Nat.le_of_lt hlt))
    · intro A₂ E' i v s₂ m₂ _ _ _ _ _
      exact wpAny_pure ⟨rfl, s₂.heap, s₂.toks, rfl, fun _ _ e => e⟩
    · intro A₂ E' i v s₂ m₂ hA₂ hv _ hn₂ hm₂ hk₂
      have hb' : VarIs (genEnv scope cl h₃.objs.size code builtinsNs Γ.env) s₂.heap bar (.float y t) :=
        .inr ⟨.inr hb, cb, oc, hcb, hk₂ cb (by simp) (fun z => by have := ncs cb (by simp); rw [List.mem_singleton.mp z] at this; exact Nat.lt_irrefl _ this) oc (keep cb oc (fpk cb (by simp)).1 ec), dc⟩
      refine wpAny_BinOp (wpAny_Name (wp_var hkind (.inl ⟨hx, m₂, hn₂, hm₂⟩) (wpAny_Name (wp_var hkind hb' ?_ hd4) hd3) hd2) hd1)
      have hi : i < A.items.length := by rw [← hlen]; exact (Array.getElem?_eq_some_iff.mp hv).1
      obtain ⟨z, ez, rz⟩ := hit.get (List.getElem?_eq_getElem hi)
      have : z = v := by
        have : items[i]? = some z := by simpa using ez
        rw [hv] at this; exact (Option.some.inj this).symm
      subst this
      exact wp_nsub rz (hds.get i _ (List.getElem?_eq_getElem hi))
    · refine up5 b o (hk₃ b o (fun z => ?_) e)
      simp only [List.mem_cons, List.not_mem_nil, or_false] at hb
      rcases hb with h | h
      · exact nP (h ▸ z)
      · exact (fpk l (by simp)).1 (h ▸ z)
    · exact up5 _ o (hk₃ _ o (fpk cStatics (by simp)).1 e)
end
end Mine
end
section
open PySem PySem.W PyProof.Rows
set_option linter.unusedVariables false
set_option maxRecDepth 100000
namespace Mine
/-- a generator's places -/
structure GP where
  a : Addr
  C : Addr
  I : Addr
  l : Addr
  cb : Addr
  g : Nat
def GP.fp (p : GP) : List Addr := [cStatics, p.I, p.l, p.cb]
def GP.wr (p : GP) : List Addr := [p.C, p.I]
structure GP.Ok (p : GP) : Prop where
  aC : p.a ≠ p.C
  af : p.a ∉ p.fp
  sC : cStatics ≠ p.C
  sI : cStatics ≠ p.I
  lt : ∀ b ∈ p.wr, b < p.a
structure GP.Apart (p q : GP) : Prop where
  ne : p.g ≠ q.g
  wr : ∀ b ∈ p.wr, b ∉ q.a :: q.C :: q.fp
abbrev GP.At (p : GP) (F : Fix) (A : Around) (n : Nat) (ds : List UInt64) (j : Nat) (s : Shared) : Prop := GAt F A p.a p.g p.C p.I p.fp n ds j s
structure Mv (p q : GP) (s s' : Shared) : Prop where
  heap : ∀ b o, b ∉ p.wr → b ∉ q.wr → s.heap.get? b = some o → s'.heap.get? b = some o
  gens : AllBare s.gens → AllBare s'.gens
  os : s'.os = s.os
theorem Mv.trans {p q : GP} {s s' s'' : Shared} (x : Mv p q s s') (y : Mv p q s' s'') : Mv p q s s'' := ⟨fun b o h1 h2 e => y.heap b o h1 h2 (x.heap b o h1 h2 e), fun h => y.gens (x.gens h), y.os.trans x.os⟩
theorem Mv.keep {p q : GP} {s : Shared} {h' : Heap} {tk : Nat} (k : ∀ b o, s.heap.get? b = some o → h'.get? b = some o) : Mv p q s { s with heap := h', toks := tk } := ⟨fun b o _ _ e => k b o e, id, rfl⟩
section
variable {F : Fix} {A : Around} {n : Nat} {ds es : List UInt64} {i j : Nat} {s s' : Shared} {E : Value → Shared → Prop} {Q : Option Value → Shared → Prop}
theorem GP.At.frame {q : GP} (x : q.At F A n ds j s) (hk : ∀ b ∈ q.a :: q.C :: q.fp, ∀ o, s.heap.get? b = some o → s'.heap.get? b = some o) (hg : s'.gens[q.g]? = s.gens[q.g]?) : q.At F A n ds j s' :=
  GenAt.frameG x (by simp [GP.fp]) hk hg
theorem GP.At.keep {q : GP} {h' : Heap} {tk : Nat} (x : q.At F A n ds j s) (k : ∀ b o, s.heap.get? b = some o → h'.get? b = some o) : q.At F A n ds j { s with heap := h', toks := tk } :=
  x.frame (fun b _ o e => k b o e) rfl
theorem bareOf {g : Nat} {a b : Array GenState} (x : GenOnlyQ g a b) : AllBare a → AllBare b := fun h => x.bare h
theorem onlyOf {g k : Nat} {a b : Array GenState} (x : GenOnlyQ g a b) (h : k ≠ g) : b[k]? = a[k]? := by
  rcases x with rfl | ⟨⟨_, x⟩, _⟩
  · rfl
  · exact x k h
theorem gp_next {p q : GP} (hA : A.handled = none) (hroom : A.depth < recursionLimit) (ok : p.Ok) (ap : p.Apart q) (hi : i < n) (hp : p.At F A n ds i s) (hq : q.At F A n es j s)
    (k : ∀ v s', (∃ t, v = .float (ds.getD i 0) t) → p.At F A n ds (i + 1) s' → q.At F A n es j s' → Mv p q s s' → Q (some v) s') : wpAny (model F.prog F.w) A (pyNext (.ref p.a)) Q E s := by
  have W := WalksS.genexpQ (prog := F.prog) (w := F.w) hA p.a p.g p.C p.fp [p.I] (fun _ => true) n (fun i y => ∃ t, y = Value.float (ds.getD i 0) t) ok.aC ok.af (by simp [GP.fp]) hroom (by simp [GP.fp]) ok.sC (by simpa using ok.sI)
  rw [passing_all, List.length_range] at W
  refine W.item i s Q E hi hp fun v s' hv hp' mv => ?_
  obtain ⟨i', e, hv⟩ := hv
  rw [List.getElem?_range hi] at e; cases e
  refine k v s' hv hp' (hq.frame (fun b hb o e => mv.heap b o (fun z => ap.wr b (by simpa [GP.wr] using z) hb) e) (onlyOf mv.gens fun z => ap.ne z.symm)) ⟨fun b o h1 _ e => mv.heap b o (by simpa [GP.wr] using h1) e, bareOf mv.gens, mv.os⟩
theorem gp_end {p q : GP} (hA : A.handled = none) (hroom : A.depth < recursionLimit) (ok : p.Ok) (hp : p.At F A n ds n s)
    (k : ∀ s', Mv p q s s' → Q none s') : wpAny (model F.prog F.w) A (pyNext (.ref p.a)) Q E s := by
  have W := WalksS.genexpQ (prog := F.prog) (w := F.w) hA p.a p.g p.C p.fp [p.I] (fun _ => true) n (fun i y => ∃ t, y = Value.float (ds.getD i 0) t) ok.aC ok.af (by simp [GP.fp]) hroom (by simp [GP.fp]) ok.sC (by simpa using ok.sI)
  rw [passing_all, List.length_range] at W
  refine W.done s Q E hp fun s' mv => ?_
  exact k s' ⟨fun b o h1 _ e => mv.heap b o (by simpa [GP.wr] using h1) e, bareOf mv.gens, mv.os⟩
theorem gp_done {p q : GP} (hA : A.handled = none) (hroom : A.depth < recursionLimit) (ok : p.Ok) (ap : p.Apart q) (hp : p.At F A n ds n s) (hq : q.At F A n es j s)
    (k : ∀ s', q.At F A n es j s' → Mv p q s s' → Q none s') : wpAny (model F.prog F.w) A (pyNext (.ref p.a)) Q E s := by
  have W := WalksS.genexpQ (prog := F.prog) (w := F.w) hA p.a p.g p.C p.fp [p.I] (fun _ => true) n (fun i y => ∃ t, y = Value.float (ds.getD i 0) t) ok.aC ok.af (by simp [GP.fp]) hroom (by simp [GP.fp]) ok.sC (by simpa using ok.sI)
  rw [passing_all, List.length_range] at W
  refine W.done s Q E hp fun s' mv => ?_
  exact k s' (hq.frame (fun b hb o e => mv.heap b o (fun z => ap.wr b (by simpa [GP.wr] using z) hb) e) (onlyOf mv.gens fun z => ap.ne z.symm)) ⟨fun b o h1 _ e => mv.heap b o (by simpa [GP.wr] using h1) e, bareOf mv.gens, mv.os⟩
end
theorem Mv.symm {p q : GP} {s s' : Shared} (x : Mv q p s s') : Mv p q s s' := ⟨fun b o h1 h2 e => x.heap b o h2 h1 e, x.gens, x.os⟩
theorem sp_loopG {F : Fix} {A : Around} {H : Hm} {p q : GP} {n : Nat} {ds es : List UInt64} {T : V} {Q : Value → Shared → Prop} {E : Value → Shared → Prop} (hA : A.handled = none) (hroom : A.in1.depth < recursionLimit) (okp : p.Ok) (okq : q.Ok) (pq : p.Apart q) (qp : q.Apart p)
    (hn : ds.length = n) (hm : es.length = n) :
    ∀ (k i : Nat) (s : Shared) (S : SP) (tt : Addr) (vs : List Value), n - i = k → i ≤ n → S.ok → p.At F A.in1 n ds i s → q.At F A.in1 n es i s → SPAt H s.heap tt S vs → tt ∉ p.wr → tt ∉ q.wr →
    spRun S ((ds.drop i).map .flt) ((es.drop i).map .flt) = .ok T →
    (∀ v s', Rep H T v → Mv p q s s' → Q v s') →
    codeAny (model F.prog F.w) A (.builtin "math.sumprod.loop" ⟨.ref p.a :: .ref q.a :: vs, []⟩) (Answer Q E) s := by
  have hA1 : A.in1.handled = none := hA
  intro k
  induction k with
  | zero =>
    intro i s S tt vs hk hi hok hp hq hS htp htq hT hQ
    have hin : i = n := by omega
    subst hin
    refine codeAny_builtin sp_entry_loop ?_
    rw [Around.under_plainId sp_plain_loop _]
    rw [List.drop_of_length_le (by omega), List.drop_of_length_le (by omega)] at hT
    refine sp_end (K := fun s₂ => Mv p q s s₂) hA hok hS ?_ ?_
    · intro R hR
      refine gp_done hA1 hroom okp pq hp hq fun s₁ hq₁ m₁ => ?_
      exact gp_end (q := p) hA1 hroom okq hq₁ fun s₂ m₂ => hR _ _ _ rfl rfl (m₁.trans m₂.symm)
    · intro s₂ m
      have hT' : spEnd S = some T := by
        simp only [List.map_nil, spRun] at hT
        cases e : spEnd S with
        | none => rw [e] at hT; cases hT
        | some T' => rw [e] at hT; cases hT; rfl
      refine ⟨fun T' v tk' hT'' rT => ?_, fun hn => by rw [hT'] at hn; cases hn⟩
      rw [hT'] at hT''; cases hT''
      exact hQ v _ rT (m.trans (Mv.keep fun _ _ e => e))
  | succ k ih =>
    intro i s S tt vs hk hi hok hp hq hS htp htq hT hQ
    have hin : i < n := by omega
    refine codeAny_builtin sp_entry_loop ?_
    rw [Around.under_plainId sp_plain_loop _]
    have dA : (ds.drop i).map V.flt = .flt (ds.getD i 0) :: (ds.drop (i + 1)).map .flt := by
      rw [List.drop_eq_getElem_cons (by omega), List.map_cons, List.getD_eq_getElem?_getD, List.getElem?_eq_getElem (by omega)]; rfl
    have dB : (es.drop i).map V.flt = .flt (es.getD i 0) :: (es.drop (i + 1)).map .flt := by
      rw [List.drop_eq_getElem_cons (by omega), List.map_cons, List.getD_eq_getElem?_getD, List.getElem?_eq_getElem (by omega)]; rfl
    rw [dA, dB] at hT
    have two : Two (model F.prog F.w) A.in1 p.a q.a (fun e s' => Answer Q E (.error e) s') s (fun vb vc s₂ => Mv p q s s₂ ∧ Rep H (.flt (ds.getD i 0)) vb ∧ Rep H (.flt (es.getD i 0)) vc ∧ p.At F A.in1 n ds (i + 1) s₂ ∧ q.At F A.in1 n es (i + 1) s₂) := by
      intro R hR
      refine gp_next hA1 hroom okp pq hin hp hq fun v s₁ hv hp₁ hq₁ m₁ => ?_
      refine gp_next (p := q) (q := p) hA1 hroom okq qp hin hq₁ hp₁ fun v' s₂ hv' hq₂ hp₂ m₂ => ?_
      obtain ⟨t, rfl⟩ := hv
      obtain ⟨t', rfl⟩ := hv'
      exact hR _ _ _ ⟨m₁.trans m₂.symm, rep_flt .., rep_flt .., hp₂, hq₂⟩
    have hKK : ∀ vb vc s₂, (Mv p q s s₂ ∧ Rep H (.flt (ds.getD i 0)) vb ∧ Rep H (.flt (es.getD i 0)) vc ∧ p.At F A.in1 n ds (i + 1) s₂ ∧ q.At F A.in1 n es (i + 1) s₂) →
        Rep H (.flt (ds.getD i 0)) vb ∧ Rep H (.flt (es.getD i 0)) vc ∧ (∀ t, TriAt s.heap tt t → TriAt s₂.heap tt t) ∧
        Turn H p.a q.a tt s₂ (spStep S (.flt (ds.getD i 0)) (.flt (es.getD i 0))) (fun fin s' => match fin with | .done f => Answer Q E (.ok f) s' | .again c' => c'.quiet = true ∧ codeAny (model F.prog F.w) A c' (Answer Q E) s') (fun e s' => Answer Q E (.error e) s') := by
      rintro vb vc s₂ ⟨m, rX, rY, hp₂, hq₂⟩
      refine ⟨rX, rY, fun t ht => ht.keep fun o e => m.heap tt o htp htq e, ?_, ?_⟩
      · intro S' h' tk' tt' vs' hR hok' hkp hth hnew hS'
        have hT' : spRun S' ((ds.drop (i + 1)).map .flt) ((es.drop (i + 1)).map .flt) = .ok T := by simp only [spRun, hR] at hT; exact hT
        have fresh : ∀ (r : GP), r.Ok → r.At F A.in1 n ds (i + 1) s₂ ∨ r.At F A.in1 n es (i + 1) s₂ → tt ∉ r.wr → tt' ∉ r.wr := by
          intro r okr hr htr hm
          rcases hnew with hnew | hnew
          · have : r.a < s₂.heap.objs.size := by
              rcases hr with hr | hr
              · obtain ⟨o, nm, qn, ho, _⟩ := hr.1; exact Heap.lt_size ho
              · obtain ⟨o, nm, qn, ho, _⟩ := hr.1; exact Heap.lt_size ho
            exact absurd (Nat.lt_trans (okr.lt _ hm) this) (Nat.not_lt.mpr hnew)
          · exact htr (hnew ▸ hm)
        refine ⟨plainId_quiet sp_plain_loop _, ih (i + 1) _ S' tt' vs' (by omega) hin hok' (hp₂.keep hkp) (hq₂.keep hkp) hS' (fresh p okp (.inl hp₂) htp) (fresh q okq (.inr hq₂) htq) hT' ?_⟩
        intro v s' rT m'
        exact hQ v s' rT ((m.trans (Mv.keep hkp)).trans m')
      · intro hn
        simp only [spRun, hn] at hT
        cases hT
    cases S with
    | I z u => exact sp_turn_I hA hS two (B := .flt (ds.getD i 0)) (C := .flt (es.getD i 0)) trivial trivial trivial hKK
    | F T t => exact sp_turn_F hA hok hS two (B := .flt (ds.getD i 0)) (C := .flt (es.getD i 0)) trivial trivial trivial hKK
    | G T => exact sp_turn_G hA hok hS two (B := .flt (ds.getD i 0)) (C := .flt (es.getD i 0)) trivial trivial trivial hKK
/-- two generators are added up -/
theorem wp_sumprodG {F : Fix} {A : Around} {H : Hm} {p q : GP} {n : Nat} {ds es : List UInt64} {T : V} {s : Shared} {Q : Value → Shared → Prop} {E : Value → Shared → Prop} (hA : A.handled = none) (hroom : A.depth < recursionLimit) (okp : p.Ok) (okq : q.Ok) (pq : p.Apart q) (qp : q.Apart p)
    (hn : ds.length = n) (hm : es.length = n) (hp : ∀ A' : Around, A'.handled = none → p.At F A' n ds 0 s) (hq : ∀ A' : Around, A'.handled = none → q.At F A' n es 0 s) (hT : spRun (.I 0 false) (ds.map .flt) (es.map .flt) = .ok T)
    (hQ : ∀ v s', Rep H T v → Mv p q s s' → Q v s') : wpAny (model F.prog F.w) A (call (.builtin "math.sumprod") [.ref p.a, .ref q.a]) Q E s := by
  have hA1 : A.in1.handled = none := hA
  refine wpAny_call (codeAny_call_builtin (id := "math.sumprod") (args := ⟨[.ref p.a, .ref q.a], []⟩) sp_plain sp_entry ?_)
  refine wp_check (id := "math.sumprod") (args := [.ref p.a, .ref q.a]) sp_kind (sp_args _ _) ?_
  show wpAny _ A.in1 (pyIter (.ref p.a) >>= _) _ _ s
  refine wpAny_bind (wpAny_pyIter_gen (hp _ hA1).1 ?_)
  refine wpAny_bind (wpAny_holding (wpAny_pyIter_gen (hq _ hA1).1 ?_))
  refine wpAny_bind (wpAny_mkInt ?_)
  show wpAny _ A.in1 (newTuple [rawInt (Float64.zero false).toNat, rawInt (Float64.zero false).toNat, rawInt (Float64.zero false).toNat] >>= _) _ _ _
  refine wpAny_bind (wpAny_newTuple (wpAny_pure ⟨plainId_quiet sp_plain_loop _, ?_⟩) (by show 3 ≤ sizeLine; decide))
  have fresh : ∀ (r : GP) (fs : List UInt64), r.Ok → r.At F A.in1 n fs 0 s → s.heap.objs.size ∉ r.wr := fun r fs ok hr hm => by
    obtain ⟨o, nm, qn, ho, _⟩ := hr.1
    exact absurd (Nat.lt_trans (ok.lt _ hm) (Heap.lt_size ho)) (Nat.lt_irrefl _)
  have kp : ∀ b o, s.heap.get? b = some o → (s.heap.push { cls := .type "tuple", data := .seq #[rawInt (Float64.zero false).toNat, rawInt (Float64.zero false).toNat, rawInt (Float64.zero false).toNat] }).get? b = some o := fun b o e => Heap.get?_push_of_some _ e
  refine sp_loopG (H := H) (T := T) hA hroom okp okq pq qp hn hm n 0 _ (.I 0 false) s.heap.objs.size _ rfl (Nat.zero_le _) trivial ((hp _ hA1).keep kp) ((hq _ hA1).keep kp) ⟨_, rfl, _, 0, Heap.get?_push_size _ rfl, rfl⟩ (fresh p ds okp (hp _ hA1)) (fresh q es okq (hq _ hA1)) (by simpa using hT) ?_
  intro v s' rT m
  exact hQ v s' rT ((Mv.keep kp).trans m)
/-- a generator expression's names -/
structure GenEx (Γ : Cx) (c : Addr) (x bar src : Str) (scope : Scope) (cl : List (Str × Addr)) (cb : Addr) : Prop where
  co : scope.isCoroutine = false
  clos : closureFor scope Γ.env = pure cl
  cell : ∀ z ∈ scope.names, z.2 ≠ .cell
  n0 : scope.names.lookup (".0" : Str) = some NameKind.local
  nx : scope.names.lookup x = some .local
  kind : scope.kind = .function
  nb : scope.names.lookup bar = some .free
  l1 : cl.lookup bar = some cb
  l2 : Γ.env.cells.lookup bar = some cb
  bk : Γ.env.kindOf bar = some .cell
  code : Γ.env.code = .ref c
  glob : Γ.env.globals = mainGlobals
  d1 : (x == ("__debug__" : Str)) = false
  d2 : (x == ("__classdict__" : Str)) = false
  d3 : (bar == ("__debug__" : Str)) = false
  d4 : (bar == ("__classdict__" : Str)) = false
  d5 : (src == ("__debug__" : Str)) = false
  d6 : (src == ("__classdict__" : Str)) = false
section
variable {Γ : Cx} {loc : Loc} {Q : V → Loc → Prop} {X : Exc → Loc → Prop}
/-- sumprod((x - xbar for x in xs), (y - ybar for y in ys)) -/
theorem ev_covsum {x xb xs y yb ys : Str} {p1 p2 p3 p4 p5 p6 q1 q2 q3 q4 q5 q6 p pos : Pos} {sx sy : Scope} {cx cy : List (Str × Addr)} {c P bx bY : Addr} {A B : V} {u v : UInt64} {ds es : List UInt64} {T : V}
    (g : GlobAt Γ.F "sumprod" (.builtin "math.sumprod")) (gl : GenLand Γ.F c P) (hh : Γ.A.handled = none) (hroom : Γ.A.depth < recursionLimit) (gx : GenEx Γ c x xb xs sx cx bx) (gy : GenEx Γ c y yb ys sy cy bY)
    (hxs : Has loc xs A) (hA : (∃ As, A = .lst As) ∨ ∃ As, A = .tup As) (hxb : Has loc xb (.flt u)) (hds : Subt u A.items ds)
    (hys : Has loc ys B) (hB : (∃ As, B = .lst As) ∨ ∃ As, B = .tup As) (hyb : Has loc yb (.flt v)) (hes : Subt v B.items es) (hlen : A.items.length = B.items.length)
    (hT : spRun (.I 0 false) (ds.map .flt) (es.map .flt) = .ok T) (hQ : Q T loc)
    (hk : Γ.env.kindOf "sumprod" = some .globalImplicit := by rfl) (hg : Γ.env.globals = mainGlobals := by rfl) (hb : Γ.env.builtins = builtinsNs := by rfl) :
    Ev Γ loc (.Call (.Name "sumprod" p) [.GeneratorExp (.BinOp (.Name x p1) .Sub (.Name xb p2) p3) [⟨.Name x p4, .Name xs p5, [], 0⟩] sx p6, .GeneratorExp (.BinOp (.Name y q1) .Sub (.Name yb q2) q3) [⟨.Name y q4, .Name ys q5, [], 0⟩] sy q6] [] pos) (VQ Q) X := by
  intro H O s st
  refine wpAny_Call_Name_kw (Calls.Name_function_global st.kind hk (wp_glob st g ?_ hg hb) (by decide))
  show wpAny _ _ (callWith pos (.builtin "math.sumprod") [] _ []) _ _ _
  refine Calls.callWith_builtin (by rfl) (Calls.evalArgs_plain ?_)
  refine wpAny_items_cons (wp_gen gl st hh hroom hxs hA hxb hds gx.co gx.clos gx.cell gx.n0 gx.nx gx.kind gx.nb gx.l1 gx.l2 gx.bk gx.code gx.glob gx.d1 gx.d2 gx.d3 gx.d4 gx.d5 gx.d6 fun a1 C1 I1 l1 s1 gs1 k1 st1 nx1 e1 new1 n1 n2 n3 n4 n5 old1 hP1 hl1 at1 => ?_)
  refine wpAny_items_cons (wp_gen gl st1 hh hroom hys hB hyb hes gy.co gy.clos gy.cell gy.n0 gy.nx gy.kind gy.nb gy.l1 gy.l2 gy.bk gy.code gy.glob gy.d1 gy.d2 gy.d3 gy.d4 gy.d5 gy.d6 fun a2 C2 I2 l2 s2 gs2 k2 st2 nx2 e2 new2 m1 m2 m3 m4 m5 old2 hP2 hl2 at2 => ?_)
  refine wpAny_items_nil ?_
  have ne : ∀ {h : Heap} {b d : Addr}, h.get? b = none → (∃ o, h.get? d = some o) → b ≠ d := fun {h b d} e ⟨o, e'⟩ z => by rw [z, e'] at e; cases e
  have old2' : ∀ b ∈ [cStatics, l2, bY], ∃ o, s.heap.get? b = some o := by
    intro b hb
    simp only [List.mem_cons, List.not_mem_nil, or_false] at hb
    rcases hb with rfl | rfl | rfl
    · exact (old1 cStatics (by simp)).2
    · obtain ⟨o, e⟩ := hl2; exact ⟨o, st.agree _ _ e⟩
    · obtain ⟨_, o, w, e, _⟩ := st.cells _ _ gy.l2; exact ⟨o, e⟩
  have old1' : ∀ b ∈ [cStatics, l1, bx], ∃ o, s1.heap.get? b = some o := fun b hb => let ⟨hn, o, e⟩ := old1 b hb; ⟨o, k1 b o hn e⟩
  have na1 := new1 a1 (by simp)
  have nC1 := new1 C1 (by simp)
  have nI1 := new1 I1 (by simp)
  have na2 := new2 a2 (by simp)
  have nC2 := new2 C2 (by simp)
  have nI2 := new2 I2 (by simp)
  have okp : GP.Ok ⟨a1, C1, I1, l1, bx, s.gens.size⟩ := by
    refine ⟨n1, ?_, (ne nC1.1 (old1 cStatics (by simp)).2).symm, (ne nI1.1 (old1 cStatics (by simp)).2).symm, ?_⟩
    · intro hm
      simp only [GP.fp, List.mem_cons, List.not_mem_nil, or_false] at hm
      rcases hm with h | h | h | h
      · exact ne na1.1 (old1 cStatics (by simp)).2 h
      · exact n3 h.symm
      · exact ne na1.1 (old1 l1 (by simp)).2 h
      · exact ne na1.1 (old1 bx (by simp)).2 h
    · intro b hm
      simp only [GP.wr, List.mem_cons, List.not_mem_nil, or_false] at hm
      rcases hm with rfl | rfl
      · exact n5
      · exact n4
  have okq : GP.Ok ⟨a2, C2, I2, l2, bY, s1.gens.size⟩ := by
    refine ⟨m1, ?_, (ne nC2.1 (old2 cStatics (by simp)).2).symm, (ne nI2.1 (old2 cStatics (by simp)).2).symm, ?_⟩
    · intro hm
      simp only [GP.fp, List.mem_cons, List.not_mem_nil, or_false] at hm
      rcases hm with h | h | h | h
      · exact ne na2.1 (old2 cStatics (by simp)).2 h
      · exact m3 h.symm
      · exact ne na2.1 (old2 l2 (by simp)).2 h
      · exact ne na2.1 (old2 bY (by simp)).2 h
    · intro b hm
      simp only [GP.wr, List.mem_cons, List.not_mem_nil, or_false] at hm
      rcases hm with rfl | rfl
      · exact m5
      · exact m4
  have hgs : s1.gens.size = s.gens.size + 1 := by rw [e1, Array.size_push]
  have pq : GP.Apart ⟨a1, C1, I1, l1, bx, s.gens.size⟩ ⟨a2, C2, I2, l2, bY, s1.gens.size⟩ := by
    refine ⟨by show s.gens.size ≠ s1.gens.size; omega, fun b hb hm => ?_⟩
    have hb' : s.heap.get? b = none ∧ ∃ o, s1.heap.get? b = some o := by
      simp only [GP.wr, List.mem_cons, List.not_mem_nil, or_false] at hb
      rcases hb with rfl | rfl
      · exact nC1
      · exact nI1
    simp only [GP.fp, List.mem_cons, List.not_mem_nil, or_false] at hm
    rcases hm with h | h | h | h | h | h
    · exact ne na2.1 hb'.2 h.symm
    · exact ne nC2.1 hb'.2 h.symm
    · exact ne hb'.1 (old2' cStatics (by simp)) h
    · exact ne nI2.1 hb'.2 h.symm
    · exact ne hb'.1 (old2' l2 (by simp)) h
    · exact ne hb'.1 (old2' bY (by simp)) h
  have qp : GP.Apart ⟨a2, C2, I2, l2, bY, s1.gens.size⟩ ⟨a1, C1, I1, l1, bx, s.gens.size⟩ := by
    refine ⟨by show s1.gens.size ≠ s.gens.size; omega, fun b hb hm => ?_⟩
    have hb' : s1.heap.get? b = none := by
      simp only [GP.wr, List.mem_cons, List.not_mem_nil, or_false] at hb
      rcases hb with rfl | rfl
      · exact nC2.1
      · exact nI2.1
    simp only [GP.fp, List.mem_cons, List.not_mem_nil, or_false] at hm
    rcases hm with h | h | h | h | h | h
    · exact ne hb' na1.2 h
    · exact ne hb' nC1.2 h
    · exact ne hb' (old1' cStatics (by simp)) h
    · exact ne hb' nI1.2 h
    · exact ne hb' (old1' l1 (by simp)) h
    · exact ne hb' (old1' bx (by simp)) h
  refine wp_sumprodG (F := Γ.F) (A := Γ.A) (H := H) (p := ⟨a1, C1, I1, l1, bx, s.gens.size⟩) (q := ⟨a2, C2, I2, l2, bY, s1.gens.size⟩) (n := A.items.length) hh hroom okp okq pq qp hds.length (hes.length.trans hlen.symm) (fun A' hA' => ?_) (fun A' hA' => ?_) hT ?_
  · refine (show GP.At ⟨a1, C1, I1, l1, bx, s.gens.size⟩ Γ.F A' A.items.length ds 0 s1 from at1 A' hA').frame (fun b hb o e => k2 b o ?_ e) ?_
    · simp only [GP.fp, List.mem_cons, List.not_mem_nil, or_false] at hb
      rcases hb with rfl | rfl | rfl | rfl | rfl | rfl
      · exact ne na1.1 hP1
      · exact ne nC1.1 hP1
      · exact (old1 _ (by simp)).1
      · exact ne nI1.1 hP1
      · exact (old1 _ (by simp)).1
      · exact (old1 _ (by simp)).1
    · show s2.gens[s.gens.size]? = s1.gens[s.gens.size]?
      rw [e2, Array.getElem?_push, if_neg (by omega)]
  · rw [hlen]; exact at2 A' hA'
  · intro w s' rT mv
    have hwr : ∀ b, b ∈ GP.wr ⟨a1, C1, I1, l1, bx, s.gens.size⟩ ∨ b ∈ GP.wr ⟨a2, C2, I2, l2, bY, s1.gens.size⟩ → s.heap.get? b = none := by
      intro b hb
      simp only [GP.wr, List.mem_cons, List.not_mem_nil, or_false] at hb
      rcases hb with (rfl | rfl) | (rfl | rfl)
      · exact nC1.1
      · exact nI1.1
      · exact nx1.none_back nC2.1
      · exact nx1.none_back nI2.1
    have st' : St Γ H O loc s' := st2.extW (fun b => b ∈ GP.wr ⟨a1, C1, I1, l1, bx, s.gens.size⟩ ∨ b ∈ GP.wr ⟨a2, C2, I2, l2, bY, s1.gens.size⟩) (fun b hb => st.foreign (hwr b hb)) (fun b o hb e => ⟨o, mv.heap b o (fun z => hb (.inl z)) (fun z => hb (.inr z)) e, .refl ..⟩) (mv.gens st2.gens) (.refl _) (mv.os.trans st2.os) fun b o e => .inl e
    refine ⟨H, O, loc, .val T, (nx1.trans nx2).then (fun b o e _ hn => ⟨o, mv.heap b o (fun z => hn (hwr b (.inl z))) (fun z => hn (hwr b (.inr z))) e, .refl ..⟩) (fun b o e hn => ⟨o, mv.heap b o (fun z => hn (hwr b (.inl z))) (fun z => hn (hwr b (.inr z))) e⟩) (.refl _) (fun b o e => .inl e) (fun b e => .inl e), st', rT, hQ⟩
end
end Mine
end
section
open PySem PySem.W PyProof.Rows
set_option linter.unusedVariables false
set_option maxRecDepth 100000
namespace Mine
/-- the land with hidden tables -/
abbrev fixT (prog : Program) (w : World) (s₁ : Shared) (tabs : List (Addr × Addr)) : Fix := ⟨prog, w, ghostOf s₁.heap tabs, s₁.os, fun b => b ∈ tabs.map (·.2)⟩
theorem genLand_of {p prog : Program} {w : World} {loose : List Str} {mean : ExcName → Option Value} {mg mb : Str → Option Value} {s₁ : Shared} {tabs : List (Addr × Addr)} {c P : Addr} (T : Top p loose mean mg mb s₁.heap) (hT : TabsAt tabs s₁.heap) (hm : (c, P) ∈ tabs) : GenLand (fixT prog w s₁ tabs) c P where
  tab := List.mem_map.mpr ⟨_, hm, rfl⟩
  code := by
    obtain ⟨o, vs, file, tf, flags, tg, inF, text, tt, e1, r1, r2, r3, r4, r5, r6, r7, r8, hne⟩ := (hT _ hm).1
    exact ⟨o, vs, file, tf, flags, tg, inF, text, tt, ghost_get hT e1 (fun q => by rw [q] at r1; cases r1), r1, r2, r3, r5, r6, r7, r8⟩
  bm := let ⟨bm, ob, a1, a2, a3, a4, a5, a6⟩ := T.bmain; ⟨mg, bm, ob, ghost_ns hT T.g, a1, a2, ghost_get hT a3 (fun q => by rw [q] at a4; cases a4), a4, a5, a6⟩
  lim := let ⟨mc, a, r⟩ := T.nolimit; ⟨mc, ghost_ns hT a, r⟩
theorem land_of {p prog : Program} {K : Frag} {w : World} {loose : List Str} {mean : ExcName → Option Value} {mg mb : Str → Option Value} {s₁ : Shared} {tabs : List (Addr × Addr)} (T : Top p loose mean mg mb s₁.heap) (hT : TabsAt tabs s₁.heap) (X : K.In s₁.heap) (hK : noTabs K = true) : Land K (fixT prog w s₁ tabs) :=
  ⟨ghost_K hT X hK, ⟨_, ghost_ns hT T.g⟩, ⟨_, ghost_ns hT T.b, T.builtins⟩, let ⟨mc, a, r⟩ := T.nolimit; ⟨mc, ghost_ns hT a, r⟩⟩
theorem fin_lawT {c : ClaimW} {cl : Str → Option Addr} {mean : ExcName → Option Value} {prog : Program} {w : World} {s₁ : Shared} {args : List WData} {l : Addr} {vs : List Value} {ns : List Int} {fa : Addr} {d : Nat} {tabs : List (Addr × Addr)} (hT : TabsAt tabs s₁.heap)
    (hd : d ≤ 100) (hL : s₁.heap.IsList l vs.toArray) (hI : IntsAre vs ns) (hg : s₁.gens = #[]) (hraise : ∀ cls, c.raises args cls = false) (hpost : c.post args (.bool true) args = true)
    (h : Calls (fixT prog w s₁ tabs) (.ref fa) d [.val (.lst (ns.map .int))] [] [] (fun R => R = .bool true) (fun _ => False)) :
    wpAny (model prog w) callerA (call (.ref fa) [.ref l]) (fun v s' => GoodWG c cl mean args s₁ (.ok (.ret v)) s') (fun e s' => GoodWG c cl mean args s₁ (.error e) s') s₁ := by
  obtain ⟨o, h1, h2, n, h3⟩ := hL
  have hd' : Solid o := ⟨fun es ep e => (by rw [h3] at e; cases e), by rw [h2]; simp⟩
  refine wpAny_mono (h callerA (Hset (fun _ => none) l o) (fun _ => False) s₁ [.ref l] [] ⟨rfl, by show 1 + claimMargin + d < 1000; simp only [claimMargin]; omega, by show 4 + 3 * d + 100 < 9900; omega⟩ ?_ rfl ?_) ?_ ?_
  · refine ⟨fun _ _ e => of_hideAll _ e, fun b q e => ?_, fun b q e => ?_, rfl, .of_eq hg, ⟨[], rfl, fun _ e => by cases e⟩, fun b e => ?_⟩
    · rcases Hset.cases e with ⟨rfl, rfl⟩ | e
      · exact h1
      · cases e
    · rcases Hset.cases e with ⟨rfl, rfl⟩ | e
      · exact hd'
      · cases e
    · obtain ⟨q, hq, rfl⟩ := List.mem_map.mp e
      exact ⟨hideAll_none _ e, #[], (hT q hq).2, trivial⟩
  · refine ⟨rfl, fun i lv v e1 e2 => ?_, fun i j lv lv' a e1 e2 m1 m2 => ?_, fun b e => e.elim⟩
    · match i, e1, e2 with
      | 0, e1, e2 =>
        cases e1; cases e2
        exact rep_lst (Hset.self _ _ _) h2 h3 (reps_ints hI)
    · match i, e1 with
      | 0, e1 => cases e1; cases m1
  · rintro v s' ⟨H', R, nx, ws, r, rfl⟩
    cases r.bool_of
    have grown : ∀ b o, b ∈ tabs.map (·.2) → s₁.heap.get? b = some o → isCodeTable s₁.heap b ∧ o = tabObj #[] ∧ ∃ ps, s'.heap.get? b = some (tabObj ps) := fun b o hb e => by
      obtain ⟨_, ps, e', _⟩ := ws.tabs b hb
      obtain ⟨q, hq, rfl⟩ := List.mem_map.mp hb
      have e2 := (hT q hq).2
      rw [e] at e2
      exact ⟨((hT q hq).1.tab (hT q hq).2).isCodeTable, Option.some.inj e2, ps, e'⟩
    refine ⟨.inl ⟨_, .bool true, [], rfl, hraise, .bool _, hpost, fun _ => ⟨List.nodup_nil, fun a e => by cases e⟩⟩, ⟨fun b o e => ?_, fun b o e => ?_⟩, ws.os, ws.gens⟩
    · by_cases hb : b ∈ tabs.map (·.2)
      · obtain ⟨ht, rfl, ps, hP⟩ := grown b o hb e
        exact .inr (.inl ⟨ht, rfl, #[], ps, rfl, by rw [Array.empty_append]; exact hP⟩)
      · exact .inl (ws.base b o (ghost_ne e hb))
    · by_cases hb : b ∈ tabs.map (·.2)
      · obtain ⟨_, _, ps, hP⟩ := grown b o hb e
        exact ⟨_, hP⟩
      · exact ⟨o, ws.base b o (ghost_ne e hb)⟩
  · rintro e s' ⟨H', x, nx, ws, fl, q⟩
    exact q.elim
end Mine
end
section
open PySem PySem.W PyProof.Rows
set_option linter.unusedVariables false
set_option maxRecDepth 100000
namespace Mine
section
variable {Γ : Cx} {loc : Loc} {Q : V → Loc → Prop} {QL : LV → Loc → Prop} {QB : Bool → Loc → Prop} {QF : Fl → Loc → Prop} {X : Exc → Loc → Prop} {x : Str} {As : List V} {a : Addr}
/-! ## comparisons -/
/-- type(v) is not float -/
theorem bi_typeF {y : UInt64} (h : Q (.con (.type "float")) loc) : OpN Γ loc (fun vs => call (.type "type") vs) [.flt y] (VQ Q) X := fun H O s vs st r => by
  simp only [Reps] at r
  obtain ⟨v, _, rfl, hv, rfl⟩ := r
  obtain ⟨t, rfl⟩ := hv.flt_of
  exact call_type_of (Tx := "float") rfl (by decide) (PostV.here' st (rep_con H _) h)
theorem cmp_isnot_con {c : Value} (hp : plainIs c c = true) (h : Q (.bool false) loc) : Op2 Γ loc (compareOp .IsNot) (.con c) (.con c) Q X := fun H O s va vb st ra rb => by
  cases ra.con_of; cases rb.con_of
  exact wpAny_isNot_self hp (PostV.here' st (rep_bool ..) h)
/-! ## several names at once -/
def Stf (Γ : Cx) (f : Value → Sem Unit) (x : Str) : Prop := ∀ v (Q : Unit → Shared → Prop) (E : Value → Shared → Prop) (s : Shared), wpAny Γ.M Γ.A (storeName Γ.env x v) Q E s → wpAny Γ.M Γ.A (f v) Q E s
inductive Stfs (Γ : Cx) : List (Value → Sem Unit) → List Str → Prop
  | nil : Stfs Γ [] []
  | cons {f : Value → Sem Unit} {fs : List (Value → Sem Unit)} {x : Str} {xs : List Str} : Stf Γ f x → Stfs Γ fs xs → Stfs Γ (f :: fs) (x :: xs)
def stored (loc : Loc) : List Str → List V → Loc
  | x :: xs, B :: Bs => stored ((x, .val B) :: loc) xs Bs
  | _, _ => loc
theorem stf_assign (x : Str) (p : Pos) : Stf Γ (assign (.Name x p) Γ.env) x := fun v Q E s h => wpAny_assign_Name h
theorem wp_inOrder {H H₁ : Hm} {O : OSet} {s : Shared} {loc₀ : Loc} {Q : Unit → Shared → Prop} {E : Value → Shared → Prop} (st₀ : St Γ H O loc₀ s) {fs : List (Value → Sem Unit)} {xs : List Str} (hf : Stfs Γ fs xs) :
    ∀ {Bs : List V} {vs : List Value} {loc : Loc} {s₁ : Shared} {O₁ : OSet}, (∀ x ∈ xs, Γ.stores x) → Reps H₁ Bs vs → Bs.length = xs.length → Nx Γ.F H O s.heap H₁ O₁ s₁.heap → St Γ H₁ O₁ loc s₁ →
    (∀ O₂ s₂, Nx Γ.F H O s.heap H₁ O₂ s₂.heap → St Γ H₁ O₂ (stored loc xs Bs) s₂ → (∀ b o, s₁.heap.get? b = some o → ¬ O₁ b → s₂.heap.get? b = some o) → (∀ b, O₂ b → O₁ b) → Q () s₂) → wpAny Γ.M Γ.A (assignInOrder fs vs) Q E s₁ := by
  induction hf with
  | nil =>
    intro Bs vs loc s₁ O₁ _ r hl n st k
    cases Bs with
    | cons _ _ => simp at hl
    | nil => simp only [Reps] at r; subst r; exact wpAny_pure (k O₁ s₁ n st (fun _ _ e _ => e) (fun _ h => h))
  | @cons f fs x xs h1 _ ih =>
    intro Bs vs loc s₁ O₁ hx r hl n st k
    cases Bs with
    | nil => simp at hl
    | cons B Bs =>
      simp only [Reps] at r
      obtain ⟨v, vs, rfl, r1, r2⟩ := r
      show wpAny _ _ (holding vs (f v) >>= fun _ => assignInOrder fs vs) _ _ _
      refine wpAny_bind (wpAny_holding (h1 v _ _ _ (wp_store (lv := .val B) n st₀ st r1 (hx x List.mem_cons_self) fun O₂ s₂ n₂ st₂ ex o₂ => ?_)))
      refine ih (fun y hy => hx y (List.mem_cons_of_mem _ hy)) r2 (by simpa using hl) n₂ st₂ fun O₃ s₃ n₃ st₃ ex₃ o₃ => k O₃ s₃ n₃ st₃ (fun b o e hb => ex₃ b o (ex b o e hb) fun z => (o₂ b z).elim hb fun q => by cases q) (fun b z => (o₂ b (o₃ b z)).elim id fun q => by cases q)
theorem Stfs.length {fs : List (Value → Sem Unit)} {xs : List Str} (h : Stfs Γ fs xs) : fs.length = xs.length := by
  induction h with
  | nil => rfl
  | cons _ _ ih => simp [ih]
theorem wp_assignT {H H₁ : Hm} {O O₁ : OSet} {s s₁ : Shared} {loc₀ : Loc} {v : Value} {Bs : List V} {k : Nat} {elts : List Expr} {tpos : Pos} {names : List Str} {Q : Unit → Shared → Prop} {E : Value → Shared → Prop} (hh : Γ.A.handled = none) (st₁ : St Γ H₁ O₁ loc s₁) (r : Rep H₁ (.tup Bs) v)
    (hf : Stfs Γ ((assignEach elts Γ.env).map (·.2)) names) (hl : Bs.length = names.length) (hstar : (assignEach elts Γ.env).findIdx? (·.1) = none) (hx : ∀ x ∈ names, Γ.stores x) (st : St Γ H O loc₀ s) (n₁ : Nx Γ.F H O s.heap H₁ O₁ s₁.heap)
    (kk : ∀ O₂ s₂, Nx Γ.F H O s.heap H₁ O₂ s₂.heap → St Γ H₁ O₂ (stored loc names Bs) s₂ → (∀ b o, s₁.heap.get? b = some o → ¬ O₁ b → s₂.heap.get? b = some o) → (∀ b, O₂ b → O₁ b) → Q () s₂) : wpAny Γ.M Γ.A (assign (.Tuple elts k tpos) Γ.env v) Q E s₁ := by
  obtain ⟨t, o, xs, n, rfl, h2, h3, h4, h5⟩ := r.tup_of
  have hl' : Bs.length = xs.size := by rw [← h5.length]; simp
  have hfl := hf.length
  rw [List.length_map] at hfl
  refine assign_Tuple_tuple hh ⟨o, st₁.agree _ _ h2, h3, n, h4⟩ (by omega) hstar fun h' he => ?_
  have hk : ∀ b o, s₁.heap.get? b = some o → h'.get? b = some o := fun b o e => he b o (Nat.ne_of_lt (Heap.lt_size e)) e
  have st₂ : St Γ H₁ O₁ loc { s₁ with heap := h' } := st₁.ext (fun b o e => ⟨o, hk b o e, .refl ..⟩) st₁.gens (.refl _) fun b o e => .inl e
  have n₂ : Nx Γ.F H O s.heap H₁ O₁ h' := n₁.then (fun b o e _ _ => ⟨o, hk b o e, .refl ..⟩) (fun b o e _ => ⟨o, hk b o e⟩) (.refl _) (fun b o e => .inl e) fun b e => .inl e
  exact wp_inOrder st hf hx h5 hl n₂ st₂ fun O₃ s₃ n₃ st₃ ex o₃ => kk O₃ s₃ n₃ st₃ (fun b o e hb => ex b o (hk b o e) hb) o₃
/-- x, y = f(..) -/
theorem ex_unpack {k : Nat} {elts : List Expr} {tpos pos : Pos} {value : Expr} {names : List Str} (hh : Γ.A.handled = none) (h : Ev Γ loc value (VQ fun A l => ∃ Bs, A = .tup Bs ∧ Bs.length = names.length ∧ QF .next (stored l names Bs)) X) (hx : ∀ x ∈ names, Γ.stores x)
    (hf : Stfs Γ ((assignEach elts Γ.env).map (·.2)) names) (hstar : (assignEach elts Γ.env).findIdx? (·.1) = none := by rfl)
    (hs : swapsWithSole [.Tuple elts k tpos] value pos.line Γ.env = pure false := by rfl) (hw : swappedStores [.Tuple elts k tpos] value Γ.env = pure none := by rfl) : Ex1 Γ loc (.Assign [.Tuple elts k tpos] value pos) QF X := by
  intro H O s st
  refine Assign_Tuple (wpAny_mono (h H O s st) (fun v s₁ p => ?_) fun _ _ p => p) hs hw
  obtain ⟨H₁, O₁, l₁, lv, n₁, st₁, r₁, q₁⟩ := p
  cases lv with
  | own _ _ => exact q₁.elim
  | itr _ => exact q₁.elim
  | val A =>
    obtain ⟨Bs, rfl, hl, q⟩ := q₁
    refine wp_assignT hh st₁ r₁ hf hl hstar hx st n₁ fun O₃ s₃ n₃ st₃ _ _ => ?_
    exact ⟨H₁, O₃, _, .next, n₃, st₃, rfl, q⟩
end
end Mine
end
section
open PySem PySem.W PyProof.Rows
set_option linter.unusedVariables false
set_option maxRecDepth 100000
namespace Mine
theorem call_ratio {prog : Program} {w : World} {A : Around} {E : Value → Shared → Prop} {s : Shared} {y : UInt64} {t : Tok} {sg : Bool} {m N D : Nat} {e : Int} {Q : Value → Shared → Prop} (hy : Float64.decode y = .fin sg m e) (hr : Float64.ratio m e = (N, D))
    (k : ∀ (n : Nat) t1 t2 tk, Q (.ref s.heap.objs.size) { s with heap := s.heap.push { cls := .type "tuple", data := .seq #[.int (Float64.sgn sg N) t1, .int D t2] }, toks := tk }) : wpAny (model prog w) A (call (.builtin "float.as_integer_ratio") [.float y t]) Q E s := by
  refine wpAny_call_entry (T := "float") PySem.F.slot_float_as_integer_ratio rfl PySem.F.entry_float_as_integer_ratio ?_ (PySem.F.args_float_as_integer_ratio_1 _)
  unfold Builtin.«float.as_integer_ratio»
  refine wpAny_bind (wpAny_pure ?_)
  dsimp only
  rw [hy]
  dsimp only
  rw [hr]
  dsimp only
  refine wpAny_bind (wpAny_mkInt (wpAny_bind (wpAny_mkInt (wpAny_bind (wpAny_newTuple (wpAny_pure ⟨_, rfl, ?_⟩) (by show 2 ≤ sizeLine; decide))))))
  exact k 0 _ _ _
section
variable {Γ : Cx} {loc loc' : Loc} {Q : V → Loc → Prop} {QL : LV → Loc → Prop} {QB : Bool → Loc → Prop} {QF : Fl → Loc → Prop} {X : Exc → Loc → Prop} {x : Str} {As : List V} {a : Addr}
/-- x.as_integer_ratio(), x a float -/
theorem ev_ratio {y : UInt64} {sg : Bool} {m N D : Nat} {e : Int} {px apos pos : Pos} (hx : loc.lookup x = some (.val (.flt y))) (hy : Float64.decode y = .fin sg m e) (hr : Float64.ratio m e = (N, D)) (h : Q (.tup [.int (Float64.sgn sg N), .int D]) loc)
    (he : ∃ pl, eval (.Call (.Attribute (.Name x px) (Str.ofString "as_integer_ratio") apos) [] [] pos) Γ.env = (do
      let ov ← eval (.Name x px) Γ.env
      standAt apos.atName
      let (f, first) ← holding [ov] (getMethod ov (Str.ofString "as_integer_ratio") pl)
      callWith pos f first (backTo pos (starEach [] Γ.env)) []) := by exact ⟨_, rfl⟩)
    (hd : (x == ("__debug__" : Str)) = false := by decide) (hn : (x == ("__classdict__" : Str)) = false := by decide) :
    Ev Γ loc (.Call (.Attribute (.Name x px) (Str.ofString "as_integer_ratio") apos) [] [] pos) (VQ Q) X := by
  intro H O s st
  obtain ⟨pl, he⟩ := he
  refine MethodCall_ (pl := pl) ?_ he
  obtain ⟨v, hv, rv⟩ := st.vars x _ hx
  obtain ⟨t, rfl⟩ := Rep.flt_of (H := H) rv
  refine wpAny_Name (wp_var st.kind hv ?_ hn) hd
  have z : ∀ {M : Model} {A : Around} {E : Value → Shared → Prop} {Q : Value × List Value → Shared → Prop}, Q (.builtin "float.as_integer_ratio", [.float y t]) s → wpAny M A (getMethod (.float y t) (Str.ofString "as_integer_ratio") pl) Q E s := fun {M A E Q} h =>
    getMethod_builtin (T := "float") (name := Str.ofString "as_integer_ratio") rfl PySem.F.plainAttrs_float PySem.F.slot_float_as_integer_ratio PySem.F.type_float_as_integer_ratio (fun a e => by cases e) h
  refine z ?_
  refine callWith_method0 ?_
  refine call_ratio hy hr fun n t1 t2 tk => ?_
  generalize Float64.sgn sg N = SN at h ⊢
  generalize (D : Int) = DD at h ⊢
  refine PostV.made (A := .tup [.int SN, .int DD]) st (fun b o e => Heap.get?_push_of_some _ e) (fresh_none _) (Heap.get?_push_size _ rfl) (seq_nodict rfl) ?_ h
  exact rep_new_tup (st.foreign (fresh_none s.heap)).hm rfl rfl (reps_cons (rep_int ..) (reps_cons (rep_int ..) (reps_nil _)))
/-- f(x), f a builtin function, x a list of the frame's own -/
theorem ev_bi_own {f : Str} {R : V} {p px pos : Pos} {id : String} (g : GlobAt Γ.F f (.builtin id)) (hx : loc.lookup x = some (.own a As)) (hR : Q R loc)
    (w : ∀ (H : Hm) (s : Shared) (xs : Array Value) (Qv : Value → Shared → Prop) (E : Value → Shared → Prop), s.heap.IsList a xs → Reps H As xs.toList → (∀ v h' tk, (∀ b o, s.heap.get? b = some o → h'.get? b = some o) → Rep H R v → Qv v { s with heap := h', toks := tk }) → wpAny Γ.M Γ.A (call (.builtin id) [.ref a]) Qv E s)
    (hk : Γ.env.kindOf f = some .globalImplicit := by rfl) (hg : Γ.env.globals = mainGlobals := by rfl) (hb : Γ.env.builtins = builtinsNs := by rfl)
    (hd : (f == ("__debug__" : Str)) = false := by decide) (hdx : (x == ("__debug__" : Str)) = false := by decide) (hn : (x == ("__classdict__" : Str)) = false := by decide) :
    Ev Γ loc (.Call (.Name f p) [.Name x px] [] pos) (VQ Q) X := by
  intro H O s st
  obtain ⟨v, hv, b, rfl, hO, rfl, o, xs, n, e, hc, hdt, hp, hr⟩ := st.vars x _ hx
  refine ev_call1 g st hv (w H s xs _ _ ⟨o, e, hc, n, hdt⟩ hr fun v h' tk keep r => ?_) hk hg hb hd hdx hn
  exact ⟨H, O, loc, .val R, ⟨fun b o e _ => ⟨o, keep b o e, .refl ..⟩, fun b o e => ⟨o, keep b o e⟩, .refl _, fun b o e => .inl e, fun b e => .inl e⟩, st.ext (fun b o e => ⟨o, keep b o e, .refl ..⟩) st.gens (.refl _) fun b o e => .inl e, r, hR⟩
theorem own_len {H : Hm} {s : Shared} {xs : Array Value} {Qv : Value → Shared → Prop} {E : Value → Shared → Prop} (hz : As.length ≤ sizeLine) (hl : s.heap.IsList a xs) (hr : Reps H As xs.toList) (k : ∀ v h' tk, (∀ b o, s.heap.get? b = some o → h'.get? b = some o) → Rep H (.int As.length) v → Qv v { s with heap := h', toks := tk }) : wpAny Γ.M Γ.A (call (.builtin "len") [.ref a]) Qv E s := by
  have hl' : xs.size = As.length := by rw [← hr.length]; simp
  have hz' : As.length ≤ 2 ^ 24 := hz
  refine len_list hl (by rw [hl']; omega) ?_
  rw [hl']; exact k _ s.heap _ (fun _ _ e => e) (rep_int ..)
theorem own_sum {H : Hm} {s : Shared} {xs : Array Value} {ns : List Int} {Qv : Value → Shared → Prop} {E : Value → Shared → Prop} (hh : Γ.A.handled = none) (hl : s.heap.IsList a xs) (h5 : Reps H (ns.map .int) xs.toList) (k : ∀ v h' tk, (∀ b o, s.heap.get? b = some o → h'.get? b = some o) → Rep H (.int (isum ns)) v → Qv v { s with heap := h', toks := tk }) : wpAny Γ.M Γ.A (call (.builtin "sum") [.ref a]) Qv E s := by
  obtain ⟨o, eo, _⟩ := id hl
  have hne : a ≠ s.heap.objs.size := Nat.ne_of_lt (Heap.lt_size eo)
  have hlen : xs.size = ns.length := by have := h5.length; simpa using this
  refine call_sum_walkG (wpAny_pyIter_list hl ?_)
  refine ⟨_, _, _, _, _, _, fun i => ns.getD i 0, rfl, Walks.list (prog := Γ.F.prog) (w := Γ.F.w) (A := Γ.A.in1) hh s.heap.objs.size a hne xs, ⟨⟨_, Heap.get?_push_size _ rfl, rfl, rfl⟩, hl.at fun o e => Heap.get?_push_of_some _ e⟩, fun b hb => ?_, fun i v hv => ?_, fun h' tk t' hk => ?_⟩
  · rcases List.mem_cons.mp hb with rfl | hb
    · exact Heap.lt_size (Heap.get?_push_size _ rfl)
    · obtain rfl := List.mem_singleton.mp hb
      exact Heap.lt_size (Heap.get?_push_of_some _ eo)
  · have hv' : xs.toList[i]? = some v := by simpa using hv
    have hi : i < ns.length := by have := (Array.getElem?_eq_some_iff.mp hv).1; omega
    obtain ⟨y, e, r⟩ := h5.get (show (ns.map V.int)[i]? = some (.int (ns.getD i 0)) by rw [List.getElem?_map, List.getD_eq_getElem?_getD, List.getElem?_eq_getElem hi]; rfl)
    rw [e] at hv'; cases hv'
    exact r.int_of
  · rw [hlen, preSum_isum]
    exact k _ h' tk (fun b o e => hk b o (fun hb => absurd (Heap.lt_size e) ((List.mem_singleton.mp hb) ▸ Nat.lt_irrefl _)) (Heap.get?_push_of_some _ e)) (rep_int ..)
theorem ev_sum_own {p px pos : Pos} {ns : List Int} (g : GlobAt Γ.F "sum" (.builtin "sum")) (hh : Γ.A.handled = none) (hx : loc.lookup x = some (.own a (ns.map .int))) (hR : Q (.int (isum ns)) loc)
    (hk : Γ.env.kindOf "sum" = some .globalImplicit := by rfl) (hg : Γ.env.globals = mainGlobals := by rfl) (hb : Γ.env.builtins = builtinsNs := by rfl) (hdx : (x == ("__debug__" : Str)) = false := by decide) (hn : (x == ("__classdict__" : Str)) = false := by decide) :
    Ev Γ loc (.Call (.Name "sum" p) [.Name x px] [] pos) (VQ Q) X :=
  ev_bi_own g hx hR (fun H s xs Qv E hl hr k => own_sum hh hl hr k) hk hg hb (by decide) hdx hn
theorem ev_len_own {p px pos : Pos} (g : GlobAt Γ.F "len" (.builtin "len")) (hz : As.length ≤ sizeLine) (hx : loc.lookup x = some (.own a As)) (hR : Q (.int As.length) loc)
    (hk : Γ.env.kindOf "len" = some .globalImplicit := by rfl) (hg : Γ.env.globals = mainGlobals := by rfl) (hb : Γ.env.builtins = builtinsNs := by rfl) (hdx : (x == ("__debug__" : Str)) = false := by decide) (hn : (x == ("__classdict__" : Str)) = false := by decide) :
    Ev Γ loc (.Call (.Name "len" p) [.Name x px] [] pos) (VQ Q) X :=
  ev_bi_own g hx hR (fun H s xs Qv E hl hr k => own_len hz hl hr k) hk hg hb (by decide) hdx hn
/-- a list of the frame's own is let go -/
theorem StH.releaseO {H : Hm} {O : OSet} {h : Heap} {os : OsState} {g : Array GenState} (st : StH Γ H O loc h os g) (hx : loc.lookup x = some (.own a As)) (hw : ∀ y lv, loc'.lookup y = some lv → loc.lookup y = some lv) (hn : loc'.lookup x = none) :
    VarIs Γ.env h x (.ref a) ∧ OwnL H h a As ∧ O a ∧ Foreign Γ H (fun b => O b ∧ b ≠ a) a ∧ StH Γ H (fun b => O b ∧ b ≠ a) loc' h os g := by
  obtain ⟨v, hv, a', rfl, hO, rfl, hi⟩ := st.vars x _ hx
  have ap := st.apart x a _ hx rfl hv
  have ne : ∀ y lv, loc'.lookup y = some lv → lv.mine = true → ∀ b, VarIs Γ.env h y (.ref b) → b ≠ a := fun y lv ey m b hb z => by
    subst z
    have := st.sep y x b lv _ (hw y lv ey) hx m rfl hb hv
    subst this; rw [hn] at ey; cases ey
  have hobj : ∃ o vs n, h.get? a = some o ∧ o.data = .seq vs n := by
    obtain ⟨o, xs, n, e1, _, e3, _⟩ := hi; exact ⟨o, _, _, e1, e3⟩
  refine ⟨hv, hi, hO, ⟨st.obase a hO, st.ohm a hO, fun z => z.2 rfl, fun y e => ap.2 y a e rfl, fun l hl env he ef => ?_, st.otab a hO⟩, ?_⟩
  · obtain ⟨l', hl', hf⟩ := st.frames
    rw [hl] at hl'; cases hl'
    obtain ⟨_, L, o, es, ep, e1, e2, e3, _⟩ := hf env he
    rw [ef] at e1; cases e1
    obtain ⟨o', vs, n, e4, e5⟩ := hobj
    rw [e4] at e2; cases e2
    rw [e5] at e3; cases e3
  · exact
    { base := st.base, agree := st.agree, nofr := st.nofr, os := st.os, gens := st.gens
      obase := fun b hb => st.obase b hb.1
      otab := fun b hb => st.otab b hb.1
      tabs := st.tabs
      ohm := fun b hb => st.ohm b hb.1
      othere := fun b hb => st.othere b hb.1
      kind := st.kind, ns := st.ns
      onsO := ⟨st.onsO, fun z => ap.1 z.symm⟩
      vars := fun y lv e => by
        obtain ⟨w, hw', hl⟩ := st.vars y lv (hw y lv e)
        refine ⟨w, hw', ?_⟩
        cases lv with
        | val B => exact hl
        | own c Bs =>
          obtain ⟨b, rfl, hb, rfl, l⟩ := hl
          exact ⟨c, rfl, ⟨hb, ne y _ e rfl _ hw'⟩, rfl, l⟩
        | itr Bs =>
          obtain ⟨b, rfl, hb, l⟩ := hl
          exact ⟨b, rfl, ⟨hb, ne y _ e rfl _ hw'⟩, l⟩
      sep := fun y z b l1 l2 e1 e2 => st.sep y z b l1 l2 (hw _ _ e1) (hw _ _ e2)
      apart := fun y b l1 e1 => st.apart y b l1 (hw _ _ e1)
      cells := fun y c e' => ⟨fun m => ⟨(st.cells y c e').1 m, fun z => ap.2 y c e' z.symm⟩, (st.cells y c e').2⟩
      cne := st.cne, cinj := st.cinj, frames := st.frames }
/-- x[0] op= value, x a list of the frame's own, which is changed no more -/
theorem ex_augsub {A : V} {kk : Nat} {px ip sp pos : Pos} {op : Operator} {value : Expr} (hx : loc.lookup x = some (.own a (A :: As))) (hz : As.length < 2 ^ 24) (hw : ∀ y lv, loc'.lookup y = some lv → loc.lookup y = some lv) (hn : loc'.lookup x = none)
    (h : Ev Γ loc value (VQ fun B l => l = loc ∧ Op2 Γ loc (inplaceOp op) A B (fun C l' => l' = loc ∧ QF .next ((x, .val (.lst (C :: As))) :: loc')) X) X)
    (hd : (x == ("__debug__" : Str)) = false := by decide) (hnn : (x == ("__classdict__" : Str)) = false := by decide) : Ex1 Γ loc (.AugAssign (.Subscript (.Name x px) (.Constant (.int 0) kk ip) sp) op value pos) QF X := by
  intro H O s st
  refine wpAny_AugAssign_Subscript_any ?_
  obtain ⟨v, hv, b, rfl, hO, rfl, o, xs, n, e, hc, hdt, hp, hr⟩ := st.vars x _ hx
  refine wpAny_Name (wp_var st.kind hv ?_ hnn) hd
  refine wpAny_Constant_int ?_
  obtain ⟨y, ey, ry⟩ := hr.get (show (A :: As)[0]? = some A from rfl)
  refine wpAny_getItem_list ⟨o, e, hc, n, hdt⟩ (by decide) (by decide) (x := y) (by simpa using ey) ?_
  have st0 : St Γ H O loc { s with toks := s.toks + 1 } := st
  refine wpAny_mono (h H O _ st0) (fun vb s₁ p => ?_) fun _ _ p => p
  obtain ⟨H₁, O₁, l₁, lv, n₁, st₁, r₁, q₁⟩ := p
  cases lv with
  | own _ _ => exact q₁.elim
  | itr _ => exact q₁.elim
  | val B =>
    obtain ⟨rfl, q₁⟩ := q₁
    refine wpAny_mono (q₁ H₁ O₁ s₁ y vb st₁ (Rep.mono n₁.hle _ _ ry) r₁) (fun c s₂ p => ?_) fun _ _ p => p.back n₁
    obtain ⟨H₂, O₂, l₂, lv, n₂, st₂, r₂, q₂⟩ := p
    cases lv with
    | own _ _ => exact q₂.elim
    | itr _ => exact q₂.elim
    | val C =>
      obtain ⟨rfl, q₂⟩ := q₂
      obtain ⟨hv', ⟨o', xs', n', e', hc', hdt', hp', hr'⟩, hO', fa, st₃⟩ := st₂.releaseO hx hw hn
      have hl' : xs'.size = As.length + 1 := by have := hr'.length; simpa using this
      refine wpAny_setItem_list ⟨o', e', hc', n', hdt'⟩ (by decide) (by decide) (by rw [hl']; omega) fun h' hil hsb => ?_
      obtain ⟨o'', e'', hc'', n'', hdt''⟩ := hil
      have hds := seq_nodict hdt'' (by rw [hc'']; simp)
      have st₄ : StH Γ (Hset H₂ a o'') (fun b => O₂ b ∧ b ≠ a) loc' h' s₂.os s₂.gens := st₃.extW (fun b => b = a) (fun b z => z ▸ fa) (fun b q hb e => ⟨q, (hsb.2 b hb).trans e, .refl ..⟩) st₃.gens (Hset.le fa.hm) st₃.os fun b q e => by
        rcases Hset.cases e with ⟨rfl, rfl⟩ | h1
        · exact .inr ⟨fa.o, e'', hds⟩
        · exact .inl h1
      have hvn : VarIs Γ.env h' x (.ref a) := hv'.sameW (F := Γ.F) fun b q e z => ⟨q, (hsb.2 b fun zz => by
        rcases z with z | ⟨y, z⟩
        · exact st₃.onsO.2 (z.symm.trans zz)
        · exact fa.cell y (zz ▸ z)).trans e, .refl ..⟩
      have hrs : Reps H₂ (C :: As) (xs'.setIfInBounds 0 c).toList := by
        have h0 := hr'
        have hxl : xs'.toList = xs'.toList := rfl
        simp only [Reps] at h0
        obtain ⟨y0, ys, exs, _, rs⟩ := h0
        rw [Array.toList_setIfInBounds, exs]
        exact reps_cons r₂ rs
      have nn := n₁.trans n₂
      refine ⟨Hset H₂ a o'', fun b => O₂ b ∧ b ≠ a, _, .next, ?_, st₄.know (A := C) hvn (rep_lst (Hset.self ..) hc'' hdt'' (hrs.mono (Hset.le fa.hm))), rfl, q₂⟩
      refine nn.then (fun b q e hb _ => ⟨q, (hsb.2 b fun z => hb (z ▸ hO')).trans e, .refl ..⟩) (fun b q e _ => ?_) (Hset.le fa.hm) (fun b q e => ?_) fun b z => .inl z.1
      · by_cases z : b = a
        · exact z ▸ ⟨_, e''⟩
        · exact ⟨q, (hsb.2 b z).trans e⟩
      · rcases Hset.cases e with ⟨rfl, rfl⟩ | h1
        · exact .inr (.inl hO')
        · exact .inl h1
end
end Mine
end
section
open PySem PySem.W PyProof.Rows
set_option linter.unusedVariables false
set_option maxRecDepth 100000
namespace Mine
def IsTI (h : Heap) (I : Addr) : Prop := ∃ t i, h.IsTupleIter I t i
section
variable {Γ : Cx} {loc loc' : Loc} {Q : V → Loc → Prop} {QL : LV → Loc → Prop} {QB : Bool → Loc → Prop} {QF : Fl → Loc → Prop} {X : Exc → Loc → Prop} {x : Str} {As : List V} {a : Addr}
end
end Mine
end
section
open PySem PySem.W PyProof.Rows
set_option linter.unusedVariables false
set_option maxRecDepth 100000
set_option exponentiation.threshold 3000
namespace Mine
open PySem.Float64 (decode val add sub mul div fma neg abs cmp isZero isFinite isInf ofInt Right pack infMag zero sgn)
theorem V_ofe {q k : Nat} (hq : q ≤ 2 ^ 53) (hk : k ≤ 2044) : ∃ t, t < infMag ∧ Float64.V t = q * 2 ^ k := by
  induction k generalizing q with
  | zero =>
    refine ⟨q, ?_, ?_⟩
    · have : infMag = 2047 * 2 ^ 52 := rfl
      omega
    · have := PySem.Float64.V_at (k := 0) (q := q) hq (.inr rfl)
      simpa using this
  | succ k ih =>
    by_cases h : 2 ^ 52 ≤ q
    · refine ⟨(k + 1) * 2 ^ 52 + q, ?_, PySem.Float64.V_at hq (.inl h)⟩
      have : infMag = 2047 * 2 ^ 52 := rfl
      omega
    · obtain ⟨t, h1, h2⟩ := ih (q := q * 2) (by omega) (by omega)
      exact ⟨t, h1, by rw [h2, Nat.pow_succ, Nat.mul_assoc, Nat.mul_comm 2]⟩
theorem rp_e {e : Nat} (he : e ≤ 2044) {k : Int} (hk : k.natAbs ≤ 2 ^ 53) : Rp (k * 2 ^ e) := by
  obtain ⟨t, h1, h2⟩ := V_ofe hk he
  refine ⟨t, h1, ?_⟩
  rw [h2, Int.natAbs_mul, Int.natAbs_pow]
  rfl
theorem fits_e {e : Nat} (he : e ≤ 2044) : ∀ (ks : List Int) (s : Int), s.natAbs + asum ks ≤ 2 ^ 53 → Fits (s * 2 ^ e) (ks.map (· * 2 ^ e))
  | [], s, h => rp_e he (by rw [asum] at h; omega)
  | k :: ks, s, h => by
    rw [asum] at h
    refine ⟨rp_e he (by omega), rp_e he (by omega), ?_⟩
    show Fits (s * 2 ^ e + k * 2 ^ e) _
    rw [← Int.add_mul]
    exact fits_e he ks (s + k) (by omega)
theorem fsum_e {e : Nat} (he : e ≤ 2044) {As : List V} {ks : List Int} (h : Vals As (ks.map (· * 2 ^ e))) (hm : asum ks ≤ 2 ^ 53) : ∃ d, fsumRun [] As = some d ∧ FV d (isum ks * 2 ^ e) := by
  obtain ⟨d, h1, h2⟩ := fsum_exact h (ps := []) (s := 0) (.inl ⟨rfl, rfl⟩) (by
    have := fits_e he ks 0 (by simpa using hm)
    rw [Int.zero_mul] at this; exact this)
  rw [Int.zero_add, isum_mul] at h2
  exact ⟨d, h1, h2⟩
/-- numbers and their values -/
inductive NVs : List V → List Int → Prop
  | nil : NVs [] []
  | cons {A : V} {As : List V} {a : Int} {as : List Int} : Nv A a → A.nm → NVs As as → NVs (A :: As) (a :: as)
theorem NVs.vals {As : List V} {as : List Int} (h : NVs As as) : Vals As as := by
  induction h with
  | nil => exact .nil
  | cons h1 _ _ ih => obtain ⟨x, e, hx⟩ := h1.real; exact .cons e hx ih
theorem NVs.length {As : List V} {as : List Int} (h : NVs As as) : As.length = as.length := by
  induction h with
  | nil => rfl
  | cons _ _ _ ih => simp [ih]
theorem NVs.fin {As : List V} {as : List Int} (h : NVs As as) : ∀ (i : Nat) A, As[i]? = some A → A.fin := by
  induction h with
  | nil => intro i A e; simp at e
  | @cons A As a as h1 h2 _ ih =>
    intro i B e
    cases i with
    | succ i => exact ih i B (by simpa using e)
    | zero =>
      simp at e; subst e
      rcases h1 with ⟨i, rfl, _⟩ | ⟨x, rfl, hx⟩ | ⟨b, rfl, _⟩
      · trivial
      · exact hx.fin
      · trivial
theorem nsub_exact {A : V} {a b : Int} {y : UInt64} (hA : Nv A a) (nA : A.nm) (hy : FV y b) (hr : Rp (a - b)) : ∃ d, nsub A y = some d ∧ FV d (a - b) := by
  rcases hA with ⟨i, rfl, rfl, hi⟩ | ⟨x, rfl, hx⟩ | ⟨q, rfl, _⟩
  · have := FV.ofInt hi
    exact ⟨_, by simp only [nsub, this.notInf, Bool.false_eq_true, if_false], this.sub hy hr⟩
  · exact ⟨_, rfl, hx.sub hy hr⟩
  · exact nA.elim
/-- floats and their values -/
inductive FVs : List UInt64 → List Int → Prop
  | nil : FVs [] []
  | cons {d : UInt64} {ds : List UInt64} {a : Int} {as : List Int} : FV d a → FVs ds as → FVs (d :: ds) (a :: as)
theorem subt_exact {e : Nat} (he : e ≤ 2044) {m : Int} {y : UInt64} (hy : FV y (m * 2 ^ e)) : ∀ {As : List V} {ks : List Int}, NVs As (ks.map (· * 2 ^ e)) → (∀ k ∈ ks, (k - m).natAbs ≤ 2 ^ 53) → ∃ ds, Subt y As ds ∧ FVs ds (ks.map fun k => (k - m) * 2 ^ e)
  | _, [], h, _ => by cases h; exact ⟨[], .nil, .nil⟩
  | _, k :: ks, h, hb => by
    cases h with
    | cons h1 h2 h3 =>
      obtain ⟨ds, s1, s2⟩ := subt_exact he hy h3 fun q hq => hb q (List.mem_cons_of_mem _ hq)
      obtain ⟨d, d1, d2⟩ := nsub_exact h1 h2 hy (by rw [← Int.sub_mul]; exact rp_e he (hb k List.mem_cons_self))
      rw [← Int.sub_mul] at d2
      exact ⟨d :: ds, .cons d1 s1, .cons d2 s2⟩
/-- products of floats, in units -/
inductive FPs (e : Nat) : List UInt64 → List UInt64 → List Int → Prop
  | nil : FPs e [] [] []
  | cons {d f : UInt64} {ds fs : List UInt64} {a b k : Int} {ks : List Int} : FV d a → FV f b → a * b = k * 2 ^ e * 2 ^ 1074 → FPs e ds fs ks → FPs e (d :: ds) (f :: fs) (k :: ks)
theorem fps_of {e1 e2 e : Nat} (he : e1 + e2 = e + 1074) : ∀ {ds es : List UInt64} {ks ls : List Int}, FVs ds (ks.map (· * 2 ^ e1)) → FVs es (ls.map (· * 2 ^ e2)) → ks.length = ls.length → FPs e ds es (List.zipWith (· * ·) ks ls)
  | _, _, [], [], h1, h2, _ => by cases h1; cases h2; exact .nil
  | _, _, k :: ks, l :: ls, h1, h2, hl => by
    cases h1 with
    | cons a1 a2 =>
      cases h2 with
      | cons b1 b2 =>
        refine .cons a1 b1 ?_ (fps_of he a2 b2 (by simpa using hl))
        have : (2 : Int) ^ e1 * 2 ^ e2 = 2 ^ e * 2 ^ 1074 := by rw [← Int.pow_add, he, Int.pow_add]
        calc k * 2 ^ e1 * (l * 2 ^ e2) = (k * l) * (2 ^ e1 * 2 ^ e2) := by ac_rfl
          _ = k * l * 2 ^ e * 2 ^ 1074 := by rw [this]; ac_rfl
  | _, _, [], _ :: _, _, _, hl => by simp at hl
  | _, _, _ :: _, [], _, _, hl => by simp at hl
theorem tryF_e {e : Nat} (he : e ≤ 2044) {d f : UInt64} {a b k s1 : Int} {t : Tri} (hA : FV d a) (hB : FV f b) (hp : a * b = k * 2 ^ e * 2 ^ 1074) (hk : k.natAbs ≤ 2 ^ 53) (hs : s1.natAbs ≤ 2 ^ 53) (hks : (s1 + k).natAbs ≤ 2 ^ 53) (h1 : FV t.1 (s1 * 2 ^ e)) (h2 : FV t.2.1 0) (h3 : FV t.2.2 0) :
    ∃ t', tryF t (.flt d) (.flt f) = some t' ∧ FV t'.1 ((s1 + k) * 2 ^ e) ∧ FV t'.2.1 0 ∧ FV t'.2.2 0 := by
  obtain ⟨q1, q2, q3⟩ := tlFma_exact hA hB hp (rp_e he hk) (rp_e he hs) (by rw [← Int.add_mul]; exact rp_e he hks) h1 h2 h3
  rw [← Int.add_mul] at q1
  refine ⟨_, ?_, q1, q2, q3⟩
  show (if (true || true) = true then (if Float64.isFinite (Builtin.Math.tlFma d f t).1 then some (Builtin.Math.tlFma d f t) else none) else none) = _
  simp only [Bool.or_self, if_true, q1.fin]
theorem run_e {e : Nat} (he : e ≤ 2044) {ds fs : List UInt64} {ks : List Int} (h : FPs e ds fs ks) : ∀ {t : Tri} {s1 : Int}, FV t.1 (s1 * 2 ^ e) → FV t.2.1 0 → FV t.2.2 0 → s1.natAbs + asum ks ≤ 2 ^ 53 → ∃ r, spRun (.F (.int 0) t) (ds.map .flt) (fs.map .flt) = .ok (.flt r) ∧ FV r ((s1 + isum ks) * 2 ^ e) := by
  induction h with
  | nil =>
    intro t s1 h1 h2 h3 hm
    have hf := tlToFloat_exact (rp_e he (show s1.natAbs ≤ 2 ^ 53 by rw [asum] at hm; omega)) h1 h2 h3
    have h0 : FV (ofInt 0) 0 := by have := FV.ofInt (i := 0) (by rw [Int.zero_mul]; exact rp_zero); rwa [Int.zero_mul] at this
    refine ⟨add (ofInt 0) (Builtin.Math.tlToFloat t), ?_, ?_⟩
    · show (match nadd (.int 0) (.flt (Builtin.Math.tlToFloat t)) with | none => Except.error "OverflowError" | some T => .ok T) = _
      simp only [nadd, h0.notInf, Bool.false_eq_true, if_false]
    · have := h0.add hf (by rw [Int.zero_add]; exact rp_e he (show s1.natAbs ≤ 2 ^ 53 by rw [asum] at hm; omega))
      rw [Int.zero_add] at this
      rw [isum, Int.add_zero]; exact this
  | cons hA hB hp _ ih =>
    intro t s1 h1 h2 h3 hm
    rw [asum] at hm
    obtain ⟨t', e1, q1, q2, q3⟩ := tryF_e he hA hB hp (by omega) (by omega) (by omega) h1 h2 h3
    obtain ⟨r, e2, hr⟩ := ih q1 q2 q3 (by omega)
    refine ⟨r, ?_, by rw [isum, ← Int.add_assoc]; exact hr⟩
    simp only [List.map_cons, spRun, spStep, e1]
    exact e2
theorem sumprod_e {e : Nat} (he : e ≤ 2044) {ds fs : List UInt64} {ks : List Int} (h : FPs e ds fs ks) (hne : ks ≠ []) (hm : asum ks ≤ 2 ^ 53) : ∃ r, spRun (.I 0 false) (ds.map .flt) (fs.map .flt) = .ok (.flt r) ∧ FV r (isum ks * 2 ^ e) := by
  cases h with
  | nil => exact absurd rfl hne
  | cons hA hB hp h' =>
    rw [asum] at hm
    obtain ⟨t', e1, q1, q2, q3⟩ := tryF_e (t := zero3) (s1 := 0) he hA hB hp (by omega) (by decide) (by omega) (by rw [Int.zero_mul]; exact fv_zero false) (fv_zero false) (fv_zero false)
    obtain ⟨r, e2, hr⟩ := run_e he h' q1 q2 q3 (by omega)
    refine ⟨r, ?_, by rw [isum]; simpa using hr⟩
    simp only [List.map_cons, spRun, spStep, tryI, e1]
    exact e2
end Mine
end
section
open PySem PySem.W PyProof.Rows
set_option linter.unusedVariables false
set_option maxRecDepth 100000
set_option exponentiation.threshold 3000
namespace Mine
open PySem.Float64 (decode val add sub mul div fma neg abs cmp isZero isFinite isInf ofInt Right pack infMag zero sgn)
theorem pow2_of_dvd : ∀ {k d : Nat}, d ∣ 2 ^ k → ∃ j, d = 2 ^ j
  | 0, d, h => ⟨0, by simpa using h⟩
  | k + 1, d, h => by
    by_cases h2 : 2 ∣ d
    · obtain ⟨c, rfl⟩ := h2
      rw [Nat.pow_succ, Nat.mul_comm (2 ^ k)] at h
      obtain ⟨j, rfl⟩ := pow2_of_dvd (Nat.dvd_of_mul_dvd_mul_left (by decide) h)
      exact ⟨j + 1, by rw [Nat.pow_succ, Nat.mul_comm]⟩
    · have hc : Nat.Coprime d 2 := by
        have := Nat.gcd_dvd_right d 2
        have h3 : Nat.gcd d 2 ≤ 2 := Nat.le_of_dvd (by decide) this
        have h4 : Nat.gcd d 2 ≠ 2 := fun e => h2 (e ▸ Nat.gcd_dvd_left d 2)
        have h5 : Nat.gcd d 2 ≠ 0 := fun e => by have := Nat.gcd_pos_of_pos_right d (show 0 < 2 by decide); omega
        show Nat.gcd d 2 = 1
        omega
      rw [Nat.pow_succ] at h
      exact pow2_of_dvd (Nat.Coprime.dvd_of_dvd_mul_right hc h)
theorem odd_dvd {q a : Nat} : ∀ {k : Nat}, q % 2 = 1 → q ∣ a * 2 ^ k → q ∣ a
  | 0, _, h => by simpa using h
  | k + 1, ho, h => by
    have hc : Nat.Coprime q 2 := by
      have := Nat.gcd_dvd_right q 2
      have h3 : Nat.gcd q 2 ≤ 2 := Nat.le_of_dvd (by decide) this
      have h4 : Nat.gcd q 2 ≠ 2 := fun e => by have : 2 ∣ q := e ▸ Nat.gcd_dvd_left q 2; omega
      have h5 : Nat.gcd q 2 ≠ 0 := fun e => by have := Nat.gcd_pos_of_pos_right q (show 0 < 2 by decide); omega
      show Nat.gcd q 2 = 1
      omega
    rw [Nat.pow_succ, ← Nat.mul_assoc] at h
    exact odd_dvd ho (Nat.Coprime.dvd_of_dvd_mul_right hc h)
/-- the magnitude nearest to S / n1, no two as near -/
theorem near_mag {S e n1 t : Nat} (hS : S ≠ 0) (hb : S < 2 ^ 53 - 1) (he1 : 100 ≤ e) (he2 : e ≤ 2044) (hn : 1 ≤ n1) (hn2 : n1 ≤ 100)
    (hnear : ∀ t', Float64.dist (S * 2 ^ e) (n1 * Float64.V t) ≤ Float64.dist (S * 2 ^ e) (n1 * Float64.V t')) :
    ∃ q k, Float64.V t = q * 2 ^ (k + 1) ∧ 2 ^ 52 ≤ q ∧ q < 2 ^ 53 ∧ n1 * ((2 * q - 1) * 2 ^ k) < S * 2 ^ e ∧ S * 2 ^ e < n1 * ((2 * q + 1) * 2 ^ k) := by
  have hW : n1 * 2 ^ 61 ≤ S * 2 ^ e := by
    have h1 : 2 ^ 100 ≤ 2 ^ e := Nat.pow_le_pow_right (by decide) he1
    calc n1 * 2 ^ 61 ≤ 100 * 2 ^ 61 := Nat.mul_le_mul_right _ hn2
      _ ≤ 2 ^ 100 := by decide
      _ ≤ 2 ^ e := h1
      _ ≤ S * 2 ^ e := Nat.le_mul_of_pos_left _ (by omega)
  have hV : 2 ^ 60 ≤ Float64.V t := by
    rcases Nat.lt_or_ge (Float64.V t) (2 ^ 60) with c | c
    · exfalso
      have h2 := hnear (8 * 2 ^ 52 + 2 ^ 52)
      rw [PySem.Float64.V_at (k := 8) (q := 2 ^ 52) (by decide) (.inl (Nat.le_refl _))] at h2
      have h3 : n1 * Float64.V t < n1 * 2 ^ 60 := Nat.mul_lt_mul_of_pos_left c (by omega)
      have h4 : n1 * (2 ^ 52 * 2 ^ 8) = n1 * 2 ^ 60 := by rw [← Nat.pow_add]
      rw [h4] at h2
      unfold PySem.Float64.dist at h2
      omega
    · exact c
  have ht : t / 2 ^ 52 ≠ 0 := fun h0 => by
    unfold PySem.Float64.V at hV
    rw [if_pos h0] at hV
    omega
  obtain ⟨k, hk⟩ : ∃ k, t / 2 ^ 52 = k + 1 := ⟨t / 2 ^ 52 - 1, by omega⟩
  have hVt : Float64.V t = (2 ^ 52 + t % 2 ^ 52) * 2 ^ k := by
    unfold PySem.Float64.V
    rw [if_neg ht, hk, Nat.add_sub_cancel]
  have hk0 : k ≠ 0 := fun z => by subst z; rw [hVt] at hV; have := Nat.mod_lt t (show 0 < 2 ^ 52 by decide); omega
  obtain ⟨j, rfl⟩ : ∃ j, k = j + 1 := ⟨k - 1, by omega⟩
  generalize hq : 2 ^ 52 + t % 2 ^ 52 = q at hVt
  have hq1 : 2 ^ 52 ≤ q := by omega
  have hq2 : q < 2 ^ 53 := by have := Nat.mod_lt t (show 0 < 2 ^ 52 by decide); omega
  have up := hnear ((j + 1) * 2 ^ 52 + (q + 1))
  rw [PySem.Float64.V_at (by omega) (.inl (by omega)), hVt] at up
  obtain ⟨t₂, ht₂⟩ : ∃ t₂, Float64.V t₂ = (q - 1) * 2 ^ (j + 1) := by
    by_cases c : 2 ^ 52 ≤ q - 1
    · exact ⟨_, PySem.Float64.V_at (k := j + 1) (q := q - 1) (by omega) (.inl c)⟩
    · refine ⟨_, (PySem.Float64.V_at (k := j) (q := 2 ^ 53 - 2) (by omega) (.inl (by omega))).trans ?_⟩
      have : q = 2 ^ 52 := by omega
      rw [this]
      show (2 ^ 53 - 2) * 2 ^ j = (2 ^ 52 - 1) * (2 ^ j * 2)
      generalize 2 ^ j = P
      omega
  have dn := hnear t₂
  rw [ht₂, hVt] at dn
  have hp : 0 < n1 * 2 ^ j := Nat.mul_pos hn (Nat.two_pow_pos _)
  have e0 : n1 * (q * 2 ^ (j + 1)) = 2 * q * (n1 * 2 ^ j) := by rw [Nat.pow_succ]; ac_rfl
  have e1 : n1 * ((q + 1) * 2 ^ (j + 1)) = 2 * (q + 1) * (n1 * 2 ^ j) := by rw [Nat.pow_succ]; ac_rfl
  have e2 : n1 * ((q - 1) * 2 ^ (j + 1)) = 2 * (q - 1) * (n1 * 2 ^ j) := by rw [Nat.pow_succ]; ac_rfl
  have e3 : n1 * ((2 * q - 1) * 2 ^ j) = (2 * q - 1) * (n1 * 2 ^ j) := by ac_rfl
  have e4 : n1 * ((2 * q + 1) * 2 ^ j) = (2 * q + 1) * (n1 * 2 ^ j) := by ac_rfl
  rw [e0, e1] at up
  rw [e0, e2] at dn
  refine ⟨q, j, hVt, hq1, hq2, ?_, ?_⟩
  · rw [e3]
    have hne : S * 2 ^ e ≠ (2 * q - 1) * (n1 * 2 ^ j) := fun z => by
      have hd : (2 * q - 1) ∣ S * 2 ^ e := ⟨_, z⟩
      have := Nat.le_of_dvd (by omega) (odd_dvd (by omega) hd)
      omega
    generalize n1 * 2 ^ j = P at *
    have a1 : 2 * q * P = (2 * q - 1) * P + P := by rw [← Nat.succ_mul]; congr 1; omega
    have a2 : (2 * q - 1) * P = 2 * (q - 1) * P + P := by rw [← Nat.succ_mul]; congr 1; omega
    unfold PySem.Float64.dist at dn
    omega
  · rw [e4]
    have hne : S * 2 ^ e ≠ (2 * q + 1) * (n1 * 2 ^ j) := fun z => by
      have hd : (2 * q + 1) ∣ S * 2 ^ e := ⟨_, z⟩
      have := Nat.le_of_dvd (by omega) (odd_dvd (by omega) hd)
      omega
    generalize n1 * 2 ^ j = P at *
    have a1 : (2 * q + 1) * P = 2 * q * P + P := by rw [← Nat.succ_mul]
    have a2 : 2 * (q + 1) * P = (2 * q + 1) * P + P := by rw [← Nat.succ_mul]; congr 1
    unfold PySem.Float64.dist at up
    omega
/-- a float's value over an int, rounded -/
theorem near_div {sx : UInt64} {S : Int} {e n1 : Nat} (hs : FV sx (S * 2 ^ e)) (hS : S ≠ 0) (hb : S.natAbs < 2 ^ 53 - 1) (he1 : 100 ≤ e) (he2 : e ≤ 2044) (hn : 1 ≤ n1) (hn2 : n1 ≤ 100) :
    ∃ v q k : Nat, FV (div sx (ofInt n1)) (if S < 0 then -(v : Int) else v) ∧ v = q * 2 ^ (k + 1) ∧ 2 ^ 52 ≤ q ∧ q < 2 ^ 53 ∧ n1 * ((2 * q - 1) * 2 ^ k) < S.natAbs * 2 ^ e ∧ S.natAbs * 2 ^ e < n1 * ((2 * q + 1) * 2 ^ k) := by
  have hi : FV (ofInt n1) ((n1 : Int) * 2 ^ 1074) := FV.ofInt (rp_e (by decide) (by omega))
  have hsne : S * 2 ^ e ≠ 0 := Int.mul_ne_zero hS (Int.pow_ne_zero (by decide))
  have hine : (n1 : Int) * 2 ^ 1074 ≠ 0 := Int.mul_ne_zero (by omega) (Int.pow_ne_zero (by decide))
  obtain ⟨⟨sg, m, ex, hx⟩, hxv⟩ := hs
  obtain ⟨⟨sg', m', ex', hy⟩, hyv⟩ := hi
  have hm : m' ≠ 0 := fun z => hine (by rw [← hyv, PySem.Float64.val_eq hy, z]; simp [sgn])
  have R := PySem.Float64.div_right hx hy hm
  rw [sgn_neg_of hx (by rw [hxv]; exact hsne), sgn_neg_of hy (by rw [hyv]; exact hine), hxv, hyv] at R
  have p1 : (0 : Int) < 2 ^ e := Int.pow_pos (by decide)
  have p2 : (0 : Int) < 2 ^ 1074 := two_pos
  have sg1 : (decide (S * 2 ^ e < 0) != decide ((n1 : Int) * 2 ^ 1074 < 0)) = decide (S < 0) := by
    have : ¬ ((n1 : Int) * 2 ^ 1074 < 0) := Int.not_lt.mpr (Int.mul_nonneg (by omega) (Int.le_of_lt p2))
    rw [decide_eq_false this, decide_eq_decide.mpr (neg_iff_mul p1).symm]
    cases decide (S < 0) <;> rfl
  rw [sg1] at R
  have w1 : (S * 2 ^ e).natAbs * 2 ^ 1074 = S.natAbs * 2 ^ e * 2 ^ 1074 := by rw [Int.natAbs_mul, Int.natAbs_pow]; rfl
  have w2 : ((n1 : Int) * 2 ^ 1074).natAbs = n1 * 2 ^ 1074 := by rw [Int.natAbs_mul, Int.natAbs_pow, Int.natAbs_natCast]; rfl
  rw [w1, w2] at R
  obtain ⟨t, ht, hle, hov, hnear⟩ := R
  generalize hT : S.natAbs = T at *
  have hlt : t < infMag := by
    rcases Nat.lt_or_ge t infMag with c | c
    · exact c
    · exfalso
      have h1 := hov.mp (by omega)
      have h2 : 2 ^ e ≤ 2 ^ 2044 := Nat.pow_le_pow_right (by decide) he2
      have h3 : 2 * (T * 2 ^ e * 2 ^ 1074) ≤ 2 * ((2 ^ 53 - 1) * 2 ^ 2044 * 2 ^ 1074) := Nat.mul_le_mul_left _ (Nat.mul_le_mul_right _ (Nat.mul_le_mul (by omega) h2))
      have h4 : 1 * 2 ^ 1074 * ((2 ^ 54 - 1) * 2 ^ 2045) ≤ n1 * 2 ^ 1074 * ((2 ^ 54 - 1) * 2 ^ 2045) := Nat.mul_le_mul_right _ (Nat.mul_le_mul_right _ hn)
      have h5 : 2 * ((2 ^ 53 - 1) * 2 ^ 2044 * 2 ^ 1074) < 1 * 2 ^ 1074 * ((2 ^ 54 - 1) * 2 ^ 2045) := by decide +kernel
      omega
  have hnear' : ∀ t', Float64.dist (T * 2 ^ e) (n1 * Float64.V t) ≤ Float64.dist (T * 2 ^ e) (n1 * Float64.V t') := fun t' => by
    have := (hnear hlt t').1
    have dm : ∀ a b : Nat, Float64.dist (a * 2 ^ 1074) (b * 2 ^ 1074) = Float64.dist a b * 2 ^ 1074 := fun a b => by unfold PySem.Float64.dist; rw [← Nat.sub_mul, ← Nat.sub_mul, Nat.add_mul]
    have c1 : ∀ u, n1 * 2 ^ 1074 * u = n1 * u * 2 ^ 1074 := fun u => by ac_rfl
    rw [c1, c1, dm, dm] at this
    exact Nat.le_of_mul_le_mul_right this (Nat.two_pow_pos _)
  obtain ⟨q, k, hv, h1, h2, h3, h4⟩ := near_mag (by omega) (by omega) he1 he2 hn hn2 hnear'
  refine ⟨Float64.V t, q, k, ?_, hv, h1, h2, h3, h4⟩
  rw [ht]
  obtain ⟨m, ex, hdec, _⟩ := PySem.Float64.decode_pack (decide (S < 0)) hlt
  refine ⟨⟨_, _, _, hdec⟩, ?_⟩
  rw [PySem.Float64.val_pack _ hlt]
  unfold sgn
  by_cases c : S < 0 <;> simp [c]
end Mine
end
section
open PySem PySem.W PyProof.Rows
set_option linter.unusedVariables false
set_option maxRecDepth 100000
set_option exponentiation.threshold 3000
namespace Mine
open PySem.Float64 (decode val add sub mul div fma neg abs cmp isZero isFinite isInf ofInt Right pack infMag zero sgn)
theorem ratio_pow {r : UInt64} {v : Nat} (hr : FV r v) (hv : v ≠ 0) : ∃ m e N j, decode r = .fin false m e ∧ Float64.ratio m e = (N, 2 ^ j) ∧ N * 2 ^ 1074 = v * 2 ^ j ∧ j ≤ 1074 := by
  obtain ⟨⟨s, m, e, hd⟩, hval⟩ := hr
  have hge := PySem.Float64.decode_ge hd
  have hve := PySem.Float64.val_eq hd
  rw [hval] at hve
  have hs : s = false := by
    cases s with
    | false => rfl
    | true => unfold sgn at hve; simp only [if_true] at hve; omega
  subst hs
  have hv' : v = m * 2 ^ (e + 1074).toNat := by unfold sgn at hve; simp only [Bool.false_eq_true, if_false] at hve; exact_mod_cast hve
  refine ⟨m, e, ?_⟩
  by_cases c : e ≥ 0
  · refine ⟨m * 2 ^ e.toNat, 0, hd, ?_, ?_, by omega⟩
    · unfold PySem.Float64.ratio PySem.Float64.shift
      simp only [c, if_true, Nat.gcd_one_right, Nat.div_one, Nat.pow_zero]
    · rw [hv', Nat.pow_zero, Nat.mul_one, Nat.mul_assoc, ← Nat.pow_add]
      congr 2
      omega
  · have hp : 0 < 2 ^ (-e).toNat := Nat.two_pow_pos _
    have hg : 0 < Nat.gcd m (2 ^ (-e).toNat) := Nat.gcd_pos_of_pos_right _ hp
    obtain ⟨a, ha⟩ := Nat.gcd_dvd_left m (2 ^ (-e).toNat)
    obtain ⟨b, hb⟩ := Nat.gcd_dvd_right m (2 ^ (-e).toNat)
    generalize hgg : Nat.gcd m (2 ^ (-e).toNat) = g at *
    obtain ⟨j, rfl⟩ := pow2_of_dvd (k := (-e).toNat) (d := b) ⟨g, by rw [hb, Nat.mul_comm]⟩
    refine ⟨a, j, hd, ?_, ?_, ?_⟩
    · unfold PySem.Float64.ratio PySem.Float64.shift
      simp only [c, if_false, Nat.one_mul, hgg]
      rw [hb, Nat.mul_div_cancel_left _ hg]
      conv => lhs; arg 1; rw [ha]
      rw [Nat.mul_div_cancel_left _ hg]
    · have h2 : 2 ^ 1074 = 2 ^ (-e).toNat * 2 ^ (e + 1074).toNat := by rw [← Nat.pow_add]; congr 1; omega
      rw [h2, hb, hv', ha]
      ac_rfl
    · have h3 : 2 ^ j ≤ 2 ^ (-e).toNat := Nat.le_of_dvd (Nat.two_pow_pos _) ⟨g, by rw [hb, Nat.mul_comm]⟩
      have := (Nat.pow_le_pow_iff_right (by decide)).mp h3
      omega
/-- r is the float nearest to due / m, no two as near -/
def NearQ (r : UInt64) (due m : Int) : Prop :=
  (due = 0 ∧ FV r 0) ∨ (due ≠ 0 ∧ 0 < m ∧ ∃ v q k : Nat, FV r (if due < 0 then -(v : Int) else v) ∧ v = q * 2 ^ (k + 1) ∧ 2 ^ 52 ≤ q ∧ q < 2 ^ 53 ∧ m.natAbs * ((2 * q - 1) * 2 ^ k) < due.natAbs * 2 ^ 1074 ∧ due.natAbs * 2 ^ 1074 < m.natAbs * ((2 * q + 1) * 2 ^ k))
/-- from a quotient in units -/
theorem nearQ_of {sx : UInt64} {S : Int} {e n1 : Nat} {due m : Int} (hs : FV sx (S * 2 ^ e)) (hb : S.natAbs < 2 ^ 53 - 1) (he1 : 100 ≤ e) (he2 : e ≤ 2044) (hn : 1 ≤ n1) (hn2 : n1 ≤ 100) (hm : 0 < m) (hsg : due < 0 ↔ S < 0) (heq : due.natAbs * 2 ^ 1074 * n1 = m.natAbs * (S.natAbs * 2 ^ e)) : NearQ (div sx (ofInt n1)) due m := by
  have hi : FV (ofInt n1) ((n1 : Int) * 2 ^ 1074) := FV.ofInt (rp_e (by decide) (by omega))
  by_cases hS : S = 0
  · left
    subst hS
    have hd0 : due = 0 := by
      simp only [Int.natAbs_zero, Nat.zero_mul, Nat.mul_zero] at heq
      have : due.natAbs = 0 := by
        rcases Nat.mul_eq_zero.mp heq with h | h
        · rcases Nat.mul_eq_zero.mp h with h | h
          · exact h
          · exact absurd h (Nat.ne_of_gt (Nat.two_pow_pos _))
        · omega
      omega
    refine ⟨hd0, ?_⟩
    exact hs.div hi (Int.mul_ne_zero (by omega) (Int.pow_ne_zero (by decide))) (by simp) rp_zero
  · right
    obtain ⟨v, q, k, h1, h2, h3, h4, h5, h6⟩ := near_div hs hS hb he1 he2 hn hn2
    have hd0 : due ≠ 0 := fun z => by
      subst z
      simp only [Int.natAbs_zero, Nat.zero_mul] at heq
      have : 0 < m.natAbs * (S.natAbs * 2 ^ e) := Nat.mul_pos (by omega) (Nat.mul_pos (by omega) (Nat.two_pow_pos _))
      omega
    refine ⟨hd0, hm, v, q, k, ?_, h2, h3, h4, ?_, ?_⟩
    · by_cases c : S < 0
      · rw [if_pos (hsg.mpr c)]; rw [if_pos c] at h1; exact h1
      · rw [if_neg (fun z => c (hsg.mp z))]; rw [if_neg c] at h1; exact h1
    · refine Nat.lt_of_mul_lt_mul_right (a := n1) ?_
      rw [heq]
      calc m.natAbs * ((2 * q - 1) * 2 ^ k) * n1 = m.natAbs * (n1 * ((2 * q - 1) * 2 ^ k)) := by ac_rfl
        _ < _ := Nat.mul_lt_mul_of_pos_left h5 (by omega)
    · refine Nat.lt_of_mul_lt_mul_right (a := n1) ?_
      rw [heq]
      calc m.natAbs * (S.natAbs * 2 ^ e) < m.natAbs * (n1 * ((2 * q + 1) * 2 ^ k)) := Nat.mul_lt_mul_of_pos_left h6 (by omega)
        _ = _ := by ac_rfl
end Mine
end
section
open PySem PySem.W PyProof.Rows
set_option linter.unusedVariables false
set_option maxRecDepth 100000
namespace Mine
def Sm : Nat → (Nat → Int) → Int
  | 0, _ => 0
  | n + 1, f => Sm n f + f n
theorem Sm_congr {f g : Nat → Int} : ∀ {n : Nat}, (∀ i, i < n → f i = g i) → Sm n f = Sm n g
  | 0, _ => rfl
  | n + 1, h => by simp only [Sm]; rw [Sm_congr fun i hi => h i (by omega), h n (by omega)]
theorem Sm_mul (c : Int) (f : Nat → Int) : ∀ n, Sm n (fun i => f i * c) = Sm n f * c
  | 0 => by simp [Sm]
  | n + 1 => by simp only [Sm, Sm_mul c f n, Int.add_mul]
theorem isum_snoc (a : List Int) (x : Int) : isum (a ++ [x]) = isum a + x := by
  induction a with
  | nil => simp [isum]
  | cons y a ih => simp only [List.cons_append, isum, ih]; omega
theorem isum_rng (f : Nat → Int) : ∀ n, isum ((List.range n).map f) = Sm n f
  | 0 => rfl
  | n + 1 => by rw [List.range_succ, List.map_append, List.map_singleton, isum_snoc, isum_rng f n]; rfl
theorem list_rng (ks : List Int) : ks = (List.range ks.length).map fun i => ks.getD i 0 := by
  refine List.ext_getElem? fun i => ?_
  rw [List.getElem?_map]
  by_cases h : i < ks.length
  · rw [List.getElem?_range h, List.getElem?_eq_getElem h]
    simp [List.getD_eq_getElem?_getD, List.getElem?_eq_getElem h]
  · rw [List.getElem?_eq_none (by omega), List.getElem?_eq_none (by simp; omega)]; rfl
theorem isum_Sm (ks : List Int) : isum ks = Sm ks.length fun i => ks.getD i 0 := by
  conv => lhs; rw [list_rng ks]
  exact isum_rng _ _
def Dd (x y : Nat → Int) (n : Nat) : Int := Sm n fun i => Sm i fun j => (x i - x j) * (y i - y j)
theorem Sm_row (x y : Nat → Int) (a b : Int) : ∀ n, Sm n (fun j => (a - x j) * (b - y j)) = n * (a * b) - a * Sm n y - b * Sm n x + Sm n fun i => x i * y i
  | 0 => by simp [Sm]
  | n + 1 => by
    simp only [Sm, Sm_row x y a b n]
    push_cast
    grind
theorem Dd_eq (x y : Nat → Int) : ∀ n, Dd x y n = n * (Sm n fun i => x i * y i) - Sm n x * Sm n y
  | 0 => by simp [Dd, Sm]
  | n + 1 => by
    have h := Dd_eq x y n
    unfold Dd at h ⊢
    rw [show Sm (n + 1) (fun i => Sm i fun j => (x i - x j) * (y i - y j)) = Sm n (fun i => Sm i fun j => (x i - x j) * (y i - y j)) + Sm n (fun j => (x n - x j) * (y n - y j)) from rfl, h, Sm_row]
    simp only [Sm]
    push_cast
    grind
def Cc (x y : Nat → Int) (mx my : Int) (n : Nat) : Int := Sm n fun i => (x i - mx) * (y i - my)
theorem Cc_eq (x y : Nat → Int) (mx my : Int) : ∀ n, Cc x y mx my n = (Sm n fun i => x i * y i) - mx * Sm n y - my * Sm n x + n * (mx * my)
  | 0 => by simp [Cc, Sm]
  | n + 1 => by
    have h := Cc_eq x y mx my n
    unfold Cc at h ⊢
    rw [show Sm (n + 1) (fun i => (x i - mx) * (y i - my)) = Sm n (fun i => (x i - mx) * (y i - my)) + (x n - mx) * (y n - my) from rfl, h]
    simp only [Sm]
    push_cast
    grind
theorem Dd_Cc {x y : Nat → Int} {mx my : Int} {n : Nat} (hx : Sm n x = mx * n) (hy : Sm n y = my * n) : Dd x y n = n * Cc x y mx my n := by
  rw [Dd_eq, Cc_eq, hx, hy]
  grind
theorem Dd_scale (x y : Nat → Int) (c d : Int) (n : Nat) : Dd (fun i => x i * c) (fun i => y i * d) n = Dd x y n * (c * d) := by
  unfold Dd
  rw [← Sm_mul]
  refine Sm_congr fun i _ => ?_
  rw [← Sm_mul]
  refine Sm_congr fun j _ => ?_
  grind
theorem Sm_abs {f : Nat → Int} {B : Nat} : ∀ {n : Nat}, (∀ i, i < n → (f i).natAbs ≤ B) → (Sm n f).natAbs ≤ n * B
  | 0, _ => by simp [Sm]
  | n + 1, h => by
    have h1 := Sm_abs (n := n) fun i hi => h i (by omega)
    have h2 := h n (by omega)
    simp only [Sm]
    rw [Nat.add_mul]
    omega
theorem asum_bd {B : Nat} : ∀ {ks : List Int}, (∀ k ∈ ks, k.natAbs ≤ B) → asum ks ≤ ks.length * B
  | [], _ => by simp [asum]
  | k :: ks, h => by
    have h1 := asum_bd (ks := ks) fun q hq => h q (List.mem_cons_of_mem _ hq)
    have h2 := h k List.mem_cons_self
    simp only [asum, List.length_cons]
    rw [Nat.add_mul]
    omega
end Mine
end
section
open PySem PySem.W PyProof.Rows
namespace Mine
set_option maxRecDepth 100000 in
set_option maxHeartbeats 8000000 in
open_top hd02 for PySem.Challenge.rw_dn0169_02
end Mine
end
section
open PySem PySem.W PyProof.Rows
set_option linter.unusedVariables false
set_option maxRecDepth 100000
namespace Mine
noncomputable abbrev K2 (P : Params) : Frag := hd02.heap_39 P
theorem fn_cov (P : Params) : fnOk (K2 P) 62 (fdAt (K2 P) 12) (bdAt (K2 P) 12) :=
  ⟨⟨_, rfl, rfl⟩, ⟨61, _, _, _, rfl, rfl, rfl, rfl⟩, rfl, rfl, rfl, rfl, rfl⟩
theorem fn_near (P : Params) : fnOk (K2 P) 69 (fdAt (K2 P) 17) (bdAt (K2 P) 17) :=
  ⟨⟨_, rfl, rfl⟩, ⟨68, _, _, _, rfl, rfl, rfl, rfl⟩, rfl, rfl, rfl, rfl, rfl⟩
theorem fn_row (P : Params) : fnOk (K2 P) 74 (fdAt (K2 P) 20) (bdAt (K2 P) 20) :=
  ⟨⟨_, rfl, rfl⟩, ⟨73, _, _, _, rfl, rfl, rfl, rfl⟩, rfl, rfl, rfl, rfl, rfl⟩
theorem fn_moved (P : Params) : fnOk (K2 P) 79 (fdAt (K2 P) 23) (bdAt (K2 P) 23) :=
  ⟨⟨_, rfl, rfl⟩, ⟨78, _, _, _, rfl, rfl, rfl, rfl⟩, rfl, rfl, rfl, rfl, rfl⟩
theorem fn_law (P : Params) : fnOk (K2 P) 84 (fdAt (K2 P) 26) (bdAt (K2 P) 26) :=
  ⟨⟨_, rfl, rfl⟩, ⟨83, _, _, _, rfl, rfl, rfl, rfl⟩, rfl, rfl, rfl, rfl, rfl⟩
/-- the land, and covariance's table -/
structure LandT (K : Frag) (F : Fix) (c P : Addr) : Prop extends Land K F where
  gen : GenLand F c P
section
variable {F : Fix} {P : Params}
theorem Land.float (l : Land (K2 P) F) : GlobAt F "float" (.type "float") := l.bi rfl (by decide +kernel) (by decide)
theorem Land.type (l : Land (K2 P) F) : GlobAt F "type" (.type "type") := l.bi rfl (by decide +kernel) (by decide)
theorem Land.list (l : Land (K2 P) F) : GlobAt F "list" (.type "list") := l.bi rfl (by decide +kernel) (by decide)
theorem Land.tuple (l : Land (K2 P) F) : GlobAt F "tuple" (.type "tuple") := l.bi rfl (by decide +kernel) (by decide)
theorem Land.zip (l : Land (K2 P) F) : GlobAt F "zip" (.type "zip") := l.bi rfl (by decide +kernel) (by decide)
theorem Land.len (l : Land (K2 P) F) : GlobAt F "len" (.builtin "len") := l.bi rfl (by decide +kernel) (by decide)
theorem Land.sum (l : Land (K2 P) F) : GlobAt F "sum" (.builtin "sum") := l.bi rfl (by decide +kernel) (by decide)
theorem Land.abs (l : Land (K2 P) F) : GlobAt F "abs" (.builtin "abs") := l.bi rfl (by decide +kernel) (by decide)
theorem Land.fsum (l : Land (K2 P) F) : GlobAt F "fsum" (.builtin "math.fsum") := l.glob rfl
theorem Land.sumprod (l : Land (K2 P) F) : GlobAt F "sumprod" (.builtin "math.sumprod") := l.glob rfl
theorem Land.cov (l : Land (K2 P) F) : GlobAt F "covariance" (.ref 62) := l.glob rfl
theorem Land.near (l : Land (K2 P) F) : GlobAt F "_law_is_nearest" (.ref 69) := l.glob rfl
theorem Land.row (l : Land (K2 P) F) : GlobAt F "_law_row" (.ref 74) := l.glob rfl
theorem Land.moved (l : Land (K2 P) F) : GlobAt F "_law_moved" (.ref 79) := l.glob rfl
theorem Land.stat (l : Land (K2 P) F) : GlobAt F "StatisticsError" (.ref 52) := l.glob rfl
theorem strKeys_of {es : Array DictEntry} (h : es.toList.all (fun e => match e.key with | .str _ _ => true | _ => false) = true) : StrKeys es := by
  intro e he
  have := List.all_eq_true.mp h e (by simpa using he)
  split at this
  · rename_i n t hk; exact ⟨n, t, hk⟩
  · cases this
theorem Land.cls (l : Land (K2 P) F) : ExcCls F 52 := by
  refine ⟨_, _, _, _, _, _, _, _, _, _, _, _, _, _, _, _, l.kin 52 _ rfl, ⟨_, _, _, l.kin 51 _ rfl, rfl, ?_, fun _ => rfl⟩, ?_, ?_⟩
  · exact strKeys_of rfl
  · rfl
  · rfl
end
end Mine
end
section
open PySem PySem.W PyProof.Rows
set_option linter.unusedVariables false
set_option maxRecDepth 100000
namespace Mine
open PySem.Float64 (decode val add sub mul div isZero isFinite isInf ofInt)
variable {F : Fix} {P : Params}
def xUnlike : Exc := ⟨.ref 52, some "covariance requires that both inputs have same number of data points"⟩
def xFew : Exc := ⟨.ref 52, some "covariance requires at least two data points"⟩
/-- what covariance(x, y) comes to -/
inductive Cv (As Bs : List V) : Except Exc V → Prop
  | ok {fx fy sx : UInt64} {ds es : List UInt64} : As.length = Bs.length → 2 ≤ As.length → fsumRun [] As = some fx → fsumRun [] Bs = some fy → Subt (div fx (ofInt As.length)) As ds → Subt (div fy (ofInt As.length)) Bs es → spRun (.I 0 false) (ds.map .flt) (es.map .flt) = .ok (.flt sx) → Cv As Bs (.ok (.flt (div sx (ofInt ((As.length : Int) - 1)))))
  | unlike : As.length ≠ Bs.length → Cv As Bs (.error xUnlike)
  | few : As.length = Bs.length → As.length < 2 → Cv As Bs (.error xFew)
structure CvOk (As Bs : List V) : Prop where
  sA : As.length ≤ 70
  sB : Bs.length ≤ 70
  fA : ∀ (i : Nat) A, As[i]? = some A → A.fin
  fB : ∀ (i : Nat) A, Bs[i]? = some A → A.fin
abbrev CvQ (r : Except Exc V) : V → Prop := fun R => r = .ok R
abbrev CvX (r : Except Exc V) : Exc → Prop := fun x => r = .error x
theorem ofInt_small {n : Int} (h : n.natAbs ≤ 2 ^ 53) (h0 : n ≠ 0) : isInf (ofInt n) = false ∧ isZero (ofInt n) = false := by
  have hf : FV (ofInt n) (n * 2 ^ 1074) := FV.ofInt (rp_e (by decide) h)
  refine ⟨hf.notInf, ?_⟩
  rw [hf.isZero]
  simp only [decide_eq_false_iff_not]
  exact Int.mul_ne_zero h0 (Int.pow_ne_zero (by decide))
theorem bi_len {Γ : Cx} {loc : Loc} {Q : V → Loc → Prop} {X : Exc → Loc → Prop} {A : V} {As : List V} (hA : A = .lst As ∨ A = .tup As) (hz : As.length ≤ sizeLine) (h : Q (.int As.length) loc) : OpN Γ loc (fun vs => call (.builtin "len") vs) [A] (VQ Q) X := by
  rcases hA with rfl | rfl
  · exact bi_len_lst hz h
  · exact bi_len_tup hz h
set_option maxHeartbeats 4000000 in
theorem c_cov (l : LandT (K2 P) F 61 57) {A B : V} {As Bs : List V} (hA : A = .lst As ∨ A = .tup As) (hB : B = .lst Bs ∨ B = .tup Bs) {r : Except Exc V} (ok : CvOk As Bs) (cv : Cv As Bs r) :
    Calls F (.ref 62) 1 [.val A, .val B] [] [] (CvQ r) (CvX r) := by
  have iA : A.items = As := by rcases hA with rfl | rfl <;> rfl
  have iB : B.items = Bs := by rcases hB with rfl | rfl <;> rfl
  refine calls_of (names := ["x", "y"]) (l.fn (fn_cov P)) (by decide) (by intro x hx; simp at hx; rcases hx with rfl | rfl <;> exact .inl rfl) rfl (fun s vals kvals hb h1 h2 => ?_) fun A' L hr => ?_
  · match vals, kvals, h1, h2 with
    | [v, u], [], _, _ => exact kp_binds (l.kin.keeps hb) fun S => rfl
  · show Exs _ [("x", .val A), ("y", .val B)] _ _ _
    conv => arg 3; whnf
    refine exs_let (.inl rfl) (ev_builtin l.len (args_val (ev_name rfl (args_val_nil (bi_len hA (len6 ok.sA) ?_)))))
    refine exs_cons (ex_if (tst_cmp (ev_builtin l.len (args_val (ev_name rfl (args_val_nil (bi_len hB (len6 ok.sB) (ev_name rfl (cmp_ne ⟨_, rfl, ?_⟩)))))))))
    cases cv with
    | unlike hu =>
      rw [show ((Bs.length : Int) != (As.length : Int)) = true from by rw [bne_iff_ne]; omega]
      exact exs_cons (ex_raise l.cls l.stat hr.handled rfl)
    | few he h2 =>
      rw [show ((Bs.length : Int) != (As.length : Int)) = false from by rw [bne_eq_false_iff_eq]; omega]
      refine exs_nil (exs_cons (ex_if (tst_cmp (ev_name rfl (ev_int (cmp_lt ⟨_, rfl, ?_⟩))))))
      rw [decide_eq_true (by omega)]
      exact exs_cons (ex_raise l.cls l.stat hr.handled rfl)
    | @ok fx fy sx ds es he h2 f1 f2 s1 s2 hT =>
      rw [show ((Bs.length : Int) != (As.length : Int)) = false from by rw [bne_eq_false_iff_eq]; omega]
      refine exs_nil (exs_cons (ex_if (tst_cmp (ev_name rfl (ev_int (cmp_lt ⟨_, rfl, ?_⟩))))))
      rw [decide_eq_false (by omega)]
      have hsz := ok.sA
      have hn := ofInt_small (n := As.length) (by omega) (by omega)
      have hn1 := ofInt_small (n := (As.length : Int) - 1) (by omega) (by omega)
      refine exs_nil (exs_let (.inr ⟨rfl, rfl, rfl⟩) (ev_bin (ev_fsum l.fsum (.inl ⟨A, hA, rfl, rfl⟩) hr.handled (Nat.lt_of_le_of_lt ok.sA (by decide)) ok.fA (fun d hd => ?_) fun hd => ?_)))
      · rw [f1] at hd; cases hd
        refine ev_name rfl (op_div_fi hn.1 hn.2 ?_)
        refine exs_let (.inr ⟨rfl, rfl, rfl⟩) (ev_bin (ev_fsum l.fsum (.inl ⟨B, hB, rfl, rfl⟩) hr.handled (Nat.lt_of_le_of_lt ok.sB (by decide)) ok.fB (fun d hd => ?_) fun hd => ?_))
        · rw [f2] at hd; cases hd
          refine ev_name rfl (op_div_fi hn.1 hn.2 ?_)
          refine exs_let (.inl rfl) (ev_covsum (A := A) (B := B) (c := 61) (P := 57) l.sumprod l.gen hr.handled ?_ (bx := L + 1) (bY := L + 2) ⟨rfl, rfl, by decide, rfl, rfl, rfl, rfl, rfl, rfl, rfl, rfl, rfl, rfl, rfl, rfl, rfl, rfl, rfl⟩ ⟨rfl, rfl, by decide, rfl, rfl, rfl, rfl, rfl, rfl, rfl, rfl, rfl, rfl, rfl, rfl, rfl, rfl, rfl⟩ rfl ?_ rfl (by rw [iA]; exact s1) rfl ?_ rfl (by rw [iB]; exact s2) (by rw [iA, iB]; exact he) hT ?_)
          · exact hr.depth
          · rcases hA with rfl | rfl
            · exact .inl ⟨_, rfl⟩
            · exact .inr ⟨_, rfl⟩
          · rcases hB with rfl | rfl
            · exact .inl ⟨_, rfl⟩
            · exact .inr ⟨_, rfl⟩
          · refine exs_ret (ev_bin (ev_name rfl (ev_bin (ev_name rfl (ev_int (op_sub (op_div_fi hn1.1 hn1.2 ?_)))))))
            rfl
        · rw [f2] at hd; cases hd
      · rw [f1] at hd; cases hd
end Mine
end
section
open PySem PySem.W PyProof.Rows
set_option linter.unusedVariables false
set_option maxRecDepth 100000
namespace Mine
section
variable {prog : Program} {w : World} {A : Around} {E : Value → Shared → Prop} {s : Shared}
/-- (..)[lo:hi], the base a value on the way -/
theorem wp_slice_tmp {env : Env} {value : Expr} {lower upper : Option Expr} {p pos : Pos} {Q : Value → Shared → Prop}
    (h : wpAny (model prog w) A (eval value env) (fun o s₁ => wpAny (model prog w) A (evalPart lower env) (fun vl s₂ => wpAny (model prog w) A (evalPart upper env) (fun vu s₃ =>
      ∃ l items lo hi, o = .ref l ∧ s₃.heap.IsList l items ∧ items.size ≤ sizeLine ∧ IsPart vl lo ∧ IsPart vu hi ∧
        Q (.ref (s₃.heap.objs.size + 1)) { s₃ with heap := (s₃.heap.push { cls := .type "slice", data := .fields #[vl, vu, .none] }).push { cls := .type "list", data := .seq (slicePick items lo hi none) } }) E s₂) E s₁) E s) :
    wpAny (model prog w) A (eval (.Subscript value (.Slice lower upper none p) pos) env) Q E s := by
  rw [eval_Subscript]
  refine wpAny_bind (wpAny_mono h (fun o s₁ h₁ => wpAny_bind (wpAny_holding (wpAny_Slice (wpAny_mono h₁ (fun vl s₂ h₂ => wpAny_mono h₂ (fun vu s₃ h₃ => ?_) fun _ _ e => e) fun _ _ e => e)))) fun _ _ x => x)
  obtain ⟨l, items, lo, hi, rfl, hl, hsz, pl, pu, hQ⟩ := h₃
  rw [evalPart_none]
  refine wpAny_pure (wpAny_bind (wpAny_standAt ?_))
  refine wpAny_bind ?_
  rw [getitemInPython_of_ne (by intro z; cases z)]
  refine wpAny_bind (wpAny_specialOf (T := "list") (hl.push _).typeIs list_getitem_lookup ?_)
  refine wpAny_pure (wpAny_bind (wpAny_operating (wpAny_getItem_list_slice (hl.push _) (Heap.IsSliceOf.new ..) pl pu .none (by simp) ?_ hsz)))
  refine wpAny_bind (wpAny_letTemporaryGo (wpAny_pure ?_))
  rw [Heap.size_push]
  exact hQ
end
section
variable {Γ : Cx} {loc : Loc} {Q : V → Loc → Prop} {QF : Fl → Loc → Prop} {X : Exc → Loc → Prop} {a b : Int} {x y : Str} {As Bs : List V}
theorem ev_slice_tmp {value : Expr} {lower upper : Option Expr} {p pos : Pos} (h : Ev Γ loc value (VQ fun A l => ∃ As, A = .lst As ∧ As.length ≤ sizeLine ∧ Pt Γ l lower (fun lo l₁ => Pt Γ l₁ upper (fun hi l₂ => Q (.lst (slc As lo hi)) l₂) X) X) X) :
    Ev Γ loc (.Subscript value (.Slice lower upper none p) pos) (VQ Q) X := by
  intro H O s st
  refine wp_slice_tmp (wpAny_mono (h H O s st) (fun a s₁ pq => ?_) fun _ _ p => p)
  obtain ⟨H₁, O₁, l₁, lv, n₁, st₁, r₁, q₁⟩ := pq
  cases lv with
  | own _ _ => exact q₁.elim
  | itr _ => exact q₁.elim
  | val A =>
    obtain ⟨As, rfl, hz, q₁⟩ := q₁
    refine wpAny_mono (wp_pt q₁ st₁) (fun vl s₂ pq => ?_) fun _ _ p => p.back n₁
    obtain ⟨H₂, O₂, l₂, lo, n₂, st₂, pl, q₂⟩ := pq
    refine wpAny_mono (wp_pt q₂ st₂) (fun vu s₃ pq => ?_) fun _ _ p => p.back (n₁.trans n₂)
    obtain ⟨H₃, O₃, l₃, hi, n₃, st₃, pu, q₃⟩ := pq
    obtain ⟨b, o, xs, n, rfl, h2, h3, h4, h5⟩ := Rep.lst_of (H := H₁) r₁
    have h2' := n₃.hle _ _ (n₂.hle _ _ h2)
    have hl : xs.size = As.length := by rw [← h5.length]; simp
    refine ⟨b, xs, lo, hi, rfl, ⟨o, st₃.agree _ _ h2', h3, n, h4⟩, by rw [hl]; exact hz, pl, pu, slice_end (b := b) ((n₁.trans n₂).trans n₃) st₃ (h5.mono (n₂.hle.trans n₃.hle)) q₃⟩
theorem op_ifdiv (hb : b ≠ 0) (hp : Builtin.divisionGoesByPylong a b = false) (h : Q (.int (a.fdiv b)) loc) : Op2 Γ loc (inplaceOp .FloorDiv) (.int a) (.int b) Q X := fun H O s va vb st ra rb => by
  obtain ⟨t, rfl⟩ := ra.int_of; obtain ⟨t', rfl⟩ := rb.int_of
  exact AutoIntOps.ifloordiv_1 (by simpa using hb) (by rw [hp]; decide) (PostV.here st (rep_int ..) h _)
theorem op_imul (h : Q (.int (a * b)) loc) (hm : IntMulOk a b) : Op2 Γ loc (inplaceOp .Mult) (.int a) (.int b) Q X := fun H O s va vb st ra rb => by
  obtain ⟨t, rfl⟩ := ra.int_of; obtain ⟨t', rfl⟩ := rb.int_of; exact imul_int (PostV.here st (rep_int ..) h _) hm
theorem op_isub (h : Q (.int (a - b)) loc) : Op2 Γ loc (inplaceOp .Sub) (.int a) (.int b) Q X := fun H O s va vb st ra rb => by
  obtain ⟨t, rfl⟩ := ra.int_of; obtain ⟨t', rfl⟩ := rb.int_of; exact isub_int (PostV.here st (rep_int ..) h _)
/-- float(v) of a float -/
theorem bi_floatF {y : UInt64} (h : Q (.flt y) loc) : OpN Γ loc (fun vs => call (.type "float") vs) [.flt y] (VQ Q) X := fun H O s vs st r => by
  simp only [Reps] at r
  obtain ⟨v, _, rfl, hy, rfl⟩ := r
  obtain ⟨t, rfl⟩ := hy.flt_of
  exact call_float_float (PostV.here' st (rep_flt ..) h)
theorem cmp_is_con {c : Value} (hp : plainIs c c = true) (h : Q (.bool true) loc) : Op2 Γ loc (compareOp .Is) (.con c) (.con c) Q X := fun H O s va vb st ra rb => by
  cases ra.con_of; cases rb.con_of
  exact wpAny_is_self hp (PostV.here' st (rep_bool ..) h)
/-- e.bit_length(), e an int -/
theorem ev_bits {e : Expr} {apos pos : Pos} (h : Ev Γ loc e (VQ fun A l => ∃ i, A = .int i ∧ Q (.int (Builtin.Int.intBits i)) l) X)
    (he : ∃ pl, eval (.Call (.Attribute e (Str.ofString "bit_length") apos) [] [] pos) Γ.env = (do
      let ov ← eval e Γ.env
      standAt apos.atName
      let (f, first) ← holding [ov] (getMethod ov (Str.ofString "bit_length") pl)
      callWith pos f first (backTo pos (starEach [] Γ.env)) []) := by exact ⟨_, rfl⟩) :
    Ev Γ loc (.Call (.Attribute e (Str.ofString "bit_length") apos) [] [] pos) (VQ Q) X := by
  intro H O s st
  obtain ⟨pl, he⟩ := he
  refine MethodCall_ (pl := pl) (wpAny_mono (h H O s st) (fun v s₁ p => ?_) fun _ _ p => p) he
  obtain ⟨H₁, O₁, l₁, lv, n₁, st₁, r₁, q₁⟩ := p
  cases lv with
  | own _ _ => exact q₁.elim
  | itr _ => exact q₁.elim
  | val A =>
    obtain ⟨i, rfl, q₁⟩ := q₁
    obtain ⟨t, rfl⟩ := Rep.int_of (H := H₁) r₁
    refine getMethod_int_bit_length ?_
    refine callWith_method0 ?_
    refine call_int_bit_length ?_
    exact (PostV.here st₁ (rep_int ..) q₁ _).back n₁
end
end Mine
end
section
open PySem PySem.W PyProof.Rows
set_option linter.unusedVariables false
set_option maxRecDepth 100000
namespace Mine
/-- the state of a zip of two lists -/
def ZipW (z TI TO i1 i2 l1 l2 : Addr) (xs ys : Array Value) (i : Nat) (h : Heap) : Prop :=
  IsZip h z TI TO .none ∧ IsPair h TI (.ref i1) (.ref i2) ∧ (∃ a b, IsPair h TO a b) ∧ h.IsListIter i1 l1 i ∧ h.IsListIter i2 l2 i ∧ h.IsList l1 xs ∧ h.IsList l2 ys
/-- a zip, new since h₀ -/
def ZipNew (h₀ h : Heap) (ps qs : List Int) (v : Value) : Prop :=
  ∃ z TI TO i1 i2 l1 l2 xs ys, v = .ref z ∧ ZipApart z TI TO i1 i2 l1 l2 ∧ ZipW z TI TO i1 i2 l1 l2 xs ys 0 h ∧ (∀ H : Hm, Reps H (ps.map .int) xs.toList ∧ Reps H (qs.map .int) ys.toList) ∧
    (∀ b ∈ [z, TO, i1, i2], h₀.get? b = none) ∧ ∀ b o, h₀.get? b = some o → h.get? b = some o
theorem zip_apart (n l1 l2 : Nat) (h1 : l1 < n) (h2 : l2 < n) : ZipApart (n + 4) (n + 2) (n + 3) n (n + 1) l1 l2 := by
  constructor <;> (refine show (_ : Nat) ≠ _ from ?_; omega)
section
variable {prog : Program} {w : World} {A : Around} {E : Value → Shared → Prop} {s : Shared}
theorem reps_int_at {H : Hm} {ps : List Int} {xs : Array Value} (h : Reps H (ps.map .int) xs.toList) {i : Nat} {x : Value} (hx : xs[i]? = some x) : i < ps.length ∧ ∃ t, x = .int (ps.getD i 0) t := by
  have hl := h.length
  have hlt : i < ps.length := by
    have := (Array.getElem?_eq_some_iff.mp hx).1
    simp at hl
    omega
  obtain ⟨y, hy, ry⟩ := h.get (i := i) (A := .int (ps.getD i 0)) (by rw [List.getElem?_map, List.getElem?_eq_getElem hlt, List.getD_eq_getElem?_getD, List.getElem?_eq_getElem hlt]; rfl)
  rw [Array.getElem?_toList, hx] at hy
  cases hy
  exact ⟨hlt, ry.int_of⟩
theorem reps_int_any {ps : List Int} {H : Hm} {xs : List Value} (h : Reps H (ps.map .int) xs) : ∀ H', Reps H' (ps.map .int) xs := fun H' =>
  Reps.scals (fun B hB => by obtain ⟨y, _, rfl⟩ := List.mem_map.mp hB; trivial) h
set_option maxHeartbeats 1000000 in
/-- [a * b for a, b in zip(ps, qs)] -/
theorem wp_zipmul {env : Env} {a b : Str} {pa pb p1 p2 pe tp pos : Pos} {kk : Nat} {iter : Expr} {scope : Scope} {ps qs : List Int} {Q : Value → Shared → Prop} (hh : A.handled = none)
    (hclos : closureFor scope env = pure []) (hcell : ∀ y ∈ scope.names, y.2 ≠ .cell) (hkind : scope.kind = .function)
    (hnames : ∀ y ∈ scope.names, y.2 = .local → scope.names.lookup y.1 = some .local) (hxa : scope.names.lookup a = some .local) (hxb : scope.names.lookup b = some .local) (hab : ¬ a = b)
    (d1 : (a == ("__debug__" : Str)) = false) (d2 : (a == ("__classdict__" : Str)) = false) (d3 : (b == ("__debug__" : Str)) = false) (d4 : (b == ("__classdict__" : Str)) = false)
    (hlen : qs.length = ps.length) (hsz : ps.length ≤ sizeLine) (hm : ∀ i, i < ps.length → IntMulOk (ps.getD i 0) (qs.getD i 0))
    (hi : wpAny (model prog w) A (eval iter env) (fun v s₁ => ZipNew s.heap s₁.heap ps qs v ∧ s₁ = { s with heap := s₁.heap }) E s)
    (k : ∀ D h' tk rs, s.heap.get? D = none → h'.PlainList D rs → (∀ H : Hm, Reps H ((List.zipWith (· * ·) ps qs).map .int) rs.toList) → (∀ b o, s.heap.get? b = some o → h'.get? b = some o) → Q (.ref D) { s with heap := h', toks := tk })
    (hs : ∀ x, foldedSetIterable iter env x = pure x) :
    wpAny (model prog w) A (eval (.ListComp (.BinOp (.Name a p1) .Mult (.Name b p2) pe) [⟨.Tuple [.Name a pa, .Name b pb] kk tp, iter, [], 0⟩] scope pos) env) Q E s := by
  rw [eval_ListComp]
  refine wpAny_comprehension_free (use := none) rfl hs hclos hkind hnames (wpAny_mono hi (fun v s₁ h₁ => ?_) fun _ _ e => e)
  obtain ⟨⟨z, TI, TO, i1, i2, l1, l2, xs, ys, rfl, D, hw, hr, hnew, hkeep⟩, hs₁⟩ := h₁
  rw [hs₁]
  generalize s₁.heap = hp₁ at *
  clear hs₁ s₁
  have hxl : xs.size = ps.length := by have := (hr fun _ => none).1.length; simpa using this
  have hyl : ys.size = ps.length := by have := (hr fun _ => none).2.length; simpa [hlen] using this
  have W := WalksT.zip2 (prog := prog) (w := w) (A := A) hh z TI TO i1 i2 l1 l2 D xs ys
  have hmin : min xs.size ys.size = ps.length := by omega
  rw [hmin] at W
  refine wpAny_pyIter_zip (s := { s with heap := hp₁ }) hw.1 ?_
  refine wpAny_newObj_type (wpAny_newFunctionEnv hcell (by intro y hy; simp at hy) (fun h₁ hns₁ hsb₁ => ?_) hkind)
  dsimp only at hns₁ hsb₁ ⊢
  generalize hH2 : hp₁.push { cls := .type "list", dict := none, data := .seq ([] : List Value).toArray } = H2 at hns₁ hsb₁ ⊢
  have hC : H2.objs.size = hp₁.objs.size + 1 := by rw [← hH2, Heap.size_push]
  have hDC : hp₁.objs.size ≠ H2.objs.size := by omega
  have below : ∀ b, b < hp₁.objs.size → b ≠ H2.objs.size ∧ b ≠ hp₁.objs.size := fun b hb => ⟨by omega, by omega⟩
  have old : ∀ b o, hp₁.get? b = some o → h₁.get? b = some o := fun b o e => hsb₁.extBut b o (below b (Heap.lt_size e)).1 (Heap.get?_push_of_some _ (hH2 ▸ Heap.get?_push_of_some _ e))
  have hacc : h₁.PlainList hp₁.objs.size #[] := ⟨_, hsb₁.extBut _ _ hDC (Heap.get?_push_of_some _ (hH2 ▸ Heap.get?_push_size _ rfl))⟩
  have hwr : ∀ b ∈ [z, TI, TO, i1, i2, l1, l2], b < hp₁.objs.size := by
    intro b hb
    obtain ⟨w1, w2, ⟨_, _, w3⟩, ⟨_, w4, _⟩, ⟨_, w5, _⟩, ⟨_, w6, _⟩, ⟨_, w7, _⟩⟩ := hw
    simp only [List.mem_cons, List.not_mem_nil, or_false] at hb
    rcases hb with rfl | rfl | rfl | rfl | rfl | rfl | rfl
    · exact Heap.lt_size w1
    · exact Heap.lt_size w2
    · exact Heap.lt_size w3
    · exact Heap.lt_size w4
    · exact Heap.lt_size w5
    · exact Heap.lt_size w6
    · exact Heap.lt_size w7
  have wrC : ∀ b, b ∈ [z, TO, i1, i2] → b ≠ H2.objs.size ∧ b ≠ hp₁.objs.size := fun b hb => below b (hwr b (W.sub b hb))
  have hw₁ : ZipW z TI TO i1 i2 l1 l2 xs ys 0 h₁ := W.frame _ _ _ hw fun b _ o e => old b o e
  have loop : ∀ s₃ : Shared, s₃ = { s with heap := h₁, toks := s.toks + ([] : List (Str × Value)).length } →
      codeAny (model prog w) A (.compLoop (.ListComp (.BinOp (.Name a p1) .Mult (.Name b p2) pe) [⟨.Tuple [.Name a pa, .Name b pb] kk tp, iter, [], 0⟩] scope pos) 0 (.ref z) (.ref hp₁.objs.size) (compEnvC scope [] H2.objs.size env))
        (compPost (model prog w) A E none Q (.ref hp₁.objs.size) H2.objs.size) s₃ := by
    rintro s₃ rfl
    refine kcp_loop
      (fun k s' => ∃ h' tk i rs m', s' = { s with heap := h', toks := tk } ∧ i ≤ ps.length ∧ k = ps.length + 1 - i ∧ ZipW z TI TO i1 i2 l1 l2 xs ys i h' ∧ h'.Ns H2.objs.size m' ∧ h'.PlainList hp₁.objs.size rs ∧
        (∀ H : Hm, Reps H (((List.zipWith (· * ·) ps qs).take i).map .int) rs.toList) ∧ (∀ b o, b ∉ [z, TO, i1, i2] → hp₁.get? b = some o → h'.get? b = some o)) ?_ (ps.length + 1)
      ⟨h₁, _, 0, #[], _, rfl, Nat.zero_le _, rfl, hw₁, hns₁, hacc, fun H => reps_nil H, fun b o _ e => old b o e⟩
    rintro n s' ⟨h', tk, i, rs, m', rfl, hi, rfl, hw', hn', hD', hR', hk'⟩
    have hrl : rs.size ≤ sizeLine := by
      have := (hR' fun _ => none).length
      simp only [Array.length_toList, List.length_map, List.length_take] at this
      omega
    by_cases hlt : i < ps.length
    · refine W.item i _ _ _ hlt hw' fun T vals h₂ tk₂ hP hT₀ hT hMd hk₂ => ?_
      obtain ⟨x, y, hx, hy, rfl⟩ := hP
      have hTw := W.apart i T h₂ hMd
      refine W.go _ _ _ i T _ _ _ hMd fun h₃ hw₃ hk₃ => ?_
      have up₃ : ∀ c o, c ∉ [z, TO, i1, i2] → h'.get? c = some o → h₃.get? c = some o := fun c o hc e => hk₃ c o hc (hk₂ c o hc e)
      have hT₃ : h₃.IsTuple T #[x, y] := hT.at fun o e => hk₃ T o hTw e
      have cC : H2.objs.size ∉ [z, TO, i1, i2] := fun q => (wrC _ q).1 rfl
      have cD : hp₁.objs.size ∉ [z, TO, i1, i2] := fun q => (wrC _ q).2 rfl
      refine kcp_assign (env := compEnvC scope [] H2.objs.size env) hh hT₃ (lookup_relabel_local hxa) (lookup_relabel_local hxb) (by simp [compEnvC, relabel, hkind]) (hn'.at' fun o e => up₃ _ o cC e) fun h₄ tk₄ hn₄ hs₄ => ?_
      obtain ⟨_, t1, rfl⟩ := reps_int_at (hr fun _ => none).1 hx
      obtain ⟨_, t2, rfl⟩ := reps_int_at (hr fun _ => none).2 hy
      have va : VarIs (compEnvC scope [] H2.objs.size env) h₄ a (.int (ps.getD i 0) t1) := .inl ⟨lookup_relabel_local hxa, _, hn₄, by simp [hab]⟩
      have vb : VarIs (compEnvC scope [] H2.objs.size env) h₄ b (.int (qs.getD i 0) t2) := .inl ⟨lookup_relabel_local hxb, _, hn₄, by simp⟩
      refine wpAny_BinOp (wpAny_Name (wp_var (by simp [compEnvC, relabel, hkind]) va (wpAny_Name (wp_var (by simp [compEnvC, relabel, hkind]) vb (PyProof.Rows.mul_int ?_ (hm i hlt)) d4) d3) d2) d1)
      have up₄ : ∀ c o, c ∉ [z, TO, i1, i2] → c ≠ H2.objs.size → h'.get? c = some o → h₄.get? c = some o := fun c o hc h2 e => hs₄ c o h2 (up₃ c o hc e)
      have hD₄ : h₄.PlainList hp₁.objs.size rs := hD'.at fun o e => up₄ _ o cD hDC e
      refine wpAny_list_append_plain hD₄ (fun h₅ hD₅ hs₅ => ?_) hrl
      refine ⟨ps.length + 1 - (i + 1), by omega, h₅, _, i + 1, _, _, rfl, hlt, rfl, ?_, hn₄.sameBut hs₅ (Ne.symm hDC), hD₅, fun H => ?_, fun b o hb e => ?_⟩
      · refine W.frame _ _ _ hw₃ fun b hb o e => hs₅.extBut b o (below b (hwr b hb)).2 (hs₄ b o (below b (hwr b hb)).1 e)
      · have hz : (List.zipWith (· * ·) ps qs)[i]? = some (ps.getD i 0 * qs.getD i 0) := by
          rw [List.getElem?_zipWith, List.getElem?_eq_getElem hlt, List.getElem?_eq_getElem (show i < qs.length by omega), List.getD_eq_getElem?_getD, List.getD_eq_getElem?_getD, List.getElem?_eq_getElem hlt, List.getElem?_eq_getElem (show i < qs.length by omega)]; rfl
        rw [List.take_add_one, hz, List.map_append, Array.toList_push]
        exact (hR' H).append (reps_cons (rep_int ..) (reps_nil _))
      · exact hs₅.extBut b o (below b (Heap.lt_size e)).2 (up₄ b o hb (below b (Heap.lt_size e)).1 (hk' b o hb e))
    · have hin : i = ps.length := by omega
      subst hin
      refine W.done _ _ _ hw' fun h₂ tk₂ hk₂ => ?_
      have cC : H2.objs.size ∉ [z, TO, i1, i2] := fun q => (wrC _ q).1 rfl
      have cD : hp₁.objs.size ∉ [z, TO, i1, i2] := fun q => (wrC _ q).2 rfl
      refine ⟨m', hn'.at' fun o e => hk₂ _ o cC e, fun h'' hsb => ?_⟩
      refine k _ h'' tk₂ rs ?_ ((hD'.at fun o e => hk₂ _ o cD e).at fun o e => hsb.extBut _ o hDC e) (fun H => ?_) fun b o e => ?_
      · cases e : s.heap.get? hp₁.objs.size with
        | none => rfl
        | some o => exact absurd (Heap.lt_size (hkeep _ _ e)) (Nat.lt_irrefl _)
      · have := hR' H
        rw [List.take_of_length_le (by rw [List.length_zipWith]; omega)] at this
        exact this
      · have e₁ := hkeep b o e
        have hb : b ∉ [z, TO, i1, i2] := fun q => by rw [hnew b q] at e; cases e
        exact hsb.extBut b o (below b (Heap.lt_size e₁)).1 (hk₂ b o hb (hk' b o hb e₁))
  exact codeAny_compStart_list (loop _ rfl) (wpAny_pyIter_zip hw₁.1 (loop _ rfl))
end
section
variable {Γ : Cx} {loc : Loc} {Q : V → Loc → Prop} {X : Exc → Loc → Prop} {x y : Str}
/-- [a * b for a, b in zip(x, y)] of two lists of ints -/
theorem ev_zipmul {a b : Str} {pa pb p1 p2 pe tp pos pz px py pc : Pos} {kk : Nat} {scope : Scope} {ps qs : List Int} (g : GlobAt Γ.F "zip" (.type "zip")) (hh : Γ.A.handled = none) (hx : Has loc x (.lst (ps.map .int))) (hy : Has loc y (.lst (qs.map .int)))
    (hlen : qs.length = ps.length) (hsz : ps.length ≤ sizeLine) (hm : ∀ i, i < ps.length → IntMulOk (ps.getD i 0) (qs.getD i 0)) (q : Q (.lst ((List.zipWith (· * ·) ps qs).map .int)) loc)
    (hclos : closureFor scope Γ.env = pure []) (hcell : ∀ y ∈ scope.names, y.2 ≠ .cell) (hkind : scope.kind = .function)
    (hnames : ∀ y ∈ scope.names, y.2 = .local → scope.names.lookup y.1 = some .local) (hxa : scope.names.lookup a = some .local) (hxb : scope.names.lookup b = some .local) (hab : ¬ a = b)
    (d1 : (a == ("__debug__" : Str)) = false) (d2 : (a == ("__classdict__" : Str)) = false) (d3 : (b == ("__debug__" : Str)) = false) (d4 : (b == ("__classdict__" : Str)) = false)
    (hk : Γ.env.kindOf "zip" = some .globalImplicit := by rfl) (hg : Γ.env.globals = mainGlobals := by rfl) (hb : Γ.env.builtins = builtinsNs := by rfl)
    (hdx : (x == ("__debug__" : Str)) = false := by decide) (hn : (x == ("__classdict__" : Str)) = false := by decide) (hdy : (y == ("__debug__" : Str)) = false := by decide) (hny : (y == ("__classdict__" : Str)) = false := by decide)
    (hs : ∀ v, foldedSetIterable (.Call (.Name "zip" pz) [.Name x px, .Name y py] [] pc) Γ.env v = pure v := by intro _; rfl) :
    Ev Γ loc (.ListComp (.BinOp (.Name a p1) .Mult (.Name b p2) pe) [⟨.Tuple [.Name a pa, .Name b pb] kk tp, .Call (.Name "zip" pz) [.Name x px, .Name y py] [] pc, [], 0⟩] scope pos) (VQ Q) X := by
  intro H O s st
  obtain ⟨v, hv, rv⟩ := st.vars x _ hx
  obtain ⟨u, hu, ru⟩ := st.vars y _ hy
  obtain ⟨l1, o1, xs, n1, rfl, e1, c1, f1, r1⟩ := Rep.lst_of (H := H) rv
  obtain ⟨l2, o2, ys, n2, rfl, e2, c2, f2, r2⟩ := Rep.lst_of (H := H) ru
  have L1 : s.heap.IsList l1 xs := ⟨o1, st.agree _ _ e1, c1, n1, f1⟩
  have L2 : s.heap.IsList l2 ys := ⟨o2, st.agree _ _ e2, c2, n2, f2⟩
  refine wp_zipmul hh hclos hcell hkind hnames hxa hxb hab d1 d2 d3 d4 hlen hsz hm ?_ ?_ hs
  · refine wpAny_Call_Name_kw (Calls.Name_function_global st.kind hk (wp_glob st g ?_ hg hb) (by decide))
    show wpAny _ _ (callWith pc (.type "zip") [] _ []) _ _ _
    refine PySem.callWith_type (by rfl) (Calls.evalArgs_plain ?_)
    refine wpAny_items_cons (wpAny_Name (wp_var st.kind hv (wpAny_items_cons (wpAny_Name (wp_var st.kind hu (wpAny_items_nil ?_) hny) hdy)) hn) hdx)
    refine call_zip_2 L1 L2 fun h' z1 z2 z3 z4 z5 z6 z7 => ?_
    have lt1 : l1 < s.heap.objs.size := Heap.lt_size (st.agree _ _ e1)
    have lt2 : l2 < s.heap.objs.size := Heap.lt_size (st.agree _ _ e2)
    refine ⟨⟨_, _, _, _, _, l1, l2, xs, ys, rfl, ?_, ⟨z1, z2, ⟨_, _, z3⟩, z4, z5, L1.at fun o e => z7 _ o e, L2.at fun o e => z7 _ o e⟩, fun H' => ⟨reps_int_any r1 H', reps_int_any r2 H'⟩, ?_, z7⟩, rfl⟩
    · exact zip_apart _ _ _ lt1 lt2
    · intro b hb
      apply Heap.get?_none_of_le
      simp only [List.mem_cons, List.not_mem_nil, or_false] at hb
      rcases hb with rfl | rfl | rfl | rfl
      · exact Nat.le_add_right _ _
      · exact Nat.le_add_right _ _
      · exact Nat.le_refl _
      · exact Nat.le_add_right _ _
  · intro D h' tk rs hD hl hr hk'
    obtain ⟨no, eo⟩ := hl
    exact PostV.made st hk' hD eo (seq_nodict rfl) (rep_new_lst (st.foreign hD).hm rfl rfl (hr H)) q
end
end Mine
end
section
open PySem PySem.W PyProof.Rows
set_option linter.unusedVariables false
set_option maxRecDepth 100000
set_option exponentiation.threshold 5000
namespace Mine
open PySem.Float64 (decode val add sub mul div neg isZero isFinite isInf ofInt sgn)
variable {F : Fix} {P : Params}
theorem bits_lt {a : Int} {n : Nat} (h : a.natAbs < 2 ^ n) : Builtin.Int.intBits a ≤ n := by
  unfold Builtin.Int.intBits
  split
  · exact Nat.zero_le _
  · rename_i c
    have h0 : a.natAbs ≠ 0 := by simpa using c
    have := (Nat.log2_lt h0).mpr h
    omega
theorem mulOk_big {a b : Int} (ha : a.natAbs < 2 ^ 4000) (hb : b.natAbs < 2 ^ 4000) : IntMulOk a b := by
  have h1 := bits_lt ha
  have h2 := bits_lt hb
  unfold IntMulOk
  intro h
  have h3 := (Bool.and_eq_true _ _ ▸ h).2
  unfold Builtin.Int.intTooBig at h3
  simp only [decide_eq_true_eq] at h3
  have h4 : 8000 ≤ bitsLine := by decide
  clear ha hb h
  omega
theorem nearB {q k j N D M : Nat} (hq1 : 2 ^ 52 ≤ q) (hq2 : q < 2 ^ 53) (hN : N * 2 ^ 1074 = q * 2 ^ (k + 1) * 2 ^ j) (h0 : N ≠ 0) (hM : 0 < M)
    (lo : M * ((2 * q - 1) * 2 ^ k) < D * 2 ^ 1074) (hi : D * 2 ^ 1074 < M * ((2 * q + 1) * 2 ^ k)) :
    ((D : Int) * (2 ^ j : Nat) - N * M).natAbs * 2 ^ 54 < 2 ^ (N.log2 + 1) * M := by
  have l1 : 2 ^ N.log2 ≤ N := Nat.log2_self_le h0
  have l2 : N < 2 ^ (N.log2 + 1) := Nat.lt_log2_self
  have lo1 : 2 ^ (53 + k + j) ≤ N * 2 ^ 1074 := by
    rw [hN, show 53 + k + j = 52 + (k + 1) + j by omega, Nat.pow_add 2 (52 + (k + 1)) j, Nat.pow_add 2 52 (k + 1)]
    exact Nat.mul_le_mul_right _ (Nat.mul_le_mul_right _ hq1)
  have hi1 : N * 2 ^ 1074 < 2 ^ (54 + k + j) := by
    rw [hN, show 54 + k + j = 53 + (k + 1) + j by omega, Nat.pow_add 2 (53 + (k + 1)) j, Nat.pow_add 2 53 (k + 1)]
    exact Nat.mul_lt_mul_of_pos_right (Nat.mul_lt_mul_of_pos_right hq2 (Nat.two_pow_pos _)) (Nat.two_pow_pos _)
  have a1 : 2 ^ (N.log2 + 1074) < 2 ^ (54 + k + j) := by
    rw [Nat.pow_add 2 N.log2]
    exact Nat.lt_of_le_of_lt (Nat.mul_le_mul_right _ l1) hi1
  have a2 : 2 ^ (53 + k + j) < 2 ^ (N.log2 + 1 + 1074) := by
    rw [Nat.pow_add 2 (N.log2 + 1)]
    exact Nat.lt_of_le_of_lt lo1 (Nat.mul_lt_mul_of_pos_right l2 (Nat.two_pow_pos _))
  have b1 := (Nat.pow_lt_pow_iff_right (by decide)).mp a1
  have b2 := (Nat.pow_lt_pow_iff_right (by decide)).mp a2
  have hB : 2 ^ (N.log2 + 1) * 2 ^ 1074 = 2 ^ 54 * 2 ^ k * 2 ^ j := by
    rw [← Nat.pow_add, ← Nat.pow_add, ← Nat.pow_add]
    congr 1
    omega
  generalize 2 ^ (N.log2 + 1) = B at *
  have hK : 0 < 2 ^ 1074 := Nat.two_pow_pos _
  generalize hKK : 2 ^ 1074 = K at *
  have hJ : 0 < 2 ^ j := Nat.two_pow_pos _
  rw [Nat.pow_succ] at hN
  generalize 2 ^ j = J at *
  generalize 2 ^ k = T at *
  refine Nat.lt_of_mul_lt_mul_right (a := K) ?_
  have e1 : ((D : Int) * (J : Nat) - N * M).natAbs * K = (J * (D * K) - J * (2 * q * (M * T)) : Int).natAbs := by
    have : ((D : Int) * (J : Nat) - N * M) * K = (J * (D * K) - J * (2 * q * (M * T)) : Int) := by
      have h1 : (N : Int) * K = q * (T * 2) * J := by exact_mod_cast hN
      rw [Int.sub_mul, show (N : Int) * M * K = M * (N * K) by ac_rfl, h1]
      congr 1
      · ac_rfl
      · ac_rfl
    rw [← this, Int.natAbs_mul, Int.natAbs_natCast]
  have e2 : (J * (D * K) - J * (2 * q * (M * T)) : Int).natAbs < J * (M * T) := by
    rw [← Int.mul_sub, Int.natAbs_mul, Int.natAbs_natCast]
    refine Nat.mul_lt_mul_of_pos_left ?_ hJ
    have p1 : M * ((2 * q - 1) * T) = 2 * q * (M * T) - M * T := by
      rw [show M * ((2 * q - 1) * T) = (2 * q - 1) * (M * T) by ac_rfl, Nat.sub_mul, Nat.one_mul]
    have p2 : M * ((2 * q + 1) * T) = 2 * q * (M * T) + M * T := by
      rw [show M * ((2 * q + 1) * T) = (2 * q + 1) * (M * T) by ac_rfl, Nat.add_mul, Nat.one_mul]
    rw [p1] at lo
    rw [p2] at hi
    have p3 : (2 * (q : Int) * ((M : Int) * T)) = ((2 * q * (M * T) : Nat) : Int) := by push_cast; rfl
    have p4 : ((D : Int) * K) = ((D * K : Nat) : Int) := by push_cast; rfl
    have p5 : M * T ≤ 2 * q * (M * T) := Nat.le_mul_of_pos_left _ (by omega)
    rw [p3, p4]
    generalize 2 * q * (M * T) = U at *
    generalize D * K = W at *
    generalize M * T = Z at *
    omega
  calc ((D : Int) * (J : Nat) - N * M).natAbs * 2 ^ 54 * K = ((D : Int) * (J : Nat) - N * M).natAbs * K * 2 ^ 54 := by ac_rfl
    _ < J * (M * T) * 2 ^ 54 := by rw [e1]; exact Nat.mul_lt_mul_of_pos_right e2 (by decide)
    _ = 2 ^ 54 * T * J * M := by ac_rfl
    _ = B * K * M := by rw [hB]
    _ = B * M * K := by ac_rfl
theorem ratio_zero {r : UInt64} (h : FV r 0) : ∃ sg m e D, decode r = .fin sg m e ∧ Float64.ratio m e = (0, D) := by
  obtain ⟨⟨s, m, e, hd⟩, hval⟩ := h
  have hve := PySem.Float64.val_natAbs hd
  rw [hval] at hve
  have hm : m = 0 := by
    rcases Nat.mul_eq_zero.mp hve.symm with h | h
    · exact h
    · exact absurd h (Nat.ne_of_gt (Nat.two_pow_pos _))
  subst hm
  refine ⟨s, 0, e, (PySem.Float64.ratio 0 e).2, hd, ?_⟩
  refine Prod.ext ?_ rfl
  unfold PySem.Float64.ratio PySem.Float64.shift
  by_cases c : e ≥ 0 <;> simp [c]
theorem ratio_signed {r : UInt64} {v : Nat} {due : Int} (h : FV r (if due < 0 then -(v : Int) else v)) (hv : v ≠ 0) : ∃ m e N j, decode r = .fin (decide (due < 0)) m e ∧ Float64.ratio m e = (N, 2 ^ j) ∧ N * 2 ^ 1074 = v * 2 ^ j ∧ j ≤ 1074 := by
  by_cases c : due < 0
  · rw [if_pos c] at h
    have h2 := h.neg
    rw [Int.neg_neg] at h2
    obtain ⟨m, e, N, j, h3, h4⟩ := ratio_pow h2 hv
    obtain ⟨⟨s, m', e', hd⟩, _⟩ := h
    have := PySem.Float64.neg_decode hd
    rw [h3] at this
    injection this with a1 a2 a3
    subst a2 a3
    refine ⟨_, _, N, j, ?_, h4⟩
    rw [decide_eq_true c, hd]
    cases s
    · cases a1
    · rfl
  · rw [if_neg c] at h
    obtain ⟨m, e, N, j, h3, h4⟩ := ratio_pow h hv
    exact ⟨m, e, N, j, by rw [decide_eq_false c]; exact h3, h4⟩
theorem abs_ite (a : Int) : (if a < 0 then -a else a) = (a.natAbs : Int) := by split <;> omega
theorem pow54 : ((2 : Int) ^ (54 : Int).toNat) = 2 ^ 54 := rfl
set_option maxHeartbeats 4000000 in
theorem c_near (l : Land (K2 P) F) {r : UInt64} {n m : Int} (hm : 0 < m) (hm2 : m.natAbs < 2 ^ 2000) (hn2 : n.natAbs < 2 ^ 2000) (h : NearQ r n m) :
    Calls F (.ref 69) 1 [.val (.flt r), .val (.int n), .val (.int m)] [] [] (fun R => R = .bool true) (fun _ => False) := by
  refine calls_of (names := ["told", "over", "under"]) (l.fn (fn_near P)) (by decide) (by intro x hx; simp at hx; rcases hx with rfl | rfl | rfl <;> exact .inl rfl) rfl (fun s vals kvals hb h1 h2 => ?_) fun A L hr => ?_
  · match vals, kvals, h1, h2 with
    | [v, u, w], [], _, _ => exact .of_eq rfl
  · have sts : ∀ x ∈ (["up", "down"] : List Str), (F.fn A (fdAt (K2 P) 17) 69 L).stores x := by intro x hx; simp at hx; rcases hx with rfl | rfl <;> exact .inl rfl
    show Exs _ [("told", .val (.flt r)), ("over", .val (.int n)), ("under", .val (.int m))] _ _ _
    conv => arg 3; whnf
    rcases h with ⟨rfl, h0⟩ | ⟨hn0, _, v, q, k, hv, rfl, hq1, hq2, lo, hi⟩
    · obtain ⟨sg, mm, e, D, hd, hrt⟩ := ratio_zero h0
      refine exs_cons (ex_unpack (names := ["up", "down"]) hr.handled (ev_ratio rfl hd hrt ⟨_, rfl, rfl, ?_⟩) sts (.cons (stf_assign _ _) (.cons (stf_assign _ _) .nil)))
      refine exs_cons (ex_if (tst_cmp (ev_name rfl (ev_int (cmp_eq ⟨_, rfl, ?_⟩)))))
      rw [show (sgn sg 0 == (0 : Int)) = true by cases sg <;> rfl, if_pos rfl]
      exact exs_ret (ev_cmp (ev_name rfl (ev_int (cmp_eq rfl))))
    · have hv0 : q * 2 ^ (k + 1) ≠ 0 := Nat.ne_of_gt (Nat.mul_pos (by omega) (Nat.two_pow_pos _))
      obtain ⟨mm, e, N, j, hd, hrt, hN, hj⟩ := ratio_signed hv hv0
      have hN0 : N ≠ 0 := fun z => by
        subst z
        rw [Nat.zero_mul] at hN
        exact Nat.ne_of_gt (Nat.mul_pos (Nat.pos_of_ne_zero hv0) (Nat.two_pow_pos j)) hN.symm
      have fin := nearB hq1 hq2 hN hN0 (by omega) lo hi
      have hNb : N < 2 ^ 3300 := by
        have h1 : N * 2 ^ 1074 ≤ q * 2 ^ (k + 1) * 2 ^ 1074 := by rw [hN]; exact Nat.mul_le_mul_left _ (Nat.pow_le_pow_right (by decide) hj)
        have h2 : N ≤ q * 2 ^ (k + 1) := Nat.le_of_mul_le_mul_right h1 (Nat.two_pow_pos _)
        have h3 : (2 * q - 1) * 2 ^ k ≤ m.natAbs * ((2 * q - 1) * 2 ^ k) := Nat.le_mul_of_pos_left _ (by omega)
        have h4 : n.natAbs * 2 ^ 1074 < 2 ^ 2000 * 2 ^ 1074 := Nat.mul_lt_mul_of_pos_right hn2 (Nat.two_pow_pos _)
        have h5 : q * 2 ^ (k + 1) ≤ 4 * ((2 * q - 1) * 2 ^ k) := by
          rw [Nat.pow_succ, show q * (2 ^ k * 2) = 2 * q * 2 ^ k by ac_rfl, ← Nat.mul_assoc]
          exact Nat.mul_le_mul_right _ (by omega)
        have h6 : 4 * (2 ^ 2000 * 2 ^ 1074) < 2 ^ 3300 := by decide +kernel
        have h7 := Nat.lt_of_le_of_lt h3 (Nat.lt_trans lo h4)
        clear lo hi fin hN hn2 hm2 h4
        exact Nat.lt_of_le_of_lt h2 (Nat.lt_of_le_of_lt h5 (Nat.lt_trans (Nat.mul_lt_mul_of_pos_left h7 (by decide)) h6))
      have hup : (sgn (decide (n < 0)) N).natAbs = N := PySem.Float64.sgn_natAbs _ _
      have hbits : Builtin.Int.intBits (N : Int) = N.log2 + 1 := by
        unfold Builtin.Int.intBits
        rw [if_neg (by simpa using hN0), Int.natAbs_natCast]
      have hbl : N.log2 + 1 ≤ 3300 := by
        have := (Nat.log2_lt hN0).mpr hNb
        omega
      have p4 : ∀ a, a ≤ 2000 → 2 ^ a ≤ 2 ^ 4000 := fun a h => Nat.pow_le_pow_right (by decide) (by omega)
      have h33 : 2 ^ 3300 ≤ 2 ^ 4000 := Nat.pow_le_pow_right (by decide) (by decide)
      have hj4 : ((2 ^ j : Nat) : Int).natAbs < 2 ^ 4000 := by
        rw [Int.natAbs_natCast]
        exact Nat.pow_lt_pow_right (by decide) (by omega)
      refine exs_cons (ex_unpack (names := ["up", "down"]) hr.handled (ev_ratio rfl hd hrt ⟨_, rfl, rfl, ?_⟩) sts (.cons (stf_assign _ _) (.cons (stf_assign _ _) .nil)))
      refine exs_cons (ex_if (tst_cmp (ev_name rfl (ev_int (cmp_eq ⟨_, rfl, ?_⟩)))))
      rw [show (sgn (decide (n < 0)) N == (0 : Int)) = false by rw [beq_eq_false_iff_ne]; intro z; rw [z] at hup; exact hN0 (by simpa using hup.symm), if_neg (by decide)]
      refine exs_nil (exs_ret (ev_cmp ?_))
      refine ev_bin (ev_builtin l.abs (args_val (ev_bin (ev_bin (ev_name rfl (ev_name rfl (op_mul ?_ ?_)))))))
      · refine ev_bin (ev_name rfl (ev_name rfl (op_mul (op_sub (args_val_nil (bi_abs ?_))) ?_)))
        · rw [abs_ite]
          refine ev_bin (ev_int (ev_int (op_pow (by decide) (by decide) (op_mul ?_ (.of_right (by decide))))))
          refine ev_bin (ev_bin (ev_int (ev_bits (ev_builtin l.abs (args_val (ev_name rfl (args_val_nil (bi_abs ⟨_, rfl, ?_⟩))))))))
          rw [abs_ite, hup, hbits]
          refine op_pow (by omega) ?_ ?_
          · show ((2 : Nat) : Int) * _ ≤ _
            omega
          · refine ev_name rfl (op_mul (cmp_lt ?_) ?_)
            · show V.bool _ = V.bool true
              congr 1
              rw [decide_eq_true]
              have e1 : (n * ((2 ^ j : Nat) : Int) - sgn (decide (n < 0)) N * m).natAbs = ((n.natAbs : Int) * (2 ^ j : Nat) - N * m.natAbs).natAbs := by
                have hmm : (m.natAbs : Int) = m := by omega
                rw [hmm]
                unfold sgn
                by_cases c : n < 0
                · have hn' : (n.natAbs : Int) = -n := by omega
                  rw [decide_eq_true c, if_pos rfl, hn', Int.neg_mul, Int.neg_mul, Int.sub_neg, ← Int.natAbs_neg]
                  congr 1
                  omega
                · have hn' : (n.natAbs : Int) = n := by omega
                  rw [decide_eq_false c, if_neg (by decide), hn']
              rw [pow54, e1]
              have e2 : ((2 : Int) ^ (((N.log2 + 1 : Nat) : Int)).toNat) * m = ((2 ^ (N.log2 + 1) * m.natAbs : Nat) : Int) := by
                rw [Int.toNat_natCast, Int.natCast_mul, Int.natCast_pow, show (m.natAbs : Int) = m by omega]; rfl
              have e3 : (2 : Int) ^ 54 = ((2 ^ 54 : Nat) : Int) := rfl
              rw [e2, e3, ← Int.natCast_mul]
              exact Int.ofNat_lt.mpr fin
            · refine mulOk_big ?_ (Nat.lt_of_lt_of_le hm2 (p4 _ (by decide)))
              rw [Int.natAbs_pow, Int.toNat_natCast]
              exact Nat.pow_lt_pow_right (by decide) (by omega)
        · refine mulOk_big ?_ (Nat.lt_of_lt_of_le hm2 (p4 _ (by decide)))
          rw [hup]
          exact Nat.lt_of_lt_of_le hNb h33
      · exact mulOk_big (Nat.lt_of_lt_of_le hn2 (p4 _ (by decide))) hj4
end Mine
end
section
open PySem PySem.W PyProof.Rows
set_option linter.unusedVariables false
set_option maxRecDepth 100000
set_option exponentiation.threshold 3000
namespace Mine
variable {F : Fix} {P : Params}
def sm18 (v : Int) : Int := (v + 2 ^ 18).fmod (2 ^ 19) - 2 ^ 18
def lowBy (od : Nat) : List Int → List Int
  | k :: r => (k - (isum (k :: r)).fmod (od : Int)) :: r
  | [] => []
/-- od is the odd part of n -/
def OddOf (n od : Nat) : Prop := ∃ h, od * 2 ^ h = n ∧ od % 2 = 1
theorem map_ints {f : Int → Int} (ns : List Int) : List.map (fun B => match B with | V.int y => V.int (f y) | _ => V.none) (List.filter (fun _ => true) (V.items (.lst (ns.map .int)))) = (ns.map f).map .int := by
  rw [List.filter_eq_self.mpr fun _ _ => rfl]
  show List.map _ (List.map _ _) = List.map _ (List.map _ _)
  rw [List.map_map, List.map_map]; rfl
theorem fdiv2 (i : Nat) : (i : Int).fdiv 2 = ((i / 2 : Nat) : Int) := by
  rw [Int.fdiv_eq_ediv_of_nonneg _ (by decide)]; omega
theorem fmod2 (i : Nat) : (i : Int).fmod 2 = ((i % 2 : Nat) : Int) := by
  rw [Int.fmod_eq_emod_of_nonneg _ (by decide)]; omega
set_option maxHeartbeats 4000000 in
theorem c_row (l : Land (K2 P) F) {ns : List Int} (h1 : 1 ≤ ns.length) (hl : ns.length ≤ 70) :
    Calls F (.ref 74) 1 [.val (.lst (ns.map .int))] [] [] (fun R => ∃ od, OddOf ns.length od ∧ R = .lst ((lowBy od (ns.map sm18)).map .int)) (fun _ => False) := by
  refine calls_of (names := ["numbers"]) (l.fn (fn_row P)) (by decide) (by intro x hx; simp at hx; subst hx; exact .inl rfl) rfl (fun s vals kvals hb h1 h2 => ?_) fun A L hr => ?_
  · match vals, kvals, h1, h2 with
    | [v], [], _, _ => exact .of_eq rfl
  · show Exs _ [("numbers", .val (.lst (ns.map .int)))] _ _ _
    conv => arg 3; whnf
    refine exs_cons (ex_assign_comp true hr.handled (.inl rfl) (ev_name rfl ⟨trivial, len6 (by simp [V.items]; omega), [], [], fun B => match B with | .int y => .int (sm18 y) | _ => .none, fun _ => true, ?ga, ?gb, ?gc⟩))
    case ga => exact { clos := rfl, hcl := fun y c e => (by cases e), kind := rfl, names := by decide, fr := fun y lv e => (by cases e) }
    case gb =>
      refine { hx := .inl rfl, xfr := rfl, hifs := fun B _ C => ifs_nil, helt := ?_ }
      intro B hB _ C
      obtain ⟨y, _, rfl⟩ := List.mem_map.mp (show B ∈ ns.map V.int from hB)
      refine ev_bin (ev_bin (ev_bin (ev_name rfl (ev_bin (ev_int (ev_int (op_pow (by decide) (by decide) (op_add ?_))))))))
      refine ev_bin (ev_int (ev_int (op_pow (by decide) (by decide) (op_mod (by decide) ?_))))
      refine ev_bin (ev_int (ev_int (op_pow (by decide) (by decide) (op_sub ⟨?_, Loc.le_cons _ (Loc.le_refl _) rfl⟩))))
      rfl
    case gc =>
      intro b
      rw [map_ints]
      generalize hms : ns.map sm18 = ms
      have hml : ms.length = ns.length := by rw [← hms]; simp
      rw [← hml] at h1 hl ⊢
      refine exs_let (.inl rfl) (ev_len_own (As := ms.map .int) (a := b) l.len (len6 (by simpa using hl)) rfl ?_)
      rw [List.length_map]
      refine exs_cons (ex_while (fun c l' => ∃ m h : Nat, c = m ∧ 0 < m ∧ m * 2 ^ h = ms.length ∧ Has l' "odd" (.int m) ∧ l'.lookup ("row" : Str) = some (LV.own b (ms.map .int))) ms.length ⟨ms.length, 0, rfl, h1, by simp, rfl, rfl⟩ ?_)
      rintro c l' ⟨m, h, hcm, hm, hmh, e1, e2⟩
      subst c
      refine tst_cmp (ev_bin (ev_name e1 (ev_int (op_mod (by decide) (ev_int (cmp_eq ⟨_, rfl, ?_⟩))))))
      rw [fmod2]
      by_cases hz : m % 2 = 0
      · rw [show (((m % 2 : Nat) : Int) == 0) = true by rw [hz]; rfl, if_pos rfl]
        refine exs_cons (ex_aug e1 (ev_int (op_ifdiv (by decide) (noPylong (by decide)) ?_)) (.inl rfl))
        rw [fdiv2]
        refine exs_nil ⟨m / 2, by omega, m / 2, h + 1, rfl, by omega, ?_, rfl, loc_put e2 rfl⟩
        rw [← hmh, Nat.pow_succ, Nat.mul_comm (2 ^ h) 2, ← Nat.mul_assoc, Nat.div_mul_cancel (Nat.dvd_of_mod_eq_zero hz)]
      · rw [show (((m % 2 : Nat) : Int) == 0) = false by rw [beq_eq_false_iff_ne]; omega, if_neg (by decide)]
        have hle : m ≤ ms.length := by rw [← hmh]; exact Nat.le_mul_of_pos_right _ (Nat.two_pow_pos _)
        cases ms with
        | nil => simp at h1
        | cons y ys =>
          refine exs_cons (ex_augsub (x := "row") (A := .int y) (As := ys.map .int) (loc' := [("odd", .val (.int m))]) e2 (by simp at hl ⊢; omega) (fun z lv e => ?_) rfl ?_)
          · have := mem_of_lookup e
            simp only [List.mem_cons, List.not_mem_nil, or_false, Prod.mk.injEq] at this
            obtain ⟨rfl, rfl⟩ := this
            exact e1
          refine ev_bin (ev_sum_own (ns := y :: ys) l.sum hr.handled e2 (ev_name e1 (op_mod (by omega) ⟨rfl, op_isub ⟨rfl, ?_⟩⟩)))
          refine exs_ret (ev_name rfl ?_)
          exact ⟨m, ⟨h, hmh, by omega⟩, rfl⟩
end Mine
end
section
open PySem PySem.W PyProof.Rows
set_option linter.unusedVariables false
set_option maxRecDepth 100000
set_option exponentiation.threshold 3000
namespace Mine
open PySem.Float64 (decode val add sub mul div neg isZero isFinite isInf ofInt ofFrac sgn Right)
variable {F : Fix} {P : Params}
def alOf (key : Int) : Int := (key.fdiv 17 + 2 ^ 28).fmod (2 ^ 29) - 2 ^ 28
def plOf (key : Int) : Int := 60 * (key.fmod 17 - 8)
theorem pow28 : ((2 : Int) ^ (28 : Int).toNat) = 2 ^ 28 := rfl
theorem pow29 : ((2 : Int) ^ (29 : Int).toNat) = 2 ^ 29 := rfl
theorem al_abs (k : Int) : (alOf k).natAbs ≤ 2 ^ 28 := by
  have h1 := Int.fmod_nonneg_of_pos (k.fdiv 17 + 2 ^ 28) (show (0 : Int) < 2 ^ 29 by decide)
  have h2 := Int.fmod_lt_of_pos (k.fdiv 17 + 2 ^ 28) (show (0 : Int) < 2 ^ 29 by decide)
  unfold alOf
  omega
theorem pl_abs (k : Int) : -480 ≤ plOf k ∧ plOf k ≤ 480 := by
  have h1 := Int.fmod_nonneg_of_pos k (show (0 : Int) < 17 by decide)
  have h2 := Int.fmod_lt_of_pos k (show (0 : Int) < 17 by decide)
  unfold plOf
  omega
/-- a quotient by a power of two -/
def qp (a : Int) (s : Nat) : UInt64 := ofFrac (decide (a < 0) != decide (((2 : Int) ^ s) < 0)) a.natAbs ((2 : Int) ^ s).natAbs
theorem qp_fv {a : Int} {s : Nat} (hs : s ≤ 500) (ha : a.natAbs ≤ 2 ^ 41) : FV (qp a s) (a * 2 ^ (1074 - s)) := by
  have hp : (0 : Int) < 2 ^ s := Int.pow_pos (by decide)
  have hp2 : (0 : Int) < 2 ^ (1074 - s) := Int.pow_pos (by decide)
  have hn : ((2 : Int) ^ s).natAbs = 2 ^ s := by rw [Int.natAbs_pow]; rfl
  have hR : Right (qp a s) (decide (a < 0) != decide (((2 : Int) ^ s) < 0)) (a.natAbs * 2 ^ (1074 - s)) 1 := by
    unfold qp
    rw [hn]
    refine PySem.Float64.ofFrac_right (Nat.two_pow_pos _) ?_ (by decide)
    rw [Nat.mul_one, Nat.mul_assoc, ← Nat.pow_add]
    congr 2
    omega
  refine right_exact hR (rp_e (by omega) (Nat.le_trans ha (by decide))) (by decide) ?_ fun _ => ?_
  · rw [Int.natAbs_mul, Int.natAbs_pow, Nat.one_mul]
    rfl
  · rw [show decide (((2 : Int) ^ s) < 0) = false by rw [decide_eq_false_iff_not]; omega, decide_eq_decide.mpr (neg_iff_mul hp2).symm]
    cases decide (a < 0) <;> rfl
/-- what _law_moved makes of one number -/
def mv1 (al pl a : Int) : V := if pl < 0 then .flt (qp (a + al) (-pl).toNat) else .int ((a + al) * 2 ^ pl.toNat)
def mvOf (ps : List Int) (key : Int) : List V := ps.map (mv1 (alOf key) (plOf key))
theorem map_intsV {f : Int → V} (ns : List Int) : List.map (fun B => match B with | V.int y => f y | _ => V.none) (List.filter (fun _ => true) (V.items (.lst (ns.map .int)))) = ns.map f := by
  rw [List.filter_eq_self.mpr fun _ _ => rfl]
  show List.map _ (List.map _ _) = _
  rw [List.map_map]; rfl
set_option maxHeartbeats 4000000 in
theorem c_moved (l : Land (K2 P) F) {ps : List Int} {key : Int} (hl : ps.length ≤ 70) (hb : ∀ p ∈ ps, p.natAbs ≤ 2 ^ 20) :
    Calls F (.ref 79) 1 [.val (.lst (ps.map .int)), .val (.int key)] [] [] (fun R => R = .lst (mvOf ps key)) (fun _ => False) := by
  refine calls_of (names := ["row", "number"]) (l.fn (fn_moved P)) (by decide) (by intro x hx; simp at hx; rcases hx with rfl | rfl <;> exact .inl rfl) rfl (fun s vals kvals hb h1 h2 => ?_) fun A L hr => ?_
  · match vals, kvals, h1, h2 with
    | [v, u], [], _, _ => exact .of_eq rfl
  · show Exs _ [("row", .val (.lst (ps.map .int))), ("number", .val (.int key))] _ _ _
    have ha := al_abs key
    have hpl := pl_abs key
    conv => arg 3; whnf
    refine exs_let (.inr ⟨rfl, rfl, rfl⟩) (ev_bin (ev_bin (ev_bin (ev_bin (ev_name rfl (ev_int (op_fdiv (by decide) (noPylong (by decide)) ?_)))))))
    refine ev_bin (ev_int (ev_int (op_pow (by decide) (by decide) (op_add ?_))))
    refine ev_bin (ev_int (ev_int (op_pow (by decide) (by decide) (op_mod (by decide) ?_))))
    refine ev_bin (ev_int (ev_int (op_pow (by decide) (by decide) (op_sub ?_))))
    refine exs_let (.inr ⟨rfl, rfl, rfl⟩) (ev_bin (ev_int (ev_bin (ev_bin (ev_name rfl (ev_int (op_mod (by decide) (ev_int (op_sub (op_mul ?_ (.of_left (by decide))))))))))))
    rw [pow28, pow29]
    show Exs _ [("places", .val (.int (plOf key))), ("along", .val (.int (alOf key))), ("row", .val (.lst (ps.map .int))), ("number", .val (.int key))] _ _ _
    refine exs_cons (ex_if (tst_cmp (ev_name rfl (ev_int (cmp_lt ⟨_, rfl, ?_⟩)))))
    have fr : ∀ {scope : Scope}, closureFor scope (F.fn A (fdAt (K2 P) 23) 79 L).env = pure [(("places" : Str), L + 2), (("along" : Str), L + 1)] → scope.kind = .function → (∀ y ∈ scope.names, y.2 = .local → scope.names.lookup y.1 = some .local) →
        scope.names.lookup ("along" : Str) = some .free → scope.names.lookup ("places" : Str) = some .free → (∀ C, (cellsFrom (C + 1) scope.names [(("places" : Str), L + 2), (("along" : Str), L + 1)]).lookup ("along" : Str) = some (L + 1)) → (∀ C, (cellsFrom (C + 1) scope.names [(("places" : Str), L + 2), (("along" : Str), L + 1)]).lookup ("places" : Str) = some (L + 2)) →
        Frees (F.fn A (fdAt (K2 P) 23) 79 L) [("places", .val (.int (plOf key))), ("along", .val (.int (alOf key))), ("row", .val (.lst (ps.map .int))), ("number", .val (.int key))] scope [(("places" : Str), L + 2), (("along" : Str), L + 1)] [("along", .val (.int (alOf key))), ("places", .val (.int (plOf key)))] := by
      intro scope h1 h2 h3 h4 h5 h6 h7
      refine { clos := h1, hcl := ?_, kind := h2, names := h3, fr := ?_ }
      · intro y c e
        have := mem_of_lookup e
        simp only [List.mem_cons, List.not_mem_nil, or_false, Prod.mk.injEq] at this
        rcases this with ⟨rfl, rfl⟩ | ⟨rfl, rfl⟩ <;> rfl
      · intro y lv e
        have := mem_of_lookup e
        simp only [List.mem_cons, List.not_mem_nil, or_false, Prod.mk.injEq] at this
        rcases this with ⟨rfl, rfl⟩ | ⟨rfl, rfl⟩
        · exact ⟨h4, ⟨_, rfl⟩, rfl, .inl rfl, fun C => h6 C⟩
        · exact ⟨h5, ⟨_, rfl⟩, rfl, .inl rfl, fun C => h7 C⟩
    by_cases c : plOf key < 0
    · rw [decide_eq_true c, if_pos rfl]
      refine exs_ret (ev_comp hr.handled (ev_name rfl ⟨trivial, len6 (by simp [V.items]; omega), _, _, fun B => match B with | .int y => mv1 (alOf key) (plOf key) y | _ => .none, fun _ => true, fr rfl rfl (by decide) rfl rfl (fun C => rfl) (fun C => rfl), ?b1, ?c1⟩))
      case b1 =>
        refine { hx := .inl rfl, xfr := rfl, hifs := fun B _ C => ifs_nil, helt := ?_ }
        intro B hB _ C
        obtain ⟨y, hy, rfl⟩ := List.mem_map.mp (show B ∈ ps.map V.int from hB)
        have hyb := hb y hy
        have fv := qp_fv (a := y + alOf key) (s := (-plOf key).toNat) (by omega) (by omega)
        have nz : ((2 : Int) ^ (-plOf key).toNat) ≠ 0 := Int.pow_ne_zero (by decide)
        refine ev_bin (ev_bin (ev_name rfl (ev_name rfl (op_add ?_))))
        refine ev_bin (ev_int (ev_un (ev_name rfl (op_neg (op_pow (by omega) ?_ (op_div_ii nz ?_ ⟨?_, Loc.le_cons _ (Loc.le_refl _) rfl⟩))))))
        · show ((2 : Nat) : Int) * _ ≤ _
          omega
        · have := fv.notInf
          unfold qp at this
          rw [this]; decide
        · show V.flt _ = mv1 _ _ _
          unfold mv1
          rw [if_pos c]
          rfl
      case c1 =>
        rw [map_intsV]
        rfl
    · rw [decide_eq_false c, if_neg (by decide)]
      refine exs_nil (exs_ret (ev_comp hr.handled (ev_name rfl ⟨trivial, len6 (by simp [V.items]; omega), _, _, fun B => match B with | .int y => mv1 (alOf key) (plOf key) y | _ => .none, fun _ => true, fr rfl rfl (by decide) rfl rfl (fun C => rfl) (fun C => rfl), ?b2, ?c2⟩)))
      case b2 =>
        refine { hx := .inl rfl, xfr := rfl, hifs := fun B _ C => ifs_nil, helt := ?_ }
        intro B hB _ C
        obtain ⟨y, hy, rfl⟩ := List.mem_map.mp (show B ∈ ps.map V.int from hB)
        have hyb := hb y hy
        refine ev_bin (ev_bin (ev_name rfl (ev_name rfl (op_add ?_))))
        refine ev_bin (ev_int (ev_name rfl (op_pow (by omega) ?_ (op_mul ⟨?_, Loc.le_cons _ (Loc.le_refl _) rfl⟩ ?_))))
        · show ((2 : Nat) : Int) * _ ≤ _
          omega
        · show V.int _ = mv1 _ _ _
          unfold mv1
          rw [if_neg c]
        · refine mulOk_big (Nat.lt_of_lt_of_le (show (y + alOf key).natAbs < 2 ^ 60 by omega) (Nat.pow_le_pow_right (by decide) (by decide))) ?_
          rw [Int.natAbs_pow]
          exact Nat.pow_lt_pow_right (by decide) (show (plOf key).toNat < 4000 by omega)
      case c2 =>
        rw [map_intsV]
        rfl
end Mine
end
section
open PySem PySem.W PyProof.Rows
set_option linter.unusedVariables false
set_option maxRecDepth 100000
set_option exponentiation.threshold 3000
namespace Mine
open PySem.Float64 (decode val add sub mul div neg isZero isFinite isInf ofInt ofFrac sgn Right pack infMag cmp)
theorem zip_rng {ks ls : List Int} {mx my : Int} {n : Nat} (hk : ks.length = n) (hl : ls.length = n) : List.zipWith (· * ·) (ks.map (· - mx)) (ls.map (· - my)) = (List.range n).map fun i => (ks.getD i 0 - mx) * (ls.getD i 0 - my) := by
  refine List.ext_getElem? fun i => ?_
  rw [List.getElem?_map, List.getElem?_zipWith]
  by_cases h : i < n
  · rw [List.getElem?_range h, List.getElem?_map, List.getElem?_map, List.getElem?_eq_getElem (show i < ks.length by omega), List.getElem?_eq_getElem (show i < ls.length by omega)]
    simp [List.getD_eq_getElem?_getD, List.getElem?_eq_getElem (show i < ks.length by omega), List.getElem?_eq_getElem (show i < ls.length by omega)]
  · rw [List.getElem?_map, List.getElem?_eq_none (show ks.length ≤ i by omega), List.getElem?_eq_none (show (List.range n).length ≤ i by simp; omega)]; rfl
theorem mem_get {ks : List Int} {i : Nat} (h : i < ks.length) : ks.getD i 0 ∈ ks := by
  rw [List.getD_eq_getElem?_getD, List.getElem?_eq_getElem h]; exact List.getElem_mem h
theorem mean_fv {e n : Nat} {ks : List Int} {mx : Int} {As : List V} (hA : NVs As (ks.map (· * 2 ^ e))) (he : e ≤ 2044) (hk : ks.length = n) (h2 : 2 ≤ n) (h70 : n ≤ 31) (hx : isum ks = mx * n) (bk : ∀ k ∈ ks, k.natAbs ≤ 2 ^ 41) (dk : ∀ k ∈ ks, (k - mx).natAbs ≤ 2 ^ 24) :
    ∃ fx ds, fsumRun [] As = some fx ∧ Subt (div fx (ofInt n)) As ds ∧ FVs ds ((ks.map (· - mx)).map (· * 2 ^ e)) := by
  have ha := asum_bd bk
  obtain ⟨fx, f1, f2⟩ := fsum_e he hA.vals (show asum ks ≤ 2 ^ 53 by
    have : ks.length * 2 ^ 41 ≤ 70 * 2 ^ 41 := Nat.mul_le_mul_right _ (by omega)
    omega)
  have hn : FV (ofInt n) ((n : Int) * 2 ^ 1074) := FV.ofInt (rp_e (by decide) (by omega))
  have hm : mx.natAbs ≤ 2 ^ 53 := by
    have h0 := mem_get (ks := ks) (i := 0) (by omega)
    have h1 := bk _ h0
    have h3 := dk _ h0
    omega
  have hxb := f2.div hn (Int.mul_ne_zero (by omega) (Int.pow_ne_zero (by decide))) (c := mx * 2 ^ e) (by rw [hx]; ac_rfl) (rp_e he hm)
  obtain ⟨ds, s1, s2⟩ := subt_exact he hxb hA fun k hk => Nat.le_trans (dk k hk) (by decide)
  refine ⟨fx, ds, f1, s1, ?_⟩
  rw [List.map_map]
  exact s2
theorem cov_fl {e1 e2 e : Nat} {As Bs : List V} {ks ls : List Int} {mx my : Int} {n : Nat} (hA : NVs As (ks.map (· * 2 ^ e1))) (hB : NVs Bs (ls.map (· * 2 ^ e2))) (hk : ks.length = n) (hl : ls.length = n) (h2 : 2 ≤ n) (h70 : n ≤ 31) (hx : isum ks = mx * n) (hy : isum ls = my * n)
    (bk : ∀ k ∈ ks, k.natAbs ≤ 2 ^ 41) (bl : ∀ k ∈ ls, k.natAbs ≤ 2 ^ 41) (dk : ∀ k ∈ ks, (k - mx).natAbs ≤ 2 ^ 24) (dl : ∀ k ∈ ls, (k - my).natAbs ≤ 2 ^ 24) (he1 : e1 ≤ 2044) (he2 : e2 ≤ 2044) (he : e1 + e2 = e + 1074) (hee2 : e ≤ 2044) :
    ∃ sx, Cv As Bs (.ok (.flt (div sx (ofInt (n - 1 : Nat))))) ∧ FV sx (Cc (ks.getD · 0) (ls.getD · 0) mx my n * 2 ^ e) ∧ (Cc (ks.getD · 0) (ls.getD · 0) mx my n).natAbs < 2 ^ 53 - 1 := by
  obtain ⟨fx, ds, f1, s1, v1⟩ := mean_fv hA he1 hk h2 h70 hx bk dk
  obtain ⟨fy, es, f2, s2, v2⟩ := mean_fv hB he2 hl h2 h70 hy bl dl
  have hlA : As.length = n := by rw [hA.length, List.length_map, hk]
  have hlB : Bs.length = n := by rw [hB.length, List.length_map, hl]
  have fp := fps_of he v1 v2 (by simp [hk, hl])
  rw [zip_rng hk hl] at fp
  have bd : ∀ i, i < n → ((ks.getD i 0 - mx) * (ls.getD i 0 - my)).natAbs ≤ 2 ^ 48 := fun i hi => by
    rw [Int.natAbs_mul]
    exact Nat.le_trans (Nat.mul_le_mul (dk _ (mem_get (by omega))) (dl _ (mem_get (by omega)))) (by decide)
  have h3 : n * 2 ^ 48 ≤ 31 * 2 ^ 48 := Nat.mul_le_mul_right _ h70
  have has : asum ((List.range n).map fun i => (ks.getD i 0 - mx) * (ls.getD i 0 - my)) ≤ 2 ^ 53 := by
    have := asum_bd (B := 2 ^ 48) (ks := (List.range n).map fun i => (ks.getD i 0 - mx) * (ls.getD i 0 - my)) (fun k hk => by
      obtain ⟨i, hi, rfl⟩ := List.mem_map.mp hk
      exact bd i (List.mem_range.mp hi))
    rw [List.length_map, List.length_range] at this
    omega
  obtain ⟨sx, r1, r2⟩ := sumprod_e hee2 fp (by
    intro z
    have := congrArg List.length z
    simp at this
    omega) has
  rw [isum_rng] at r2
  have hC : (Cc (ks.getD · 0) (ls.getD · 0) mx my n).natAbs ≤ n * 2 ^ 48 := Sm_abs bd
  have cv := Cv.ok (As := As) (Bs := Bs) (by rw [hlA, hlB]) (by rw [hlA]; exact h2) f1 f2 (by rw [hlA]; exact s1) (by rw [hlA]; exact s2) r1
  rw [hlA, show ((n : Int) - 1) = ((n - 1 : Nat) : Int) by omega] at cv
  exact ⟨sx, cv, r2, by omega⟩
theorem word_of {x : UInt64} {a : Int} (h : FV x a) : ∃ ng t, x = pack ng t ∧ t < infMag ∧ a = sgn ng (Float64.V t) := by
  obtain ⟨⟨s, m, e, hd⟩, hv⟩ := h
  have hlt : x.toNat % 2 ^ 63 < infMag := by
    have hi : infMag = 2047 * 2 ^ 52 := rfl
    unfold decode at hd
    simp only at hd
    split at hd
    · split at hd <;> cases hd
    · rename_i h1
      have h1' : x.toNat / 2 ^ 52 % 2048 ≠ 2047 := by simpa using h1
      omega
  have hx : x = pack (x.toNat / 2 ^ 63 == 1) (x.toNat % 2 ^ 63) := by
    apply UInt64.toNat_inj.mp
    rw [PySem.Float64.pack_toNat _ (Nat.mod_lt _ (by decide))]
    have := x.toNat_lt
    by_cases c : x.toNat / 2 ^ 63 = 1
    · rw [if_pos (by simpa using c)]; omega
    · rw [if_neg (by simpa using c)]; omega
  refine ⟨_, _, hx, hlt, ?_⟩
  rw [← hv]
  conv => lhs; rw [hx]
  exact PySem.Float64.val_pack _ hlt
theorem fv_inj {x y : UInt64} {a : Int} (hx : FV x a) (hy : FV y a) (h0 : a ≠ 0) : x = y := by
  obtain ⟨n1, t1, rfl, l1, e1⟩ := word_of hx
  obtain ⟨n2, t2, rfl, l2, e2⟩ := word_of hy
  have h1 : a.natAbs = Float64.V t1 := by rw [e1]; exact PySem.Float64.sgn_natAbs _ _
  have h2 : a.natAbs = Float64.V t2 := by rw [e2]; exact PySem.Float64.sgn_natAbs _ _
  have ht : t1 = t2 := V_inj (h1.symm.trans h2)
  subst ht
  have hn : n1 = n2 := by
    unfold sgn at e1 e2
    cases n1 <;> cases n2 <;> simp only [Bool.false_eq_true, if_true, if_false] at e1 e2 <;> first | rfl | omega
  rw [hn]
/-- the numbers' floats -/
def fl1 : V → V
  | .int i => .flt (ofInt i)
  | A => A
theorem nvs_fl {As : List V} {as : List Int} (h : NVs As as) : NVs (As.map fl1) as := by
  induction h with
  | nil => exact .nil
  | cons hv hn _ ih =>
    rcases hv with ⟨i, rfl, rfl, hr⟩ | ⟨x, rfl, hf⟩ | ⟨b, rfl, _⟩
    · exact .cons (.inr (.inl ⟨_, rfl, FV.ofInt hr⟩)) trivial ih
    · exact .cons (.inr (.inl ⟨_, rfl, hf⟩)) trivial ih
    · exact hn.elim
theorem nvs_scal {As : List V} {as : List Int} (h : NVs As as) : ∀ A ∈ As, A.scal := by
  induction h with
  | nil => intro A hA; cases hA
  | cons hv hn _ ih =>
    intro A hA
    rcases List.mem_cons.mp hA with rfl | hA
    · rcases hv with ⟨i, rfl, _⟩ | ⟨x, rfl, _⟩ | ⟨b, rfl, _⟩ <;> trivial
    · exact ih A hA
theorem Cc_comm (x y : Nat → Int) (mx my : Int) (n : Nat) : Cc y x my mx n = Cc x y mx my n := by
  unfold Cc
  exact Sm_congr fun i _ => Int.mul_comm _ _
/-- a row, in 16ths, with its mean -/
structure Rw (ps : List Int) (m0 : Int) (n : Nat) : Prop where
  len : ps.length = n
  sum : 16 * isum ps = m0 * n
  bd : ∀ p ∈ ps, p.natAbs ≤ 2 ^ 18 + 31
theorem isum_le {B : Nat} {ks : List Int} (h : ∀ k ∈ ks, k.natAbs ≤ B) : (isum ks).natAbs ≤ ks.length * B := by
  rw [isum_Sm]
  exact Sm_abs fun i hi => h _ (mem_get hi)
theorem sm18_abs (v : Int) : (sm18 v).natAbs ≤ 2 ^ 18 := by
  have h1 := Int.fmod_nonneg_of_pos (v + 2 ^ 18) (show (0 : Int) < 2 ^ 19 by decide)
  have h2 := Int.fmod_lt_of_pos (v + 2 ^ 18) (show (0 : Int) < 2 ^ 19 by decide)
  unfold sm18
  omega
theorem low_len (od : Nat) : ∀ ks : List Int, (lowBy od ks).length = ks.length
  | [] => rfl
  | k :: ks => rfl
theorem row_rw {ns : List Int} {od n : Nat} (hn : ns.length = n) (h2 : 2 ≤ n) (h31 : n ≤ 31) (ho : OddOf n od) : ∃ m0, Rw (lowBy od (ns.map sm18)) m0 n := by
  obtain ⟨h, hh, h1⟩ := ho
  have hle : od ≤ n := by rw [← hh]; exact Nat.le_mul_of_pos_right _ (Nat.two_pow_pos _)
  have h4 : h ≤ 4 := by
    rcases Nat.lt_or_ge 4 h with c | c
    · exfalso
      have : 2 ^ 5 ≤ 2 ^ h := Nat.pow_le_pow_right (by decide) c
      have h3 : 1 * 2 ^ h ≤ od * 2 ^ h := Nat.mul_le_mul_right _ (by omega)
      omega
    · exact c
  have hp : 2 ^ h * 2 ^ (4 - h) = 16 := by rw [← Nat.pow_add, show h + (4 - h) = 4 by omega]
  cases ns with
  | nil => simp at hn; omega
  | cons y ys =>
    generalize hms : (y :: ys).map sm18 = ms
    have hml : ms.length = n := by rw [← hms, List.length_map]; exact hn
    have hmb : ∀ k ∈ ms, k.natAbs ≤ 2 ^ 18 := by
      rw [← hms]; intro k hk
      obtain ⟨q, _, rfl⟩ := List.mem_map.mp hk
      exact sm18_abs q
    cases ms with
    | nil => simp at hml; omega
    | cons k r =>
      have fd := Int.fmod_def (isum (k :: r)) (od : Int)
      have f1 := Int.fmod_nonneg_of_pos (isum (k :: r)) (show (0 : Int) < od by omega)
      have f2 := Int.fmod_lt_of_pos (isum (k :: r)) (show (0 : Int) < od by omega)
      refine ⟨(isum (k :: r)).fdiv od * (2 ^ (4 - h) : Nat), by rw [low_len]; exact hml, ?_, ?_⟩
      · show 16 * (k - (isum (k :: r)).fmod od + isum r) = _
        have hs : isum (k :: r) = k + isum r := rfl
        have e1 : k - (isum (k :: r)).fmod od + isum r = od * (isum (k :: r)).fdiv od := by omega
        rw [e1, ← hh]
        have e2 : (16 : Int) = ((2 ^ h * 2 ^ (4 - h) : Nat) : Int) := by rw [hp]; rfl
        rw [e2]
        push_cast
        ac_rfl
      · intro p hpm
        rcases List.mem_cons.mp hpm with rfl | hpm
        · have := hmb k List.mem_cons_self
          omega
        · have := hmb p (List.mem_cons_of_mem _ hpm)
          omega
def ksOf (ps : List Int) (al : Int) : List Int := ps.map fun p => 16 * (p + al)
theorem isum_ks (ps : List Int) (al : Int) : isum (ksOf ps al) = 16 * isum ps + 16 * al * ps.length := by
  induction ps with
  | nil => simp [ksOf, isum]
  | cons p r ih =>
    have : isum (ksOf (p :: r) al) = 16 * (p + al) + isum (ksOf r al) := rfl
    rw [this, ih]
    simp only [isum, List.length_cons]
    push_cast
    rw [Int.mul_add (16 * al)]
    omega
theorem ks_get {ps : List Int} {al : Int} {i : Nat} (h : i < ps.length) : (ksOf ps al).getD i 0 = 16 * (ps.getD i 0 + al) := by
  unfold ksOf
  rw [List.getD_eq_getElem?_getD, List.getD_eq_getElem?_getD, List.getElem?_map, List.getElem?_eq_getElem h]; rfl
structure Ks (ks : List Int) (mx : Int) (n : Nat) : Prop where
  len : ks.length = n
  sum : isum ks = mx * n
  bd : ∀ k ∈ ks, k.natAbs ≤ 2 ^ 41
  dv : ∀ k ∈ ks, (k - mx).natAbs ≤ 2 ^ 24
theorem Rw.ks {ps : List Int} {m0 al : Int} {n : Nat} (h : Rw ps m0 n) (h2 : 2 ≤ n) (ha : al.natAbs ≤ 2 ^ 28) : Ks (ksOf ps al) (m0 + 16 * al) n := by
  have hm : m0.natAbs ≤ 16 * (2 ^ 18 + 31) := by
    have h1 := isum_le h.bd
    have h3 := congrArg Int.natAbs h.sum
    rw [Int.natAbs_mul, Int.natAbs_mul, Int.natAbs_natCast] at h3
    rw [h.len] at h1
    have h4 : m0.natAbs * n ≤ 16 * (2 ^ 18 + 31) * n := by
      rw [← h3]
      show 16 * _ ≤ _
      calc 16 * (isum ps).natAbs ≤ 16 * (n * (2 ^ 18 + 31)) := Nat.mul_le_mul_left _ h1
        _ = _ := by ac_rfl
    exact Nat.le_of_mul_le_mul_right h4 (by omega)
  refine ⟨by rw [ksOf, List.length_map]; exact h.len, ?_, fun k hk => ?_, fun k hk => ?_⟩
  · rw [isum_ks, h.sum, h.len, Int.add_mul]
  · obtain ⟨p, hp, rfl⟩ := List.mem_map.mp hk
    have := h.bd p hp
    omega
  · obtain ⟨p, hp, rfl⟩ := List.mem_map.mp hk
    have := h.bd p hp
    omega
/-- the unit of a row -/
def eOf (pl : Int) : Nat := (1070 + pl).toNat
theorem nvs_mv {ps : List Int} {key : Int} (hb : ∀ p ∈ ps, p.natAbs ≤ 2 ^ 20) : NVs (mvOf ps key) ((ksOf ps (alOf key)).map (· * 2 ^ eOf (plOf key))) := by
  have ha := al_abs key
  have hp := pl_abs key
  unfold mvOf ksOf
  induction ps with
  | nil => exact .nil
  | cons p r ih =>
    have ih' := ih fun q hq => hb q (List.mem_cons_of_mem _ hq)
    have hpb := hb p List.mem_cons_self
    simp only [List.map_cons]
    have e16 : (16 : Int) = 2 ^ 4 := rfl
    by_cases c : plOf key < 0
    · have hv : mv1 (alOf key) (plOf key) p = .flt (qp (p + alOf key) (-plOf key).toNat) := by unfold mv1; rw [if_pos c]
      refine .cons (.inr (.inl ⟨_, hv, ?_⟩)) (by rw [hv]; trivial) ih'
      have := qp_fv (a := p + alOf key) (s := (-plOf key).toNat) (by omega) (by omega)
      have e : (p + alOf key) * 2 ^ (1074 - (-plOf key).toNat) = 16 * (p + alOf key) * 2 ^ eOf (plOf key) := by
        rw [e16, Int.mul_comm (2 ^ 4), Int.mul_assoc, ← Int.pow_add]
        congr 2
        unfold eOf
        omega
      rw [← e]
      exact this
    · have hv : mv1 (alOf key) (plOf key) p = .int ((p + alOf key) * 2 ^ (plOf key).toNat) := by unfold mv1; rw [if_neg c]
      refine .cons (.inl ⟨_, hv, ?_, ?_⟩) (by rw [hv]; trivial) ih'
      · rw [e16, Int.mul_comm (2 ^ 4), Int.mul_assoc, Int.mul_assoc, ← Int.pow_add, ← Int.pow_add]
        congr 2
        unfold eOf
        omega
      · exact rp_e (by unfold eOf; omega) (by omega)
/-- the law's question, in units -/
theorem due16 {ps qs : List Int} {n : Nat} {a b m0 m1 : Int} (hp : ps.length = n) (hq : qs.length = n) (kp : Ks (ksOf ps a) m0 n) (kq : Ks (ksOf qs b) m1 n) :
    n * Cc ((ksOf ps a).getD · 0) ((ksOf qs b).getD · 0) m0 m1 n = 256 * ((n : Int) * isum (List.zipWith (· * ·) ps qs) - isum ps * isum qs) := by
  rw [← Dd_Cc (by rw [← kp.sum, isum_Sm, kp.len]) (by rw [← kq.sum, isum_Sm, kq.len])]
  have e : Dd ((ksOf ps a).getD · 0) ((ksOf qs b).getD · 0) n = Dd (fun i => ps.getD i 0 * 16) (fun i => qs.getD i 0 * 16) n := by
    unfold Dd
    refine Sm_congr fun i hi => Sm_congr fun j hj => ?_
    dsimp only
    rw [ks_get (by omega), ks_get (by omega), ks_get (by omega), ks_get (by omega)]
    congr 1 <;> omega
  rw [e, Dd_scale, Dd_eq]
  have z : isum (List.zipWith (· * ·) ps qs) = Sm n fun i => ps.getD i 0 * qs.getD i 0 := by
    have := zip_rng (mx := 0) (my := 0) hp hq
    simp only [Int.sub_zero, List.map_id'] at this
    rw [this, isum_rng]
  rw [z, isum_Sm ps, isum_Sm qs, hp, hq]
  generalize (n : Int) * _ - _ = T
  omega
end Mine
end
section
open PySem PySem.W PyProof.Rows
set_option linter.unusedVariables false
set_option maxRecDepth 100000
set_option exponentiation.threshold 3000
namespace Mine
open PySem.Float64 (decode val add sub mul div neg isZero isFinite isInf ofInt ofFrac sgn Right pack infMag cmp)
def ovr (N pl : Int) : Int := if pl < 0 then N else N * 2 ^ pl.toNat
def und (n : Nat) (pl : Int) : Int := if pl < 0 then (n : Int) * ((n : Int) - 1) * 2 ^ (-pl).toNat else (n : Int) * ((n : Int) - 1)
theorem und_abs (n : Nat) (pl : Int) (h : 2 ≤ n) : 0 < und n pl ∧ (und n pl).natAbs = n * (n - 1) * 2 ^ (if pl < 0 then (-pl).toNat else 0) := by
  have e : (n : Int) * ((n : Int) - 1) = ((n * (n - 1) : Nat) : Int) := by rw [Int.natCast_mul, show ((n - 1 : Nat) : Int) = (n : Int) - 1 by omega]
  have hp : 0 < n * (n - 1) := Nat.mul_pos (by omega) (by omega)
  unfold und
  by_cases c : pl < 0
  · rw [if_pos c, if_pos c, e]
    refine ⟨Int.mul_pos (by omega) (Int.pow_pos (by decide)), ?_⟩
    rw [Int.natAbs_mul, Int.natAbs_natCast, Int.natAbs_pow]; rfl
  · rw [if_neg c, if_neg c, e]
    exact ⟨by omega, by rw [Int.natAbs_natCast, Nat.pow_zero, Nat.mul_one]⟩
theorem ovr_abs (N pl : Int) : (ovr N pl).natAbs = N.natAbs * 2 ^ (if pl < 0 then 0 else pl.toNat) := by
  unfold ovr
  by_cases c : pl < 0
  · rw [if_pos c, if_pos c, Nat.pow_zero, Nat.mul_one]
  · rw [if_neg c, if_neg c, Int.natAbs_mul, Int.natAbs_pow]; rfl
theorem ovr_sg (N pl : Int) : ovr N pl < 0 ↔ N < 0 := by
  unfold ovr
  by_cases c : pl < 0
  · rw [if_pos c]
  · rw [if_neg c]
    exact (neg_iff_mul (Int.pow_pos (by decide))).symm
theorem eqA {n N C a b e : Nat} (h : n * C = 256 * N) (hab : b + e = 1066 + a) : N * 2 ^ a * 2 ^ 1074 * (n - 1) = n * (n - 1) * 2 ^ b * (C * 2 ^ e) := by
  have hP : 2 ^ a * 2 ^ 1074 = 256 * (2 ^ b * 2 ^ e) := by
    rw [← Nat.pow_add, ← Nat.pow_add, hab, show a + 1074 = 8 + (1066 + a) by omega, Nat.pow_add 2 8]
  generalize 2 ^ 1074 = K at *
  generalize 2 ^ a = X at *
  generalize 2 ^ b = Y at *
  generalize 2 ^ e = Z at *
  calc N * X * K * (n - 1) = N * (X * K) * (n - 1) := by ac_rfl
    _ = N * (256 * (Y * Z)) * (n - 1) := by rw [hP]
    _ = 256 * N * (Y * Z) * (n - 1) := by ac_rfl
    _ = n * C * (Y * Z) * (n - 1) := by rw [h]
    _ = _ := by ac_rfl
theorem told2 {ps qs : List Int} {n : Nat} {m0 m1 k0 k1 : Int} (rp : Rw ps m0 n) (rq : Rw qs m1 n) (h2 : 2 ≤ n) (h31 : n ≤ 31) :
    ∃ r r', Cv (mvOf ps k0) (mvOf qs k1) (.ok (.flt r)) ∧ Cv ((mvOf qs k1).map fl1) ((mvOf ps k0).map fl1) (.ok (.flt r')) ∧ cmp r' r = some .eq ∧
      NearQ r (ovr ((n : Int) * isum (List.zipWith (· * ·) ps qs) - isum ps * isum qs) (plOf k0 + plOf k1)) (und n (plOf k0 + plOf k1)) := by
  have b0 := pl_abs k0
  have b1 := pl_abs k1
  have kp := rp.ks h2 (al_abs k0)
  have kq := rq.ks h2 (al_abs k1)
  have vp := nvs_mv (key := k0) fun p hp => Nat.le_trans (rp.bd p hp) (by decide)
  have vq := nvs_mv (key := k1) fun p hp => Nat.le_trans (rq.bd p hp) (by decide)
  have hd := due16 rp.len rq.len kp kq
  have he : eOf (plOf k0) + eOf (plOf k1) = (1066 + (plOf k0 + plOf k1)).toNat + 1074 := by unfold eOf; omega
  have he' : eOf (plOf k1) + eOf (plOf k0) = (1066 + (plOf k0 + plOf k1)).toNat + 1074 := by unfold eOf; omega
  have e0 : eOf (plOf k0) ≤ 2044 := by unfold eOf; omega
  have e1 : eOf (plOf k1) ≤ 2044 := by unfold eOf; omega
  obtain ⟨sx, c1, f1, s1⟩ := cov_fl vp vq kp.len kq.len h2 h31 kp.sum kq.sum kp.bd kq.bd kp.dv kq.dv e0 e1 he (by omega)
  obtain ⟨sy, c2, f2, s2⟩ := cov_fl (nvs_fl vq) (nvs_fl vp) kq.len kp.len h2 h31 kq.sum kp.sum kq.bd kp.bd kq.dv kp.dv e1 e0 he' (by omega)
  rw [Cc_comm] at f2
  generalize hC : Cc ((ksOf ps (alOf k0)).getD · 0) ((ksOf qs (alOf k1)).getD · 0) (m0 + 16 * alOf k0) (m1 + 16 * alOf k1) n = C at *
  generalize hN : (n : Int) * isum (List.zipWith (· * ·) ps qs) - isum ps * isum qs = N at *
  have hn1 : FV (ofInt (n - 1 : Nat)) (((n - 1 : Nat) : Int) * 2 ^ 1074) := FV.ofInt (rp_e (by decide) (by omega))
  have hu := und_abs n (plOf k0 + plOf k1) h2
  have hab : n * C.natAbs = 256 * N.natAbs := by
    have := congrArg Int.natAbs hd
    rw [Int.natAbs_mul, Int.natAbs_mul, Int.natAbs_natCast] at this
    exact this
  refine ⟨_, _, c1, c2, ?_, ?_⟩
  · by_cases h0 : C = 0
    · subst h0
      have g1 := f1.div hn1 (Int.mul_ne_zero (by omega) (Int.pow_ne_zero (by decide))) (c := 0) (by simp) rp_zero
      have g2 := f2.div hn1 (Int.mul_ne_zero (by omega) (Int.pow_ne_zero (by decide))) (c := 0) (by simp) rp_zero
      rw [g2.cmp g1]; rfl
    · have hne : C * 2 ^ (1066 + (plOf k0 + plOf k1)).toNat ≠ 0 := Int.mul_ne_zero h0 (Int.pow_ne_zero (by decide))
      have := fv_inj f2 f1 hne
      subst this
      obtain ⟨v, q, k, g, _⟩ := near_div f1 h0 s1 (by omega) (by omega) (n1 := n - 1) (by omega) (by omega)
      rw [g.cmp g, show compare (if C < 0 then -(v : Int) else v) (if C < 0 then -(v : Int) else v) = .eq from Int.compare_eq_eq.mpr rfl]
  · refine nearQ_of f1 s1 (by omega) (by omega) (by omega) (by omega) hu.1 ?_ ?_
    · rw [ovr_sg]
      have hnp : (0 : Int) < n := by omega
      rw [neg_iff_mul (c := C) hnp, Int.mul_comm, hd]
      omega
    · rw [ovr_abs, hu.2]
      refine eqA hab ?_
      split <;> omega
theorem dues_lt {ps qs : List Int} {n : Nat} {m0 m1 k0 k1 : Int} (rp : Rw ps m0 n) (rq : Rw qs m1 n) (h2 : 2 ≤ n) (h31 : n ≤ 31) :
    ((n : Int) * isum (List.zipWith (· * ·) ps qs) - isum ps * isum qs).natAbs < 2 ^ 64 ∧ (ovr ((n : Int) * isum (List.zipWith (· * ·) ps qs) - isum ps * isum qs) (plOf k0 + plOf k1)).natAbs < 2 ^ 2000 ∧ (und n (plOf k0 + plOf k1)).natAbs < 2 ^ 2000 := by
  have b0 := pl_abs k0
  have b1 := pl_abs k1
  have i0 := isum_le rp.bd
  have i1 := isum_le rq.bd
  rw [rp.len] at i0
  rw [rq.len] at i1
  have i2 : (isum (List.zipWith (· * ·) ps qs)).natAbs ≤ 31 * (2 ^ 19 * 2 ^ 19) := by
    have := isum_le (B := 2 ^ 19 * 2 ^ 19) (ks := List.zipWith (· * ·) ps qs) fun k hk => by
      obtain ⟨i, hi⟩ := List.getElem?_of_mem hk
      rw [List.getElem?_zipWith] at hi
      cases hp : ps[i]? with
      | none => rw [hp] at hi; cases hi
      | some p =>
        cases hq : qs[i]? with
        | none => rw [hp, hq] at hi; cases hi
        | some q =>
          rw [hp, hq] at hi
          cases hi
          rw [Int.natAbs_mul]
          exact Nat.mul_le_mul (Nat.le_trans (rp.bd p (List.mem_of_getElem? hp)) (by decide)) (Nat.le_trans (rq.bd q (List.mem_of_getElem? hq)) (by decide))
    refine Nat.le_trans this (Nat.mul_le_mul_right _ ?_)
    rw [List.length_zipWith]
    have := rp.len
    omega
  have i0' : (isum ps).natAbs ≤ 31 * 2 ^ 19 := Nat.le_trans i0 (Nat.mul_le_mul h31 (by decide))
  have i1' : (isum qs).natAbs ≤ 31 * 2 ^ 19 := Nat.le_trans i1 (Nat.mul_le_mul h31 (by decide))
  have a1 : ((n : Int) * isum (List.zipWith (· * ·) ps qs)).natAbs ≤ 31 * (31 * (2 ^ 19 * 2 ^ 19)) := by
    rw [Int.natAbs_mul, Int.natAbs_natCast]
    exact Nat.mul_le_mul h31 i2
  have a2 : (isum ps * isum qs).natAbs ≤ 31 * 2 ^ 19 * (31 * 2 ^ 19) := by
    rw [Int.natAbs_mul]
    exact Nat.mul_le_mul i0' i1'
  have hN : ((n : Int) * isum (List.zipWith (· * ·) ps qs) - isum ps * isum qs).natAbs < 2 ^ 64 := by omega
  refine ⟨hN, ?_, ?_⟩
  · rw [ovr_abs]
    have : 2 ^ (if plOf k0 + plOf k1 < 0 then 0 else (plOf k0 + plOf k1).toNat) ≤ 2 ^ 1000 := Nat.pow_le_pow_right (by decide) (by split <;> omega)
    exact Nat.lt_of_le_of_lt (Nat.mul_le_mul (Nat.le_of_lt hN) this) (by decide +kernel)
  · rw [(und_abs n _ h2).2]
    have : 2 ^ (if plOf k0 + plOf k1 < 0 then (-(plOf k0 + plOf k1)).toNat else 0) ≤ 2 ^ 1000 := Nat.pow_le_pow_right (by decide) (by split <;> omega)
    have h3 : n * (n - 1) ≤ 31 * 31 := Nat.mul_le_mul h31 (by omega)
    exact Nat.lt_of_le_of_lt (Nat.mul_le_mul h3 this) (by decide +kernel)
end Mine
end
section
open PySem PySem.W PyProof.Rows
set_option linter.unusedVariables false
set_option maxRecDepth 100000
set_option exponentiation.threshold 3000
namespace Mine
open PySem.Float64 (ofInt cmp)
variable {F : Fix} {P : Params}
noncomputable abbrev ΓL (F : Fix) (A : Around) (P : Params) (L : Addr) : Cx := F.fn A (fdAt (K2 P) 26) 84 L
theorem Subs.length {As Bs : List V} (h : Subs As Bs) : As.length = Bs.length := by
  induction h with
  | nil => rfl
  | cons _ _ ih => simp [ih]
set_option maxHeartbeats 4000000 in
/-- the last two statements -/
theorem seg_end (l : LandT (K2 P) F 61 57) {A : Around} {L : Addr} (hr : Room A 2) {loc : Loc} {r r' : UInt64} {ov un : Int} {vs us : List Value} (hun : 0 < un) (hu2 : un.natAbs < 2 ^ 2000) (ho2 : ov.natAbs < 2 ^ 2000) (nq : NearQ r ov un) (heq : cmp r' r = some .eq)
    (g1 : Has loc "told" (.flt r)) (g2 : Has loc "over" (.int ov)) (g3 : Has loc "under" (.int un)) (g4 : Has loc "again" (.flt r')) (g5 : Has loc "x" (.lst (vs.map .con))) (g6 : Has loc "y" (.lst (us.map .con))) (g7 : Has loc "kept" (.lst [.lst (vs.map .con), .lst (us.map .con)])) :
    Exs (ΓL F A P L) loc ((bdAt (K2 P) 26).drop 15) (FnQ fun R => R = .bool true) (fun _ _ => False) := by
  conv => arg 3; whnf
  refine exs_cons (ex_if (tst_bool (all_or (tst_cmp (ev_type l.type (args_val (ev_name g1 (args_val_nil (bi_typeF (ev_glob l.float (cmp_isnot_con rfl ⟨_, rfl, ?_⟩)))))))))))
  rw [if_neg (by decide)]
  refine all_or (tst_not (tst_val (ev_call l.near (l.fn (fn_near P)) (args_cons (ev_val (ev_name g1 (args_cons (ev_val (ev_name g2 (args_cons (ev_val (ev_name g3 (args_nil (kws_nil ⟨1, _, _, (Room.deeper hr _).less (by decide), c_near l.toLand hun hu2 ho2 nq, ?_, fun x hx => hx.elim⟩))))))))))))))
  intro R hR
  subst hR
  refine tr_bool ?_
  show (if (!true) = true then _ else _)
  rw [if_neg (by decide)]
  refine all_or_nil ?_
  rw [if_neg (by decide)]
  refine exs_nil (exs_ret (ev_bool_op (bo_cons (ev_cmp (ev_type l.type (args_val (ev_name g4 (args_val_nil (bi_typeF (ev_glob l.float (cmp_is_con rfl (tr_bool ?_))))))))))))
  rw [if_pos (by rfl)]
  refine bo_cons (ev_cmp (ev_name g4 (ev_name g1 (cmp_eqF (tr_bool ?_)))))
  rw [if_pos (by rw [heq]; rfl)]
  refine bo_last (ev_cmp (ev_list (args_val (ev_name g5 (args_val (ev_name g6 (args_val_nil ⟨by show 2 ≤ sizeLine; decide, ev_name g7 (cmp_eqL (d := 1) (fun B hB => ?_) ?_ rfl)⟩)))))))
  · simp only [List.mem_cons, List.not_mem_nil, or_false] at hB
    rcases hB with rfl | rfl
    · exact .lst fun C hC => by obtain ⟨v, _, rfl⟩ := List.mem_map.mp hC; exact .con ..
    · exact .lst fun C hC => by obtain ⟨v, _, rfl⟩ := List.mem_map.mp hC; exact .con ..
  · have := (Room.deeper (d := 1) hr (callEnvC (fdAt (K2 P) 26) L 84)).units
    show (A.deeper (callEnvC (fdAt (K2 P) 26) L 84)).units + 1 + 1 < cLine
    omega
theorem ev_head {Γ : Cx} {lc : Loc} {Q : V → Loc → Prop} {X : Exc → Loc → Prop} {p1 p2 pos : Pos} {kk : Nat} {a b : Int} (i : Nat) (hx : Has lc "head" (.lst [.int a, .int b])) (h : (i = 0 ∧ Q (.int a) lc) ∨ (i = 1 ∧ Q (.int b) lc)) : Ev Γ lc (.Subscript (.Name "head" p1) (.Constant (.int i) kk p2) pos) (VQ Q) X := by
  rcases h with ⟨rfl, h⟩ | ⟨rfl, h⟩
  · exact ev_sub (ev_name hx (ev_int (it_lst (by show 2 ≤ sizeLine; decide) ⟨by simp, by simp⟩ (R := .int a) rfl h)))
  · exact ev_sub (ev_name hx (ev_int (it_lst (by show 2 ≤ sizeLine; decide) ⟨by simp, by simp⟩ (R := .int b) rfl h)))
theorem ev_head0 {Γ : Cx} {lc : Loc} {Q : V → Loc → Prop} {X : Exc → Loc → Prop} {p1 p2 pos : Pos} {kk : Nat} {a b : Int} (hx : Has lc "head" (.lst [.int a, .int b])) (h : Q (.int a) lc) : Ev Γ lc (.Subscript (.Name "head" p1) (.Constant (.int 0) kk p2) pos) (VQ Q) X := ev_head 0 hx (.inl ⟨rfl, h⟩)
theorem ev_head1 {Γ : Cx} {lc : Loc} {Q : V → Loc → Prop} {X : Exc → Loc → Prop} {p1 p2 pos : Pos} {kk : Nat} {a b : Int} (hx : Has lc "head" (.lst [.int a, .int b])) (h : Q (.int b) lc) : Ev Γ lc (.Subscript (.Name "head" p1) (.Constant (.int 1) kk p2) pos) (VQ Q) X := ev_head 1 hx (.inr ⟨rfl, h⟩)
theorem pl_sum (a b : Int) : 60 * (a.fmod 17 + b.fmod 17 - 16) = plOf a + plOf b := by unfold plOf; omega
set_option maxHeartbeats 8000000 in
/-- from over on -/
theorem seg_over (l : LandT (K2 P) F 61 57) {A : Around} {L : Addr} (hr : Room A 2) {loc : Loc} {r r' : UInt64} {vs us : List Value} {ps qs : List Int} {n : Nat} {m0 m1 a b : Int} (rp : Rw ps m0 n) (rq : Rw qs m1 n) (h2 : 2 ≤ n) (h31 : n ≤ 31)
    (nq : NearQ r (ovr ((n : Int) * isum (List.zipWith (· * ·) ps qs) - isum ps * isum qs) (plOf a + plOf b)) (und n (plOf a + plOf b))) (heq : cmp r' r = some .eq)
    (g0 : Has loc "n" (.int n)) (gp : Has loc "p" (.lst (ps.map .int))) (gq : Has loc "q" (.lst (qs.map .int))) (gh : Has loc "head" (.lst [.int a, .int b]))
    (g1 : Has loc "told" (.flt r)) (g4 : Has loc "again" (.flt r')) (g5 : Has loc "x" (.lst (vs.map .con))) (g6 : Has loc "y" (.lst (us.map .con))) (g7 : Has loc "kept" (.lst [.lst (vs.map .con), .lst (us.map .con)])) :
    Exs (ΓL F A P L) loc ((bdAt (K2 P) 26).drop 11) (FnQ fun R => R = .bool true) (fun _ _ => False) := by
  obtain ⟨d1, d2, d3⟩ := dues_lt (k0 := a) (k1 := b) rp rq h2 h31
  have hu := und_abs n (plOf a + plOf b) h2
  have fin := fun (lc : Loc) (ov un : Int) (e1 : ov = ovr ((n : Int) * isum (List.zipWith (· * ·) ps qs) - isum ps * isum qs) (plOf a + plOf b)) (e2 : un = und n (plOf a + plOf b)) z1 z2 z3 z4 z5 z6 z7 =>
    seg_end (L := L) l hr (loc := lc) (r := r) (r' := r') (ov := ov) (un := un) (vs := vs) (us := us) (by rw [e2]; exact hu.1) (by rw [e2]; exact d3) (by rw [e1]; exact d2) (by rw [e1, e2]; exact nq) heq z1 z2 z3 z4 z5 z6 z7
  have b0 := pl_abs a
  have b1 := pl_abs b
  have lp := rp.len
  have lq := rq.len
  have bp : ∀ k ∈ ps, k.natAbs < 2 ^ 4000 := fun k hk => Nat.lt_of_le_of_lt (rp.bd k hk) (Nat.lt_of_lt_of_le (show 2 ^ 18 + 31 < 2 ^ 20 by decide) (Nat.pow_le_pow_right (by decide) (by decide)))
  have bq : ∀ k ∈ qs, k.natAbs < 2 ^ 4000 := fun k hk => Nat.lt_of_le_of_lt (rq.bd k hk) (Nat.lt_of_lt_of_le (show 2 ^ 18 + 31 < 2 ^ 20 by decide) (Nat.pow_le_pow_right (by decide) (by decide)))
  have hib : (isum ps).natAbs < 2 ^ 64 := by
    have i0 := isum_le rp.bd
    have : ps.length * (2 ^ 18 + 31) ≤ 31 * (2 ^ 18 + 31) := Nat.mul_le_mul_right _ (by omega)
    omega
  conv => arg 3; whnf
  refine exs_let (.inl rfl) (ev_bin (ev_bin (ev_name g0 (ev_builtin l.sum (args_val ?_)))))
  refine ev_zipmul (ps := ps) (qs := qs) l.zip hr.handled gp gq (by omega) (len6 (by omega)) (fun i hi => mulOk_big (bp _ (mem_get hi)) (bq _ (mem_get (by omega)))) ?_ rfl (by decide) rfl (by decide) rfl rfl (by decide) rfl rfl rfl rfl
  refine args_val_nil (bi_sum hr.handled (op_mul ?_ (.of_left (bits_lt (show ((n : Int)).natAbs < 2 ^ 64 by omega)))))
  refine ev_bin (ev_builtin l.sum (args_val (ev_name gp (args_val_nil (bi_sum hr.handled (ev_builtin l.sum (args_val (ev_name gq (args_val_nil (bi_sum hr.handled (op_mul (op_sub ?_) (.of_left (bits_lt hib)))))))))))))
  refine exs_let (.inl rfl) (ev_bin (ev_name (loc_put g0 rfl) (ev_bin (ev_name (loc_put g0 rfl) (ev_int (op_sub (op_mul ?_ (.of_left (bits_lt (show ((n : Int)).natAbs < 2 ^ 64 by omega))))))))))
  refine exs_let (.inl rfl) (ev_bin (ev_int (ev_bin (ev_bin (ev_bin (ev_head0 (loc_put (loc_put gh rfl) rfl) (ev_int (op_mod (by decide) ?_))))))))
  refine ev_bin (ev_head1 (loc_put (loc_put gh rfl) rfl) (ev_int (op_mod (by decide) (op_add (ev_int (op_sub (op_mul ?_ (.of_left (by decide)))))))))
  rw [pl_sum]
  generalize hN : (n : Int) * isum (List.zipWith (· * ·) ps qs) - isum ps * isum qs = N at *
  refine exs_cons (ex_if (tst_cmp (ev_name rfl (ev_int (cmp_lt ⟨_, rfl, ?_⟩)))))
  have pk : ∀ {lc : Loc} {x : Str} {A B C : LV} {z : V}, Has lc x z → (x == ("over" : Str)) = false → (x == ("under" : Str)) = false → (x == ("places" : Str)) = false → Has ((Str.ofString "places", A) :: (Str.ofString "under", B) :: (Str.ofString "over", C) :: lc) x z := fun h a b c => loc_put (loc_put (loc_put h a) b) c
  by_cases c : plOf a + plOf b < 0
  · rw [decide_eq_true c, if_pos rfl]
    refine exs_cons (ex_aug (x := "under") rfl (ev_bin (ev_int (ev_un (ev_name rfl (op_neg (op_pow (by omega) ?_ (op_imul ?_ ?_))))))) (.inl rfl))
    · show ((2 : Nat) : Int) * _ ≤ _
      omega
    · refine exs_nil (fin _ _ _ ?_ ?_ (loc_put (pk g1 rfl rfl rfl) rfl) rfl rfl (loc_put (pk g4 rfl rfl rfl) rfl) (loc_put (pk g5 rfl rfl rfl) rfl) (loc_put (pk g6 rfl rfl rfl) rfl) (loc_put (pk g7 rfl rfl rfl) rfl))
      · unfold ovr; rw [if_pos c]
      · unfold und; rw [if_pos c]
    · refine mulOk_big ?_ ?_
      · have : ((n : Int) * ((n : Int) - 1)).natAbs ≤ 31 * 31 := by rw [Int.natAbs_mul]; exact Nat.mul_le_mul (by omega) (by omega)
        exact Nat.lt_of_le_of_lt this (Nat.lt_of_lt_of_le (show 31 * 31 < 2 ^ 20 by decide) (Nat.pow_le_pow_right (by decide) (by decide)))
      · rw [Int.natAbs_pow]
        exact Nat.pow_lt_pow_right (by decide) (show (-(plOf a + plOf b)).toNat < 4000 by omega)
  · rw [decide_eq_false c, if_neg (by decide)]
    refine exs_cons (ex_aug (x := "over") rfl (ev_bin (ev_int (ev_name rfl (op_pow (by omega) ?_ (op_imul ?_ ?_))))) (.inl rfl))
    · show ((2 : Nat) : Int) * _ ≤ _
      omega
    · refine exs_nil (fin _ _ _ ?_ ?_ (loc_put (pk g1 rfl rfl rfl) rfl) rfl rfl (loc_put (pk g4 rfl rfl rfl) rfl) (loc_put (pk g5 rfl rfl rfl) rfl) (loc_put (pk g6 rfl rfl rfl) rfl) (loc_put (pk g7 rfl rfl rfl) rfl))
      · unfold ovr; rw [if_neg c]
      · unfold und; rw [if_neg c]
    · refine mulOk_big (Nat.lt_of_lt_of_le d1 (Nat.pow_le_pow_right (by decide) (by decide))) ?_
      rw [Int.natAbs_pow]
      exact Nat.pow_lt_pow_right (by decide) (show (plOf a + plOf b).toNat < 4000 by omega)
end Mine
end
section
open PySem PySem.W PyProof.Rows
set_option linter.unusedVariables false
set_option maxRecDepth 100000
set_option exponentiation.threshold 5000
namespace Mine
open PySem.Float64 (ofInt cmp isInf)
variable {F : Fix} {P : Params}
theorem nvs_num {As : List V} {as : List Int} (h : NVs As as) : ∀ A ∈ As, (∃ i, A = .int i ∧ isInf (ofInt i) = false) ∨ ∃ x, A = .flt x := by
  induction h with
  | nil => intro A hA; cases hA
  | cons hv hn _ ih =>
    intro A hA
    rcases List.mem_cons.mp hA with rfl | hA
    · rcases hv with ⟨i, rfl, rfl, hr⟩ | ⟨x, rfl, _⟩ | ⟨b, rfl, _⟩
      · exact .inl ⟨i, rfl, (FV.ofInt hr).notInf⟩
      · exact .inr ⟨x, rfl⟩
      · exact hn.elim
    · exact ih A hA
theorem nvs_ok {As Bs : List V} {as bs : List Int} (hA : NVs As as) (hB : NVs Bs bs) (h1 : As.length ≤ 70) (h2 : Bs.length ≤ 70) : CvOk As Bs := ⟨h1, h2, hA.fin, hB.fin⟩
theorem filt {As : List V} {f : V → V} : List.map f (List.filter (fun _ => true) (V.items (.lst As))) = As.map f := by
  rw [List.filter_eq_self.mpr fun _ _ => rfl]; rfl
set_option maxHeartbeats 8000000 in
/-- from kept on -/
theorem seg_cov (l : LandT (K2 P) F 61 57) {A : Around} {L : Addr} (hr : Room A 2) {loc : Loc} {ps qs : List Int} {n : Nat} {m0 m1 a b : Int} (rp : Rw ps m0 n) (rq : Rw qs m1 n) (h2 : 2 ≤ n) (h31 : n ≤ 31)
    (g0 : Has loc "n" (.int n)) (gp : Has loc "p" (.lst (ps.map .int))) (gq : Has loc "q" (.lst (qs.map .int))) (gh : Has loc "head" (.lst [.int a, .int b])) (gx : Has loc "x" (.lst (mvOf ps a))) (gy : Has loc "y" (.lst (mvOf qs b))) :
    Exs (ΓL F A P L) loc ((bdAt (K2 P) 26).drop 8) (FnQ fun R => R = .bool true) (fun _ _ => False) := by
  obtain ⟨r, r', c1, c2, heq, nq⟩ := told2 (k0 := a) (k1 := b) rp rq h2 h31
  have vp := nvs_mv (key := a) fun p hp => Nat.le_trans (rp.bd p hp) (by decide)
  have vq := nvs_mv (key := b) fun p hp => Nat.le_trans (rq.bd p hp) (by decide)
  have lA : (mvOf ps a).length = n := by unfold mvOf; rw [List.length_map]; exact rp.len
  have lB : (mvOf qs b).length = n := by unfold mvOf; rw [List.length_map]; exact rq.len
  have fin := fun (lc : Loc) (vs us : List Value) => seg_over (L := L) l hr (loc := lc) (r := r) (r' := r') (vs := vs) (us := us) rp rq h2 h31 nq heq
  generalize mvOf ps a = As at *
  generalize mvOf qs b = Bs at *
  have o1 := nvs_ok vp vq (by omega) (by omega)
  have o2 := nvs_ok (nvs_fl vq) (nvs_fl vp) (by simp; omega) (by simp; omega)
  have fr : ∀ {lc : Loc} {scope : Scope}, closureFor scope (ΓL F A P L).env = pure [] → scope.kind = .function → (∀ y ∈ scope.names, y.2 = .local → scope.names.lookup y.1 = some .local) → Frees (ΓL F A P L) lc scope [] [] := fun c k nm =>
    { clos := c, hcl := fun y c e => (by cases e), kind := k, names := nm, fr := fun y lv e => (by cases e) }
  refine exs_con (x := "x") gx (nvs_scal vp) fun vs hs => exs_con (x := "y") (loc_put gy rfl) (nvs_scal vq) fun us ht => ?_
  have lv : (vs.map V.con).length = n := by rw [hs.length, lA]
  have lu : (us.map V.con).length = n := by rw [ht.length, lB]
  have up : ∀ {x : Str} {z : V} {B C : LV}, Has loc x z → (x == ("x" : Str)) = false → (x == ("y" : Str)) = false → Has ((Str.ofString "y", B) :: (Str.ofString "x", C) :: loc) x z := fun h c d => loc_put (loc_put h c) d
  replace g0 := up (B := .val (.lst (us.map .con))) (C := .val (.lst (vs.map .con))) g0 rfl rfl
  replace gp := up (B := .val (.lst (us.map .con))) (C := .val (.lst (vs.map .con))) gp rfl rfl
  replace gq := up (B := .val (.lst (us.map .con))) (C := .val (.lst (vs.map .con))) gq rfl rfl
  replace gh := up (B := .val (.lst (us.map .con))) (C := .val (.lst (vs.map .con))) gh rfl rfl
  have gX : Has ((Str.ofString "y", .val (.lst (us.map .con))) :: (Str.ofString "x", .val (.lst (vs.map .con))) :: loc) "x" (.lst (vs.map .con)) := rfl
  have gY : Has ((Str.ofString "y", .val (.lst (us.map .con))) :: (Str.ofString "x", .val (.lst (vs.map .con))) :: loc) "y" (.lst (us.map .con)) := rfl
  generalize ((Str.ofString "y", LV.val (.lst (us.map .con))) :: (Str.ofString "x", LV.val (.lst (vs.map .con))) :: loc) = lc at *
  conv => arg 3; whnf
  refine exs_let (.inl rfl) (ev_list (args_val (ev_type l.list (args_val (ev_name gX (args_val_nil (bi_list (.inl rfl) (len6 (by omega)) ?_)))))))
  refine args_val (ev_type l.list (args_val (ev_name gY (args_val_nil (bi_list (.inl rfl) (len6 (by omega)) (args_val_nil ⟨by show 2 ≤ sizeLine; decide, ?_⟩))))))
  refine exs_let (.inl rfl) (ev_call l.cov (l.fn (fn_cov P)) (args_cons (ev_val (ev_name_as (.lst As) hs.lst (loc_put gX rfl) (args_cons (ev_val (ev_name_as (.lst Bs) ht.lst (loc_put gY rfl) (args_nil (kws_nil ?_)))))))))
  refine ⟨1, _, _, (Room.deeper hr _).less (by decide), c_cov l (.inl rfl) (.inl rfl) o1 c1, ?_, fun x hx => by cases hx⟩
  intro R hR
  cases hR
  refine exs_let (.inl rfl) (ev_call l.cov (l.fn (fn_cov P)) (args_cons (ev_val (ev_type l.tuple (args_val (ev_comp hr.handled (ev_name_as (.lst Bs) ht.lst (loc_put (loc_put gY rfl) rfl) ⟨trivial, len6 (by simp [V.items]; omega), [], [], fl1, fun _ => true, fr rfl rfl (by decide), ?b1, ?c1⟩)))))))
  case b1 =>
    refine { hx := .inl rfl, xfr := rfl, hifs := fun B _ C => ifs_nil, helt := ?_ }
    intro B hB _ C
    rcases nvs_num vq B hB with ⟨i, rfl, hi⟩ | ⟨y, rfl⟩
    · exact ev_type l.float (args_val (ev_name rfl (args_val_nil (bi_float hr.handled (fun z => by rw [hi] at z; cases z) fun _ => ⟨rfl, Loc.le_cons _ (Loc.le_refl _) rfl⟩))))
    · exact ev_type l.float (args_val (ev_name rfl (args_val_nil (bi_floatF ⟨rfl, Loc.le_cons _ (Loc.le_refl _) rfl⟩))))
  case c1 =>
    rw [filt]
    refine args_val_nil (bi_tuple (len6 (by simp; omega)) ?_)
    refine args_cons (ev_val (ev_type l.tuple (args_val (ev_comp hr.handled (ev_name_as (.lst As) hs.lst (loc_put (loc_put gX rfl) rfl) ⟨trivial, len6 (by simp [V.items]; omega), [], [], fl1, fun _ => true, fr rfl rfl (by decide), ?b2, ?c2⟩)))))
    case b2 =>
      refine { hx := .inl rfl, xfr := rfl, hifs := fun B _ C => ifs_nil, helt := ?_ }
      intro B hB _ C
      rcases nvs_num vp B hB with ⟨i, rfl, hi⟩ | ⟨y, rfl⟩
      · exact ev_type l.float (args_val (ev_name rfl (args_val_nil (bi_float hr.handled (fun z => by rw [hi] at z; cases z) fun _ => ⟨rfl, Loc.le_cons _ (Loc.le_refl _) rfl⟩))))
      · exact ev_type l.float (args_val (ev_name rfl (args_val_nil (bi_floatF ⟨rfl, Loc.le_cons _ (Loc.le_refl _) rfl⟩))))
    case c2 =>
      rw [filt]
      refine args_val_nil (bi_tuple (len6 (by simp; omega)) ?_)
      refine args_nil (kws_nil ⟨1, _, _, (Room.deeper hr _).less (by decide), c_cov l (.inr rfl) (.inr rfl) o2 c2, ?_, fun x hx => by cases hx⟩)
      intro R hR
      cases hR
      exact fin _ vs us (loc_put (loc_put (loc_put g0 rfl) rfl) rfl) (loc_put (loc_put (loc_put gp rfl) rfl) rfl) (loc_put (loc_put (loc_put gq rfl) rfl) rfl) (loc_put (loc_put (loc_put gh rfl) rfl) rfl) rfl rfl (loc_put (loc_put (loc_put gX rfl) rfl) rfl) (loc_put (loc_put (loc_put gY rfl) rfl) rfl) rfl
end Mine
end
section
open PySem PySem.W PyProof.Rows
set_option linter.unusedVariables false
set_option maxRecDepth 100000
set_option exponentiation.threshold 5000
namespace Mine
variable {F : Fix} {P : Params}
theorem clip_nat (n k : Nat) : clipAt n (k : Int) = min k n := by unfold clipAt; split <;> omega
theorem slc_to (As : List V) (k : Nat) : slc As none (some (k : Int)) = As.take k := by
  simp only [slc, Option.elim, clip_nat, List.drop_zero, Nat.sub_zero]
  rw [Nat.min_comm, ← List.take_take]
  exact List.take_of_length_le (by simp; omega)
theorem slc_ft (As : List V) (a b : Nat) (h : b ≤ As.length) (hab : a ≤ b) : slc As (some (a : Int)) (some (b : Int)) = (As.drop a).take (b - a) := by
  simp only [slc, Option.elim, clip_nat]
  rw [Nat.min_eq_left h, Nat.min_eq_left (by omega)]
theorem slc_263 {As : List V} (h : As.length ≤ 63) : slc As (some 2) (some 63) = As.drop 2 := by
  rw [show (2 : Int) = ((2 : Nat) : Int) from rfl, show (63 : Int) = ((63 : Nat) : Int) from rfl]
  simp only [slc, Option.elim, clip_nat]
  rw [Nat.min_eq_right h]
  by_cases c : 2 ≤ As.length
  · rw [Nat.min_eq_left c, List.take_of_length_le (by simp)]
  · rw [Nat.min_eq_right (by omega), Nat.sub_self, List.take_zero, List.drop_of_length_le (show As.length ≤ 2 by omega)]
theorem rw_bd {ps : List Int} {m0 : Int} {n : Nat} (h : Rw ps m0 n) : ∀ p ∈ ps, p.natAbs ≤ 2 ^ 20 := fun p hp => Nat.le_trans (h.bd p hp) (by decide)
set_option maxHeartbeats 8000000 in
theorem seg_n (l : LandT (K2 P) F 61 57) {A : Around} {L : Addr} (hr : Room A 2) {loc : Loc} {ms : List Int} {a b : Int} (h4 : 4 ≤ ms.length) (h63 : ms.length ≤ 61)
    (gh : Has loc "head" (.lst [.int a, .int b])) (gm : Has loc "numbers" (.lst (ms.map .int))) :
    Exs (ΓL F A P L) loc ((bdAt (K2 P) 26).drop 3) (FnQ fun R => R = .bool true) (fun _ _ => False) := by
  have fin := fun (lc : Loc) (ps qs : List Int) (n : Nat) (m0 m1 : Int) (rp : Rw ps m0 n) (rq : Rw qs m1 n) (h2 : 2 ≤ n) (h31 : n ≤ 31) => seg_cov (L := L) l hr (loc := lc) (a := a) (b := b) rp rq h2 h31
  conv => arg 3; whnf
  refine exs_let (.inl rfl) (ev_bin (ev_builtin l.len (args_val (ev_name gm (args_val_nil (bi_len_lst (len6 (by simp; omega)) (ev_int (op_fdiv (by decide) (noPylong (by decide)) ?_))))))))
  rw [List.length_map, fdiv2]
  have hn2 : 2 ≤ ms.length / 2 := by omega
  have hn31 : ms.length / 2 ≤ 30 := by omega
  have hnn : 2 * (ms.length / 2) ≤ ms.length := by omega
  generalize ms.length / 2 = n at *
  refine exs_let (.inl rfl) (ev_call l.row (l.fn (fn_row P)) (args_cons (ev_val (ev_slice (ev_name (loc_put gm rfl) ⟨_, rfl, len6 (by simp; omega), pt_none (pt_some (ev_name rfl ⟨_, rfl, ?_⟩))⟩)))))
  rw [slc_to, ← List.map_take]
  have l1 : (ms.take n).length = n := by simp; omega
  have l2 : ((ms.drop n).take n).length = n := by simp; omega
  refine args_nil (kws_nil ⟨1, _, _, (Room.deeper hr _).less (by decide), c_row l.toLand (by omega) (by omega), ?_, fun x hx => hx.elim⟩)
  rintro R ⟨od, ho, rfl⟩
  rw [l1] at ho
  obtain ⟨m0, rp⟩ := row_rw l1 hn2 (by omega) ho
  generalize lowBy od ((ms.take n).map sm18) = ps at *
  refine exs_let (.inl rfl) (ev_call l.row (l.fn (fn_row P)) (args_cons (ev_val (ev_slice (ev_name (loc_put (loc_put gm rfl) rfl) ⟨_, rfl, len6 (by simp; omega), pt_some (ev_name rfl ⟨_, rfl, pt_some (ev_bin (ev_int (ev_name rfl (op_mul ⟨_, rfl, ?_⟩ (.of_left (by decide))))))⟩)⟩)))))
  rw [show (2 : Int) * (n : Int) = ((2 * n : Nat) : Int) by push_cast; rfl, slc_ft _ _ _ (by simp; omega) (by omega), ← List.map_drop, ← List.map_take, show 2 * n - n = n by omega]
  refine args_nil (kws_nil ⟨1, _, _, (Room.deeper hr _).less (by decide), c_row l.toLand (by omega) (by omega), ?_, fun x hx => hx.elim⟩)
  rintro R ⟨od', ho', rfl⟩
  rw [l2] at ho'
  obtain ⟨m1, rq⟩ := row_rw l2 hn2 (by omega) ho'
  generalize lowBy od' (((ms.drop n).take n).map sm18) = qs at *
  have lp := rp.len
  have lq := rq.len
  refine exs_let (.inl rfl) (ev_call l.moved (l.fn (fn_moved P)) (args_cons (ev_val (ev_name rfl (args_cons (ev_val (ev_head0 (loc_put (loc_put (loc_put gh rfl) rfl) rfl) (args_nil (kws_nil ⟨1, _, _, (Room.deeper hr _).less (by decide), c_moved (ps := ps) (key := a) l.toLand (by omega) (rw_bd rp), ?_, fun x hx => hx.elim⟩)))))))))
  intro R hR
  subst hR
  refine exs_let (.inl rfl) (ev_call l.moved (l.fn (fn_moved P)) (args_cons (ev_val (ev_name rfl (args_cons (ev_val (ev_head1 (loc_put (loc_put (loc_put (loc_put gh rfl) rfl) rfl) rfl) (args_nil (kws_nil ⟨1, _, _, (Room.deeper hr _).less (by decide), c_moved (ps := qs) (key := b) l.toLand (by omega) (rw_bd rq), ?_, fun x hx => hx.elim⟩)))))))))
  intro R hR
  subst hR
  exact fin _ ps qs n m0 m1 rp rq hn2 (by omega) rfl rfl rfl (loc_put (loc_put (loc_put (loc_put (loc_put gh rfl) rfl) rfl) rfl) rfl) rfl rfl
theorem head_two (ns : List Int) : ∃ a b : Int, (ns.map V.int ++ [V.int 8, V.int 8]).take 2 = [.int a, .int b] := by
  match ns with
  | [] => exact ⟨8, 8, rfl⟩
  | [x] => exact ⟨x, 8, rfl⟩
  | x :: y :: r => exact ⟨x, y, rfl⟩
set_option maxHeartbeats 8000000 in
theorem c_law (l : LandT (K2 P) F 61 57) (ns : List Int) (hns : ns.length ≤ 63) : Calls F (.ref 84) 2 [.val (.lst (ns.map .int))] [] [] (fun R => R = .bool true) (fun _ => False) := by
  refine calls_of (names := ["script"]) (l.fn (fn_law P)) (by decide) (by intro x hx; simp at hx; subst hx; exact .inl rfl) rfl (fun s vals kvals hb h1 h2 => ?_) fun A L hr => ?_
  · match vals, kvals, h1, h2 with
    | [v], [], _, _ => exact .of_eq rfl
  · have nx := fun (lc : Loc) (ms : List Int) (a b : Int) h4 h63 z1 z2 => seg_n (L := L) l hr (loc := lc) (ms := ms) (a := a) (b := b) h4 h63 z1 z2
    show Exs (ΓL F A P L) [("script", .val (.lst (ns.map .int)))] _ _ _
    obtain ⟨a, b, hab⟩ := head_two ns
    conv => arg 3; whnf
    refine exs_let (.inl rfl) (ev_slice_tmp (ev_bin (ev_name rfl (ev_list (args_val (ev_int (args_val (ev_int (args_val_nil ⟨by show 2 ≤ sizeLine; decide, op_add_lst (len6 (by simp; omega)) ⟨_, rfl, len6 (by simp; omega), pt_none (pt_some (ev_int ⟨2, rfl, ?_⟩))⟩⟩)))))))))
    rw [show (2 : Int) = ((2 : Nat) : Int) from rfl, slc_to, hab]
    refine exs_let (.inl rfl) (ev_slice (ev_name rfl ⟨_, rfl, len6 (by simp; omega), pt_some (ev_int ⟨2, rfl, pt_some (ev_int ⟨63, rfl, ?_⟩)⟩)⟩))
    rw [slc_263 (by simpa using hns), ← List.map_drop]
    have hml : (ns.drop 2).length ≤ 61 := by simp; omega
    generalize ns.drop 2 = ms at hml
    refine exs_cons (ex_if (tst_cmp (ev_builtin l.len (args_val (ev_name rfl (args_val_nil (bi_len_lst (len6 (by simp; omega)) (ev_int (cmp_lt ⟨_, rfl, ?_⟩)))))))))
    rw [List.length_map]
    by_cases c : ms.length < 4
    · rw [decide_eq_true (by omega), if_pos rfl]
      refine exs_let (.inl rfl) (ev_bin (ev_name rfl (ev_list (args_val (ev_int (args_val (ev_un (ev_int (op_neg (args_val (ev_un (ev_int (op_neg (args_val (ev_int (args_val_nil ⟨by show 4 ≤ sizeLine; decide, op_add_lst (len6 (by simp; omega)) ?_⟩))))))))))))))))
      refine exs_nil (nx _ (ms ++ [3, -1, -2, 4]) a b (by simp) (by simp; omega) rfl ?_)
      show Has _ _ _
      rw [List.map_append]
      rfl
    · rw [decide_eq_false (by omega), if_neg (by decide)]
      exact exs_nil (nx _ ms a b (by omega) hml rfl rfl)
end Mine
end
open PySem PySem.W PyProof.Rows
set_option linter.unusedVariables false
set_option maxRecDepth 100000
set_option maxHeartbeats 8000000 in
theorem PySem.Challenge.cw_dn0169_02_holds : PySem.Challenge.rw_dn0169_02.Holds := by
  refine Mine.hd02 ?_
  intro w s₀ s₁ mg mb G Y fa o pm cd doc dV kV ho hd hcd hD hmg hg args vals as hpre hlay hrd hwl hlo
  have T := G.T
  have KX := kIn_of Y
  have hfa : fa = 84 := by
    have e := mg_of KX T.g (n := "law") (v := .ref 84) rfl
    have e' : mg "law" = some (.ref fa) := hmg
    rw [e'] at e
    cases e; rfl
  subst hfa
  wrow_args hpre hlay hrd hwl hlo
  rename IntsAre _ _ => hI
  rename Heap.IsList _ _ _ => hL
  rename PyData.layable0 _ = true => hlay0
  rename ¬ ((63 : Nat) : Int) < _ => hlen
  have hT : TabsAt [(61, 57)] s₁.heap := by
    intro q hq
    rw [List.mem_singleton.mp hq]
    exact tab_of (x := "covariance") T KX rfl rfl
  refine Mine.fin_lawT (d := 2) hT (by decide) hL hI hg (fun _ => rfl) (postW_of rfl (w_eq_bool (w_res rfl) w_lit) rfl) ?_
  exact Mine.c_law (P := w.params) ⟨Mine.land_of T hT KX (by rfl), Mine.genLand_of T hT (List.mem_singleton.mpr rfl)⟩ _ (by omega)
#print axioms PySem.Challenge.cw_dn0169_02_holds
