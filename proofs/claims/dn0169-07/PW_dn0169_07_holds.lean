import PyProof.Rows.All
import Wide.All
import OpenK.AllK
import Wide.FinOn
import PySem.Challenge.RW_dn0169_07
set_option Elab.async false
section
open PySem PySem.W PyProof.Rows
namespace Mine

/-- abstract values -/
inductive V where
  | none
  | bool (b : Bool)
  | int (i : Int)
  | flt (x : UInt64)
  | str (x : Str)
  | tup (vs : List V)
  | lst (vs : List V)
  | con (v : Value)
  | rng (a b c : Int)
  | exc (cls : Value) (m : Str)

abbrev Hm := Addr → Option Obj

mutual
def Rep (H : Hm) : V → Value → Prop
  | .none, v => v = .none
  | .bool b, v => v = .bool b
  | .int i, v => ∃ t, v = .int i t
  | .flt x, v => ∃ t, v = .float x t
  | .str x, v => ∃ t, v = .str x t
  | .con c, v => v = c
  | .exc c m, v => ∃ a o vs t ot n tk, v = .ref a ∧ H a = some o ∧ o.cls = c ∧ o.data = .fields vs ∧ vs[0]? = some (.ref t) ∧ H t = some ot ∧ ot.cls = .type "tuple" ∧ ot.data = .seq #[.str m tk] n
  | .rng i j k, v => ∃ r t u w, v = .ref r ∧ H r = some { cls := .type "range", dict := none, data := .fields #[.int i t, .int j u, .int k w], slots := #[] }
  | .tup As, v => ∃ a o xs n, v = .ref a ∧ H a = some o ∧ o.cls = .type "tuple" ∧ o.data = .seq xs n ∧ Reps H As xs.toList
  | .lst As, v => ∃ a o xs n, v = .ref a ∧ H a = some o ∧ o.cls = .type "list" ∧ o.data = .seq xs n ∧ Reps H As xs.toList
def Reps (H : Hm) : List V → List Value → Prop
  | [], xs => xs = []
  | A :: As, xs => ∃ y ys, xs = y :: ys ∧ Rep H A y ∧ Reps H As ys
end

def Hle (H H' : Hm) : Prop := ∀ b o, H b = some o → H' b = some o
theorem Hle.refl (H : Hm) : Hle H H := fun _ _ e => e
theorem Hle.trans {H H' H'' : Hm} (x : Hle H H') (y : Hle H' H'') : Hle H H'' := fun b o e => y b o (x b o e)

mutual
theorem Rep.mono {H H' : Hm} (hle : Hle H H') : ∀ (A : V) (v : Value), Rep H A v → Rep H' A v
  | .none, _, h => by simpa only [Rep] using h
  | .bool _, _, h => by simpa only [Rep] using h
  | .int _, _, h => by simpa only [Rep] using h
  | .flt _, _, h => by simpa only [Rep] using h
  | .str _, _, h => by simpa only [Rep] using h
  | .con _, _, h => by simpa only [Rep] using h
  | .exc _ _, _, h => by
    simp only [Rep] at h ⊢
    obtain ⟨a, o, vs, t, ot, n, tk, h1, h2, h3, h4, h5, h6, h7⟩ := h
    exact ⟨a, o, vs, t, ot, n, tk, h1, hle _ _ h2, h3, h4, h5, hle _ _ h6, h7⟩
  | .rng _ _ _, _, h => by
    simp only [Rep] at h ⊢
    obtain ⟨r, t, u, w, h1, h2⟩ := h
    exact ⟨r, t, u, w, h1, hle _ _ h2⟩
  | .tup As, v, h => by
    simp only [Rep] at h ⊢
    obtain ⟨a, o, xs, n, h1, h2, h3, h4, h5⟩ := h
    exact ⟨a, o, xs, n, h1, hle _ _ h2, h3, h4, Reps.mono hle As _ h5⟩
  | .lst As, v, h => by
    simp only [Rep] at h ⊢
    obtain ⟨a, o, xs, n, h1, h2, h3, h4, h5⟩ := h
    exact ⟨a, o, xs, n, h1, hle _ _ h2, h3, h4, Reps.mono hle As _ h5⟩
theorem Reps.mono {H H' : Hm} (hle : Hle H H') : ∀ (As : List V) (xs : List Value), Reps H As xs → Reps H' As xs
  | [], _, h => by simpa only [Reps] using h
  | A :: As, xs, h => by
    simp only [Reps] at h ⊢
    obtain ⟨y, ys, h1, h2, h3⟩ := h
    exact ⟨y, ys, h1, Rep.mono hle A y h2, Reps.mono hle As ys h3⟩
end

/-- what a local name holds: a value; a list of the frame's own; an iterator of the frame's own -/
inductive LV where
  | val (A : V)
  | own (b : Addr) (As : List V)
  | itr (As : List V)
def LV.mine : LV → Bool
  | .val _ => false
  | _ => true

abbrev Loc := List (Str × LV)

structure Fix where
  prog : Program
  w : World
  h₁ : Heap
  os : OsState

structure Cx where
  F : Fix
  A : Around
  env : Env
  mine : Str → Bool

abbrev Cx.M (Γ : Cx) : Model := model Γ.F.prog Γ.F.w

def Same (F : Fix) (b : Addr) (o o' : Obj) : Prop :=
  o' = o ∨ (F.h₁.get? b = none ∧ (∃ es ep, o.data = .dict es ep) ∧ o'.cls = o.cls ∧ o'.data = o.data ∧ o'.dict = o.dict)
theorem Same.refl (F : Fix) (b : Addr) (o : Obj) : Same F b o o := .inl rfl
theorem Same.cls {F : Fix} {b : Addr} {o o' : Obj} (h : Same F b o o') : o'.cls = o.cls := by rcases h with rfl | h; rfl; exact h.2.2.1
theorem Same.data {F : Fix} {b : Addr} {o o' : Obj} (h : Same F b o o') : o'.data = o.data := by rcases h with rfl | h; rfl; exact h.2.2.2.1
theorem Same.dict {F : Fix} {b : Addr} {o o' : Obj} (h : Same F b o o') : o'.dict = o.dict := by rcases h with rfl | h; rfl; exact h.2.2.2.2
theorem Same.trans {F : Fix} {b : Addr} {o o' o'' : Obj} (x : Same F b o o') (y : Same F b o' o'') : Same F b o o'' := by
  rcases x with rfl | ⟨x1, x2, x3, x4, x5⟩
  · exact y
  · exact .inr ⟨x1, x2, y.cls.trans x3, y.data.trans x4, y.dict.trans x5⟩
theorem Same.eq_of_data {F : Fix} {b : Addr} {o o' : Obj} (h : Same F b o o') (hc : ∀ es ep, o.data ≠ .dict es ep) : o' = o := by
  rcases h with h | ⟨_, ⟨es, ep, h⟩, _⟩
  · exact h
  · exact absurd h (hc es ep)
theorem Same.eq_of_base {F : Fix} {b : Addr} {o o' q : Obj} (h : Same F b o o') (hb : F.h₁.get? b = some q) : o' = o := by
  rcases h with h | h
  · exact h
  · rw [hb] at h; cases h.1

abbrev OSet := Addr → Prop

/-- the relation of two states of one activation -/
structure Nx (F : Fix) (H : Hm) (O : OSet) (h : Heap) (H' : Hm) (O' : OSet) (h' : Heap) : Prop where
  kp : ∀ b o, h.get? b = some o → ¬ O b → ∃ o', h'.get? b = some o' ∧ Same F b o o'
  there : ∀ b o, h.get? b = some o → ∃ o', h'.get? b = some o'
  hle : Hle H H'
  hnew : ∀ b o, H' b = some o → H b = some o ∨ O b ∨ h.get? b = none
  onew : ∀ b, O' b → O b ∨ h.get? b = none

theorem Nx.refl (F : Fix) (H : Hm) (O : OSet) (h : Heap) : Nx F H O h H O h :=
  ⟨fun _ o e _ => ⟨o, e, .refl ..⟩, fun _ o e => ⟨o, e⟩, .refl _, fun _ _ e => .inl e, fun _ e => .inl e⟩
theorem Nx.none_back {F H O h H' O' h'} (x : Nx F H O h H' O' h') {b : Addr} (e : h'.get? b = none) : h.get? b = none := by
  cases hb : h.get? b with
  | none => rfl
  | some o => obtain ⟨o', e'⟩ := x.there b o hb; rw [e] at e'; cases e'
theorem Nx.trans {F H O h H' O' h' H'' O'' h''} (x : Nx F H O h H' O' h') (y : Nx F H' O' h' H'' O'' h'') : Nx F H O h H'' O'' h'' where
  kp := fun b o e hb => by
    obtain ⟨o', e', s'⟩ := x.kp b o e hb
    have hb' : ¬ O' b := fun q => (x.onew b q).elim hb fun z => by rw [z] at e; cases e
    obtain ⟨o'', e'', s''⟩ := y.kp b o' e' hb'
    exact ⟨o'', e'', s'.trans s''⟩
  there := fun b o e => by
    obtain ⟨o', e'⟩ := x.there b o e
    exact y.there b o' e'
  hle := x.hle.trans y.hle
  hnew := fun b o e => by
    rcases y.hnew b o e with h1 | h1 | h1
    · exact x.hnew b o h1
    · exact .inr (x.onew b h1)
    · exact .inr (.inr (x.none_back h1))
  onew := fun b e => by
    rcases y.onew b e with h1 | h1
    · exact x.onew b h1
    · exact .inr (x.none_back h1)

def VarIs (env : Env) (h : Heap) (x : Str) (v : Value) : Prop :=
  (env.kindOf x = some .local ∧ ∃ m, h.Ns env.locals m ∧ m x = some v) ∨
  ((env.kindOf x = some .cell ∨ env.kindOf x = some .free) ∧ ∃ c o, env.cells.lookup x = some c ∧ h.get? c = some o ∧ o.data = .cell (some v))

theorem ns_fun {h : Heap} {a : Addr} {m m' : Str → Option Value} (x : h.Ns a m) (y : h.Ns a m') : m = m' := by
  obtain ⟨o, es, ep, e, d, _, f⟩ := x
  obtain ⟨o', es', ep', e', d', _, f'⟩ := y
  rw [e] at e'; cases e'
  rw [d] at d'; cases d'
  funext n
  rw [← f, ← f']

theorem VarIs.inj {env : Env} {h : Heap} {x : Str} {v v' : Value} (a : VarIs env h x v) (b : VarIs env h x v') : v = v' := by
  rcases a with ⟨k, m, n, e⟩ | ⟨k, c, o, l, g, d⟩ <;> rcases b with ⟨k', m', n', e'⟩ | ⟨k', c', o', l', g', d'⟩
  · cases ns_fun n n'; rw [e] at e'; exact Option.some.inj e'
  · rw [k] at k'; rcases k' with k' | k' <;> cases k'
  · rw [k'] at k; rcases k with k | k <;> cases k
  · rw [l] at l'; cases l'
    rw [g] at g'; cases g'
    rw [d] at d'; cases d'; rfl

def OwnL (H : Hm) (h : Heap) (a : Addr) (As : List V) : Prop :=
  ∃ o xs n, h.get? a = some o ∧ o.cls = .type "list" ∧ o.data = .seq xs n ∧ (o.dict = none ∧ o.slots = #[]) ∧ Reps H As xs.toList
def ItrL (H : Hm) (h : Heap) (a : Addr) (As : List V) : Prop :=
  ∃ l i o xs n, h.IsListIter a l i ∧ H l = some o ∧ o.cls = .type "list" ∧ o.data = .seq xs n ∧ Reps H As (xs.toList.drop i)

def LVAt (H : Hm) (O : OSet) (h : Heap) : LV → Value → Prop
  | .val A, v => Rep H A v
  | .own b As, v => ∃ a, v = .ref a ∧ O a ∧ b = a ∧ OwnL H h a As
  | .itr As, v => ∃ a, v = .ref a ∧ O a ∧ ItrL H h a As

/-- the frames of the stack, as a traceback wants them -/
def FrOk (A : Around) (F : Fix) (h : Heap) : Prop :=
  ∃ l, A.frames = some l ∧ ∀ env ∈ l, env.scope.kind ≠ .module ∧ ∃ L o es ep, env.frame = some L ∧ h.get? L = some o ∧ o.data = .dict es ep ∧ F.h₁.get? L = none

structure StH (Γ : Cx) (H : Hm) (O : OSet) (loc : Loc) (h : Heap) (os : OsState) (g : Array GenState) : Prop where
  base : ∀ b o, Γ.F.h₁.get? b = some o → h.get? b = some o
  agree : ∀ b o, H b = some o → h.get? b = some o
  nofr : ∀ b o, H b = some o → ∀ es ep, o.data ≠ .dict es ep
  os : os = Γ.F.os
  gens : AllBare g
  obase : ∀ b, O b → Γ.F.h₁.get? b = none
  ohm : ∀ b, O b → H b = none
  othere : ∀ b, O b → ∃ o, h.get? b = some o
  kind : Γ.env.scope.kind = .function
  ns : ∃ m, h.Ns Γ.env.locals m
  onsO : O Γ.env.locals
  vars : ∀ x lv, loc.lookup x = some lv → ∃ v, VarIs Γ.env h x v ∧ LVAt H O h lv v
  sep : ∀ x y a lv lv', loc.lookup x = some lv → loc.lookup y = some lv' → lv.mine = true → lv'.mine = true → VarIs Γ.env h x (.ref a) → VarIs Γ.env h y (.ref a) → x = y
  apart : ∀ x a lv, loc.lookup x = some lv → lv.mine = true → VarIs Γ.env h x (.ref a) → a ≠ Γ.env.locals ∧ ∀ y c, Γ.env.cells.lookup y = some c → a ≠ c
  cells : ∀ x c, Γ.env.cells.lookup x = some c → (Γ.mine x = true → O c) ∧ ∃ o v, h.get? c = some o ∧ o.data = .cell v
  cne : ∀ x c, Γ.env.cells.lookup x = some c → c ≠ Γ.env.locals
  cinj : ∀ x y c, Γ.env.cells.lookup x = some c → Γ.env.cells.lookup y = some c → x = y
  frames : FrOk Γ.A Γ.F h

abbrev St (Γ : Cx) (H : Hm) (O : OSet) (loc : Loc) (s : Shared) : Prop := StH Γ H O loc s.heap s.os s.gens

structure Exc where
  cls : Value
  msg : Option Str

def ArgOk (H : Hm) (x : Exc) (vs : Array Value) : Prop :=
  (∀ m, x.msg = some m → ∃ t o n tk, vs[0]? = some (.ref t) ∧ H t = some o ∧ o.cls = .type "tuple" ∧ o.data = .seq #[.str m tk] n) ∧ (x.msg = none → vs[2]? = some .none)

/-- an exception in flight, made since h₀ -/
structure Fly (H : Hm) (O : OSet) (h₀ h : Heap) (e : Value) (x : Exc) : Prop where
  mk ::
  is : ∃ a o vs, e = .ref a ∧ h₀.get? a = none ∧ ¬ O a ∧ H a = none ∧ h.get? a = some o ∧ o.cls = x.cls ∧ o.data = .fields vs ∧ ArgOk H x vs ∧
    (vs[1]? = some .none ∨ ∃ tb otb tvs, vs[1]? = some (.ref tb) ∧ h₀.get? tb = none ∧ ¬ O tb ∧ H tb = none ∧ tb ≠ a ∧ h.get? tb = some otb ∧ otb.cls = .type "traceback" ∧ otb.data = .fields tvs ∧ 3 < tvs.size)

/-- a result, new since h₀ where it is the frame's own -/
def Res (H : Hm) (O : OSet) (h₀ h : Heap) : LV → Value → Prop
  | .val A, v => Rep H A v
  | .own b As, v => ∃ a, v = .ref a ∧ h₀.get? a = none ∧ ¬ O a ∧ H a = none ∧ b = a ∧ OwnL H h a As
  | .itr As, v => ∃ a, v = .ref a ∧ h₀.get? a = none ∧ ¬ O a ∧ H a = none ∧ ItrL H h a As

def PostV (Γ : Cx) (H : Hm) (O : OSet) (s : Shared) (Q : LV → Loc → Prop) (v : Value) (s' : Shared) : Prop :=
  ∃ H' O' loc' lv, Nx Γ.F H O s.heap H' O' s'.heap ∧ St Γ H' O' loc' s' ∧ Res H' O' s.heap s'.heap lv v ∧ Q lv loc'
def PostX (Γ : Cx) (H : Hm) (O : OSet) (s : Shared) (X : Exc → Loc → Prop) (e : Value) (s' : Shared) : Prop :=
  ∃ H' O' loc' x, Nx Γ.F H O s.heap H' O' s'.heap ∧ St Γ H' O' loc' s' ∧ Fly H' O' s.heap s'.heap e x ∧ X x loc'

def Ev (Γ : Cx) (loc : Loc) (e : Expr) (Q : LV → Loc → Prop) (X : Exc → Loc → Prop) : Prop :=
  ∀ H O s, St Γ H O loc s → wpAny Γ.M Γ.A (eval e Γ.env) (PostV Γ H O s Q) (PostX Γ H O s X) s

def PostB (Γ : Cx) (H : Hm) (O : OSet) (s : Shared) (Q : Bool → Loc → Prop) (b : Bool) (s' : Shared) : Prop :=
  ∃ H' O' loc', Nx Γ.F H O s.heap H' O' s'.heap ∧ St Γ H' O' loc' s' ∧ Q b loc'
def Tst (Γ : Cx) (loc : Loc) (e : Expr) (Q : Bool → Loc → Prop) (X : Exc → Loc → Prop) : Prop :=
  ∀ H O s, St Γ H O loc s → wpAny Γ.M Γ.A (isTrue e Γ.env (eval e Γ.env)) (PostB Γ H O s Q) (PostX Γ H O s X) s

inductive Fl where
  | next | brk | cont
  | ret (A : V)
def FlIs (H : Hm) : Fl → Flow → Prop
  | .next, f => f = .next
  | .brk, f => f = .brk
  | .cont, f => f = .cont
  | .ret A, f => ∃ v, f = .ret v ∧ Rep H A v
def PostF (Γ : Cx) (H : Hm) (O : OSet) (s : Shared) (Q : Fl → Loc → Prop) (f : Flow) (s' : Shared) : Prop :=
  ∃ H' O' loc' fl, Nx Γ.F H O s.heap H' O' s'.heap ∧ St Γ H' O' loc' s' ∧ FlIs H' fl f ∧ Q fl loc'
def Exs (Γ : Cx) (loc : Loc) (ss : List Stmt) (Q : Fl → Loc → Prop) (X : Exc → Loc → Prop) : Prop :=
  ∀ H O s, St Γ H O loc s → wpAny Γ.M Γ.A (execs ss Γ.env) (PostF Γ H O s Q) (PostX Γ H O s X) s
def Ex1 (Γ : Cx) (loc : Loc) (st : Stmt) (Q : Fl → Loc → Prop) (X : Exc → Loc → Prop) : Prop :=
  ∀ H O s, St Γ H O loc s → wpAny Γ.M Γ.A (exec st Γ.env) (PostF Γ H O s Q) (PostX Γ H O s X) s

end Mine
end
section
open PySem PySem.W PyProof.Rows
namespace Mine

/-! ## states -/

theorem Rep.int_of {H : Hm} {i : Int} {v : Value} (h : Rep H (.int i) v) : ∃ t, v = .int i t := by simpa only [Rep] using h
theorem Rep.flt_of {H : Hm} {x : UInt64} {v : Value} (h : Rep H (.flt x) v) : ∃ t, v = .float x t := by simpa only [Rep] using h
theorem Rep.bool_of {H : Hm} {x : Bool} {v : Value} (h : Rep H (.bool x) v) : v = .bool x := by simpa only [Rep] using h
theorem Rep.none_of {H : Hm} {v : Value} (h : Rep H .none v) : v = .none := by simpa only [Rep] using h
theorem Rep.str_of {H : Hm} {x : Str} {v : Value} (h : Rep H (.str x) v) : ∃ t, v = .str x t := by simpa only [Rep] using h
theorem Rep.con_of {H : Hm} {c v : Value} (h : Rep H (.con c) v) : v = c := by simpa only [Rep] using h
theorem Rep.lst_of {H : Hm} {As : List V} {v : Value} (h : Rep H (.lst As) v) :
    ∃ a o xs n, v = .ref a ∧ H a = some o ∧ o.cls = .type "list" ∧ o.data = .seq xs n ∧ Reps H As xs.toList := by simpa only [Rep] using h
theorem Rep.tup_of {H : Hm} {As : List V} {v : Value} (h : Rep H (.tup As) v) :
    ∃ a o xs n, v = .ref a ∧ H a = some o ∧ o.cls = .type "tuple" ∧ o.data = .seq xs n ∧ Reps H As xs.toList := by simpa only [Rep] using h
theorem rep_int (H : Hm) (i : Int) (t : Tok) : Rep H (.int i) (.int i t) := by simp only [Rep]; exact ⟨t, rfl⟩
theorem rep_flt (H : Hm) (i : UInt64) (t : Tok) : Rep H (.flt i) (.float i t) := by simp only [Rep]; exact ⟨t, rfl⟩
theorem rep_str (H : Hm) (i : Str) (t : Tok) : Rep H (.str i) (.str i t) := by simp only [Rep]; exact ⟨t, rfl⟩
theorem rep_bool (H : Hm) (i : Bool) : Rep H (.bool i) (.bool i) := by simp only [Rep]
theorem rep_none (H : Hm) : Rep H .none .none := by simp only [Rep]
theorem rep_con (H : Hm) (c : Value) : Rep H (.con c) c := by simp only [Rep]
theorem rep_lst {H : Hm} {As : List V} {a : Addr} {o : Obj} {xs : Array Value} {n : Nat} (h2 : H a = some o) (h3 : o.cls = .type "list") (h4 : o.data = .seq xs n) (h5 : Reps H As xs.toList) :
    Rep H (.lst As) (.ref a) := by simp only [Rep]; exact ⟨a, o, xs, n, rfl, h2, h3, h4, h5⟩
theorem rep_tup {H : Hm} {As : List V} {a : Addr} {o : Obj} {xs : Array Value} {n : Nat} (h2 : H a = some o) (h3 : o.cls = .type "tuple") (h4 : o.data = .seq xs n) (h5 : Reps H As xs.toList) :
    Rep H (.tup As) (.ref a) := by simp only [Rep]; exact ⟨a, o, xs, n, rfl, h2, h3, h4, h5⟩
theorem reps_nil (H : Hm) : Reps H [] [] := by simp only [Reps]
theorem reps_cons {H : Hm} {A : V} {As : List V} {y : Value} {ys : List Value} (h : Rep H A y) (hs : Reps H As ys) : Reps H (A :: As) (y :: ys) := by
  simp only [Reps]; exact ⟨y, ys, rfl, h, hs⟩
theorem Reps.length : ∀ {H : Hm} {As : List V} {xs : List Value}, Reps H As xs → xs.length = As.length
  | _, [], _, h => by simp only [Reps] at h; subst h; rfl
  | _, A :: As, _, h => by
    simp only [Reps] at h
    obtain ⟨y, ys, rfl, _, hs⟩ := h
    simp [Reps.length hs]
theorem Reps.append : ∀ {H : Hm} {As Bs : List V} {xs ys : List Value}, Reps H As xs → Reps H Bs ys → Reps H (As ++ Bs) (xs ++ ys)
  | _, [], _, _, _, h, h' => by simp only [Reps] at h; subst h; exact h'
  | _, A :: As, _, _, _, h, h' => by
    simp only [Reps] at h
    obtain ⟨y, ys, rfl, hy, hs⟩ := h
    exact reps_cons hy (Reps.append hs h')
theorem Reps.get : ∀ {H : Hm} {As : List V} {xs : List Value} {i : Nat} {A : V}, Reps H As xs → As[i]? = some A → ∃ y, xs[i]? = some y ∧ Rep H A y
  | _, [], _, _, _, _, e => by simp at e
  | _, B :: As, _, 0, A, h, e => by
    simp only [Reps] at h
    obtain ⟨y, ys, rfl, hy, hs⟩ := h
    simp at e; subst e
    exact ⟨y, rfl, hy⟩
  | _, B :: As, _, i + 1, A, h, e => by
    simp only [Reps] at h
    obtain ⟨y, ys, rfl, hy, hs⟩ := h
    simp at e
    obtain ⟨z, hz, hr⟩ := Reps.get hs e
    exact ⟨z, by simpa using hz, hr⟩
theorem Reps.get_none {H : Hm} {As : List V} {xs : List Value} {i : Nat} (h : Reps H As xs) (e : As[i]? = none) : xs[i]? = none := by
  rw [List.getElem?_eq_none_iff] at e ⊢
  rw [h.length]; exact e
theorem Reps.of_get : ∀ {H : Hm} {As : List V} {xs : List Value}, xs.length = As.length → (∀ (i : Nat) (A : V) (y : Value), As[i]? = some A → xs[i]? = some y → Rep H A y) → Reps H As xs
  | _, [], xs, hl, _ => by simp at hl; subst hl; exact reps_nil _
  | _, A :: As, [], hl, _ => by simp at hl
  | _, A :: As, y :: ys, hl, h => reps_cons (h 0 A y rfl rfl) (Reps.of_get (by simpa using hl) fun i B z e e' => h (i + 1) B z (by simpa using e) (by simpa using e'))
theorem Reps.take {H : Hm} {As : List V} {xs : List Value} (k : Nat) (h : Reps H As xs) : Reps H (As.take k) (xs.take k) := by
  refine Reps.of_get (by simp [h.length]) fun i A y e e' => ?_
  rw [List.getElem?_take] at e e'
  split at e
  · rw [if_pos (by assumption)] at e'
    obtain ⟨z, hz, hr⟩ := h.get e
    rw [hz] at e'; cases e'; exact hr
  · cases e
theorem Reps.drop {H : Hm} {As : List V} {xs : List Value} (k : Nat) (h : Reps H As xs) : Reps H (As.drop k) (xs.drop k) := by
  refine Reps.of_get (by simp [h.length]) fun i A y e e' => ?_
  rw [List.getElem?_drop] at e e'
  obtain ⟨z, hz, hr⟩ := h.get e
  rw [hz] at e'; cases e'; exact hr

section
variable {Γ : Cx} {H H' : Hm} {O O' : OSet} {loc loc' : Loc} {s s' : Shared} {h h' : Heap} {os os' : OsState} {g g' : Array GenState}

theorem ns_same {F : Fix} {a : Addr} {m : Str → Option Value} (x : h.Ns a m) (k : ∀ o, h.get? a = some o → ∃ o', h'.get? a = some o' ∧ Same F a o o') : h'.Ns a m := by
  obtain ⟨o, es, ep, e, d, r⟩ := x
  obtain ⟨o', e', sm⟩ := k o e
  exact ⟨o', es, ep, e', sm.data.trans d, r⟩

theorem VarIs.same {F : Fix} {env : Env} {x : Str} {v : Value} (a : VarIs env h x v) (k : ∀ b o, h.get? b = some o → ∃ o', h'.get? b = some o' ∧ Same F b o o') : VarIs env h' x v := by
  rcases a with ⟨kk, m, n, e⟩ | ⟨kk, c, o, l, gg, d⟩
  · exact .inl ⟨kk, m, ns_same n fun o e => k _ o e, e⟩
  · obtain ⟨o', e', sm⟩ := k c o gg
    exact .inr ⟨kk, c, o', l, e', sm.data.trans d⟩
theorem VarIs.back {F : Fix} {env : Env} {x : Str} {v : Value} (a : VarIs env h' x v) (k : ∀ b o, h.get? b = some o → ∃ o', h'.get? b = some o' ∧ Same F b o o')
    {v' : Value} (b : VarIs env h x v') : VarIs env h x v := by
  have := (b.same k).inj a
  subst this; exact b

theorem OwnL.same {F : Fix} {a : Addr} {As : List V} (x : OwnL H h a As) (hle : Hle H H') (k : ∀ o, h.get? a = some o → ∃ o', h'.get? a = some o' ∧ Same F a o o') : OwnL H' h' a As := by
  obtain ⟨o, xs, n, e, c, d, q, r⟩ := x
  obtain ⟨o', e', sm⟩ := k o e
  have : o' = o := sm.eq_of_data fun es ep z => by rw [d] at z; cases z
  subst this
  exact ⟨o', xs, n, e', c, d, q, r.mono hle⟩
theorem ItrL.same {F : Fix} {a : Addr} {As : List V} (x : ItrL H h a As) (hle : Hle H H') (k : ∀ o, h.get? a = some o → ∃ o', h'.get? a = some o' ∧ Same F a o o') : ItrL H' h' a As := by
  obtain ⟨l, i, o, xs, n, ⟨q, e, c, d⟩, hl, hc, hd, r⟩ := x
  obtain ⟨q', e', sm⟩ := k q e
  exact ⟨l, i, o, xs, n, ⟨q', e', sm.cls.trans c, sm.data.trans d⟩, hle _ _ hl, hc, hd, r.mono hle⟩
theorem LVAt.same {F : Fix} {lv : LV} {v : Value} (x : LVAt H O h lv v) (hle : Hle H H') (hO : ∀ b, O b → O' b) (k : ∀ b o, h.get? b = some o → ∃ o', h'.get? b = some o' ∧ Same F b o o') : LVAt H' O' h' lv v := by
  cases lv with
  | val A => exact Rep.mono hle _ _ x
  | own _ As => obtain ⟨a, e, ha, eb, w⟩ := x; exact ⟨a, e, hO a ha, eb, w.same hle (k a)⟩
  | itr As => obtain ⟨a, e, ha, w⟩ := x; exact ⟨a, e, hO a ha, w.same hle (k a)⟩

theorem FrOk.same {A : Around} {F : Fix} (x : FrOk A F h) (k : ∀ b o, h.get? b = some o → ∃ o', h'.get? b = some o' ∧ Same F b o o') : FrOk A F h' := by
  obtain ⟨l, hl, r⟩ := x
  refine ⟨l, hl, fun env he => ?_⟩
  obtain ⟨h1, L, o, es, ep, h2, h3, h5, h6⟩ := r env he
  obtain ⟨o', e', sm⟩ := k L o h3
  exact ⟨h1, L, o', es, ep, h2, e', sm.data.trans h5, h6⟩

theorem VarIs.sameW {F : Fix} {env : Env} {x : Str} {v : Value} (a : VarIs env h x v) (k : ∀ b o, h.get? b = some o → (b = env.locals ∨ ∃ y, env.cells.lookup y = some b) → ∃ o', h'.get? b = some o' ∧ Same F b o o') : VarIs env h' x v := by
  rcases a with ⟨kk, m, n, e⟩ | ⟨kk, c, o, l, gg, d⟩
  · exact .inl ⟨kk, m, ns_same n fun o e => k _ o e (.inl rfl), e⟩
  · obtain ⟨o', e', sm⟩ := k c o gg (.inr ⟨_, l⟩)
    exact .inr ⟨kk, c, o', l, e', sm.data.trans d⟩
theorem VarIs.backW {F : Fix} {env : Env} {x : Str} {v : Value} (a : VarIs env h' x v) (k : ∀ b o, h.get? b = some o → (b = env.locals ∨ ∃ y, env.cells.lookup y = some b) → ∃ o', h'.get? b = some o' ∧ Same F b o o')
    {v' : Value} (b : VarIs env h x v') : VarIs env h x v := by
  have := (b.sameW k).inj a
  subst this; exact b
theorem LVAt.sameW {F : Fix} {lv : LV} {v : Value} (x : LVAt H O h lv v) (hle : Hle H H') (hO : ∀ b, O b → O' b) (k : ∀ b o, O b → h.get? b = some o → ∃ o', h'.get? b = some o' ∧ Same F b o o') : LVAt H' O' h' lv v := by
  cases lv with
  | val A => exact Rep.mono hle _ _ x
  | own _ As => obtain ⟨a, e, ha, eb, w⟩ := x; exact ⟨a, e, hO a ha, eb, w.same hle (k a · ha)⟩
  | itr As => obtain ⟨a, e, ha, w⟩ := x; exact ⟨a, e, hO a ha, w.same hle (k a · ha)⟩
theorem FrOk.sameW {A : Around} {F : Fix} (x : FrOk A F h) (k : ∀ b o, h.get? b = some o → (∃ l, A.frames = some l ∧ ∃ env ∈ l, env.frame = some b) → ∃ o', h'.get? b = some o' ∧ Same F b o o') : FrOk A F h' := by
  obtain ⟨l, hl, r⟩ := x
  refine ⟨l, hl, fun env he => ?_⟩
  obtain ⟨h1, L, o, es, ep, h2, h3, h5, h6⟩ := r env he
  obtain ⟨o', e', sm⟩ := k L o h3 ⟨l, hl, env, he, h2⟩
  exact ⟨h1, L, o', es, ep, h2, e', sm.data.trans h5, h6⟩

/-- an object that no fact of the state speaks of -/
structure Foreign (Γ : Cx) (H : Hm) (O : OSet) (b : Addr) : Prop where
  base : Γ.F.h₁.get? b = none
  hm : H b = none
  o : ¬ O b
  cell : ∀ y, Γ.env.cells.lookup y ≠ some b
  fr : ∀ l, Γ.A.frames = some l → ∀ env ∈ l, env.frame ≠ some b

theorem StH.foreign (st : StH Γ H O loc h os g) {b : Addr} (hb : h.get? b = none) : Foreign Γ H O b where
  base := by
    cases e : Γ.F.h₁.get? b with
    | none => rfl
    | some o => have := st.base b o e; rw [hb] at this; cases this
  hm := by
    cases e : H b with
    | none => rfl
    | some o => have := st.agree b o e; rw [hb] at this; cases this
  o := fun z => by obtain ⟨o, e⟩ := st.othere b z; rw [hb] at e; cases e
  cell := fun y e => by obtain ⟨_, o, w, e, _⟩ := st.cells y b e; rw [hb] at e; cases e
  fr := fun l hl env he e => by
    obtain ⟨l', hl', r⟩ := st.frames
    rw [hl] at hl'; cases hl'
    obtain ⟨_, L, o, es, ep, h2, h3, _⟩ := r env he
    rw [e] at h2; cases h2
    rw [hb] at h3; cases h3

/-- nothing known has changed; H may know more of what is new -/
theorem StH.extW (st : StH Γ H O loc h os g) (W : Addr → Prop) (hW : ∀ b, W b → Foreign Γ H O b) (k : ∀ b o, ¬ W b → h.get? b = some o → ∃ o', h'.get? b = some o' ∧ Same Γ.F b o o') (hg : AllBare g')
    (hle : Hle H H') (hos : os' = Γ.F.os) (ag : ∀ b o, H' b = some o → H b = some o ∨ (¬ O b ∧ h'.get? b = some o ∧ (∀ es ep, o.data ≠ .dict es ep))) : StH Γ H' O loc h' os' g' := by
  have kO : ∀ b o, O b → h.get? b = some o → ∃ o', h'.get? b = some o' ∧ Same Γ.F b o o' := fun b o hb e => k b o (fun q => (hW b q).o hb) e
  have kV : ∀ b o, h.get? b = some o → (b = Γ.env.locals ∨ ∃ y, Γ.env.cells.lookup y = some b) → ∃ o', h'.get? b = some o' ∧ Same Γ.F b o o' := fun b o e q => by
    refine k b o (fun z => ?_) e
    rcases q with rfl | ⟨w, d⟩
    · exact (hW _ z).o st.onsO
    · exact (hW b z).cell w d
  exact
  { base := fun b o e => by
      obtain ⟨o', e', sm⟩ := k b o (fun z => by rw [(hW b z).base] at e; cases e) (st.base b o e)
      rw [e', sm.eq_of_base e]
    agree := fun b o e => by
      rcases ag b o e with h1 | h1
      · obtain ⟨o', e', sm⟩ := k b o (fun z => by rw [(hW b z).hm] at h1; cases h1) (st.agree b o h1)
        rw [e', sm.eq_of_data (st.nofr b o h1)]
      · exact h1.2.1
    nofr := fun b o e => by
      rcases ag b o e with h1 | h1
      · exact st.nofr b o h1
      · exact h1.2.2
    os := hos
    gens := hg
    obase := st.obase
    ohm := fun b hb => by
      cases e : H' b with
      | none => rfl
      | some o =>
        rcases ag b o e with h1 | h1
        · rw [st.ohm b hb] at h1; cases h1
        · exact absurd hb h1.1
    othere := fun b hb => by
      obtain ⟨o, e⟩ := st.othere b hb
      obtain ⟨o', e', _⟩ := kO b o hb e
      exact ⟨o', e'⟩
    kind := st.kind
    ns := let ⟨m, x⟩ := st.ns; ⟨m, ns_same x fun o e => kV _ o e (.inl rfl)⟩
    onsO := st.onsO
    vars := fun x lv e => by
      obtain ⟨v, hv, hl⟩ := st.vars x lv e
      exact ⟨v, hv.sameW kV, hl.sameW hle (fun _ q => q) kO⟩
    sep := fun x y a lv lv' e e' m m' hx hy => by
      obtain ⟨v, hv, _⟩ := st.vars x lv e
      obtain ⟨v', hv', _⟩ := st.vars y lv' e'
      exact st.sep x y a lv lv' e e' m m' (hx.backW kV hv) (hy.backW kV hv')
    apart := fun x a lv e m hx => by
      obtain ⟨v, hv, _⟩ := st.vars x lv e
      exact st.apart x a lv e m (hx.backW kV hv)
    cells := fun x c e => by
      obtain ⟨h1, o, v, h2, h3⟩ := st.cells x c e
      obtain ⟨o', e', sm⟩ := kV c o h2 (.inr ⟨x, e⟩)
      exact ⟨h1, o', v, e', sm.data.trans h3⟩
    cne := st.cne
    cinj := st.cinj
    frames := st.frames.sameW fun b o e ⟨l, hl, env, he, d⟩ => k b o (fun z => (hW b z).fr l hl env he d) e }

theorem StH.ext (st : StH Γ H O loc h os g) (k : ∀ b o, h.get? b = some o → ∃ o', h'.get? b = some o' ∧ Same Γ.F b o o') (hg : AllBare g')
    (hle : Hle H H') (ag : ∀ b o, H' b = some o → H b = some o ∨ (h.get? b = none ∧ h'.get? b = some o ∧ (∀ es ep, o.data ≠ .dict es ep))) : StH Γ H' O loc h' os g' :=
  st.extW (fun _ => False) (fun _ z => z.elim) (fun b o _ e => k b o e) hg hle st.os fun b o e => (ag b o e).imp id fun q => ⟨fun hb => (by obtain ⟨o', e'⟩ := st.othere b hb; rw [q.1] at e'; cases e'), q.2⟩

/-- less is known -/
theorem StH.less (st : StH Γ H O loc h os g) (hw : ∀ x lv, loc'.lookup x = some lv → loc.lookup x = some lv) : StH Γ H O loc' h os g :=
  { st with
    vars := fun x lv e => st.vars x lv (hw x lv e)
    sep := fun x y a lv lv' e e' => st.sep x y a lv lv' (hw _ _ e) (hw _ _ e')
    apart := fun x a lv e => st.apart x a lv (hw _ _ e) }

end

/-! ## what follows what -/
section
variable {Γ : Cx} {H H₁ : Hm} {O O₁ : OSet} {loc : Loc} {s s₁ s₂ : Shared}

theorem Res.back {F : Fix} {H' : Hm} {O' : OSet} {h h₁ h' : Heap} {lv : LV} {v : Value} (r : Res H' O' h₁ h' lv v) (n : Nx F H O h H₁ O₁ h₁) : Res H' O' h h' lv v := by
  cases lv with
  | val A => exact r
  | own _ As => obtain ⟨a, e, hn, r⟩ := r; exact ⟨a, e, n.none_back hn, r⟩
  | itr As => obtain ⟨a, e, hn, r⟩ := r; exact ⟨a, e, n.none_back hn, r⟩

theorem PostV.back {Q : LV → Loc → Prop} {v : Value} (n : Nx Γ.F H O s.heap H₁ O₁ s₁.heap) (p : PostV Γ H₁ O₁ s₁ Q v s₂) : PostV Γ H O s Q v s₂ := by
  obtain ⟨H', O', loc', lv, n', st, r, q⟩ := p
  exact ⟨H', O', loc', lv, n.trans n', st, r.back n, q⟩
theorem PostB.back {Q : Bool → Loc → Prop} {v : Bool} (n : Nx Γ.F H O s.heap H₁ O₁ s₁.heap) (p : PostB Γ H₁ O₁ s₁ Q v s₂) : PostB Γ H O s Q v s₂ := by
  obtain ⟨H', O', loc', n', st, q⟩ := p
  exact ⟨H', O', loc', n.trans n', st, q⟩
theorem PostF.back {Q : Fl → Loc → Prop} {v : Flow} (n : Nx Γ.F H O s.heap H₁ O₁ s₁.heap) (p : PostF Γ H₁ O₁ s₁ Q v s₂) : PostF Γ H O s Q v s₂ := by
  obtain ⟨H', O', loc', fl, n', st, q⟩ := p
  exact ⟨H', O', loc', fl, n.trans n', st, q⟩
theorem Fly.back {F : Fix} {H' : Hm} {O' : OSet} {h h₁ h' : Heap} {e : Value} {x : Exc} (r : Fly H' O' h₁ h' e x) (n : Nx F H O h H₁ O₁ h₁) : Fly H' O' h h' e x := by
  obtain ⟨a, o, vs, h1, h2, h3, h4, h5, h6, h7, h8, h9⟩ := r.is
  refine ⟨a, o, vs, h1, n.none_back h2, h3, h4, h5, h6, h7, h8, h9.imp id ?_⟩
  rintro ⟨tb, otb, tvs, k1, k2, k3⟩
  exact ⟨tb, otb, tvs, k1, n.none_back k2, k3⟩
theorem PostX.back {X : Exc → Loc → Prop} {v : Value} (n : Nx Γ.F H O s.heap H₁ O₁ s₁.heap) (p : PostX Γ H₁ O₁ s₁ X v s₂) : PostX Γ H O s X v s₂ := by
  obtain ⟨H', O', loc', x, n', st, r, q⟩ := p
  exact ⟨H', O', loc', x, n.trans n', st, r.back n, q⟩

/-- the same state (its tokens may have grown) -/
theorem PostV.here {Q : LV → Loc → Prop} {v : Value} {A : V} (st : St Γ H O loc s) (r : Rep H A v) (q : Q (.val A) loc) (tk : Nat) : PostV Γ H O s Q v { s with toks := tk } :=
  ⟨H, O, loc, .val A, .refl .., st, r, q⟩
theorem PostV.here' {Q : LV → Loc → Prop} {v : Value} {A : V} (st : St Γ H O loc s) (r : Rep H A v) (q : Q (.val A) loc) : PostV Γ H O s Q v s :=
  ⟨H, O, loc, .val A, .refl .., st, r, q⟩
end

/-- a value is wanted -/
def VQ (Q : V → Loc → Prop) : LV → Loc → Prop
  | .val A, loc => Q A loc
  | _, _ => False

/-- two values to one -/
def Op2 (Γ : Cx) (loc : Loc) (t : Value → Value → Sem Value) (A B : V) (Q : V → Loc → Prop) (X : Exc → Loc → Prop) : Prop :=
  ∀ H O s a b, St Γ H O loc s → Rep H A a → Rep H B b → wpAny Γ.M Γ.A (t a b) (PostV Γ H O s (VQ Q)) (PostX Γ H O s X) s
def Op1 (Γ : Cx) (loc : Loc) (t : Value → Sem Value) (A : V) (Q : V → Loc → Prop) (X : Exc → Loc → Prop) : Prop :=
  ∀ H O s a, St Γ H O loc s → Rep H A a → wpAny Γ.M Γ.A (t a) (PostV Γ H O s (VQ Q)) (PostX Γ H O s X) s
def Opb (Γ : Cx) (loc : Loc) (t : Value → Sem Bool) (A : V) (Q : Bool → Loc → Prop) (X : Exc → Loc → Prop) : Prop :=
  ∀ H O s a, St Γ H O loc s → Rep H A a → wpAny Γ.M Γ.A (t a) (PostB Γ H O s Q) (PostX Γ H O s X) s

section
variable {Γ : Cx} {loc : Loc} {Q : V → Loc → Prop} {QL : LV → Loc → Prop} {X : Exc → Loc → Prop}

theorem Ev.mono {e : Expr} {Q' : LV → Loc → Prop} {X' : Exc → Loc → Prop} (h : Ev Γ loc e QL X) (hQ : ∀ a l, QL a l → Q' a l) (hX : ∀ a l, X a l → X' a l) : Ev Γ loc e Q' X' :=
  fun H O s st => wpAny_mono (h H O s st) (fun _ _ ⟨H', O', l', lv, n, st', r, q⟩ => ⟨H', O', l', lv, n, st', r, hQ _ _ q⟩) fun _ _ ⟨H', O', l', x, n, st', r, q⟩ => ⟨H', O', l', x, n, st', r, hX _ _ q⟩
theorem Ev.less {e : Expr} {loc' : Loc} (h : Ev Γ loc' e QL X) (hw : ∀ x lv, loc'.lookup x = some lv → loc.lookup x = some lv) : Ev Γ loc e QL X :=
  fun H O s st => h H O s (st.less hw)

theorem ev_int {i k pos} (h : Q (.int i) loc) : Ev Γ loc (.Constant (.int i) k pos) (VQ Q) X :=
  fun H _ _ st => wpAny_Constant_int (PostV.here st (rep_int H ..) h _)
theorem ev_none {k pos} (h : Q .none loc) : Ev Γ loc (.Constant .none k pos) (VQ Q) X :=
  fun H _ _ st => wpAny_Constant_none (PostV.here' st (rep_none H) h)
theorem ev_bool {b k pos} (h : Q (.bool b) loc) : Ev Γ loc (.Constant (.bool b) k pos) (VQ Q) X :=
  fun H _ _ st => wpAny_Constant_bool (PostV.here' st (rep_bool H b) h)
theorem ev_str {x : Str} {k pos} (h : Q (.str x) loc) : Ev Γ loc (.Constant (.str x) k pos) (VQ Q) X :=
  fun H _ _ st => wpAny_Constant_str (PostV.here st (rep_str H ..) h _)
theorem ev_flt {x : UInt64} {k pos} (h : Q (.flt x) loc) : Ev Γ loc (.Constant (.float x) k pos) (VQ Q) X :=
  fun H _ s st => fun _ _ _ => PostV.here st (rep_flt H x s.toks) h (s.toks + 1)

theorem wp_var {M : Model} {A : Around} {E : Value → Shared → Prop} {s : Shared} {env : Env} {x : Str} {v : Value} {Q : Value → Shared → Prop} (hk : env.scope.kind = .function) (hv : VarIs env s.heap x v) (h : Q v s) (hn : (x == ("__classdict__" : Str)) = false) :
    wpAny M A (loadName env x) Q E s := by
  rcases hv with ⟨k, m, n, e⟩ | ⟨k, c, o, l, g, d⟩
  · exact wpAny_loadName_local hk k n e h
  · by_cases hc : env.kindOf x = some .cell
    · exact wpAny_loadName_cell hk hc l ⟨o, g, d⟩ h
    · exact wpAny_loadName_free hk (k.resolve_left hc) l ⟨o, g, d⟩ h hn

theorem ev_name {x : Str} {pos} {A : V} (hx : loc.lookup x = some (.val A)) (h : Q A loc) (hd : (x == ("__debug__" : Str)) = false := by decide) (hn : (x == ("__classdict__" : Str)) = false := by decide) : Ev Γ loc (.Name x pos) (VQ Q) X := by
  intro H O s st
  obtain ⟨v, hv, hl⟩ := st.vars x _ hx
  exact wpAny_Name (wp_var st.kind hv (PostV.here' st hl h) hn) hd

theorem ev_bin {l op r pos} (h : Ev Γ loc l (VQ fun A l₁ => Ev Γ l₁ r (VQ fun B l₂ => Op2 Γ l₂ (binaryOp op) A B Q X) X) X) : Ev Γ loc (.BinOp l op r pos) (VQ Q) X := by
  intro H O s st
  refine wpAny_BinOp (wpAny_mono (h H O s st) (fun a s₁ p => ?_) fun _ _ p => p)
  obtain ⟨H₁, O₁, l₁, lv, n₁, st₁, r₁, q₁⟩ := p
  cases lv with
  | own _ _ => exact q₁.elim
  | itr _ => exact q₁.elim
  | val A =>
    refine wpAny_mono (q₁ H₁ O₁ s₁ st₁) (fun b s₂ p => ?_) fun _ _ p => p.back n₁
    obtain ⟨H₂, O₂, l₂, lv, n₂, st₂, r₂, q₂⟩ := p
    cases lv with
    | own _ _ => exact q₂.elim
    | itr _ => exact q₂.elim
    | val B => exact wpAny_mono (q₂ H₂ O₂ s₂ a b st₂ (Rep.mono n₂.hle _ _ r₁) r₂) (fun _ _ p => p.back (n₁.trans n₂)) fun _ _ p => p.back (n₁.trans n₂)
end
end Mine
end
section
open PySem PySem.W PyProof.Rows
namespace Mine

theorem Nx.then {F H O h₀ H₁ O₁ h₁ H₂ h₂} {O₂ : OSet} (n : Nx F H O h₀ H₁ O₁ h₁) (kp : ∀ b o, h₁.get? b = some o → ¬ O₁ b → h₀.get? b ≠ none → ∃ o', h₂.get? b = some o' ∧ Same F b o o')
    (there : ∀ b o, h₁.get? b = some o → h₀.get? b ≠ none → ∃ o', h₂.get? b = some o') (hle : Hle H₁ H₂) (hnew : ∀ b o, H₂ b = some o → H₁ b = some o ∨ O₁ b ∨ h₀.get? b = none)
    (onew : ∀ b, O₂ b → O₁ b ∨ h₀.get? b = none) : Nx F H O h₀ H₂ O₂ h₂ where
  kp := fun b o e hb => by
    obtain ⟨o', e', s'⟩ := n.kp b o e hb
    have hb' : ¬ O₁ b := fun q => (n.onew b q).elim hb fun z => by rw [z] at e; cases e
    obtain ⟨o'', e'', s''⟩ := kp b o' e' hb' (by rw [e]; exact fun z => by cases z)
    exact ⟨o'', e'', s'.trans s''⟩
  there := fun b o e => by
    obtain ⟨o', e'⟩ := n.there b o e
    exact there b o' e' (by rw [e]; exact fun z => by cases z)
  hle := n.hle.trans hle
  hnew := fun b o e => by
    rcases hnew b o e with h1 | h1 | h1
    · exact n.hnew b o h1
    · exact .inr (n.onew b h1)
    · exact .inr (.inr h1)
  onew := fun b e => (onew b e).elim (n.onew b) .inr

/-- the frame may store under this name -/
def Cx.stores (Γ : Cx) (x : Str) : Prop :=
  Γ.env.kindOf x = some .local ∨ (Γ.env.kindOf x = some .cell ∧ Γ.mine x = true ∧ (Γ.env.cells.lookup x).isSome = true)

def LV.addr : LV → Value → Option Addr
  | .val _, _ => none
  | _, .ref a => some a
  | _, _ => none

def Oadd (O : OSet) (p : Option Addr) : OSet := fun b => O b ∨ p = some b

section
variable {Γ : Cx} {H : Hm} {O : OSet} {loc : Loc} {h h' h₀ : Heap} {os : OsState} {g : Array GenState} {x : Str} {lv : LV} {v : Value}

theorem lookup_cons_self (x : Str) (lv : LV) (loc : Loc) : List.lookup x ((x, lv) :: loc) = some lv := by simp [List.lookup]
theorem lookup_cons_ne {x y : Str} (hne : y ≠ x) (lv : LV) (loc : Loc) : List.lookup y ((x, lv) :: loc) = List.lookup y loc := by
  have : (y == x) = false := by simpa using hne
  simp [List.lookup, this]

theorem Res.new_obj (r : Res H O h₀ h lv v) (hm : lv.mine = true) : ∃ a, v = .ref a ∧ lv.addr v = some a ∧ h₀.get? a = none ∧ ¬ O a ∧ H a = none ∧ ∃ o, h.get? a = some o ∧ (∀ w, o.data ≠ .cell w) ∧ (∀ es ep, o.data ≠ .dict es ep) := by
  cases lv with
  | val _ => cases hm
  | own b As =>
    obtain ⟨a, e, h1, h2, h3, _, o, xs, n, h4, h5, h6, h7⟩ := r
    subst e
    exact ⟨a, rfl, rfl, h1, h2, h3, o, h4, fun w => by rw [h6]; exact fun z => (by cases z), fun _ _ => by rw [h6]; exact fun z => (by cases z)⟩
  | itr As =>
    obtain ⟨a, e, h1, h2, h3, l, i, o, xs, n, ⟨q, h4, h5, h6⟩, h7⟩ := r
    subst e
    exact ⟨a, rfl, rfl, h1, h2, h3, q, h4, fun w => by rw [h6]; exact fun z => (by cases z), fun _ _ => by rw [h6]; exact fun z => (by cases z)⟩

theorem Res.at (r : Res H O h₀ h lv v) {h' : Heap} (k : ∀ a o, lv.addr v = some a → h.get? a = some o → h'.get? a = some o) : LVAt H (Oadd O (lv.addr v)) h' lv v := by
  cases lv with
  | val _ => exact r
  | own b As =>
    obtain ⟨a, e, h1, h2, h3, eb, o, xs, n, h4, r⟩ := r
    subst e
    exact ⟨a, rfl, .inr rfl, eb, o, xs, n, k a o rfl h4, r⟩
  | itr As =>
    obtain ⟨a, e, h1, h2, h3, l, i, o, xs, n, ⟨q, h4, h5, h6⟩, r⟩ := r
    subst e
    exact ⟨a, rfl, .inr rfl, l, i, o, xs, n, ⟨q, k a q rfl h4, h5, h6⟩, r⟩

theorem LVAt.keep {lv : LV} {v : Value} (r : LVAt H O h lv v) {h' : Heap} {O' : OSet} (hO : ∀ b, O b → O' b) (k : ∀ a o, lv.mine = true → v = .ref a → h.get? a = some o → h'.get? a = some o) : LVAt H O' h' lv v := by
  cases lv with
  | val _ => exact r
  | own b As =>
    obtain ⟨a, e, h2, eb, o, xs, n, h4, r⟩ := r
    subst e
    exact ⟨a, rfl, hO a h2, eb, o, xs, n, k a o rfl rfl h4, r⟩
  | itr As =>
    obtain ⟨a, e, h2, l, i, o, xs, n, ⟨q, h4, h5, h6⟩, r⟩ := r
    subst e
    exact ⟨a, rfl, hO a h2, l, i, o, xs, n, ⟨q, k a q rfl rfl h4, h5, h6⟩, r⟩

theorem LVAt.isO {lv : LV} {v : Value} (r : LVAt H O h lv v) (hm : lv.mine = true) : ∃ a, v = .ref a ∧ O a := by
  cases lv with
  | val _ => cases hm
  | own b As => obtain ⟨a, e, h2, _⟩ := r; exact ⟨a, e, h2⟩
  | itr As => obtain ⟨a, e, h2, _⟩ := r; exact ⟨a, e, h2⟩

/-- one object of the frame's own tables (c) is changed so that x now holds v -/
theorem StH.stored (st : StH Γ H O loc h os g) (r : Res H O h₀ h lv v) (c : Addr) (hc : O c) (hsb : Heap.SameBut c h h')
    (hthere : ∃ o, h'.get? c = some o)
    (hns : ∃ m, h'.Ns Γ.env.locals m) (hx : VarIs Γ.env h' x v)
    (hv : ∀ y w, y ≠ x → VarIs Γ.env h y w → VarIs Γ.env h' y w)
    (hcells : ∀ y d, Γ.env.cells.lookup y = some d → (∃ o w, h.get? d = some o ∧ o.data = .cell w) → ∃ o w, h'.get? d = some o ∧ o.data = .cell w)
    (hfr : ∀ o, h.get? c = some o → ∃ o', h'.get? c = some o' ∧ ((∃ es ep, o.data = .dict es ep) → ∃ es ep, o'.data = .dict es ep))
    (hcl : c = Γ.env.locals ∨ ∃ y, Γ.env.cells.lookup y = some c)
    (hbase : ∀ a, lv.addr v = some a → Γ.F.h₁.get? a = none) :
    StH Γ H (Oadd O (lv.addr v)) ((x, lv) :: loc) h' os g := by
  have ne : ∀ a lv' y, loc.lookup y = some lv' → lv'.mine = true → VarIs Γ.env h y (.ref a) → a ≠ c := by
    intro a lv' y e m hy
    obtain ⟨h1, h2⟩ := st.apart y a lv' e m hy
    rcases hcl with rfl | ⟨z, hz⟩
    · exact h1
    · exact h2 z c hz
  have back : ∀ y w lv', y ≠ x → loc.lookup y = some lv' → VarIs Γ.env h' y w → VarIs Γ.env h y w := by
    intro y w lv' hne e hy
    obtain ⟨w', hw, _⟩ := st.vars y lv' e
    have := (hv y w' hne hw).inj hy
    subst this; exact hw
  have newa : lv.mine = true → ∃ a, v = .ref a ∧ lv.addr v = some a ∧ h₀.get? a = none ∧ ¬ O a ∧ H a = none ∧ ∃ o, h.get? a = some o ∧ (∀ w, o.data ≠ .cell w) ∧ (∀ es ep, o.data ≠ .dict es ep) := r.new_obj
  have addrMine : ∀ a, lv.addr v = some a → lv.mine = true ∧ v = .ref a := by
    intro a e
    cases lv with
    | val _ => cases e
    | own _ _ => cases v <;> simp [LV.addr] at e; exact ⟨rfl, by rw [e]⟩
    | itr _ => cases v <;> simp [LV.addr] at e; exact ⟨rfl, by rw [e]⟩
  refine
  { base := fun b o e => (hsb.2 b fun z => by subst z; rw [st.obase _ hc] at e; cases e).trans (st.base b o e)
    agree := fun b o e => (hsb.2 b fun z => by subst z; rw [st.ohm _ hc] at e; cases e).trans (st.agree b o e)
    nofr := st.nofr
    os := st.os
    gens := st.gens
    obase := fun b hb => hb.elim (st.obase b) fun e => hbase b e
    ohm := fun b hb => hb.elim (st.ohm b) fun e => by
      obtain ⟨m, e1⟩ := addrMine b e
      obtain ⟨a, e2, e3, _, _, e6, _⟩ := newa m
      rw [e1] at e2; cases e2; exact e6
    othere := fun b hb => by
      by_cases hbc : b = c
      · exact hbc ▸ hthere
      · rcases hb with hb | e
        · obtain ⟨o, e⟩ := st.othere b hb
          exact ⟨o, (hsb.2 b hbc).trans e⟩
        · obtain ⟨m, e1⟩ := addrMine b e
          obtain ⟨a, e2, e3, _, _, e6, o, e7, _⟩ := newa m
          rw [e1] at e2; cases e2
          exact ⟨o, (hsb.2 _ hbc).trans e7⟩
    kind := st.kind
    ns := hns
    onsO := .inl st.onsO
    vars := fun y lv' e => ?_
    sep := fun y z a l1 l2 e1 e2 m1 m2 v1 v2 => ?_
    apart := fun y a l1 e1 m1 v1 => ?_
    cells := fun y d e => ⟨fun m => .inl ((st.cells y d e).1 m), hcells y d e (st.cells y d e).2⟩
    cne := st.cne
    cinj := st.cinj
    frames := ?_ }
  · by_cases hy : y = x
    · subst hy
      rw [lookup_cons_self] at e; cases e
      refine ⟨v, hx, r.at fun a o ea eo => (hsb.2 a fun z => ?_).trans eo⟩
      subst z
      obtain ⟨m, e1⟩ := addrMine _ ea
      obtain ⟨a', e2, _, _, e5, _⟩ := newa m
      rw [e1] at e2; cases e2
      exact e5 hc
    · rw [lookup_cons_ne hy] at e
      obtain ⟨w, hw, hl⟩ := st.vars y lv' e
      refine ⟨w, hv y w hy hw, hl.keep (fun _ q => .inl q) fun a o m ew eo => (hsb.2 a ?_).trans eo⟩
      subst ew
      exact ne a lv' y e m hw
  · by_cases hy : y = x <;> by_cases hz : z = x
    · rw [hy, hz]
    · subst hy
      rw [lookup_cons_self] at e1; cases e1
      rw [lookup_cons_ne hz] at e2
      have := hx.inj v1
      obtain ⟨a', ev, _, _, e5, _⟩ := newa m1
      rw [ev] at this; cases this
      obtain ⟨w, hw, hl⟩ := st.vars z l2 e2
      obtain ⟨a'', ew, ho⟩ := hl.isO m2
      have := hw.inj (back z _ l2 hz e2 v2)
      rw [ew] at this; cases this
      exact absurd ho e5
    · subst hz
      rw [lookup_cons_self] at e2; cases e2
      rw [lookup_cons_ne hy] at e1
      have := hx.inj v2
      obtain ⟨a', ev, _, _, e5, _⟩ := newa m2
      rw [ev] at this; cases this
      obtain ⟨w, hw, hl⟩ := st.vars y l1 e1
      obtain ⟨a'', ew, ho⟩ := hl.isO m1
      have := hw.inj (back y _ l1 hy e1 v1)
      rw [ew] at this; cases this
      exact absurd ho e5
    · rw [lookup_cons_ne hy] at e1
      rw [lookup_cons_ne hz] at e2
      exact st.sep y z a l1 l2 e1 e2 m1 m2 (back y _ l1 hy e1 v1) (back z _ l2 hz e2 v2)
  · by_cases hy : y = x
    · subst hy
      rw [lookup_cons_self] at e1; cases e1
      have := hx.inj v1
      obtain ⟨a', ev, _, _, e5, _, o, eo, ho, hod⟩ := newa m1
      rw [ev] at this; cases this
      refine ⟨fun z => e5 (z ▸ st.onsO), fun w d ed z => ?_⟩
      subst z
      obtain ⟨_, o', w', eo', hd⟩ := st.cells w _ ed
      rw [eo] at eo'; cases eo'
      exact ho _ hd
    · rw [lookup_cons_ne hy] at e1
      exact st.apart y a l1 e1 m1 (back y _ l1 hy e1 v1)
  · obtain ⟨l, hl, rr⟩ := st.frames
    refine ⟨l, hl, fun env he => ?_⟩
    obtain ⟨h1, L, o, es, ep, h2, h3, h5, h6⟩ := rr env he
    by_cases hL : L = c
    · subst hL
      obtain ⟨o', e', d'⟩ := hfr o h3
      obtain ⟨es', ep', hd⟩ := d' ⟨es, ep, h5⟩
      exact ⟨h1, L, o', es', ep', h2, e', hd, h6⟩
    · exact ⟨h1, L, o, es, ep, h2, (hsb.2 L hL).trans h3, h5, h6⟩

end

section
variable {Γ : Cx} {H H₁ : Hm} {O O₁ : OSet} {loc : Loc} {s s₁ : Shared} {x : Str} {lv : LV} {v : Value}

/-- the store of a name, told from the statement's start s -/
theorem wp_store {Q : Unit → Shared → Prop} {E : Value → Shared → Prop} (n : Nx Γ.F H O s.heap H₁ O₁ s₁.heap) {loc' : Loc} (st₀ : St Γ H O loc' s) (st : St Γ H₁ O₁ loc s₁) (r : Res H₁ O₁ s.heap s₁.heap lv v) (hx : Γ.stores x)
    (k : ∀ O₂ s₂, Nx Γ.F H O s.heap H₁ O₂ s₂.heap → St Γ H₁ O₂ ((x, lv) :: loc) s₂ → (∀ b o, s₁.heap.get? b = some o → ¬ O₁ b → s₂.heap.get? b = some o) → (∀ b, O₂ b → O₁ b ∨ lv.addr v = some b) → Q () s₂) : wpAny Γ.M Γ.A (storeName Γ.env x v) Q E s₁ := by
  have hbase : ∀ a, lv.addr v = some a → Γ.F.h₁.get? a = none := by
    intro a e
    cases hb : Γ.F.h₁.get? a with
    | none => rfl
    | some o =>
      have := st₀.base a o hb
      cases lv with
      | val _ => cases e
      | own _ _ => obtain ⟨a', ev, h1, _⟩ := r; subst ev; cases e; rw [h1] at this; cases this
      | itr _ => obtain ⟨a', ev, h1, _⟩ := r; subst ev; cases e; rw [h1] at this; cases this
  have honew : ∀ b, Oadd O₁ (lv.addr v) b → O₁ b ∨ s.heap.get? b = none := by
    intro b hb
    refine hb.imp id fun e => ?_
    cases lv with
    | val _ => cases e
    | own _ _ => obtain ⟨a', ev, h1, _⟩ := r; subst ev; cases e; exact h1
    | itr _ => obtain ⟨a', ev, h1, _⟩ := r; subst ev; cases e; exact h1
  have fin : ∀ (c : Addr) (h' : Heap), O₁ c → (∃ o, h'.get? c = some o) → Heap.SameBut c s₁.heap h' → Nx Γ.F H O s.heap H₁ (Oadd O₁ (lv.addr v)) h' := by
    intro c h' hc ht hsb
    refine n.then (fun b o e hb _ => ⟨o, (hsb.2 b fun z => hb (z ▸ hc)).trans e, .refl ..⟩) (fun b o e _ => ?_) (.refl _) (fun b o e => .inl e) honew
    by_cases hbc : b = c
    · exact hbc ▸ ht
    · exact ⟨o, (hsb.2 b hbc).trans e⟩
  rcases hx with hl | ⟨hl, hm, hc⟩
  · obtain ⟨m, hn⟩ := st.ns
    refine wpAny_storeName_local hl hn (fun h' hn' hsb => ?_) (by rw [st.kind]; rfl)
    obtain ⟨o', es', ep', e', d', k', f'⟩ := id hn'
    have ht : ∃ o, h'.get? Γ.env.locals = some o := ⟨o', e'⟩
    refine k _ _ (fin _ h' st.onsO ht hsb) (st.stored r Γ.env.locals st.onsO hsb ht ⟨_, hn'⟩ (.inl ⟨hl, _, hn', by simp⟩) (fun y w hne hv => ?_) (fun y d e ⟨o, w, eo, ed⟩ => ?_) (fun o eo => ⟨o', e', fun _ => ⟨es', ep', d'⟩⟩) (.inl rfl) hbase) (fun b o e hb => (hsb.2 b fun z => hb (z ▸ st.onsO)).trans e) (fun b hb => hb)
    · rcases hv with ⟨k1, m1, n1, e1⟩ | ⟨k1, c, o, l, eo, d⟩
      · cases ns_fun hn n1
        exact .inl ⟨k1, _, hn', by simp [hne, e1]⟩
      · exact .inr ⟨k1, c, o, l, (hsb.2 c (st.cne _ _ l)).trans eo, d⟩
    · exact ⟨o, w, (hsb.2 d (st.cne _ _ e)).trans eo, ed⟩
  · obtain ⟨c, hc⟩ := Option.isSome_iff_exists.mp hc
    obtain ⟨hO, o, w, eo, ed⟩ := st.cells x c hc
    refine wpAny_storeName_cell st.kind hl hc ⟨o, eo, ed⟩ fun h' hc' hsb => ?_
    obtain ⟨o', e', d'⟩ := hc'
    have hcO := hO hm
    have hcl : Γ.env.locals ≠ c := fun z => st.cne _ _ hc z.symm
    obtain ⟨m, hn⟩ := st.ns
    have hn' : h'.Ns Γ.env.locals m := hn.sameBut hsb hcl
    refine k _ _ (fin _ h' hcO ⟨o', e'⟩ hsb) (st.stored r c hcO hsb ⟨o', e'⟩ ⟨m, hn'⟩ (.inr ⟨.inl hl, c, o', hc, e', d'⟩) (fun y w hne hv => ?_) (fun y d e ⟨o, w, eo, ed⟩ => ?_) (fun o₂ eo₂ => ⟨o', e', fun ⟨es, ep, z⟩ => ?_⟩) (.inr ⟨x, hc⟩) hbase) (fun b o e hb => (hsb.2 b fun z => hb (z ▸ hcO)).trans e) (fun b hb => hb)
    · rcases hv with ⟨k1, m1, n1, e1⟩ | ⟨k1, c₂, o, l, eo, d⟩
      · cases ns_fun hn n1
        exact .inl ⟨k1, _, hn', e1⟩
      · exact .inr ⟨k1, c₂, o, l, (hsb.2 c₂ fun z => hne (st.cinj _ _ _ l (z ▸ hc))).trans eo, d⟩
    · by_cases hdc : d = c
      · subst hdc; exact ⟨o', _, e', d'⟩
      · exact ⟨o, w, (hsb.2 d hdc).trans eo, ed⟩
    · rw [eo] at eo₂; cases eo₂; rw [ed] at z; cases z
end

end Mine
end
section
open PySem PySem.W PyProof.Rows
set_option linter.unusedVariables false
namespace Mine

def NoX : Exc → Loc → Prop := fun _ _ => False

section
variable {Γ : Cx} {loc : Loc} {Q : V → Loc → Prop} {QB : Bool → Loc → Prop} {QF : Fl → Loc → Prop} {X : Exc → Loc → Prop}

theorem PostX.no {H : Hm} {O : OSet} {s s' : Shared} {e : Value} (p : PostX Γ H O s NoX e s') : False := by
  obtain ⟨_, _, _, _, _, _, _, q⟩ := p; exact q
theorem PostX.mono {H : Hm} {O : OSet} {s s' : Shared} {e : Value} {X' : Exc → Loc → Prop} (p : PostX Γ H O s X e s') (h : ∀ x l, X x l → X' x l) : PostX Γ H O s X' e s' := by
  obtain ⟨H', O', l', x, n, st, f, q⟩ := p; exact ⟨H', O', l', x, n, st, f, h _ _ q⟩
theorem PostF.mono {H : Hm} {O : OSet} {s s' : Shared} {f : Flow} {Q Q' : Fl → Loc → Prop} (p : PostF Γ H O s Q f s') (h : ∀ x l, Q x l → Q' x l) : PostF Γ H O s Q' f s' := by
  obtain ⟨H', O', l', x, n, st, f, q⟩ := p; exact ⟨H', O', l', x, n, st, f, h _ _ q⟩

theorem Exs.mono {ss : List Stmt} {Q' : Fl → Loc → Prop} {X' : Exc → Loc → Prop} (h : Exs Γ loc ss QF X) (hQ : ∀ a l, QF a l → Q' a l) (hX : ∀ a l, X a l → X' a l) : Exs Γ loc ss Q' X' :=
  fun H O s st => wpAny_mono (h H O s st) (fun _ _ p => p.mono hQ) fun _ _ p => p.mono hX
theorem Exs.less {ss : List Stmt} {loc' : Loc} (h : Exs Γ loc' ss QF X) (hw : ∀ x lv, loc'.lookup x = some lv → loc.lookup x = some lv) : Exs Γ loc ss QF X :=
  fun H O s st => h H O s (st.less hw)
theorem Ex1.less {ss : Stmt} {loc' : Loc} (h : Ex1 Γ loc' ss QF X) (hw : ∀ x lv, loc'.lookup x = some lv → loc.lookup x = some lv) : Ex1 Γ loc ss QF X :=
  fun H O s st => h H O s (st.less hw)
theorem Tst.mono {e : Expr} {Q' : Bool → Loc → Prop} {X' : Exc → Loc → Prop} (h : Tst Γ loc e QB X) (hQ : ∀ a l, QB a l → Q' a l) (hX : ∀ a l, X a l → X' a l) : Tst Γ loc e Q' X' :=
  fun H O s st => wpAny_mono (h H O s st) (fun _ _ ⟨H', O', l', n, st', q⟩ => ⟨H', O', l', n, st', hQ _ _ q⟩) fun _ _ p => p.mono hX

/-- to tell of the locals only what the list l' tells -/
def Loc.sub (l' l : Loc) : Prop := ∀ p ∈ l', l.lookup p.1 = some p.2
theorem Loc.sub_lookup {l' l : Loc} (h : l'.sub l) : ∀ x lv, l'.lookup x = some lv → l.lookup x = some lv := by
  intro x lv e
  have : ∀ (q : Loc), q.lookup x = some lv → (x, lv) ∈ q := by
    intro q
    induction q with
    | nil => intro e; cases e
    | cons p r ih =>
      obtain ⟨y, w⟩ := p
      intro e
      simp only [List.lookup] at e
      split at e
      · rename_i hb
        have : x = y := by simpa using hb
        cases e; subst this; exact List.mem_cons_self
      · exact List.mem_cons_of_mem _ (ih e)
  exact h _ (this _ e)

def Loc.le (l' l : Loc) : Prop := ∀ x lv, l'.lookup x = some lv → l.lookup x = some lv
theorem Loc.le_refl (l : Loc) : l.le l := fun _ _ e => e
theorem Loc.le_trans {l l' l'' : Loc} (a : l.le l') (b : l'.le l'') : l.le l'' := fun x lv e => b x lv (a x lv e)
theorem Loc.le_cons {l l' : Loc} {x : Str} (lv : LV) (a : l.le l') (h : l.lookup x = none) : l.le ((x, lv) :: l') := fun y w e => by
  rw [lookup_cons_ne]
  · exact a y w e
  · rintro rfl; rw [h] at e; cases e
theorem Loc.sub_le {l' l : Loc} (h : l'.sub l) : l'.le l := Loc.sub_lookup h

theorem exs_nil (h : QF .next loc) : Exs Γ loc [] QF X := fun H O s st => wpAny_execs_nil ⟨H, O, loc, .next, .refl .., st, rfl, h⟩

def Fl.go (Γ : Cx) (rest : List Stmt) (Q : Fl → Loc → Prop) (X : Exc → Loc → Prop) : Fl → Loc → Prop
  | .next, l => Exs Γ l rest Q X
  | .brk, l => Q .brk l
  | .cont, l => Q .cont l
  | .ret A, l => Q (.ret A) l

theorem exs_cons {st : Stmt} {rest : List Stmt} (h : Ex1 Γ loc st (Fl.go Γ rest QF X) X) : Exs Γ loc (st :: rest) QF X := by
  intro H O s hs
  refine wpAny_execs_cons (wpAny_mono (h H O s hs) (fun f s₁ p => ?_) fun _ _ p => p)
  obtain ⟨H₁, O₁, l₁, fl, n₁, st₁, r₁, q₁⟩ := p
  cases fl with
  | next => cases r₁; exact wpAny_mono (q₁ H₁ O₁ s₁ st₁) (fun _ _ p => p.back n₁) fun _ _ p => p.back n₁
  | brk => cases r₁; exact ⟨H₁, O₁, l₁, .brk, n₁, st₁, rfl, q₁⟩
  | cont => cases r₁; exact ⟨H₁, O₁, l₁, .cont, n₁, st₁, rfl, q₁⟩
  | ret A => obtain ⟨v, rfl, hv⟩ := r₁; exact ⟨H₁, O₁, l₁, .ret A, n₁, st₁, ⟨v, rfl, hv⟩, q₁⟩

theorem ex_assign {x pos' value pos} (h : Ev Γ loc value (fun lv l => QF .next ((x, lv) :: l)) X) (hx : Γ.stores x)
    (hs : swapsWith value (some (.Name x pos')) pos.line Γ.env = pure false := by rfl) : Ex1 Γ loc (.Assign [.Name x pos'] value pos) QF X := by
  intro H O s hs₀
  refine wpAny_Assign_Name (wpAny_mono (h H O s hs₀) (fun v s₁ p => ?_) fun _ _ p => p) hs
  obtain ⟨H₁, O₁, l₁, lv, n₁, st₁, r₁, q₁⟩ := p
  exact wp_store n₁ hs₀ st₁ r₁ hx fun O₂ s₂ n₂ st₂ _ _ => ⟨H₁, O₂, _, .next, n₂, st₂, rfl, q₁⟩

theorem ex_aug {x pos' op value pos} {A : V} (hv : loc.lookup x = some (.val A)) (h : Ev Γ loc value (VQ fun B l => Op2 Γ l (inplaceOp op) A B (fun C l' => QF .next ((x, .val C) :: l')) X) X) (hx : Γ.stores x)
    (hn : (x == ("__classdict__" : Str)) = false := by decide) : Ex1 Γ loc (.AugAssign (.Name x pos') op value pos) QF X := by
  intro H O s hs₀
  obtain ⟨v, hv, hl⟩ := hs₀.vars x _ hv
  refine wpAny_AugAssign_Name (wp_var hs₀.kind hv ?_ hn)
  refine wpAny_mono (h H O s hs₀) (fun b s₁ p => ?_) fun _ _ p => p
  obtain ⟨H₁, O₁, l₁, lv, n₁, st₁, r₁, q₁⟩ := p
  cases lv with
  | own _ _ => exact q₁.elim
  | itr _ => exact q₁.elim
  | val B =>
    refine wpAny_mono (q₁ H₁ O₁ s₁ v b st₁ (Rep.mono n₁.hle _ _ hl) r₁) (fun c s₂ p => ?_) fun _ _ p => p.back n₁
    obtain ⟨H₂, O₂, l₂, lv, n₂, st₂, r₂, q₂⟩ := p
    cases lv with
    | own _ _ => exact q₂.elim
    | itr _ => exact q₂.elim
    | val C => exact wp_store (n₁.trans n₂) hs₀ st₂ (Res.back r₂ n₁) hx fun O₃ s₃ n₃ st₃ _ _ => ⟨H₂, O₃, _, .next, n₃, st₃, rfl, q₂⟩

theorem ex_if {test body orelse pos} (h : Tst Γ loc test (fun b l => if b then Exs Γ l body QF X else Exs Γ l orelse QF X) X) : Ex1 Γ loc (.If test body orelse pos) QF X := by
  intro H O s hs
  refine wpAny_If (wpAny_mono (h H O s hs) (fun b s₁ p => ?_) fun _ _ p => p)
  obtain ⟨H₁, O₁, l₁, n₁, st₁, q₁⟩ := p
  cases b with
  | true => exact wpAny_mono (q₁ H₁ O₁ s₁ st₁) (fun _ _ p => p.back n₁) fun _ _ p => p.back n₁
  | false => exact wpAny_mono (q₁ H₁ O₁ s₁ st₁) (fun _ _ p => p.back n₁) fun _ _ p => p.back n₁

theorem ex_return {e pos} (h : Ev Γ loc e (VQ fun A l => QF (.ret A) l) X) : Ex1 Γ loc (.Return (some e) pos) QF X := by
  intro H O s hs
  refine wpAny_Return_some (wpAny_mono (h H O s hs) (fun v s₁ p => ?_) fun _ _ p => p)
  obtain ⟨H₁, O₁, l₁, lv, n₁, st₁, r₁, q₁⟩ := p
  cases lv with
  | own _ _ => exact q₁.elim
  | itr _ => exact q₁.elim
  | val A => exact ⟨H₁, O₁, l₁, .ret A, n₁, st₁, ⟨v, rfl, r₁⟩, q₁⟩

/-- a statement that is an expression whose value is None -/
theorem ex_expr_none {e pos} (h : Ev Γ loc e (VQ fun A l => A = .none ∧ QF .next l) X) (hi : interactive Γ.env = false := by rfl) (hw : swapsWith e none pos.line Γ.env = pure false := by rfl) : Ex1 Γ loc (.Expr e pos) QF X := by
  intro H O s hs
  refine wpAny_Expr (wpAny_mono (h H O s hs) (fun v s₁ p => ?_) fun _ _ p => p) hi hw
  obtain ⟨H₁, O₁, l₁, lv, n₁, st₁, r₁, q₁⟩ := p
  cases lv with
  | own _ _ => exact q₁.elim
  | itr _ => exact q₁.elim
  | val A =>
    obtain ⟨rfl, q⟩ := q₁
    cases Rep.none_of (H := H₁) r₁
    exact ⟨H₁, O₁, l₁, .next, n₁, st₁, rfl, q⟩

theorem ex_pass {pos} (h : QF .next loc) : Ex1 Γ loc (.Pass pos) QF X := fun H O s st => wpAny_Pass ⟨H, O, loc, .next, .refl .., st, rfl, h⟩

def Fl.loop (again : Loc → Prop) (Q : Fl → Loc → Prop) : Fl → Loc → Prop
  | .next, l => again l
  | .cont, l => again l
  | .brk, l => Q .next l
  | .ret A, l => Q (.ret A) l

theorem ex_while {test body pos} (J : Nat → Loc → Prop) (n : Nat) (h0 : J n loc)
    (turn : ∀ n l, J n l → Tst Γ l test (fun b l' => if b then Exs Γ l' body (Fl.loop (fun l'' => ∃ m, m < n ∧ J m l'') QF) NoX else QF .next l') NoX) : Ex1 Γ loc (.While test body [] pos) QF X := by
  intro H O s hs
  refine wpAny_While (codeAny_whileLoop (fun n s' => ∃ H' O' l', Nx Γ.F H O s.heap H' O' s'.heap ∧ St Γ H' O' l' s' ∧ J n l') (fun n s' ⟨H', O', l', n', st', hj⟩ => ?_) n ⟨H, O, loc, .refl .., hs, h0⟩)
  refine wpAny_mono (turn n l' hj H' O' s' st') (fun b s₁ p => ?_) fun _ _ p => p.no.elim
  obtain ⟨H₁, O₁, l₁, n₁, st₁, q₁⟩ := p
  cases b with
  | false => exact wpAny_execs_nil ⟨H₁, O₁, l₁, .next, n'.trans n₁, st₁, rfl, q₁⟩
  | true =>
    refine wpAny_mono (q₁ H₁ O₁ s₁ st₁) (fun f s₂ p => ?_) fun _ _ p => p.no.elim
    obtain ⟨H₂, O₂, l₂, fl, n₂, st₂, r₂, q₂⟩ := p
    have nn := (n'.trans n₁).trans n₂
    cases fl with
    | next => cases r₂; obtain ⟨m, hm, hj⟩ := q₂; exact ⟨m, hm, H₂, O₂, l₂, nn, st₂, hj⟩
    | cont => cases r₂; obtain ⟨m, hm, hj⟩ := q₂; exact ⟨m, hm, H₂, O₂, l₂, nn, st₂, hj⟩
    | brk => cases r₂; exact ⟨H₂, O₂, l₂, .next, nn, st₂, rfl, q₂⟩
    | ret A => obtain ⟨v, rfl, hv⟩ := r₂; exact ⟨H₂, O₂, l₂, .ret A, nn, st₂, ⟨v, rfl, hv⟩, q₂⟩

/-! ## tests -/

/-- the test of a plain expression -/
theorem tst_val {e : Expr} (h : Ev Γ loc e (VQ fun A l => Opb Γ l truthy A QB X) X)
    (he : isTrue e Γ.env (eval e Γ.env) = (do let v ← eval e Γ.env; standAt e.pos; holding [v] (truthy v)) := by rfl) : Tst Γ loc e QB X := by
  intro H O s hs
  refine wpAny_isTrue_value (wpAny_mono (h H O s hs) (fun v s₁ p => ?_) fun _ _ p => p) he
  obtain ⟨H₁, O₁, l₁, lv, n₁, st₁, r₁, q₁⟩ := p
  cases lv with
  | own _ _ => exact q₁.elim
  | itr _ => exact q₁.elim
  | val A => exact wpAny_mono (q₁ H₁ O₁ s₁ v st₁ r₁) (fun _ _ p => p.back n₁) fun _ _ p => p.back n₁

theorem tst_cmp {l op r pos} (h : Ev Γ loc l (VQ fun A l₁ => Ev Γ l₁ r (VQ fun B l₂ => Op2 Γ l₂ (compareOp op) A B (fun C l₃ => ∃ b, C = .bool b ∧ QB b l₃) X) X) X)
    (hm : behindInMarks op r = false := by with_unfolding_all rfl) : Tst Γ loc (.Compare l [op] [r] pos) QB X := by
  intro H O s st
  refine wpAny_isTrue_Compare1 (wpAny_mono (h H O s st) (fun a s₁ p => ?_) fun _ _ p => p) hm
  obtain ⟨H₁, O₁, l₁, lv, n₁, st₁, r₁, q₁⟩ := p
  cases lv with
  | own _ _ => exact q₁.elim
  | itr _ => exact q₁.elim
  | val A =>
    refine wpAny_mono (q₁ H₁ O₁ s₁ st₁) (fun b s₂ p => ?_) fun _ _ p => p.back n₁
    obtain ⟨H₂, O₂, l₂, lv, n₂, st₂, r₂, q₂⟩ := p
    cases lv with
    | own _ _ => exact q₂.elim
    | itr _ => exact q₂.elim
    | val B =>
      refine wpAny_mono (q₂ H₂ O₂ s₂ a b st₂ (Rep.mono n₂.hle _ _ r₁) r₂) (fun c s₃ p => ?_) fun _ _ p => p.back (n₁.trans n₂)
      obtain ⟨H₃, O₃, l₃, lv, n₃, st₃, r₃, q₃⟩ := p
      cases lv with
      | own _ _ => exact q₃.elim
      | itr _ => exact q₃.elim
      | val C =>
        obtain ⟨b, rfl, q⟩ := q₃
        cases Rep.bool_of (H := H₃) r₃
        exact wpAny_truthy_bool ⟨H₃, O₃, l₃, (n₁.trans n₂).trans n₃, st₃, q⟩

theorem ev_cmp {l op r pos} (h : Ev Γ loc l (VQ fun A l₁ => Ev Γ l₁ r (VQ fun B l₂ => Op2 Γ l₂ (compareOp op) A B Q X) X) X)
    (hm : behindInMarks op r = false := by with_unfolding_all rfl) : Ev Γ loc (.Compare l [op] [r] pos) (VQ Q) X := by
  intro H O s st
  refine wpAny_Compare1 (wpAny_mono (h H O s st) (fun a s₁ p => ?_) fun _ _ p => p) hm
  obtain ⟨H₁, O₁, l₁, lv, n₁, st₁, r₁, q₁⟩ := p
  cases lv with
  | own _ _ => exact q₁.elim
  | itr _ => exact q₁.elim
  | val A =>
    refine wpAny_mono (q₁ H₁ O₁ s₁ st₁) (fun b s₂ p => ?_) fun _ _ p => p.back n₁
    obtain ⟨H₂, O₂, l₂, lv, n₂, st₂, r₂, q₂⟩ := p
    cases lv with
    | own _ _ => exact q₂.elim
    | itr _ => exact q₂.elim
    | val B => exact wpAny_mono (q₂ H₂ O₂ s₂ a b st₂ (Rep.mono n₂.hle _ _ r₁) r₂) (fun _ _ p => p.back (n₁.trans n₂)) fun _ _ p => p.back (n₁.trans n₂)

theorem tst_not {e pos} (h : Tst Γ loc e (fun b l => QB (!b) l) X) : Tst Γ loc (.UnaryOp .Not e pos) QB X := by
  intro H O s hs
  exact wpAny_isTrue_Not (wpAny_mono (h H O s hs) (fun b s₁ ⟨H₁, O₁, l₁, n₁, st₁, q₁⟩ => ⟨H₁, O₁, l₁, n₁, st₁, q₁⟩) fun _ _ p => p)

/-- and, or in a test -/
def All (Γ : Cx) (loc : Loc) (op : BoolOp) (es : List Expr) (Q : Bool → Loc → Prop) (X : Exc → Loc → Prop) : Prop :=
  ∀ H O s, St Γ H O loc s → wpAny Γ.M Γ.A (allTrue op es Γ.env) (PostB Γ H O s Q) (PostX Γ H O s X) s
theorem tst_bool {op es pos} (h : All Γ loc op es QB X) : Tst Γ loc (.BoolOp op es pos) QB X := fun H O s hs => wpAny_isTrue_BoolOp (h H O s hs)
theorem all_and_nil (h : QB true loc) : All Γ loc .And [] QB X := fun H O s hs => wpAny_allTrue_And_nil ⟨H, O, loc, .refl .., hs, h⟩
theorem all_or_nil (h : QB false loc) : All Γ loc .Or [] QB X := fun H O s hs => wpAny_allTrue_Or_nil ⟨H, O, loc, .refl .., hs, h⟩
theorem all_and {e es} (h : Tst Γ loc e (fun b l => if b then All Γ l .And es QB X else QB false l) X) : All Γ loc .And (e :: es) QB X := by
  intro H O s hs
  refine wpAny_allTrue_And_cons (wpAny_mono (h H O s hs) (fun b s₁ p => ?_) fun _ _ p => p)
  obtain ⟨H₁, O₁, l₁, n₁, st₁, q₁⟩ := p
  cases b with
  | true => exact wpAny_mono (q₁ H₁ O₁ s₁ st₁) (fun _ _ p => p.back n₁) fun _ _ p => p.back n₁
  | false => exact ⟨H₁, O₁, l₁, n₁, st₁, q₁⟩
theorem all_or {e es} (h : Tst Γ loc e (fun b l => if b then QB true l else All Γ l .Or es QB X) X) : All Γ loc .Or (e :: es) QB X := by
  intro H O s hs
  refine wpAny_allTrue_Or_cons (wpAny_mono (h H O s hs) (fun b s₁ p => ?_) fun _ _ p => p)
  obtain ⟨H₁, O₁, l₁, n₁, st₁, q₁⟩ := p
  cases b with
  | false => exact wpAny_mono (q₁ H₁ O₁ s₁ st₁) (fun _ _ p => p.back n₁) fun _ _ p => p.back n₁
  | true => exact ⟨H₁, O₁, l₁, n₁, st₁, q₁⟩

theorem ev_ifexp {test body orelse pos} {QL : LV → Loc → Prop} (h : Tst Γ loc test (fun b l => if b then Ev Γ l body QL X else Ev Γ l orelse QL X) X) : Ev Γ loc (.IfExp test body orelse pos) QL X := by
  intro H O s hs
  refine wpAny_IfExp (wpAny_mono (h H O s hs) (fun b s₁ p => ?_) fun _ _ p => p)
  obtain ⟨H₁, O₁, l₁, n₁, st₁, q₁⟩ := p
  cases b with
  | true => exact wpAny_mono (q₁ H₁ O₁ s₁ st₁) (fun _ _ p => p.back n₁) fun _ _ p => p.back n₁
  | false => exact wpAny_mono (q₁ H₁ O₁ s₁ st₁) (fun _ _ p => p.back n₁) fun _ _ p => p.back n₁

theorem ev_un {op e pos} (h : Ev Γ loc e (VQ fun A l => Op1 Γ l (unaryOp op) A Q X) X) : Ev Γ loc (.UnaryOp op e pos) (VQ Q) X := by
  intro H O s hs
  refine wpAny_UnaryOp (wpAny_mono (h H O s hs) (fun v s₁ p => ?_) fun _ _ p => p)
  obtain ⟨H₁, O₁, l₁, lv, n₁, st₁, r₁, q₁⟩ := p
  cases lv with
  | own _ _ => exact q₁.elim
  | itr _ => exact q₁.elim
  | val A => exact wpAny_mono (q₁ H₁ O₁ s₁ v st₁ r₁) (fun _ _ p => p.back n₁) fun _ _ p => p.back n₁
end
end Mine
end
section
open PySem PySem.W PyProof.Rows
set_option linter.unusedVariables false
namespace Mine

def V.items : V → List V
  | .lst As => As
  | .tup As => As
  | .rng a b c => (List.range (Builtin.Range.rangeSize a b c).toNat).map fun i => .int (a + (i : Nat) * c)
  | _ => []
def V.iter : V → Prop
  | .lst _ => True
  | .tup _ => True
  | .rng a b c => Builtin.Range.small a b c = true
  | _ => False

structure Itn (Γ : Cx) (H : Hm) (As : List V) (I : Addr) (fp : List Addr) (W : Nat → Heap → Prop) (P : Nat → Value → Prop) : Prop where
  walks : Walks Γ.F.prog Γ.F.w Γ.A I fp [I] As.length P W
  item : ∀ i v, i < As.length → P i v → ∃ A, As[i]? = some A ∧ Rep H A v
  fp : ∀ b ∈ fp, b = I ∨ ∃ o, H b = some o
  obj : ∀ i h, W i h → ∃ o vs, h.get? I = some o ∧ o.data = .fields vs

theorem rangeSize_nonneg (a b c : Int) : 0 ≤ Builtin.Range.rangeSize a b c := by
  unfold Builtin.Range.rangeSize
  split
  · split
    · have : 0 ≤ (b - a - 1) / c := Int.ediv_nonneg (by omega) (by omega)
      omega
    · omega
  · split
    · have : 0 ≤ (a - b - 1) / (-c) := Int.ediv_nonneg (by omega) (by omega)
      omega
    · omega

section
variable {Γ : Cx} {loc : Loc} {Q : V → Loc → Prop} {QB : Bool → Loc → Prop} {QF : Fl → Loc → Prop} {X : Exc → Loc → Prop}

theorem wp_iter {H : Hm} {O : OSet} {s : Shared} {A : V} {v : Value} {Q : Value → Shared → Prop} {E : Value → Shared → Prop} (st : St Γ H O loc s) (r : Rep H A v) (hi : A.iter) (hh : Γ.A.handled = none)
    (k : ∀ I fp W P (h' : Heap), Itn Γ H A.items I fp W P → W 0 h' → s.heap.get? I = none → (∀ b o, s.heap.get? b = some o → h'.get? b = some o) → (∃ o, h'.get? I = some o) → Q (.ref I) { s with heap := h' }) :
    wpAny Γ.M Γ.A (pyIter v) Q E s := by
  have fresh : s.heap.get? s.heap.objs.size = none := Heap.get?_none_of_le (Nat.le_refl _)
  cases A with
  | lst As =>
    obtain ⟨a, o, xs, n, rfl, h2, h3, h4, h5⟩ := Rep.lst_of r
    have hl : s.heap.IsList a xs := ⟨o, st.agree _ _ h2, h3, n, h4⟩
    have hne : a ≠ s.heap.objs.size := fun e => by rw [e] at h2; have := st.agree _ _ h2; rw [fresh] at this; cases this
    refine wpAny_pyIter_list hl ?_
    have W := Walks.list (prog := Γ.F.prog) (w := Γ.F.w) hh s.heap.objs.size a hne xs
    have hlen : xs.size = As.length := by rw [← h5.length]; simp
    rw [hlen] at W
    refine k _ _ _ _ _ ⟨W, fun i v _ hv => ?_, fun b hb => ?_, fun i h hw => ?_⟩ ⟨⟨_, Heap.get?_push_size _ rfl, rfl, rfl⟩, hl.at fun o e => Heap.get?_push_of_some _ e⟩ fresh (fun b o e => Heap.get?_push_of_some _ e) ⟨_, Heap.get?_push_size _ rfl⟩
    · have hv' : xs.toList[i]? = some v := by simpa using hv
      cases hA : As[i]? with
      | none => rw [h5.get_none hA] at hv'; cases hv'
      | some B =>
        obtain ⟨y, hy, hr⟩ := h5.get hA
        rw [hy] at hv'; cases hv'
        exact ⟨B, hA, hr⟩
    · rcases List.mem_cons.mp hb with rfl | hb
      · exact .inl rfl
      · rw [List.mem_singleton.mp hb]; exact .inr ⟨o, h2⟩
    · obtain ⟨⟨q, e1, _, e3⟩, _⟩ := hw; exact ⟨q, _, e1, e3⟩
  | tup As =>
    obtain ⟨a, o, xs, n, rfl, h2, h3, h4, h5⟩ := Rep.tup_of r
    have hl : s.heap.IsTuple a xs := ⟨o, st.agree _ _ h2, h3, n, h4⟩
    have hne : a ≠ s.heap.objs.size := fun e => by rw [e] at h2; have := st.agree _ _ h2; rw [fresh] at this; cases this
    refine wpAny_pyIter_tuple hl ?_
    have W := Walks.tuple (prog := Γ.F.prog) (w := Γ.F.w) hh s.heap.objs.size a hne xs
    have hlen : xs.size = As.length := by rw [← h5.length]; simp
    rw [hlen] at W
    refine k _ _ _ _ _ ⟨W, fun i v _ hv => ?_, fun b hb => ?_, fun i h hw => ?_⟩ ⟨⟨_, Heap.get?_push_size _ rfl, rfl, rfl⟩, hl.at fun o e => Heap.get?_push_of_some _ e⟩ fresh (fun b o e => Heap.get?_push_of_some _ e) ⟨_, Heap.get?_push_size _ rfl⟩
    · have hv' : xs.toList[i]? = some v := by simpa using hv
      cases hA : As[i]? with
      | none => rw [h5.get_none hA] at hv'; cases hv'
      | some B =>
        obtain ⟨y, hy, hr⟩ := h5.get hA
        rw [hy] at hv'; cases hv'
        exact ⟨B, hA, hr⟩
    · rcases List.mem_cons.mp hb with rfl | hb
      · exact .inl rfl
      · rw [List.mem_singleton.mp hb]; exact .inr ⟨o, h2⟩
    · obtain ⟨⟨q, e1, _, e3⟩, _⟩ := hw; exact ⟨q, _, e1, e3⟩
  | rng a b c =>
    simp only [Rep] at r
    obtain ⟨q, t, u, w, rfl, hq⟩ := r
    have hr : IsRange s.heap q a b c t u w := st.agree _ _ hq
    refine wpAny_pyIter_range hr hi ?_
    have W := Walks.range (prog := Γ.F.prog) (w := Γ.F.w) hh s.heap.objs.size a c (Builtin.Range.rangeSize a b c).toNat
    have hlen : (V.items (.rng a b c)).length = (Builtin.Range.rangeSize a b c).toNat := by simp [V.items]
    rw [← hlen] at W
    refine k _ _ _ _ _ ⟨W, fun i v hi hv => ?_, fun b' hb => .inl (List.mem_singleton.mp hb), fun i h hw => ⟨_, _, hw, rfl⟩⟩ ?_ fresh (fun b o e => Heap.get?_push_of_some _ e) ⟨_, Heap.get?_push_size _ rfl⟩
    · obtain ⟨t, rfl⟩ := hv
      refine ⟨.int (a + (i : Nat) * c), ?_, rep_int _ _ _⟩
      have hi' : i < (Builtin.Range.rangeSize a b c).toNat := by rw [← hlen]; exact hi
      simp [V.items, hi']
    · have e0 : a + ((0 : Nat) : Int) * c = a := by simp
      have e1 : (((V.items (.rng a b c)).length : Nat) : Int) - ((0 : Nat) : Int) = Builtin.Range.rangeSize a b c := by
        rw [hlen]; have := rangeSize_nonneg a b c; omega
      show IsRangeIter _ _ (a + ((0 : Nat) : Int) * c) ((((V.items (.rng a b c)).length : Nat) : Int) - ((0 : Nat) : Int)) c
      rw [e0, e1]
      exact Heap.get?_push_size _ rfl
  | none => exact hi.elim
  | bool _ => exact hi.elim
  | int _ => exact hi.elim
  | flt _ => exact hi.elim
  | str _ => exact hi.elim
  | con _ => exact hi.elim
  | exc _ _ => exact hi.elim

theorem ex_for {x px iter body pos} (h : Ev Γ loc iter (VQ fun A l => A.iter ∧ ∃ J : Nat → Loc → Prop, J 0 l ∧
      (∀ i B l, A.items[i]? = some B → J i l → Exs Γ ((x, .val B) :: l) body (Fl.loop (J (i + 1)) QF) NoX) ∧ (∀ l, J A.items.length l → QF .next l)) X)
    (hx : Γ.stores x) (hh : Γ.A.handled = none) (hf : ∀ x, foldedSetIterable iter Γ.env x = pure x := by intro _; rfl) : Ex1 Γ loc (.For (.Name x px) iter body [] pos) QF X := by
  intro H O s hs
  refine wpAny_For (wpAny_mono (h H O s hs) (fun v s₁ p => ?_) fun _ _ p => p) hf
  obtain ⟨H₁, O₁, l₁, lv, n₁, st₁, r₁, q₁⟩ := p
  cases lv with
  | own _ _ => exact q₁.elim
  | itr _ => exact q₁.elim
  | val A =>
    obtain ⟨hi, J, j0, turn, fin⟩ := q₁
    refine wp_iter st₁ r₁ hi hh fun I fp W P h₂ it hw hI hk hIo => ?_
    have hIs : s.heap.get? I = none := n₁.none_back hI
    have hIb : Γ.F.h₁.get? I = none := by
      cases e : Γ.F.h₁.get? I with
      | none => rfl
      | some o => have := hs.base I o e; rw [hIs] at this; cases this
    have key : ∀ i (s' : Shared), (∃ H' O' l', Nx Γ.F H O s.heap H' O' s'.heap ∧ Hle H₁ H' ∧ H' I = none ∧ ¬ O' I ∧ St Γ H' O' l' s' ∧ W i s'.heap ∧ i ≤ A.items.length ∧ J i l') →
        codeAny (model Γ.F.prog Γ.F.w) Γ.A (.forLoop (.Name x px) (.ref I) body [] Γ.env) (fun r s' => match r with | .ok f => PostF Γ H O s QF f s' | .error e => cameBackBy Γ.M Γ.A Γ.env (PostX Γ H O s X) e s') s' := by
      intro i s' hinv
      refine codeAny_forLoop_any (fun n s' => ∃ i, n = A.items.length - i ∧ ∃ H' O' l', Nx Γ.F H O s.heap H' O' s'.heap ∧ Hle H₁ H' ∧ H' I = none ∧ ¬ O' I ∧ St Γ H' O' l' s' ∧ W i s'.heap ∧ i ≤ A.items.length ∧ J i l') ?_ (A.items.length - i) ⟨i, rfl, hinv⟩
      rintro n s' ⟨i, rfl, H', O', l', nx, hle, hIH, hIO, st', hw', hile, hj⟩
      have fI : Foreign Γ H' O' I := { hs.foreign hIs with hm := hIH, o := hIO }
      by_cases hlt : i < A.items.length
      · refine it.walks.item i s' _ _ hlt hw' fun v h₃ tk hv hw₃ hk₃ => ?_
        obtain ⟨B, hB, hr⟩ := it.item i v hlt hv
        have st₃ : St Γ H' O' l' { s' with heap := h₃, toks := tk } := st'.extW (fun b => b = I) (fun b e => e ▸ fI) (fun b o hb e => ⟨o, hk₃ b o (fun z => hb (List.mem_singleton.mp z)) e, .refl ..⟩) st'.gens (.refl _) st'.os fun b o e => .inl e
        have nx₃ : Nx Γ.F H O s.heap H' O' h₃ := nx.then (fun b o e hb hne => ⟨o, hk₃ b o (fun z => hne (by rw [List.mem_singleton.mp z]; exact hIs)) e, .refl ..⟩)
          (fun b o e hne => ⟨o, hk₃ b o (fun z => hne (by rw [List.mem_singleton.mp z]; exact hIs)) e⟩) (.refl _) (fun b o e => .inl e) fun b e => .inl e
        show wpAny _ _ (letOwnedTupleGo (.Name x px) (.ref I) v) _ _ _
        refine wpAny_of_eq (a := ()) rfl ?_
        refine wpAny_assign_Name (wp_store (lv := .val B) nx₃ hs st₃ (Rep.mono hle _ _ hr) hx fun O₄ s₄ nx₄ st₄ ex₄ o₄ => ?_)
        have hIO₄ : ¬ O₄ I := fun z => (o₄ I z).elim hIO fun e => by cases e
        have hw₄ : W (i + 1) s₄.heap := it.walks.frame _ _ _ hw₃ fun b hb o e => ex₄ b o e fun z => by
          rcases it.fp b hb with rfl | ⟨o', eo⟩
          · exact hIO z
          · have := st'.ohm b z; rw [hle _ _ eo] at this; cases this
        have again : ∀ (H₅ : Hm) (O₅ : OSet) (l₅ : Loc) (s₅ : Shared), Nx Γ.F H' O₄ s₄.heap H₅ O₅ s₅.heap → St Γ H₅ O₅ l₅ s₅ → J (i + 1) l₅ →
            ∃ m, m < A.items.length - i ∧ ∃ i, m = A.items.length - i ∧ ∃ H' O' l', Nx Γ.F H O s.heap H' O' s₅.heap ∧ Hle H₁ H' ∧ H' I = none ∧ ¬ O' I ∧ St Γ H' O' l' s₅ ∧ W i s₅.heap ∧ i ≤ A.items.length ∧ J i l' := by
          intro H₅ O₅ l₅ s₅ n₅ st₅ hj₅
          obtain ⟨oI, vI, eI, dI⟩ := it.obj _ _ hw₄
          refine ⟨A.items.length - (i + 1), by omega, i + 1, rfl, H₅, O₅, l₅, nx₄.trans n₅, hle.trans n₅.hle, ?_, ?_, st₅, ?_, hlt, hj₅⟩
          · cases e : H₅ I with
            | none => rfl
            | some o =>
              rcases n₅.hnew I o e with h1 | h1 | h1
              · rw [hIH] at h1; cases h1
              · exact absurd h1 hIO₄
              · rw [eI] at h1; cases h1
          · intro z
            rcases n₅.onew I z with h1 | h1
            · exact hIO₄ h1
            · rw [eI] at h1; cases h1
          · refine it.walks.frame _ _ _ hw₄ fun b hb o e => ?_
            rcases it.fp b hb with rfl | ⟨o', eo⟩
            · obtain ⟨o', e', sm⟩ := n₅.kp _ o e hIO₄
              rw [eI] at e; cases e
              rw [e', sm.eq_of_data (fun es ep q => by rw [dI] at q; cases q)]
            · have e2 := st₄.agree b o' (hle _ _ eo)
              rw [e] at e2; cases e2
              exact st₅.agree b o (n₅.hle _ _ (hle _ _ eo))
        refine wpAny_mono (turn i B l' hB hj H' O₄ s₄ st₄) (fun f s₅ p => ?_) fun _ _ p => p.no.elim
        obtain ⟨H₅, O₅, l₅, fl, n₅, st₅, r₅, q₅⟩ := p
        have nn := nx₄.trans n₅
        cases fl with
        | next => cases r₅; exact again H₅ O₅ l₅ s₅ n₅ st₅ q₅
        | cont => cases r₅; exact again H₅ O₅ l₅ s₅ n₅ st₅ q₅
        | brk => cases r₅; exact ⟨H₅, O₅, l₅, .next, nn, st₅, rfl, q₅⟩
        | ret R => obtain ⟨v, rfl, hv⟩ := r₅; exact ⟨H₅, O₅, l₅, .ret R, nn, st₅, ⟨v, rfl, hv⟩, q₅⟩
      · have hie : i = A.items.length := by omega
        subst hie
        refine it.walks.done s' _ _ hw' fun h₃ tk hk₃ => ?_
        have st₃ : St Γ H' O' l' { s' with heap := h₃, toks := tk } := st'.extW (fun b => b = I) (fun b e => e ▸ fI) (fun b o hb e => ⟨o, hk₃ b o (fun z => hb (List.mem_singleton.mp z)) e, .refl ..⟩) st'.gens (.refl _) st'.os fun b o e => .inl e
        have nx₃ : Nx Γ.F H O s.heap H' O' h₃ := nx.then (fun b o e hb hne => ⟨o, hk₃ b o (fun z => hne (by rw [List.mem_singleton.mp z]; exact hIs)) e, .refl ..⟩)
          (fun b o e hne => ⟨o, hk₃ b o (fun z => hne (by rw [List.mem_singleton.mp z]; exact hIs)) e⟩) (.refl _) (fun b o e => .inl e) fun b e => .inl e
        exact wpAny_execs_nil ⟨H', O', l', .next, nx₃, st₃, rfl, fin l' hj⟩
    refine key 0 _ ⟨H₁, O₁, l₁, n₁.then (fun b o e _ _ => ⟨o, hk b o e, .refl ..⟩) (fun b o e _ => ⟨o, hk b o e⟩) (.refl _) (fun b o e => .inl e) (fun b e => .inl e), .refl _, ?_, ?_, ?_, hw, Nat.zero_le _, j0⟩
    · cases e : H₁ I with
      | none => rfl
      | some o => have := st₁.agree I o e; rw [hI] at this; cases this
    · intro z
      obtain ⟨o, e⟩ := st₁.othere I z
      rw [hI] at e; cases e
    · exact st₁.ext (fun b o e => ⟨o, hk b o e, .refl ..⟩) st₁.gens (.refl _) fun b o e => .inl e
end
end Mine
end
section
open PySem PySem.W PyProof.Rows
set_option linter.unusedVariables false
namespace Mine

/-! ## comprehensions -/

def Cx.comp (Γ : Cx) (scope : Scope) (cs : List (Str × Addr)) (C : Addr) : Cx :=
  { Γ with
    env := { scope := relabel scope Γ.env, locals := C, globals := Γ.env.globals, cells := cs, qual := Γ.env.qual, func := none, code := Γ.env.code, frame := Γ.env.frame, builtins := Γ.env.builtins }
    mine := fun y => scope.names.lookup y == some .cell }

theorem cellsFrom_cases : ∀ (names : List (Str × NameKind)) (n : Nat) (acc : List (Str × Addr)) (y : Str) (c : Addr), (cellsFrom n names acc).lookup y = some c → acc.lookup y = some c ∨ n ≤ c
  | [], _, _, _, _, e => .inl e
  | (name, kind) :: r, n, acc, y, c, e => by
    unfold cellsFrom at e
    split at e
    · rcases cellsFrom_cases r _ _ y c e with h | h
      · simp only [List.lookup] at h
        split at h
        · cases h; exact .inr (Nat.le_refl _)
        · exact .inl h
      · exact .inr (by omega)
    · exact cellsFrom_cases r _ _ y c e
theorem cellsFrom_own : ∀ (names : List (Str × NameKind)) (n n₀ : Nat) (acc : List (Str × Addr)) (y : Str) (c : Addr), n₀ ≤ n → ((y, NameKind.cell) ∈ names ∨ ∀ c, acc.lookup y = some c → n₀ ≤ c) → (cellsFrom n names acc).lookup y = some c → n₀ ≤ c
  | [], _, _, _, _, _, _, h, e => by
    rcases h with h | h
    · cases h
    · exact h _ e
  | (name, kind) :: r, n, n₀, acc, y, c, hn, h, e => by
    unfold cellsFrom at e
    split at e
    · rename_i hk
      refine cellsFrom_own r (n + 1) n₀ _ y c (by omega) ?_ e
      by_cases hy : y = name
      · subst hy
        refine .inr fun c' e' => ?_
        rw [show List.lookup y ((y, n) :: acc) = some n by simp [List.lookup]] at e'
        cases e'; exact hn
      · have hb : (y == name) = false := by simpa using hy
        rcases h with h | h
        · rcases List.mem_cons.mp h with h | h
          · cases h; exact absurd rfl hy
          · exact .inl h
        · refine .inr fun c' e' => ?_
          simp [List.lookup, hb] at e'
          exact h c' e'
    · rename_i hk
      refine cellsFrom_own r n n₀ acc y c hn ?_ e
      rcases h with h | h
      · rcases List.mem_cons.mp h with h | h
        · cases h; exact absurd rfl hk
        · exact .inl h
      · exact .inr h

def CsOk (h : Heap) (cs : List (Str × Addr)) : Prop :=
  (∀ y c, cs.lookup y = some c → ∃ o w, h.get? c = some o ∧ o.data = .cell w) ∧ ∀ x y c, cs.lookup x = some c → cs.lookup y = some c → x = y

theorem csOk_from : ∀ (names : List (Str × NameKind)) (h : Heap) (acc : List (Str × Addr)), CsOk h acc → CsOk (pushCells h names) (cellsFrom h.objs.size names acc)
  | [], _, _, x => x
  | (name, kind) :: r, h, acc, x => by
    unfold pushCells cellsFrom
    split
    · have := csOk_from r (h.push { cls := .type "cell", data := .cell none }) ((name, h.objs.size) :: acc) ⟨fun y c e => ?_, fun y z c e e' => ?_⟩
      · rwa [Heap.size_push] at this
      · simp only [List.lookup] at e
        split at e
        · cases e; exact ⟨_, _, Heap.get?_push_size _ rfl, rfl⟩
        · obtain ⟨o, w, e1, e2⟩ := x.1 y c e
          exact ⟨o, w, Heap.get?_push_of_some _ e1, e2⟩
      · have old : ∀ y, acc.lookup y = some h.objs.size → False := fun y e => by
          obtain ⟨o, w, e1, _⟩ := x.1 y _ e
          exact absurd (Heap.lt_size e1) (Nat.lt_irrefl _)
        simp only [List.lookup] at e e'
        split at e <;> split at e'
        · rename_i h1 _ h2
          have a := beq_iff_eq.mp h1; have b := beq_iff_eq.mp h2
          rw [a, b]
        · cases e; exact (old _ e').elim
        · cases e'; exact (old _ e).elim
        · exact x.2 y z c e e'
    · exact csOk_from r h acc x

section
variable {M : Model} {A : Around} {E : Value → Shared → Prop} {s : Shared}
theorem wp_compEnv {scope : Scope} {globals : Addr} {cl : List (Str × Addr)} {qual : Str} {outer : Env} {builtins : Addr} {Q : Env → Shared → Prop}
    (h : Q { scope := scope, locals := s.heap.objs.size, globals := globals, cells := cellsFrom (s.heap.objs.size + 1) scope.names cl, qual := qual, func := none, code := outer.code, frame := outer.frame, builtins := outer.builtins }
      { s with heap := pushCells (s.heap.push { cls := .type "dict", data := .dict #[] }) scope.names }) :
    wpAny M A (newFunctionEnv scope globals cl [] qual none .none (some outer) builtins) Q E s := by
  simp only [newFunctionEnv, Option.isSome_some, if_true]
  refine wpAny_bind (wpAny_alloc ?_)
  refine wpAny_bind (wpAny_layCells _ (fun name kind cells => by cases hkc : kind == NameKind.cell <;> simp [hkc]) _ _ _ _ ?_)
  rw [show ({ s with heap := s.heap.push { cls := .type "dict", data := .dict #[] } } : Shared).heap.objs.size = s.heap.objs.size + 1 from Heap.size_push ..]
  exact wpAny_bind (wpAny_pure (wpAny_pure h))
end


section
variable {Γ : Cx} {loc fr : Loc} {Q : V → Loc → Prop} {QB : Bool → Loc → Prop} {QF : Fl → Loc → Prop} {X : Exc → Loc → Prop} {scope : Scope} {cl : List (Str × Addr)}

/-- what a comprehension of this frame may read: names of the frame's that are kept in cells -/
structure Frees (Γ : Cx) (loc : Loc) (scope : Scope) (cl : List (Str × Addr)) (fr : Loc) : Prop where
  clos : closureFor scope Γ.env = pure cl
  hcl : ∀ y c, cl.lookup y = some c → Γ.env.cells.lookup y = some c
  kind : scope.kind = .function
  names : ∀ y ∈ scope.names, y.2 = .local → scope.names.lookup y.1 = some .local
  fr : ∀ y lv, fr.lookup y = some lv → scope.names.lookup y = some .free ∧ (∃ B, lv = .val B) ∧ loc.lookup y = some lv ∧ (Γ.env.kindOf y = some .cell ∨ Γ.env.kindOf y = some .free) ∧
    ∀ C, (cellsFrom (C + 1) scope.names cl).lookup y = Γ.env.cells.lookup y

theorem relabel_free {env : Env} : ∀ {names : List (Str × NameKind)} {y : Str}, names.lookup y = some .free →
    (names.map fun (n, k) => if (k == NameKind.free && env.scope.kind == .function && env.kindOf n == some .cell) then (n, NameKind.cell) else (n, k)).lookup y = some .cell ∨
    (names.map fun (n, k) => if (k == NameKind.free && env.scope.kind == .function && env.kindOf n == some .cell) then (n, NameKind.cell) else (n, k)).lookup y = some .free
  | [], _, h => by simp at h
  | (n, k) :: r, y, h => by
    have ih := @relabel_free env r y
    show List.lookup y ((if (k == NameKind.free && env.scope.kind == .function && env.kindOf n == some .cell) = true then (n, NameKind.cell) else (n, k)) :: _) = _ ∨ List.lookup y ((if (k == NameKind.free && env.scope.kind == .function && env.kindOf n == some .cell) = true then (n, NameKind.cell) else (n, k)) :: _) = _
    cases hx : y == n with
    | true =>
      simp only [List.lookup_cons, hx] at h
      cases h
      by_cases hc : (NameKind.free == NameKind.free && env.scope.kind == .function && env.kindOf n == some .cell) = true
      · rw [if_pos hc]; left; simp [List.lookup_cons, hx]
      · rw [if_neg hc]; right; simp [List.lookup_cons, hx]
    | false =>
      simp only [List.lookup_cons, hx] at h
      by_cases hc : (k == NameKind.free && env.scope.kind == .function && env.kindOf n == some .cell) = true
      · rw [if_pos hc]; simp only [List.lookup_cons, hx]; exact ih h
      · rw [if_neg hc]; simp only [List.lookup_cons, hx]; exact ih h

/-- the state as the comprehension's own block sees it, at its start -/
theorem StH.comp {H : Hm} {O : OSet} {h : Heap} {os : OsState} {g : Array GenState} (st : StH Γ H O loc h os g) (fs : Frees Γ loc scope cl fr) :
    StH (Γ.comp scope (cellsFrom (h.objs.size + 1) scope.names cl) h.objs.size) H (fun b => h.objs.size ≤ b ∧ ∃ o, (pushCells (h.push { cls := .type "dict", data := .dict #[] }) scope.names).get? b = some o) fr
      (pushCells (h.push { cls := .type "dict", data := .dict #[] }) scope.names) os g := by
  have keep : ∀ b o, h.get? b = some o → (pushCells (h.push { cls := .type "dict", data := .dict #[] }) scope.names).get? b = some o := fun b o e => pushCells_keeps _ _ b o (Heap.get?_push_of_some _ e)
  have fresh : ∀ b, h.objs.size ≤ b → h.get? b = none := fun b hb => Heap.get?_none_of_le hb
  have hC : (pushCells (h.push { cls := .type "dict", data := .dict #[] }) scope.names).get? h.objs.size = some { cls := .type "dict", data := .dict #[] } := pushCells_keeps _ _ _ _ (Heap.get?_push_size _ rfl)
  have cs := csOk_from scope.names (h.push { cls := .type "dict", data := .dict #[] }) cl ⟨fun y c e => by
      obtain ⟨_, o, w, e1, e2⟩ := st.cells y c (fs.hcl y c e)
      exact ⟨o, w, Heap.get?_push_of_some _ e1, e2⟩, fun x y c e e' => st.cinj x y c (fs.hcl x c e) (fs.hcl y c e')⟩
  rw [Heap.size_push] at cs
  have noMine : ∀ y lv, fr.lookup y = some lv → lv.mine = true → False := fun y lv e m => by
    obtain ⟨_, ⟨B, rfl⟩, _⟩ := fs.fr y lv e; cases m
  exact
  { base := fun b o e => keep b o (st.base b o e)
    agree := fun b o e => keep b o (st.agree b o e)
    nofr := st.nofr
    os := st.os
    gens := st.gens
    obase := fun b hb => by
      show Γ.F.h₁.get? b = none
      cases e : Γ.F.h₁.get? b with
      | none => rfl
      | some o => have := st.base b o e; rw [fresh b hb.1] at this; cases this
    ohm := fun b hb => by
      cases e : H b with
      | none => rfl
      | some o => have := st.agree b o e; rw [fresh b hb.1] at this; cases this
    othere := fun b hb => hb.2
    kind := fs.kind
    ns := ⟨_, (Heap.Ns.new h (.type "dict")).keeps (pushCells_keeps _ _)⟩
    onsO := ⟨Nat.le_refl _, _, hC⟩
    vars := fun y lv e => by
      obtain ⟨h1, ⟨B, rfl⟩, h3, h4, h5⟩ := fs.fr y lv e
      obtain ⟨v, hv, hl⟩ := st.vars y _ h3
      refine ⟨v, ?_, hl⟩
      rcases hv with ⟨k1, _⟩ | ⟨k1, c, o, l, eo, d⟩
      · rw [k1] at h4; rcases h4 with h4 | h4 <;> cases h4
      · exact .inr ⟨relabel_free h1, c, o, (h5 _).trans l, keep c o eo, d⟩
    sep := fun x y a lv lv' e _ m _ _ _ => (noMine x lv e m).elim
    apart := fun x a lv e m _ => (noMine x lv e m).elim
    cells := fun y c e => by
      refine ⟨fun m => ?_, cs.1 y c e⟩
      obtain ⟨o, w, e1, _⟩ := cs.1 y c e
      have m' : scope.names.lookup y = some .cell := beq_iff_eq.mp m
      have := cellsFrom_own scope.names (h.objs.size + 1) (h.objs.size + 1) cl y c (Nat.le_refl _) (.inl (mem_of_lookup m')) e
      exact ⟨by omega, o, e1⟩
    cne := fun y c e z => by
      obtain ⟨o, w, e1, e2⟩ := cs.1 y c e
      have z' : c = h.objs.size := z
      rw [z', hC] at e1
      cases e1; cases e2
    cinj := cs.2
    frames := st.frames.same fun b o e => ⟨o, keep b o e, .refl ..⟩ }

/-- the tests of a clause -/
def Ifs (Γ : Cx) (loc : Loc) (ifs : List Expr) (b : Bool) : Prop :=
  ∀ H O s, St Γ H O loc s → wpAny Γ.M Γ.A (forIn ifs true fun c r => if r = true then do let ok ← isTrue c Γ.env (eval c Γ.env); pure (ForInStep.yield ok) else pure (ForInStep.yield r))
    (PostB Γ H O s fun r l => r = b ∧ loc.le l) (PostX Γ H O s NoX) s
theorem ifs_nil {loc : Loc} : Ifs Γ loc [] true := fun H O s st => by
  rw [List.forIn_nil]; exact wpAny_pure ⟨H, O, loc, .refl .., st, rfl, Loc.le_refl _⟩
theorem ifs_one {loc : Loc} {c : Expr} {b : Bool} (h : Tst Γ loc c (fun r l => r = b ∧ loc.le l) NoX) : Ifs Γ loc [c] b := fun H O s st => by
  rw [List.forIn_cons]
  simp only [if_true]
  refine wpAny_bind (wpAny_bind (wpAny_mono (h H O s st) (fun r s₁ p => wpAny_pure ?_) fun _ _ p => p))
  show wpAny _ _ (forIn [] r _) _ _ _
  rw [List.forIn_nil]; exact wpAny_pure p

/-- what a comprehension has to be shown of: its element, under the clause's name and the free names -/
structure CompOk (Γ : Cx) (scope : Scope) (cl : List (Str × Addr)) (fr : Loc) (x : Str) (ifs : List Expr) (elt : Expr) (As : List V) (f : V → V) (p : V → Bool) : Prop where
  hx : scope.names.lookup x = some .local ∨ scope.names.lookup x = some .cell
  xfr : fr.lookup x = none
  hifs : ∀ B ∈ As, ∀ C, Ifs (Γ.comp scope (cellsFrom (C + 1) scope.names cl) C) ((x, .val B) :: fr) ifs (p B)
  helt : ∀ B ∈ As, p B = true → ∀ C, Ev (Γ.comp scope (cellsFrom (C + 1) scope.names cl) C) ((x, .val B) :: fr) elt (VQ fun R l => R = f B ∧ fr.le l) NoX

theorem cellsFrom_some : ∀ (names : List (Str × NameKind)) (n : Nat) (acc : List (Str × Addr)) (y : Str), ((y, NameKind.cell) ∈ names ∨ (acc.lookup y).isSome = true) → ((cellsFrom n names acc).lookup y).isSome = true
  | [], _, _, _, h => by
    rcases h with h | h
    · cases h
    · exact h
  | (name, kind) :: r, n, acc, y, h => by
    unfold cellsFrom
    split
    · refine cellsFrom_some r _ _ y ?_
      by_cases hy : y = name
      · right; subst hy; simp [List.lookup]
      · have hb : (y == name) = false := by simpa using hy
        rcases h with h | h
        · rcases List.mem_cons.mp h with h | h
          · cases h; exact absurd rfl hy
          · exact .inl h
        · right; simp [List.lookup, hb, h]
    · rename_i hk
      refine cellsFrom_some r _ _ y ?_
      rcases h with h | h
      · rcases List.mem_cons.mp h with h | h
        · cases h; exact absurd rfl hk
        · exact .inl h
      · exact .inr h
theorem relabel_cell {env : Env} : ∀ {names : List (Str × NameKind)} {y : Str}, names.lookup y = some .cell →
    (names.map fun (n, k) => if (k == NameKind.free && env.scope.kind == .function && env.kindOf n == some .cell) then (n, NameKind.cell) else (n, k)).lookup y = some .cell
  | [], _, h => by simp at h
  | (n, k) :: r, y, h => by
    have ih := @relabel_cell env r y
    show List.lookup y ((if (k == NameKind.free && env.scope.kind == .function && env.kindOf n == some .cell) = true then (n, NameKind.cell) else (n, k)) :: _) = _
    cases hx : y == n with
    | true =>
      simp only [List.lookup_cons, hx] at h
      cases h
      simp [List.lookup_cons, hx]
    | false =>
      simp only [List.lookup_cons, hx] at h
      by_cases hc : (k == NameKind.free && env.scope.kind == .function && env.kindOf n == some .cell) = true
      · rw [if_pos hc]; simp only [List.lookup_cons, hx]; exact ih h
      · rw [if_neg hc]; simp only [List.lookup_cons, hx]; exact ih h

theorem comp_stores {x : Str} {C : Addr} (hx : scope.names.lookup x = some .local ∨ scope.names.lookup x = some .cell) : (Γ.comp scope (cellsFrom (C + 1) scope.names cl) C).stores x := by
  rcases hx with hx | hx
  · exact .inl (lookup_relabel_local hx)
  · exact .inr ⟨relabel_cell hx, beq_iff_eq.mpr hx, cellsFrom_some _ _ _ _ (.inl (mem_of_lookup hx))⟩

/-- what a comprehension leaves -/
structure CompEnd (Γ : Cx) (H : Hm) (O : OSet) (loc : Loc) (s₂ : Shared) (I : Addr) (Rs : List V) (D C : Addr) (s' : Shared) : Prop where
  mk ::
  is : ∃ H' m xs, Hle H H' ∧ (∀ b o, H' b = some o → H b = some o ∨ s₂.heap.get? b = none) ∧ (∀ b o, s₂.heap.get? b = some o → b ≠ I → ∃ o', s'.heap.get? b = some o' ∧ Same Γ.F b o o') ∧
    St Γ H' O loc s' ∧ s₂.heap.get? D = none ∧ s₂.heap.get? C = none ∧ D ≠ C ∧ H' D = none ∧ H' C = none ∧ s'.heap.Ns C m ∧
    s'.heap.PlainList D xs ∧ Reps H' Rs xs.toList

/-- the state within a comprehension's loop -/
structure Lp (Γ Γc : Cx) (H : Hm) (s₂ : Shared) (I D : Addr) (W : Nat → Heap → Prop) (fr : Loc) (i : Nat) (Rs : List V) (H' : Hm) (O' : OSet) (lc : Loc) (s' : Shared) : Prop where
  hle : Hle H H'
  hnew : ∀ b o, H' b = some o → H b = some o ∨ s₂.heap.get? b = none
  kp : ∀ b o, s₂.heap.get? b = some o → b ≠ I → ∃ o', s'.heap.get? b = some o' ∧ Same Γ.F b o o'
  st : St Γc H' O' lc s'
  le : fr.le lc
  onew : ∀ b, O' b → s₂.heap.get? b = none ∧ b ≠ D
  dnone : H' D = none
  inone : H' I = none
  w : W i s'.heap
  d : ∃ xs, s'.heap.PlainList D xs ∧ Reps H' Rs xs.toList

theorem Lp.step {Γc : Cx} {H H' H'' : Hm} {O' O'' : OSet} {s₂ s' s'' : Shared} {I D : Addr} {As : List V} {fp : List Addr} {W : Nat → Heap → Prop} {P : Nat → Value → Prop} {i : Nat} {Rs : List V} {lc lc' : Loc}
    (it : Itn Γ H As I fp W P) (hF : Γc.F = Γ.F) (hI : ∃ o, s₂.heap.get? I = some o) (L : Lp Γ Γc H s₂ I D W fr i Rs H' O' lc s') (n : Nx Γ.F H' O' s'.heap H'' O'' s''.heap) (st : St Γc H'' O'' lc' s'') (hle : fr.le lc') :
    Lp Γ Γc H s₂ I D W fr i Rs H'' O'' lc' s'' := by
  obtain ⟨xs, hl, hr⟩ := L.d
  obtain ⟨nD, eD⟩ := id hl
  obtain ⟨oI, vI, eI, dI⟩ := it.obj i _ L.w
  have hOD : ¬ O' D := fun z => (L.onew D z).2 rfl
  have hOI : ¬ O' I := fun z => by obtain ⟨o, e⟩ := hI; rw [(L.onew I z).1] at e; cases e
  have back : ∀ b, s'.heap.get? b = none → s₂.heap.get? b = none := by
    intro b e
    cases e2 : s₂.heap.get? b with
    | none => rfl
    | some o =>
      by_cases hb : b = I
      · subst hb; rw [eI] at e; cases e
      · obtain ⟨o', e', _⟩ := L.kp b o e2 hb; rw [e] at e'; cases e'
  have noneOf : ∀ b, H' b = none → ¬ O' b → (∃ o, s'.heap.get? b = some o) → H'' b = none := by
    intro b h1 h2 ⟨o, h3⟩
    cases e : H'' b with
    | none => rfl
    | some q =>
      rcases n.hnew b q e with h | h | h
      · rw [h1] at h; cases h
      · exact absurd h h2
      · rw [h3] at h; cases h
  refine ⟨L.hle.trans n.hle, fun b o e => ?_, fun b o e hb => ?_, st, hle, fun b z => ?_, noneOf D L.dnone hOD ⟨_, eD⟩, noneOf I L.inone hOI ⟨oI, eI⟩, ?_, ?_⟩
  · rcases n.hnew b o e with h | h | h
    · exact L.hnew b o h
    · exact .inr (L.onew b h).1
    · exact .inr (back b h)
  · obtain ⟨o', e', sm⟩ := L.kp b o e hb
    obtain ⟨o'', e'', sm'⟩ := n.kp b o' e' fun z => by rw [(L.onew b z).1] at e; cases e
    exact ⟨o'', e'', sm.trans sm'⟩
  · rcases n.onew b z with h | h
    · exact L.onew b h
    · exact ⟨back b h, fun q => by subst q; rw [eD] at h; cases h⟩
  · refine it.walks.frame _ _ _ L.w fun b hb o e => ?_
    rcases it.fp b hb with rfl | ⟨o', eo⟩
    · obtain ⟨o', e', sm⟩ := n.kp _ o e hOI
      rw [eI] at e; cases e
      rw [e', sm.eq_of_data (fun es ep q => by rw [dI] at q; cases q)]
    · have e2 := L.st.agree b o' (L.hle _ _ eo)
      rw [e] at e2; cases e2
      exact st.agree b o (n.hle _ _ (L.hle _ _ eo))
  · obtain ⟨o', e', sm⟩ := n.kp D _ eD hOD
    have : o' = _ := sm.eq_of_data fun es ep z => by cases z
    subst this
    exact ⟨xs, ⟨nD, e'⟩, hr.mono n.hle⟩

theorem wp_comp_block {elt iter : Expr} {x : Str} {px : Pos} {ifs : List Expr} {pos : Pos} {A : V} {f : V → V} {p : V → Bool} {H : Hm} {O : OSet} {s₂ : Shared} {I : Addr} {fp : List Addr} {W : Nat → Heap → Prop} {P : Nat → Value → Prop}
    {RR : Value → Addr → Result → Shared → Prop} {E : Value → Shared → Prop}
    (st : St Γ H O loc s₂) (fs : Frees Γ loc scope cl fr) (ok : CompOk Γ scope cl fr x ifs elt A.items f p) (it : Itn Γ H A.items I fp W P) (hw : W 0 s₂.heap) (fI : Foreign Γ H O I) (hsz : A.items.length ≤ sizeLine)
    (k : ∀ D C s', CompEnd Γ H O loc s₂ I ((A.items.filter p).map f) D C s' → RR (.ref D) C (.ok .next) s') :
    wpAny Γ.M Γ.A (newList []) (fun acc s₃ => wpAny Γ.M Γ.A (newFunctionEnv scope Γ.env.globals cl [] Γ.env.qual none .none (some Γ.env)) (fun cenv s₄ =>
      codeAny Γ.M Γ.A (.compStart (.ListComp elt [⟨.Name x px, iter, ifs, 0⟩] scope pos) 0 (.ref I) acc { cenv with scope := relabel scope Γ.env }) (RR acc cenv.locals) s₄) E s₃) E s₂ := by
  refine wpAny_newObj_type (wp_compEnv ?_)
  generalize hh₃ : s₂.heap.push { cls := .type "list", dict := none, data := .seq ([] : List Value).toArray } = h₃
  have hC : h₃.objs.size = s₂.heap.objs.size + 1 := by rw [← hh₃, Heap.size_push]
  have hDn : s₂.heap.get? s₂.heap.objs.size = none := Heap.get?_none_of_le (Nat.le_refl _)
  have hCn : s₂.heap.get? h₃.objs.size = none := Heap.get?_none_of_le (by rw [hC]; exact Nat.le_succ _)
  have keep₃ : ∀ b o, s₂.heap.get? b = some o → h₃.get? b = some o := fun b o e => hh₃ ▸ Heap.get?_push_of_some _ e
  have st₃ : St Γ H O loc { s₂ with heap := h₃ } := st.ext (fun b o e => ⟨o, keep₃ b o e, .refl ..⟩) st.gens (.refl _) fun b o e => .inl e
  have stc := st₃.comp fs
  obtain ⟨ec, mc, hΓc⟩ : ∃ ec mc, Γ.comp scope (cellsFrom (h₃.objs.size + 1) scope.names cl) h₃.objs.size = (⟨Γ.F, Γ.A, ec, mc⟩ : Cx) := ⟨_, _, rfl⟩
  rw [hΓc] at stc
  have hstores : (⟨Γ.F, Γ.A, ec, mc⟩ : Cx).stores x := by rw [← hΓc]; exact comp_stores ok.hx
  have hI : ∃ o, s₂.heap.get? I = some o := by obtain ⟨o, _, e, _⟩ := it.obj 0 _ hw; exact ⟨o, e⟩
  have hIlt : I < h₃.objs.size + 1 := by obtain ⟨o, e⟩ := hI; have := Heap.lt_size e; exact Nat.lt_succ_of_lt (by rw [hC]; exact Nat.lt_succ_of_lt this)
  have fD : Foreign Γ H O s₂.heap.objs.size := st.foreign hDn
  have inner : ∀ b (H' : Hm) (O' : OSet), Foreign Γ H O b → b < h₃.objs.size + 1 → H' b = none → ¬ O' b → Foreign (⟨Γ.F, Γ.A, ec, mc⟩ : Cx) H' O' b := by
    intro b H' O' fb hb h1 h2
    refine ⟨fb.base, h1, h2, fun y e => ?_, fun l hl => fb.fr l hl⟩
    have e' : List.lookup y (Γ.comp scope (cellsFrom (h₃.objs.size + 1) scope.names cl) h₃.objs.size).env.cells = some b := by rw [hΓc]; exact e
    rcases cellsFrom_cases _ _ _ _ _ e' with h | h
    · exact fb.cell y (fs.hcl y b h)
    · exact absurd hb (Nat.not_lt.mpr h)
  have hDlt : s₂.heap.objs.size < h₃.objs.size + 1 := by omega
  show codeAny _ _ (.compStart _ 0 (.ref I) (.ref s₂.heap.objs.size) (Γ.comp scope (cellsFrom (h₃.objs.size + 1) scope.names cl) h₃.objs.size).env) (RR (.ref s₂.heap.objs.size) h₃.objs.size) { s₂ with heap := pushCells (h₃.push { cls := .type "dict", data := .dict #[] }) scope.names }
  rw [hΓc]
  have keep₄ : ∀ b o, h₃.get? b = some o → (pushCells (h₃.push { cls := .type "dict", data := .dict #[] }) scope.names).get? b = some o := fun b o e => pushCells_keeps _ _ b o (Heap.get?_push_of_some _ e)
  have w₄ : W 0 (pushCells (h₃.push { cls := .type "dict", data := .dict #[] }) scope.names) := it.walks.frame _ _ _ hw fun b _ o e => keep₄ b o (keep₃ b o e)
  have L0 : Lp Γ (⟨Γ.F, Γ.A, ec, mc⟩ : Cx) H s₂ I s₂.heap.objs.size W fr 0 (((A.items.take 0).filter p).map f) H (fun b => h₃.objs.size ≤ b ∧ ∃ o, (pushCells (h₃.push { cls := .type "dict", data := .dict #[] }) scope.names).get? b = some o) fr { s₂ with heap := pushCells (h₃.push { cls := .type "dict", data := .dict #[] }) scope.names } := by
    refine ⟨.refl _, fun b o e => .inl e, fun b o e _ => ⟨o, keep₄ b o (keep₃ b o e), .refl ..⟩, stc, Loc.le_refl _, fun b z => ⟨Heap.get?_none_of_le (Nat.le_trans (by rw [hC]; exact Nat.le_succ _) z.1), fun q => by have := z.1; rw [q, hC] at this; exact Nat.not_succ_le_self _ this⟩, fD.hm, fI.hm, w₄, #[], ⟨0, keep₄ _ _ ?_⟩, by simpa using reps_nil _⟩
    rw [← hh₃]; exact Heap.get?_push_size _ rfl
  have loop : ∀ i (s' : Shared), (∃ H' O' lc, Lp Γ (⟨Γ.F, Γ.A, ec, mc⟩ : Cx) H s₂ I s₂.heap.objs.size W fr i (((A.items.take i).filter p).map f) H' O' lc s') → i ≤ A.items.length →
      codeAny Γ.M Γ.A (.compLoop (.ListComp elt [⟨.Name x px, iter, ifs, 0⟩] scope pos) 0 (.ref I) (.ref s₂.heap.objs.size) ec) (RR (.ref s₂.heap.objs.size) h₃.objs.size) s' := by
    intro i s' hL hi
    refine codeAny_compLoop_tests (fun n s' => ∃ i, n = A.items.length - i ∧ i ≤ A.items.length ∧ ∃ H' O' lc, Lp Γ (⟨Γ.F, Γ.A, ec, mc⟩ : Cx) H s₂ I s₂.heap.objs.size W fr i (((A.items.take i).filter p).map f) H' O' lc s') ?_ (A.items.length - i) ⟨i, rfl, hi, hL⟩
    rintro n s' ⟨i, rfl, hi, H', O', lc, L⟩
    have hOI : ¬ O' I := fun z => by obtain ⟨o, e⟩ := hI; rw [(L.onew I z).1] at e; cases e
    have fIc := inner I H' O' fI hIlt L.inone hOI
    by_cases hlt : i < A.items.length
    · refine it.walks.item i s' _ _ hlt L.w fun v h₅ tk hv hw₅ hk₅ => ?_
      obtain ⟨B, hB, hr⟩ := it.item i v hlt hv
      have hBm : B ∈ A.items := List.mem_of_getElem? hB
      have hk₅' : ∀ b o, b ≠ I → s'.heap.get? b = some o → h₅.get? b = some o := fun b o hb e => hk₅ b o (fun z => hb (List.mem_singleton.mp z)) e
      have hDI : s₂.heap.objs.size ≠ I := fun z => by obtain ⟨o, e⟩ := hI; rw [← z, hDn] at e; cases e
      have L₅ : Lp Γ (⟨Γ.F, Γ.A, ec, mc⟩ : Cx) H s₂ I s₂.heap.objs.size W fr (i + 1) (((A.items.take i).filter p).map f) H' O' lc { s' with heap := h₅, toks := tk } := by
        refine ⟨L.hle, L.hnew, fun b o e hb => ?_, L.st.extW (fun b => b = I) (fun b e => e ▸ fIc) (fun b o hb e => ⟨o, hk₅' b o hb e, .refl ..⟩) L.st.gens (.refl _) L.st.os (fun b o e => .inl e), L.le, L.onew, L.dnone, L.inone, hw₅, ?_⟩
        · obtain ⟨o', e', sm⟩ := L.kp b o e hb
          exact ⟨o', hk₅' b o' hb e', sm⟩
        · obtain ⟨xs, hl, hrs⟩ := L.d
          exact ⟨xs, hl.at fun o e => hk₅' _ o hDI e, hrs⟩
      have hrB : Rep H' B v := Rep.mono L.hle _ _ hr
      refine wpAny_assign_Name (wp_store (lv := .val B) (Nx.refl ..) L₅.st L₅.st hrB hstores fun O₆ s₆ n₆ st₆ ex₆ o₆ => ?_)
      have n₆' : Nx Γ.F H' O' h₅ H' O₆ s₆.heap := n₆
      have L₆ := L₅.step (Γc := ⟨Γ.F, Γ.A, ec, mc⟩) it rfl hI n₆' st₆ (Loc.le_cons _ L₅.le ok.xfr)
      have le₆ : Loc.le ((x, .val B) :: fr) ((x, .val B) :: lc) := by
        intro y lv e
        by_cases hy : y = x
        · subst hy; rw [lookup_cons_self] at e ⊢; exact e
        · rw [lookup_cons_ne hy] at e ⊢; exact L.le y lv e
      have hifs := ok.hifs B hBm h₃.objs.size
      rw [hΓc] at hifs
      refine wpAny_mono (hifs H' O₆ s₆ (st₆.less le₆)) (fun r s₇ q => ?_) fun _ _ q => q.no.elim
      obtain ⟨H₇, O₇, l₇, n₇, st₇, rfl, le₇⟩ := q
      have frle : fr.le l₇ := Loc.le_trans (Loc.le_cons (.val B) (Loc.le_refl _) ok.xfr) le₇
      have L₆' : Lp Γ (⟨Γ.F, Γ.A, ec, mc⟩ : Cx) H s₂ I s₂.heap.objs.size W fr (i + 1) (((A.items.take i).filter p).map f) H' O₆ ((x, .val B) :: fr) s₆ := ⟨L₆.hle, L₆.hnew, L₆.kp, st₆.less le₆, Loc.le_cons _ (Loc.le_refl _) ok.xfr, L₆.onew, L₆.dnone, L₆.inone, L₆.w, L₆.d⟩
      have L₇ := L₆'.step (Γc := ⟨Γ.F, Γ.A, ec, mc⟩) it rfl hI (n₇) st₇ frle
      have htake : A.items.take (i + 1) = A.items.take i ++ [B] := by rw [List.take_add_one, hB]; rfl
      by_cases hp : p B = true
      · rw [if_pos hp]
        have helt := ok.helt B hBm hp h₃.objs.size
        rw [hΓc] at helt
        refine wpAny_mono (helt H₇ O₇ s₇ (st₇.less le₇)) (fun y s₈ q => ?_) fun _ _ q => q.no.elim
        obtain ⟨H₈, O₈, l₈, lv, n₈, st₈, r₈, q₈⟩ := q
        cases lv with
        | own _ _ => exact q₈.elim
        | itr _ => exact q₈.elim
        | val R =>
          obtain ⟨rfl, le₈⟩ := q₈
          have L₇' : Lp Γ (⟨Γ.F, Γ.A, ec, mc⟩ : Cx) H s₂ I s₂.heap.objs.size W fr (i + 1) (((A.items.take i).filter p).map f) H₇ O₇ ((x, .val B) :: fr) s₇ := ⟨L₇.hle, L₇.hnew, L₇.kp, st₇.less le₇, Loc.le_cons _ (Loc.le_refl _) ok.xfr, L₇.onew, L₇.dnone, L₇.inone, L₇.w, L₇.d⟩
          have L₈ := L₇'.step (Γc := ⟨Γ.F, Γ.A, ec, mc⟩) it rfl hI (n₈) st₈ le₈
          obtain ⟨xs, hl, hrs⟩ := L₈.d
          have hxs : xs.size ≤ sizeLine := by
            have h1 : xs.size = (((A.items.take i).filter p).map f).length := by rw [← hrs.length]; simp
            rw [h1, List.length_map]
            exact Nat.le_trans (List.length_filter_le _ _) (Nat.le_trans (by rw [List.length_take]; exact Nat.min_le_right _ _) hsz)
          refine wpAny_list_append_plain hl (fun h₉ hl₉ hs₉ => ?_) hxs
          have hOD : ¬ O₈ s₂.heap.objs.size := fun z => (L₈.onew _ z).2 rfl
          refine ⟨A.items.length - (i + 1), by omega, i + 1, rfl, hlt, H₈, O₈, l₈, L₈.hle, L₈.hnew, fun b o e hb => ?_, ?_, L₈.le, L₈.onew, L₈.dnone, L₈.inone, ?_, xs.push y, hl₉, ?_⟩
          · obtain ⟨o', e', sm⟩ := L₈.kp b o e hb
            exact ⟨o', (hs₉.2 b fun z => by rw [z, hDn] at e; cases e).trans e', sm⟩
          · exact L₈.st.extW (fun b => b = s₂.heap.objs.size) (fun b e => e ▸ inner _ _ _ fD hDlt L₈.dnone hOD) (fun b o hb e => ⟨o, (hs₉.2 b hb).trans e, .refl ..⟩) L₈.st.gens (.refl _) L₈.st.os (fun b o e => .inl e)
          · refine it.walks.frame _ _ _ L₈.w fun b hb o e => (hs₉.2 b fun z => ?_).trans e
            rcases it.fp b hb with h | ⟨o', eo⟩
            · exact hDI (z ▸ h)
            · rw [z] at eo; rw [fD.hm] at eo; cases eo
          · rw [htake, List.filter_append, List.map_append, Array.toList_push]
            refine hrs.append ?_
            simp only [List.filter_cons, hp, if_true, List.filter_nil, List.map_cons, List.map_nil]
            exact reps_cons r₈ (reps_nil _)
      · rw [if_neg hp]
        refine ⟨A.items.length - (i + 1), by omega, i + 1, rfl, hlt, H₇, O₇, l₇, ?_⟩
        rw [htake, List.filter_append]
        simp only [List.filter_cons, hp, Bool.false_eq_true, if_false, List.filter_nil, List.append_nil]
        exact L₇
    · have hie : i = A.items.length := by omega
      subst hie
      refine it.walks.done s' _ _ L.w fun h₅ tk hk₅ => ?_
      have hk₅' : ∀ b o, b ≠ I → s'.heap.get? b = some o → h₅.get? b = some o := fun b o hb e => hk₅ b o (fun z => hb (List.mem_singleton.mp z)) e
      have hDI : s₂.heap.objs.size ≠ I := fun z => by obtain ⟨o, e⟩ := hI; rw [← z, hDn] at e; cases e
      have hCI : h₃.objs.size ≠ I := fun z => by obtain ⟨o, e⟩ := hI; rw [← z, hCn] at e; cases e
      obtain ⟨xs, hl, hrs⟩ := L.d
      obtain ⟨m, hm⟩ := L.st.ns
      have hloc : ec.locals = h₃.objs.size := congrArg (fun c : Cx => c.env.locals) hΓc.symm
      rw [hloc] at hm
      have hOC : O' h₃.objs.size := hloc ▸ L.st.onsO
      rw [List.take_length] at hrs
      refine k _ _ _ ⟨H', m, xs, L.hle, L.hnew, fun b o e hb => ?_, ?_, hDn, hCn, fun z => (L.onew _ (z ▸ hOC)).2 rfl, L.dnone, L.st.ohm _ hOC, hm.at' fun o e => hk₅' _ o hCI e, hl.at fun o e => hk₅' _ o hDI e, hrs⟩
      · obtain ⟨o', e', sm⟩ := L.kp b o e hb
        exact ⟨o', hk₅' b o' hb e', sm⟩
      · refine st.extW (fun b => b = I) (fun b e => e ▸ fI) (fun b o hb e => ?_) L.st.gens L.hle (L.st.os) fun b o e => ?_
        · obtain ⟨o', e', sm⟩ := L.kp b o e hb
          exact ⟨o', hk₅' b o' hb e', sm⟩
        · rcases L.hnew b o e with h | h
          · exact .inl h
          · refine .inr ⟨fun z => (by obtain ⟨o', e'⟩ := st.othere b z; rw [h] at e'; cases e'), hk₅' b o (fun z => by obtain ⟨o', e'⟩ := hI; rw [← z, h] at e'; cases e') (L.st.agree b o e), L.st.nofr b o e⟩
  refine codeAny_compStart_list (loop 0 _ ⟨_, _, _, L0⟩ (Nat.zero_le _)) (it.walks.self 0 _ _ _ w₄ (loop 0 _ ⟨_, _, _, L0⟩ (Nat.zero_le _)))

def Hset (H : Hm) (a : Addr) (o : Obj) : Hm := fun b => if b = a then some o else H b
theorem Hset.le {H : Hm} {a : Addr} {o : Obj} (h : H a = none) : Hle H (Hset H a o) := fun b q e => by
  unfold Hset
  split
  · subst b; rw [h] at e; cases e
  · exact e
theorem Hset.self (H : Hm) (a : Addr) (o : Obj) : Hset H a o a = some o := by simp [Hset]
theorem Hset.cases {H : Hm} {a b : Addr} {o q : Obj} (e : Hset H a o b = some q) : (b = a ∧ q = o) ∨ H b = some q := by
  unfold Hset at e
  split at e
  · cases e; exact .inl ⟨by assumption, rfl⟩
  · exact .inr e

/-- a new object is known from now on, and never changed -/
theorem StH.freeze {H : Hm} {O : OSet} {h : Heap} {os : OsState} {g : Array GenState} (st : StH Γ H O loc h os g) {a : Addr} {o : Obj} (e : h.get? a = some o) (hd : ∀ es ep, o.data ≠ .dict es ep) (ho : ¬ O a) (hm : H a = none) :
    StH Γ (Hset H a o) O loc h os g :=
  st.extW (fun _ => False) (fun _ z => z.elim) (fun b q _ e => ⟨q, e, .refl ..⟩) st.gens (Hset.le hm) st.os fun b q e' => by
    rcases Hset.cases e' with ⟨rfl, rfl⟩ | h1
    · exact .inr ⟨ho, e, hd⟩
    · exact .inl h1
theorem Nx.freeze {F : Fix} {H H' : Hm} {O O' : OSet} {h h' : Heap} (n : Nx F H O h H' O' h') {a : Addr} {o : Obj} (hm : H' a = none) (hn : h.get? a = none) : Nx F H O h (Hset H' a o) O' h' :=
  n.then (fun b q e _ _ => ⟨q, e, .refl ..⟩) (fun b q e _ => ⟨q, e⟩) (Hset.le hm) (fun b q e => by
    rcases Hset.cases e with ⟨rfl, rfl⟩ | h1
    · exact .inr (.inr hn)
    · exact .inl h1) fun b e => .inl e

theorem CompEnd.fin {H H₁ : Hm} {O O₁ : OSet} {s s₁ s₂ s' : Shared} {I D C : Addr} {Rs : List V} {h'' : Heap} (ce : CompEnd Γ H₁ O₁ loc s₂ I Rs D C s') (n₁ : Nx Γ.F H O s.heap H₁ O₁ s₁.heap) (st₂ : St Γ H₁ O₁ loc s₂)
    (hk : ∀ b o, s₁.heap.get? b = some o → s₂.heap.get? b = some o) (hI : s₁.heap.get? I = none) (hsb : Heap.SameBut C s'.heap h'') :
    ∃ H' xs, Nx Γ.F H O s.heap H' O₁ h'' ∧ StH Γ H' O₁ loc h'' s'.os s'.gens ∧ s.heap.get? D = none ∧ ¬ O₁ D ∧ H' D = none ∧ h''.PlainList D xs ∧ Reps H' Rs xs.toList := by
  obtain ⟨H', m, xs, hle, hnew, kp, st', hD, hC, hDC, hDm, hCm, hns, hl, hr⟩ := ce.is
  have none₁ : ∀ b, s₂.heap.get? b = none → s₁.heap.get? b = none := fun b e => by
    cases e' : s₁.heap.get? b with
    | none => rfl
    | some o => rw [hk b o e'] at e; cases e
  have fC := st₂.foreign hC
  have fD := st₂.foreign hD
  refine ⟨H', xs, n₁.then (fun b o e hb hne => ?_) (fun b o e hne => ?_) hle (fun b o e => ?_) (fun b e => .inl e), ?_, n₁.none_back (none₁ _ hD), fD.o, hDm, hl.extBut hsb.extBut hDC, hr⟩
  · obtain ⟨o', e', sm⟩ := kp b o (hk b o e) fun z => by rw [z, hI] at e; cases e
    exact ⟨o', (hsb.2 b fun z => by rw [z, none₁ _ hC] at e; cases e).trans e', sm⟩
  · obtain ⟨o', e', sm⟩ := kp b o (hk b o e) fun z => by rw [z, hI] at e; cases e
    exact ⟨o', (hsb.2 b fun z => by rw [z, none₁ _ hC] at e; cases e).trans e'⟩
  · rcases hnew b o e with h | h
    · exact .inl h
    · exact .inr (.inr (n₁.none_back (none₁ _ h)))
  · exact st'.extW (fun b => b = C) (fun b e => e ▸ { fC with hm := hCm }) (fun b o hb e => ⟨o, (hsb.2 b hb).trans e, .refl ..⟩) st'.gens (.refl _) st'.os fun b o e => .inl e

/-- the list display [elt for x in iter if ..], its value never changed again -/
theorem ev_comp {elt iter : Expr} {x : Str} {px : Pos} {ifs : List Expr} {pos : Pos} (hh : Γ.A.handled = none)
    (h : Ev Γ loc iter (VQ fun A l => A.iter ∧ A.items.length ≤ sizeLine ∧ ∃ cl fr f p, Frees Γ l scope cl fr ∧ CompOk Γ scope cl fr x ifs elt A.items f p ∧ Q (.lst ((A.items.filter p).map f)) l) X)
    (hs : ∀ x, foldedSetIterable iter Γ.env x = pure x := by intro _; rfl) (hk : scope.kind = .function := by rfl) (hn : ∀ y ∈ scope.names, y.2 = .local → scope.names.lookup y.1 = some .local := by decide)
    (hc : ∃ cl, closureFor scope Γ.env = pure cl := by exact ⟨_, rfl⟩) : Ev Γ loc (.ListComp elt [⟨.Name x px, iter, ifs, 0⟩] scope pos) (VQ Q) X := by
  intro H O s hs₀
  obtain ⟨cl₀, hcl₀⟩ := hc
  rw [eval_ListComp]
  refine wpAny_comprehension_free (use := none) rfl hs hcl₀ hk hn (wpAny_mono (h H O s hs₀) (fun v s₁ p => ?_) fun _ _ p => p)
  obtain ⟨H₁, O₁, l₁, lv, n₁, st₁, r₁, q₁⟩ := p
  cases lv with
  | own _ _ => exact q₁.elim
  | itr _ => exact q₁.elim
  | val A =>
    obtain ⟨hi, hsz, cl, fr, f, p, fs, ok, q⟩ := q₁
    have hcl : cl₀ = cl := by have := hcl₀.symm.trans fs.clos; cases this; rfl
    subst hcl
    refine wp_iter st₁ r₁ hi hh fun I fp W P h₂ it hw hI hk₂ _ => ?_
    have st₂ : St Γ H₁ O₁ l₁ { s₁ with heap := h₂ } := st₁.ext (fun b o e => ⟨o, hk₂ b o e, .refl ..⟩) st₁.gens (.refl _) fun b o e => .inl e
    refine wp_comp_block (RR := fun acc C => compPost Γ.M Γ.A (PostX Γ H O s X) none (PostV Γ H O s (VQ Q)) acc C) st₂ fs ok it hw (st₁.foreign hI) hsz fun D C s' ce => ?_
    obtain ⟨H', m, xs, e1, e2, e3, e4, e5, e6, e7, e8, e9, hns, e11⟩ := ce.is
    refine ⟨m, hns, fun h'' hsb => ?_⟩
    obtain ⟨H', xs, nx, st', hD, hDO, hDm, hl, hr⟩ := ce.fin n₁ st₂ hk₂ hI hsb
    obtain ⟨no, eo⟩ := hl
    obtain ⟨o, hoo⟩ : ∃ o : Obj, o = { cls := .type "list", data := .seq xs no } := ⟨_, rfl⟩
    rw [← hoo] at eo
    have co : o.cls = .type "list" := by rw [hoo]
    have dO : o.data = .seq xs no := by rw [hoo]
    have hd : ∀ es ep, o.data ≠ .dict es ep := fun es ep z => by rw [dO] at z; cases z
    exact ⟨Hset H' D o, O₁, l₁, .val (.lst ((A.items.filter p).map f)), nx.freeze hDm hD, st'.freeze eo hd hDO hDm, rep_lst (Hset.self ..) co dO (hr.mono (Hset.le hDm)), q⟩

/-- y = [elt for x in iter if ..]; the list is the frame's own from now on, or never changed (own = false) -/
theorem ex_assign_comp (own : Bool) {elt iter : Expr} {x y : Str} {px py : Pos} {ifs : List Expr} {pos spos : Pos} (hh : Γ.A.handled = none) (hy : Γ.stores y)
    (h : Ev Γ loc iter (VQ fun A l => A.iter ∧ A.items.length ≤ sizeLine ∧ ∃ cl fr f p, Frees Γ l scope cl fr ∧ CompOk Γ scope cl fr x ifs elt A.items f p ∧
      ∀ b, QF .next ((y, if own then .own b ((A.items.filter p).map f) else .val (.lst ((A.items.filter p).map f))) :: l)) X)
    (hsw : swapsWith (.ListComp elt [⟨.Name x px, iter, ifs, 0⟩] scope pos) (some (.Name y py)) spos.line Γ.env = pure true := by rfl)
    (hs : ∀ x, foldedSetIterable iter Γ.env x = pure x := by intro _; rfl) (hk : scope.kind = .function := by rfl) (hn : ∀ y ∈ scope.names, y.2 = .local → scope.names.lookup y.1 = some .local := by decide)
    (hc : ∃ cl, closureFor scope Γ.env = pure cl := by exact ⟨_, rfl⟩) : Ex1 Γ loc (.Assign [.Name y py] (.ListComp elt [⟨.Name x px, iter, ifs, 0⟩] scope pos) spos) QF X := by
  intro H O s hs₀
  obtain ⟨cl₀, hcl₀⟩ := hc
  rw [exec_Assign_Name_used _ _ _ _ hsw]
  refine wpAny_bind (wpAny_standAt (wpAny_bind ?_))
  show wpAny _ _ (do let _ ← comprehension (.ListComp elt [⟨.Name x px, iter, ifs, 0⟩] scope pos) scope Γ.env _ (newList []) false (eval iter Γ.env) (some (assign (.Name y py) Γ.env))) _ _ s
  refine wpAny_bind (wpAny_mono (wpAny_comprehension_free (use := some (assign (.Name y py) Γ.env)) (Q := fun _ s' => PostF Γ H O s QF .next s') rfl hs hcl₀ hk hn
    (wpAny_mono (h H O s hs₀) (fun v s₁ p => ?_) fun _ _ p => p)) (fun _ s' hq => wpAny_pure (wpAny_pure hq)) fun _ _ p => p)
  obtain ⟨H₁, O₁, l₁, lv, n₁, st₁, r₁, q₁⟩ := p
  cases lv with
  | own _ _ => exact q₁.elim
  | itr _ => exact q₁.elim
  | val A =>
    obtain ⟨hi, hsz, cl, fr, f, p, fs, ok, q⟩ := q₁
    have hcl : cl₀ = cl := by have := hcl₀.symm.trans fs.clos; cases this; rfl
    subst hcl
    refine wp_iter st₁ r₁ hi hh fun I fp W P h₂ it hw hI hk₂ _ => ?_
    have st₂ : St Γ H₁ O₁ l₁ { s₁ with heap := h₂ } := st₁.ext (fun b o e => ⟨o, hk₂ b o e, .refl ..⟩) st₁.gens (.refl _) fun b o e => .inl e
    refine wp_comp_block (RR := fun acc C => compPost Γ.M Γ.A (PostX Γ H O s X) (some (assign (.Name y py) Γ.env)) (fun _ s' => PostF Γ H O s QF .next s') acc C) st₂ fs ok it hw (st₁.foreign hI) hsz fun D C s' ce => ?_
    obtain ⟨_, m, _, _, _, _, _, hD₂, hC₂, hDC, _, _, hns, _⟩ := ce.is
    have fC := st₂.foreign hC₂
    have hCs : s.heap.get? C = none := n₁.none_back (by
      cases e : s₁.heap.get? C with
      | none => rfl
      | some o => have := hk₂ C o e; rw [hC₂] at this; cases this)
    obtain ⟨H', xs, nx, st', hD, hDO, hDm, hl, hr⟩ := ce.fin n₁ st₂ hk₂ hI (.refl ..)
    obtain ⟨no, eo⟩ := hl
    obtain ⟨o, hoo⟩ : ∃ o : Obj, o = { cls := .type "list", data := .seq xs no } := ⟨_, rfl⟩
    rw [← hoo] at eo
    have co : o.cls = .type "list" := by rw [hoo]
    have dO : o.data = .seq xs no := by rw [hoo]
    have hd : ∀ es ep, o.data ≠ .dict es ep := fun es ep z => by rw [dO] at z; cases z
    -- the list as it is kept
    obtain ⟨H₃, nx₃, st₃, r₃, hC₃⟩ : ∃ H₃, Nx Γ.F H O s.heap H₃ O₁ s'.heap ∧ StH Γ H₃ O₁ l₁ s'.heap s'.os s'.gens ∧
        Res H₃ O₁ s.heap s'.heap (if own then .own D ((A.items.filter p).map f) else .val (.lst ((A.items.filter p).map f))) (.ref D) ∧ H₃ C = none := by
      have hCm : H' C = none := by
        obtain ⟨oC, _, _, eC, dC, _⟩ := hns
        cases e : H' C with
        | none => rfl
        | some q => have := st'.agree C q e; rw [eC] at this; cases this; exact absurd dC (st'.nofr C _ e _ _)
      cases own with
      | true => exact ⟨H', nx, st', ⟨D, rfl, hD, hDO, hDm, rfl, o, xs, no, eo, co, dO, by rw [hoo]; exact ⟨rfl, rfl⟩, hr⟩, hCm⟩
      | false => exact ⟨Hset H' D o, nx.freeze hDm hD, st'.freeze eo hd hDO hDm, rep_lst (Hset.self ..) co dO (hr.mono (Hset.le hDm)), by simp [Hset, hCm, Ne.symm hDC]⟩
    show wpAny _ _ (assign (.Name y py) Γ.env (.ref D)) _ _ _
    refine wpAny_assign_Name (wp_store nx₃ hs₀ st₃ r₃ hy fun O₄ s₄ nx₄ st₄ ex₄ o₄ => ?_)
    refine ⟨m, hns.at' fun o e => ex₄ C o e fC.o, fun h'' hsb => ?_⟩
    have hCO : ¬ O₄ C := fun z => by
      rcases o₄ C z with h | h
      · exact fC.o h
      · cases own with
        | true => cases h; exact hDC rfl
        | false => cases h
    refine ⟨H₃, O₄, _, .next, nx₄.then (fun b o e _ hne => ⟨o, (hsb.2 b fun z => hne (z ▸ hCs)).trans e, .refl ..⟩) (fun b o e hne => ⟨o, (hsb.2 b fun z => hne (z ▸ hCs)).trans e⟩) (.refl _) (fun b o e => .inl e) (fun b e => .inl e), ?_, rfl, q D⟩
    exact st₄.extW (fun b => b = C) (fun b e => e ▸ { fC with hm := hC₃, o := hCO }) (fun b o hb e => ⟨o, (hsb.2 b hb).trans e, .refl ..⟩) st₄.gens (.refl _) st₄.os fun b o e => .inl e
end
end Mine
end
section
open PySem PySem.W PyProof.Rows
set_option linter.unusedVariables false
namespace Mine

/-! ## exceptions in flight -/

structure FlyT (H : Hm) (O : OSet) (h₀ h : Heap) (e : Value) (x : Exc) : Prop where
  mk ::
  is : ∃ a o vs tb otb tvs, e = .ref a ∧ h₀.get? a = none ∧ ¬ O a ∧ H a = none ∧ h.get? a = some o ∧ o.cls = x.cls ∧ o.data = .fields vs ∧ ArgOk H x vs ∧
    vs[1]? = some (.ref tb) ∧ h₀.get? tb = none ∧ ¬ O tb ∧ H tb = none ∧ tb ≠ a ∧ h.get? tb = some otb ∧ otb.cls = .type "traceback" ∧ otb.data = .fields tvs ∧ 3 < tvs.size

theorem FlyT.fly {H : Hm} {O : OSet} {h₀ h : Heap} {e : Value} {x : Exc} (f : FlyT H O h₀ h e x) : Fly H O h₀ h e x := by
  obtain ⟨a, o, vs, tb, otb, tvs, h1, h2, h3, h4, h5, h6, h7, h8, k⟩ := f.is
  exact ⟨a, o, vs, h1, h2, h3, h4, h5, h6, h7, h8, .inr ⟨tb, otb, tvs, k⟩⟩

section
variable {Γ : Cx} {H H' : Hm} {O O' : OSet} {loc loc₀ : Loc} {s₀ s : Shared} {e : Value} {x : Exc} {L : Addr} {outer : List Env} {E : Value → Shared → Prop} {Q : Unit → Shared → Prop}

/-- objects that are new since s₀ and no fact's are changed -/
theorem change {W : Addr → Prop} {h' : Heap} (st₀ : St Γ H O loc₀ s₀) (n : Nx Γ.F H O s₀.heap H' O' s.heap) (st : St Γ H' O' loc s)
    (hW : ∀ b, W b → s₀.heap.get? b = none ∧ H' b = none ∧ ¬ O' b) (k : ∀ b o, ¬ W b → s.heap.get? b = some o → ∃ o', h'.get? b = some o' ∧ Same Γ.F b o o') :
    Nx Γ.F H O s₀.heap H' O' h' ∧ StH Γ H' O' loc h' s.os s.gens := by
  refine ⟨n.then (fun b o e _ hne => k b o (fun z => hne (hW b z).1) e) (fun b o e hne => ?_) (.refl _) (fun b o e => .inl e) (fun b e => .inl e), ?_⟩
  · obtain ⟨o', e', _⟩ := k b o (fun z => hne (hW b z).1) e; exact ⟨o', e'⟩
  · exact st.extW W (fun b z => { st₀.foreign (hW b z).1 with hm := (hW b z).2.1, o := (hW b z).2.2 }) k st.gens (.refl _) st.os fun b o e => .inl e

theorem wp_setFlight {fa : Option Addr} (st₀ : St Γ H O loc₀ s₀) (n : Nx Γ.F H O s₀.heap H' O' s.heap) (st : St Γ H' O' loc s) (fl : FlyT H' O' s₀.heap s.heap e x)
    (k : ∀ h', Nx Γ.F H O s₀.heap H' O' h' → StH Γ H' O' loc h' s.os s.gens → FlyT H' O' s₀.heap h' e x → Q () { s with heap := h' }) : wpAny Γ.M Γ.A (setFlight e fa) Q E s := by
  obtain ⟨a, o, vs, tb, otb, tvs, rfl, h2, h3, h4, h5, h6, h7, h8, k1, k2, k3, k4, k5, k6, k7, k8, k9⟩ := fl.is
  unfold setFlight
  refine wpAny_bind (wpAny_field h5 h7 k1 ?_)
  rw [if_pos (show (Value.ref tb != Value.none) = true from by simp)]
  refine wpAny_setField k6 k8 k9 ?_
  have hd := Obj.data_mapFields k8 (·.setIfInBounds 3 (fa.elim Value.none fun f => rawInt f))
  have hs := Heap.get?_update_self (Obj.mapFields (·.setIfInBounds 3 (fa.elim Value.none fun f => rawInt f))) k6 (Obj.isFreed_of_fields hd)
  obtain ⟨n', st'⟩ := change (W := fun b => b = tb) (h' := s.heap.update tb (Obj.mapFields (·.setIfInBounds 3 (fa.elim Value.none fun f => rawInt f)))) st₀ n st (fun b z => z ▸ ⟨k2, k4, k3⟩)
    fun b o hb e => ⟨o, (Heap.get?_update_other _ _ (Ne.symm hb)).trans e, .refl ..⟩
  refine k _ n' st' ⟨a, o, vs, tb, _, _, rfl, h2, h3, h4, (Heap.get?_update_other _ _ k5).trans h5, h6, h7, h8, k1, k2, k3, k4, k5, hs, (Obj.cls_mapFields _ _).trans k7, hd, by simpa using k9⟩

theorem funFrames {A : Around} {F : Fix} {h : Heap} {l : List Env} (x : FrOk A F h) (hl : A.frames = some l) : h.FunFrames F.h₁ l := by
  obtain ⟨l', hl', r⟩ := x
  rw [hl] at hl'; cases hl'
  clear hl
  induction l with
  | nil => trivial
  | cons env rest ih =>
    obtain ⟨h1, L, o, es, ep, h2, h3, h4, h5⟩ := r env List.mem_cons_self
    exact ⟨h1, ⟨L, o, h2, h5, h3, fun vs z => by rw [h4] at z; cases z⟩, ih fun e he => r e (List.mem_cons_of_mem _ he)⟩

theorem slots_same {A : Around} {F : Fix} {h h' : Heap} {l : List Env} (x : FrOk A F h) (hl : A.frames = some l) (hs : Heap.SlotsOnly (l.filterMap (·.frame)) h h') : ∀ b o, h.get? b = some o → ∃ o', h'.get? b = some o' ∧ Same F b o o' := by
  obtain ⟨l', hl', r⟩ := x
  rw [hl] at hl'; cases hl'
  intro b o e
  by_cases hb : b ∈ l.filterMap (·.frame)
  · obtain ⟨sl, e'⟩ := hs.2.2 b o e
    obtain ⟨env, he, hf⟩ := List.mem_filterMap.mp hb
    obtain ⟨h1, L, o', es, ep, h2, h3, h4, h5⟩ := r env he
    rw [hf] at h2; cases h2
    rw [e] at h3; cases h3
    exact ⟨_, e', .inr ⟨h5, ⟨es, ep, h4⟩, rfl, rfl, rfl⟩⟩
  · exact ⟨o, (hs.2.1 b hb).trans e, .refl ..⟩

theorem wp_newEntry (st₀ : St Γ H O loc₀ s₀) (n : Nx Γ.F H O s₀.heap H' O' s.heap) (st : St Γ H' O' loc s) (hfr : Γ.A.frames = some (Γ.env :: outer)) (hL : Γ.env.frame = some L) {head : Value} {hadNext : Bool}
    {a : Addr} {o : Obj} {vs : Array Value} (h2 : s₀.heap.get? a = none) (h3 : ¬ O' a) (h4 : H' a = none) (h5 : s.heap.get? a = some o) (h6 : o.cls = x.cls) (h7 : o.data = .fields vs) (h8 : ArgOk H' x vs) (hsz : 1 < vs.size)
    (k : ∀ h', Nx Γ.F H O s₀.heap H' O' h' → StH Γ H' O' loc h' s.os s.gens → FlyT H' O' s₀.heap h' (.ref a) x → Q () { s with heap := h' }) :
    wpAny Γ.M Γ.A (do let f ← frameOf Γ.env; let pl ← entryPlaceOf L hadNext; let b ← EntryCells.newEntry head f .none (rawInt L) .none pl; setField (.ref a) 1 b) Q E s := by
  have hff := funFrames st.frames hfr
  refine wpAny_bind (wpAny_frameOf_fun hfr hff hL fun h₁ hs₁ => ?_)
  have same₁ := slots_same st.frames hfr hs₁
  have ha₁ : h₁.get? a = some o := by
    obtain ⟨o', e', sm⟩ := same₁ a o h5
    rw [e', sm.eq_of_data (fun es ep z => by rw [h7] at z; cases z)]
  refine wpAny_bind (wpAny_entryPlaceOf fun pl hpl => ?_)
  unfold EntryCells.newEntry newFields
  refine wpAny_bind (wpAny_newObj_type ?_ (hpl.sizeOk5 _ _ _ _ _))
  generalize htb : (⟨.type "traceback", none, .fields ([head, .ref L, .none, rawInt L, .none] ++ (if pl.isEmpty then List.replicate 6 Value.none else pl)).toArray, #[]⟩ : Obj) = ob
  have hobd : ob.data = .fields ([head, .ref L, .none, rawInt L, .none] ++ (if pl.isEmpty then List.replicate 6 Value.none else pl)).toArray := by rw [← htb]
  have hobc : ob.cls = .type "traceback" := by rw [← htb]
  have hfree : ob.isFreed = false := by rw [← htb]; rfl
  have ha₂ := Heap.get?_push_of_some (h := h₁) ob ha₁
  refine wpAny_setField ha₂ h7 hsz ?_
  have hTa : h₁.objs.size ≠ a := Nat.ne_of_gt (Heap.lt_size ha₁)
  have hd₃ := Obj.data_mapFields h7 (·.setIfInBounds 1 (Value.ref h₁.objs.size))
  have ha₃ := Heap.get?_update_self (Obj.mapFields (·.setIfInBounds 1 (Value.ref h₁.objs.size))) ha₂ (Obj.isFreed_of_fields hd₃)
  have hT₃ := (Heap.get?_update_other (h₁.push ob) (Obj.mapFields (·.setIfInBounds 1 (Value.ref h₁.objs.size))) (Ne.symm hTa)).trans (Heap.get?_push_size h₁ hfree)
  have hTs : s.heap.get? h₁.objs.size = none := Heap.get?_none_of_le (by rw [hs₁.1]; exact Nat.le_refl _)
  have fT := st.foreign hTs
  obtain ⟨n', st'⟩ := change (W := fun b => b = a) (h' := (h₁.push ob).update a (Obj.mapFields (·.setIfInBounds 1 (Value.ref h₁.objs.size)))) st₀ n st (fun b z => z ▸ ⟨h2, h4, h3⟩) fun b q hb e => by
    obtain ⟨q', e', sm⟩ := same₁ b q e
    exact ⟨q', (Heap.get?_update_other _ _ (Ne.symm hb)).trans (Heap.get?_push_of_some _ e'), sm⟩
  refine k _ n' st' ⟨a, _, _, h₁.objs.size, ob, _, rfl, h2, h3, h4, ha₃, (Obj.cls_mapFields _ _).trans h6, hd₃, ?_, ?_, n.none_back hTs, fT.o, fT.hm, hTa, hT₃, hobc, hobd, ?_⟩
  · have e0 : (vs.setIfInBounds 1 (Value.ref h₁.objs.size))[0]? = vs[0]? := by simp [Array.getElem?_setIfInBounds]
    have e2 : (vs.setIfInBounds 1 (Value.ref h₁.objs.size))[2]? = vs[2]? := by simp [Array.getElem?_setIfInBounds]
    unfold ArgOk
    rw [e0, e2]; exact h8
  · simp [hsz]
  · simp only [List.size_toArray, List.length_append, List.length_cons, List.length_nil]; omega

theorem wp_note (st₀ : St Γ H O loc₀ s₀) (n : Nx Γ.F H O s₀.heap H' O' s.heap) (st : St Γ H' O' loc s) (fl : Fly H' O' s₀.heap s.heap e x) (hfr : Γ.A.frames = some (Γ.env :: outer)) (hL : Γ.env.frame = some L)
    (k : ∀ h', Nx Γ.F H O s₀.heap H' O' h' → StH Γ H' O' loc h' s.os s.gens → FlyT H' O' s₀.heap h' e x → Q () { s with heap := h' }) : wpAny Γ.M Γ.A (noteFrame e Γ.env) Q E s := by
  obtain ⟨a, o, vs, rfl, h2, h3, h4, h5, h6, h7, h8, h9⟩ := fl.is
  unfold noteFrame
  simp only [hL]
  rcases h9 with h9 | ⟨tb, otb, tvs, k1, k2, k3, k4, k5, k6, k7, k8, k9⟩
  · refine wpAny_bind (wpAny_field h5 h7 h9 ?_)
    rw [if_neg (by decide)]
    exact wp_newEntry st₀ n st hfr hL h2 h3 h4 h5 h6 h7 h8 (Array.getElem?_eq_some_iff.mp h9).1 k
  · refine wpAny_bind (wpAny_field h5 h7 k1 ?_)
    rw [if_pos (show (Value.ref tb != Value.none) = true from by simp)]
    obtain ⟨w, hw⟩ : ∃ w, tvs[3]? = some w := ⟨tvs[3], by simp [k9]⟩
    refine wpAny_bind (wpAny_field k6 k8 hw ?_)
    by_cases hwe : (w == rawInt L) = true
    · rw [if_pos hwe]
      exact wpAny_pure (k _ n st ⟨a, o, vs, tb, otb, tvs, rfl, h2, h3, h4, h5, h6, h7, h8, k1, k2, k3, k4, k5, k6, k7, k8, k9⟩)
    · rw [if_neg hwe]
      refine wpAny_bind (wpAny_setField k6 k8 k9 ?_)
      obtain ⟨n', st'⟩ := change (W := fun b => b = tb) (h' := s.heap.update tb (Obj.mapFields (·.setIfInBounds 3 Value.none))) st₀ n st (fun b z => z ▸ ⟨k2, k4, k3⟩)
        fun b o hb e => ⟨o, (Heap.get?_update_other _ _ (Ne.symm hb)).trans e, .refl ..⟩
      exact wp_newEntry (s := { s with heap := s.heap.update tb (Obj.mapFields (·.setIfInBounds 3 Value.none)) }) st₀ n' st' hfr hL h2 h3 h4 ((Heap.get?_update_other _ _ k5).trans h5) h6 h7 h8 (Array.getElem?_eq_some_iff.mp k1).1 k

theorem wp_leaving (st₀ : St Γ H O loc₀ s₀) (n : Nx Γ.F H O s₀.heap H' O' s.heap) (st : St Γ H' O' loc s) (fl : Fly H' O' s₀.heap s.heap e x) (hfr : Γ.A.frames = some (Γ.env :: outer)) (hL : Γ.env.frame = some L)
    (k : ∀ h', Nx Γ.F H O s₀.heap H' O' h' → StH Γ H' O' loc h' s.os s.gens → FlyT H' O' s₀.heap h' e x → Q () { s with heap := h' }) : wpAny Γ.M Γ.A (leaving Γ.env e) Q E s := by
  unfold leaving
  refine wpAny_bind (wp_note st₀ n st fl hfr hL fun h' n' st' fl' => ?_)
  exact wp_setFlight (s := { s with heap := h' }) st₀ n' st' fl' fun h'' n'' st'' fl'' => k h'' n'' st'' fl''
end
end Mine
end
section
open PySem PySem.W PyProof.Rows
set_option linter.unusedVariables false
namespace Mine

/-! ## calls of the text's own functions -/

structure Wsp (F : Fix) (A : Around) (H : Hm) (h : Heap) (os : OsState) (g : Array GenState) : Prop where
  base : ∀ b o, F.h₁.get? b = some o → h.get? b = some o
  agree : ∀ b o, H b = some o → h.get? b = some o
  nofr : ∀ b o, H b = some o → ∀ es ep, o.data ≠ .dict es ep
  os : os = F.os
  gens : AllBare g
  frames : FrOk A F h

theorem StH.wsp {Γ : Cx} {H : Hm} {O : OSet} {loc : Loc} {h : Heap} {os : OsState} {g : Array GenState} (st : StH Γ H O loc h os g) : Wsp Γ.F Γ.A H h os g := ⟨st.base, st.agree, st.nofr, st.os, st.gens, st.frames⟩

structure FnAt (F : Fix) (a : Addr) (fd : FuncData) (body : List Stmt) : Prop where
  o : ∃ o, F.h₁.get? a = some o ∧ o.data = .func fd
  lim : F.h₁.NoLimit
  cd : F.h₁.CodeRec fd.code fd.qualname
  body : fd.body = .stmts body
  clos : fd.closure = []
  co : fd.scope.isCoroutine = false
  gen : fd.scope.isGenerator = false
  kind : fd.scope.kind = .function

def Fix.fn (F : Fix) (A : Around) (fd : FuncData) (a L : Addr) : Cx := ⟨F, A.deeper (callEnvC fd L a), callEnvC fd L a, fun _ => true⟩

/-- the values handed over; what is the callee's own from now on lies in O -/
structure ArgsAt (F : Fix) (A : Around) (H : Hm) (O : OSet) (h : Heap) (lvs : List LV) (vals : List Value) : Prop where
  len : vals.length = lvs.length
  at_ : ∀ (i : Nat) (lv : LV) (v : Value), lvs[i]? = some lv → vals[i]? = some v → LVAt H O h lv v
  sep : ∀ (i j : Nat) (lv lv' : LV) (a : Addr), lvs[i]? = some lv → lvs[j]? = some lv' → lv.mine = true → lv'.mine = true → vals[i]? = some (.ref a) → vals[j]? = some (.ref a) → i = j
  own : ∀ b, O b → F.h₁.get? b = none ∧ H b = none ∧ (∃ o, h.get? b = some o ∧ ∀ es ep, o.data ≠ .dict es ep)

def CallQ (F : Fix) (A : Around) (H : Hm) (O : OSet) (s : Shared) (Q : V → Prop) (v : Value) (s' : Shared) : Prop :=
  ∃ H' R, Nx F H O s.heap H' (fun _ => False) s'.heap ∧ Wsp F A H' s'.heap s'.os s'.gens ∧ Rep H' R v ∧ Q R
def CallX (F : Fix) (A : Around) (H : Hm) (O : OSet) (s : Shared) (X : Exc → Prop) (e : Value) (s' : Shared) : Prop :=
  ∃ H' x, Nx F H O s.heap H' (fun _ => False) s'.heap ∧ Wsp F A H' s'.heap s'.os s'.gens ∧ Fly H' (fun _ => False) s.heap s'.heap e x ∧ X x

theorem zip_lookup {α : Type} : ∀ {names : List Str} {xs : List α} {x : Str} {y : α}, (names.zip xs).lookup x = some y → ∃ i : Nat, names[i]? = some x ∧ xs[i]? = some y
  | [], _, _, _, h => by simp at h
  | _ :: _, [], _, _, h => by simp at h
  | n :: ns, z :: zs, x, y, h => by
    rw [List.zip_cons_cons, List.lookup_cons] at h
    cases hb : x == n with
    | true => rw [hb] at h; cases h; exact ⟨0, by rw [beq_iff_eq.mp hb]; rfl, rfl⟩
    | false =>
      rw [hb] at h
      obtain ⟨i, h1, h2⟩ := zip_lookup h
      exact ⟨i + 1, by simpa using h1, by simpa using h2⟩

theorem bindL_not {kindOf : Str → Option NameKind} : ∀ (binds : List (Str × Value)) (m : Str → Option Value) (x : Str), x ∉ binds.map (·.1) → bindL kindOf binds m x = m x
  | [], _, _, _ => rfl
  | (n, v) :: r, m, x, h => by
    simp only [List.map_cons, List.mem_cons, not_or] at h
    unfold bindL
    rw [bindL_not r _ x h.2]
    split
    · simp [h.1]
    · rfl
theorem bindL_get {kindOf : Str → Option NameKind} : ∀ (names : List Str) (vals : List Value) (m : Str → Option Value) (i : Nat) (x : Str) (v : Value), names.Nodup → names[i]? = some x → vals[i]? = some v → kindOf x = some .local → bindL kindOf (names.zip vals) m x = some v
  | [], _, _, _, _, _, _, h, _, _ => by simp at h
  | _ :: _, [], _, _, _, _, _, _, h, _ => by simp at h
  | n :: ns, w :: ws, m, 0, x, v, hn, h1, h2, hk => by
    simp at h1 h2; subst h1; subst h2
    rw [List.zip_cons_cons]
    unfold bindL
    rw [bindL_not, if_pos hk]
    · simp
    · intro hm
      obtain ⟨p, hp, he⟩ := List.mem_map.mp hm
      have := (List.of_mem_zip hp).1
      rw [he] at this
      exact (List.nodup_cons.mp hn).1 this
  | n :: ns, w :: ws, m, i + 1, x, v, hn, h1, h2, hk => by
    rw [List.zip_cons_cons]
    unfold bindL
    exact bindL_get ns ws _ i x v (List.nodup_cons.mp hn).2 (by simpa using h1) (by simpa using h2) hk
theorem bindC_not {kindOf : Str → Option NameKind} : ∀ (binds : List (Str × Value)) (m : Str → Option Value) (x : Str), x ∉ binds.map (·.1) → bindC kindOf binds m x = m x
  | [], _, _, _ => rfl
  | (n, v) :: r, m, x, h => by
    simp only [List.map_cons, List.mem_cons, not_or] at h
    unfold bindC
    rw [bindC_not r _ x h.2]
    split
    · rfl
    · simp [h.1]
theorem bindC_get {kindOf : Str → Option NameKind} : ∀ (names : List Str) (vals : List Value) (m : Str → Option Value) (i : Nat) (x : Str) (v : Value), names.Nodup → names[i]? = some x → vals[i]? = some v → kindOf x = some .cell → bindC kindOf (names.zip vals) m x = some v
  | [], _, _, _, _, _, _, h, _, _ => by simp at h
  | _ :: _, [], _, _, _, _, _, _, h, _ => by simp at h
  | n :: ns, w :: ws, m, 0, x, v, hn, h1, h2, hk => by
    simp at h1 h2; subst h1; subst h2
    rw [List.zip_cons_cons]
    unfold bindC
    rw [bindC_not, if_neg (by rw [hk]; decide)]
    · simp
    · intro hm
      obtain ⟨p, hp, he⟩ := List.mem_map.mp hm
      have := (List.of_mem_zip hp).1
      rw [he] at this
      exact (List.nodup_cons.mp hn).1 this
  | n :: ns, w :: ws, m, i + 1, x, v, hn, h1, h2, hk => by
    rw [List.zip_cons_cons]
    unfold bindC
    exact bindC_get ns ws _ i x v (List.nodup_cons.mp hn).2 (by simpa using h1) (by simpa using h2) hk

section
variable {F : Fix} {A : Around} {H : Hm} {O : OSet} {s s₁ : Shared} {fd : FuncData} {a : Addr} {body : List Stmt} {names : List Str} {lvs : List LV} {vals : List Value}

theorem enter (ws : Wsp F A H s.heap s.os s.gens) (ar : ArgsAt F A H O s.heap lvs vals) (fn : FnAt F a fd body) (hn : names.Nodup)
    (hk : ∀ x ∈ names, fd.scope.names.lookup x = some .local ∨ fd.scope.names.lookup x = some .cell) (hlen : names.length = vals.length)
    (x : InCallC s (callEnvC fd s.heap.objs.size a).locals (bindL (callEnvC fd s.heap.objs.size a).kindOf (names.zip vals) fun _ => none) (callEnvC fd s.heap.objs.size a).cells (bindC (callEnvC fd s.heap.objs.size a).kindOf (names.zip vals) fun _ => none) s₁) :
    St (F.fn A fd a s.heap.objs.size) H (fun b => O b ∨ (s.heap.get? b = none ∧ ∃ o, s₁.heap.get? b = some o)) (names.zip lvs) s₁ := by
  obtain ⟨h', tk, rfl⟩ := x.toInCall.same
  have hL : (callEnvC fd s.heap.objs.size a).locals = s.heap.objs.size := rfl
  have hLs : s.heap.get? s.heap.objs.size = none := Heap.get?_none_of_le (Nat.le_refl _)
  have keep : ∀ b o, s.heap.get? b = some o → h'.get? b = some o := x.toInCall.keep
  have ns := x.toInCall.ns
  have nsx : ∃ o, h'.get? s.heap.objs.size = some o := let ⟨o, _, _, e, _⟩ := ns; ⟨o, e⟩
  have cellNew : ∀ y c, (callEnvC fd s.heap.objs.size a).cells.lookup y = some c → s.heap.objs.size < c := fun y c e => x.above y c (mem_of_lookup e)
  have cellNone : ∀ y c, (callEnvC fd s.heap.objs.size a).cells.lookup y = some c → s.heap.get? c = none := fun y c e => Heap.get?_none_of_le (Nat.le_of_lt (cellNew y c e))
  have oOld : ∀ b, O b → ∃ o, s.heap.get? b = some o := fun b hb => let ⟨o, e, _⟩ := (ar.own b hb).2.2; ⟨o, e⟩
  -- what a name holds
  have isAt : ∀ y lv, (names.zip lvs).lookup y = some lv → ∃ (i : Nat) (v : Value), names[i]? = some y ∧ lvs[i]? = some lv ∧ vals[i]? = some v ∧ VarIs (callEnvC fd s.heap.objs.size a) h' y v := by
    intro y lv e
    obtain ⟨i, h1, h2⟩ := zip_lookup e
    have hi : i < vals.length := by rw [← hlen]; exact (List.getElem?_eq_some_iff.mp h1).1
    refine ⟨i, vals[i], h1, h2, by simp [hi], ?_⟩
    have hv : vals[i]? = some vals[i] := by simp [hi]
    rcases hk y (List.mem_of_getElem? h1) with hl | hc
    · exact .inl ⟨hl, _, ns, bindL_get names vals _ i y _ hn h1 hv hl⟩
    · have hcs : ((callEnvC fd s.heap.objs.size a).cells.lookup y).isSome = true := cellsFrom_some _ _ _ _ (.inl (mem_of_lookup hc))
      obtain ⟨c, hcs⟩ := Option.isSome_iff_exists.mp hcs
      obtain ⟨o, eo, dO⟩ := x.cell y c hcs
      rw [bindC_get names vals _ i y _ hn h1 hv hc] at dO
      exact .inr ⟨.inl hc, c, o, hcs, eo, dO⟩
  have noFr : ∀ b, O b → ∀ o, s.heap.get? b = some o → ∀ es ep, o.data ≠ .dict es ep := fun b hb o e => by
    obtain ⟨o', e', d⟩ := (ar.own b hb).2.2
    rw [e] at e'; cases e'; exact d
  exact
  { base := fun b o e => keep b o (ws.base b o e)
    agree := fun b o e => keep b o (ws.agree b o e)
    nofr := ws.nofr
    os := ws.os
    gens := ws.gens
    obase := fun b hb => by
      rcases hb with hb | ⟨hb, _⟩
      · exact (ar.own b hb).1
      · show F.h₁.get? b = none
        cases e : F.h₁.get? b with
        | none => rfl
        | some o => have := ws.base b o e; rw [hb] at this; cases this
    ohm := fun b hb => by
      rcases hb with hb | ⟨hb, _⟩
      · exact (ar.own b hb).2.1
      · cases e : H b with
        | none => rfl
        | some o => have := ws.agree b o e; rw [hb] at this; cases this
    othere := fun b hb => by
      rcases hb with hb | ⟨_, hb⟩
      · obtain ⟨o, e⟩ := oOld b hb; exact ⟨o, keep b o e⟩
      · exact hb
    kind := fn.kind
    ns := ⟨_, ns⟩
    onsO := .inr ⟨hLs, nsx⟩
    vars := fun y lv e => by
      obtain ⟨i, v, h1, h2, h3, h4⟩ := isAt y lv e
      exact ⟨v, h4, (ar.at_ i lv v h2 h3).keep (fun _ q => .inl q) fun b o _ _ e => keep b o e⟩
    sep := fun y z b l1 l2 e1 e2 m1 m2 v1 v2 => by
      obtain ⟨i, v, h1, h2, h3, h4⟩ := isAt y l1 e1
      obtain ⟨j, w, k1, k2, k3, k4⟩ := isAt z l2 e2
      rw [h4.inj v1] at h3
      rw [k4.inj v2] at k3
      have := ar.sep i j l1 l2 b h2 k2 m1 m2 h3 k3
      subst this
      rw [h1] at k1; exact Option.some.inj k1
    apart := fun y b lv e m v1 => by
      obtain ⟨i, v, h1, h2, h3, h4⟩ := isAt y lv e
      obtain ⟨b', ev, ho⟩ := (ar.at_ i lv v h2 h3).isO m
      have := h4.inj v1
      rw [ev] at this; cases this
      obtain ⟨o, eo⟩ := oOld b ho
      have hlt := Heap.lt_size eo
      exact ⟨Nat.ne_of_lt hlt, fun y c e => Nat.ne_of_lt (Nat.lt_trans hlt (cellNew y c e))⟩
    cells := fun y c e => by
      obtain ⟨o, eo, d⟩ := x.cell y c e
      exact ⟨fun _ => .inr ⟨cellNone y c e, o, eo⟩, o, _, eo, d⟩
    cne := fun y c e => Nat.ne_of_gt (cellNew y c e)
    cinj := fun y z c e e' => name_of_addr x.apart (mem_of_lookup e) (mem_of_lookup e')
    frames := by
      obtain ⟨l, hl, r⟩ := ws.frames
      refine ⟨callEnvC fd s.heap.objs.size a :: l, Around.frames_deeper hl, fun env he => ?_⟩
      rcases List.mem_cons.mp he with rfl | he
      · obtain ⟨o, es, ep, eo, d, _⟩ := ns
        refine ⟨by show fd.scope.kind ≠ .module; rw [fn.kind]; decide, s.heap.objs.size, o, es, ep, rfl, eo, d, ?_⟩
        show F.h₁.get? _ = none
        cases e : F.h₁.get? s.heap.objs.size with
        | none => rfl
        | some o => have := ws.base _ o e; rw [hLs] at this; cases this
      · obtain ⟨h1, L, o, es, ep, h2, h3, h4, h5⟩ := r env he
        exact ⟨h1, L, o, es, ep, h2, keep L o h3, h4, h5⟩ }

theorem frOk_out {A A' : Around} {F : Fix} {h : Heap} {env : Env} {l : List Env} (x : FrOk A' F h) (h' : A'.frames = some (env :: l)) (hl : A.frames = some l) : FrOk A F h := by
  obtain ⟨l', e, r⟩ := x
  rw [h'] at e; cases e
  exact ⟨l, hl, fun q hq => r q (List.mem_cons_of_mem _ hq)⟩

/-- how a function's end is told -/
def FnQ (Q : V → Prop) : Fl → Loc → Prop
  | .ret R, _ => Q R
  | .next, _ => Q .none
  | _, _ => False

/-- a call of a function of the text's: its body under its parameters -/
theorem call_fn {args : Args} {Q : V → Prop} {X : Exc → Prop} (fn : FnAt F a fd body) (hroom : A.depth < recursionLimit) (ws : Wsp F A H s.heap s.os s.gens) (ar : ArgsAt F A H O s.heap lvs vals) (hn : names.Nodup)
    (hk : ∀ x ∈ names, fd.scope.names.lookup x = some .local ∨ fd.scope.names.lookup x = some .cell) (hlen : names.length = vals.length)
    (hbind : ∀ (Q' : List (Str × Value) → Shared → Prop) (E' : Value → Shared → Prop), Q' (names.zip vals) s → wpAny (model F.prog F.w) A.in1 (bindArgs fd args) Q' E' s)
    (h : ∀ L, Exs (F.fn A fd a L) (names.zip lvs) body (FnQ Q) (fun x _ => X x)) :
    wpAny (model F.prog F.w) A (runValue (.call (.ref a) args)) (CallQ F A H O s Q) (CallX F A H O s X) s := by
  obtain ⟨o, ho, hd⟩ := fn.o
  refine wpAny_runValue (codeAny_call_function hroom (ws.base _ _ ho) hd fn.co fn.gen fn.body (fn.cd.keeps ws.base) (hbind _ _ ?_))
  rw [fn.clos]
  refine wpAny_newFunctionEnv_cells fn.kind (fun x hx => ?_) fun env he s₁ hin => ?_
  · obtain ⟨y, v⟩ := x
    rcases hk y (List.of_mem_zip hx).1 with h1 | h1
    · exact .inl h1
    · exact .inr ⟨h1, cellsFrom_some _ _ _ _ (.inl (mem_of_lookup h1))⟩
  subst he
  refine ⟨(fn.lim.keeps ws.base).keeps hin.toInCall.keep, codeAny_func ?_⟩
  have st := enter ws ar fn hn hk hlen hin
  have keep := hin.toInCall.keep
  have out : ∀ (H' : Hm) (O' : OSet) (h' : Heap), Nx F H (fun b => O b ∨ (s.heap.get? b = none ∧ ∃ o, s₁.heap.get? b = some o)) s₁.heap H' O' h' → Nx F H O s.heap H' (fun _ => False) h' := by
    intro H' O' h' n
    refine ⟨fun b o e hb => ?_, fun b o e => n.there b o (keep b o e), n.hle, fun b o e => ?_, fun b z => z.elim⟩
    · exact n.kp b o (keep b o e) fun z => z.elim hb fun q => by rw [q.1] at e; cases e
    · rcases n.hnew b o e with h1 | h1 | h1
      · exact .inl h1
      · exact .inr (h1.imp id fun q => q.1)
      · refine .inr (.inr ?_)
        cases e' : s.heap.get? b with
        | none => rfl
        | some q => rw [keep b q e'] at h1; cases h1
  obtain ⟨l, hl, _⟩ := ws.frames
  have hfr : (F.fn A fd a s.heap.objs.size).A.frames = some ((F.fn A fd a s.heap.objs.size).env :: l) := Around.frames_deeper hl
  have wout : ∀ (H' : Hm) (O' : OSet) (loc : Loc) (h' : Heap) (os : OsState) (g : Array GenState), StH (F.fn A fd a s.heap.objs.size) H' O' loc h' os g → Wsp F A H' h' os g :=
    fun H' O' loc h' os g st => ⟨st.base, st.agree, st.nofr, st.os, st.gens, frOk_out st.frames hfr hl⟩
  refine wpAny_mono (h s.heap.objs.size H _ s₁ st) (fun f s' p => ?_) fun e s' p => ?_
  · obtain ⟨H', O', l', fl, n, st', r, q⟩ := p
    cases fl with
    | ret R =>
      obtain ⟨v, rfl, hr⟩ := r
      exact ⟨H', R, out _ _ _ n, wout _ _ _ _ _ _ st', hr, q⟩
    | next => cases r; exact ⟨H', .none, out _ _ _ n, wout _ _ _ _ _ _ st', rep_none _, q⟩
    | brk => exact q.elim
    | cont => exact q.elim
  · obtain ⟨H', O', l', x, n, st', fl, q⟩ := p
    refine wp_leaving (Γ := F.fn A fd a s.heap.objs.size) (L := s.heap.objs.size) st n st' fl hfr rfl fun h' n' st'' fl' => ?_
    refine ⟨H', x, out _ _ _ n', wout _ _ _ _ _ _ st'', ?_, q⟩
    obtain ⟨b, o, vs, tb, otb, tvs, e1, e2, e3, e4, e5, e6, e7, e8, k1, k2, k3⟩ := fl'.is
    have nb : ∀ b, s₁.heap.get? b = none → s.heap.get? b = none := fun b e => by
      cases e' : s.heap.get? b with
      | none => rfl
      | some q => rw [keep b q e'] at e; cases e
    exact ⟨b, o, vs, e1, nb b e2, id, e4, e5, e6, e7, e8, .inr ⟨tb, otb, tvs, k1, nb tb k2, id, k3.2⟩⟩
end
end Mine
end
section
open PySem PySem.W PyProof.Rows
set_option linter.unusedVariables false
namespace Mine

structure Room (A : Around) (d : Nat) : Prop where
  handled : A.handled = none
  depth : A.depth + d < recursionLimit
  units : A.units + 3 * d + 100 < cLine
theorem Room.deeper {A : Around} {d : Nat} (r : Room A (d + 1)) (env : Env) : Room (A.deeper env) d :=
  ⟨r.handled, by show A.depth + 1 + d < recursionLimit; have := r.depth; omega, by show A.units + 3 + 3 * d + 100 < cLine; have := r.units; omega⟩
theorem Room.less {A : Around} {d d' : Nat} (r : Room A d) (h : d' ≤ d) : Room A d' := ⟨r.handled, by have := r.depth; omega, by have := r.units; omega⟩

/-- a global name of the text's, or a built-in one -/
def GlobAt (F : Fix) (x : Str) (v : Value) : Prop :=
  (∃ mg, F.h₁.Ns mainGlobals mg ∧ mg x = some v) ∨ (∃ mg mb, F.h₁.Ns mainGlobals mg ∧ mg x = none ∧ F.h₁.Ns builtinsNs mb ∧ mb x = some v)

section
variable {Γ : Cx} {loc : Loc} {Q : V → Loc → Prop} {QL : LV → Loc → Prop} {QB : Bool → Loc → Prop} {QF : Fl → Loc → Prop} {X : Exc → Loc → Prop}

theorem wp_glob {M : Model} {A : Around} {E : Value → Shared → Prop} {H : Hm} {O : OSet} {s : Shared} {x : Str} {v : Value} {Q : Value → Shared → Prop} (st : St Γ H O loc s) (g : GlobAt Γ.F x v) (h : Q v s)
    (hg : Γ.env.globals = mainGlobals) (hb : Γ.env.builtins = builtinsNs) : wpAny M A (loadGlobal Γ.env x) Q E s := by
  rcases g with ⟨mg, h1, h2⟩ | ⟨mg, mb, h1, h2, h3, h4⟩
  · exact Calls.loadGlobal_global (hg ▸ h1.keeps st.base) h2 h
  · exact Calls.loadGlobal_builtin (hg ▸ h1.keeps st.base) h2 (hb ▸ h3.keeps st.base) h4 h

theorem ev_glob {x : Str} {pos} {v : Value} (g : GlobAt Γ.F x v) (h : Q (.con v) loc) (hk : Γ.env.kindOf x = some .globalImplicit := by rfl) (hg : Γ.env.globals = mainGlobals := by rfl) (hb : Γ.env.builtins = builtinsNs := by rfl)
    (hd : (x == ("__debug__" : Str)) = false := by decide) : Ev Γ loc (.Name x pos) (VQ Q) X :=
  fun H O s st => Calls.Name_function_global st.kind hk (wp_glob st g (PostV.here' st (rep_con _ _) h) hg hb) hd

/-- values that wait for a call -/
structure Temps (H : Hm) (O : OSet) (h₀ h : Heap) (lvs : List LV) (vs : List Value) : Prop where
  len : vs.length = lvs.length
  at_ : ∀ (i : Nat) (lv : LV) (v : Value), lvs[i]? = some lv → vs[i]? = some v → Res H O h₀ h lv v
  sep : ∀ (i j : Nat) (lv lv' : LV) (a : Addr), lvs[i]? = some lv → lvs[j]? = some lv' → lv.mine = true → lv'.mine = true → vs[i]? = some (.ref a) → vs[j]? = some (.ref a) → i = j

def PostA (Γ : Cx) (H : Hm) (O : OSet) (s : Shared) (Q : List LV → Loc → Prop) (vs : List Value) (s' : Shared) : Prop :=
  ∃ H' O' loc' lvs, Nx Γ.F H O s.heap H' O' s'.heap ∧ St Γ H' O' loc' s' ∧ Temps H' O' s.heap s'.heap lvs vs ∧ Q lvs loc'
def Args' (Γ : Cx) (loc : Loc) (pos : Pos) (es : List Expr) (Q : List LV → Loc → Prop) (X : Exc → Loc → Prop) : Prop :=
  ∀ H O s, St Γ H O loc s → wpAny Γ.M Γ.A (spliced (backTo pos (starEach es Γ.env))) (PostA Γ H O s Q) (PostX Γ H O s X) s
def Kws (Γ : Cx) (loc : Loc) (ts : List (Sem Value)) (Q : List LV → Loc → Prop) (X : Exc → Loc → Prop) : Prop :=
  ∀ H O s, St Γ H O loc s → wpAny Γ.M Γ.A (evalAll ts) (PostA Γ H O s Q) (PostX Γ H O s X) s

theorem Temps.nil (H : Hm) (O : OSet) (h₀ h : Heap) : Temps H O h₀ h [] [] := ⟨rfl, fun i lv v e _ => by simp at e, fun i j lv lv' a e => by simp at e⟩

/-- a waiting value outlives the next one's evaluation -/
theorem Res.on {F : Fix} {H₁ H₂ : Hm} {O₁ O₂ : OSet} {h₀ h₁ h₂ : Heap} {lv : LV} {v : Value} (r : Res H₁ O₁ h₀ h₁ lv v) (n : Nx F H₁ O₁ h₁ H₂ O₂ h₂) : Res H₂ O₂ h₀ h₂ lv v := by
  cases lv with
  | val A => exact Rep.mono n.hle _ _ r
  | own b As =>
    obtain ⟨a, e, h1, h2, h3, eb, o, xs, k, h4, h5, h6, h8, h7⟩ := r
    obtain ⟨o', e', sm⟩ := n.kp a o h4 h2
    have : o' = o := sm.eq_of_data fun es ep z => by rw [h6] at z; cases z
    subst this
    refine ⟨a, e, h1, fun z => (n.onew a z).elim h2 fun q => (by rw [h4] at q; cases q), ?_, eb, o', xs, k, e', h5, h6, h8, h7.mono n.hle⟩
    cases q : H₂ a with
    | none => rfl
    | some w => rcases n.hnew a w q with z | z | z
                · rw [h3] at z; cases z
                · exact absurd z h2
                · rw [h4] at z; cases z
  | itr As =>
    obtain ⟨a, e, h1, h2, h3, l, i, ol, xs, k, ⟨o, h4, h5, h6⟩, h7, h8, h9, h10⟩ := r
    obtain ⟨o', e', sm⟩ := n.kp a o h4 h2
    refine ⟨a, e, h1, fun z => (n.onew a z).elim h2 fun q => (by rw [h4] at q; cases q), ?_, l, i, ol, xs, k, ⟨o', e', sm.cls.trans h5, sm.data.trans h6⟩, n.hle _ _ h7, h8, h9, h10.mono n.hle⟩
    cases q : H₂ a with
    | none => rfl
    | some w => rcases n.hnew a w q with z | z | z
                · rw [h3] at z; cases z
                · exact absurd z h2
                · rw [h4] at z; cases z

theorem Temps.cons {F : Fix} {H : Hm} {O : OSet} {H₁ H₂ : Hm} {O₁ O₂ : OSet} {h₀ h₁ h₂ : Heap} {lv : LV} {v : Value} {lvs : List LV} {vs : List Value} (n₀ : Nx F H O h₀ H₁ O₁ h₁) (r : Res H₁ O₁ h₀ h₁ lv v) (n : Nx F H₁ O₁ h₁ H₂ O₂ h₂) (t : Temps H₂ O₂ h₁ h₂ lvs vs) :
    Temps H₂ O₂ h₀ h₂ (lv :: lvs) (v :: vs) := by
  have r' := r.on n
  have new : lv.mine = true → ∃ a, v = .ref a ∧ ∃ o, h₁.get? a = some o := fun m => by obtain ⟨a, e, _, _, _, _, o, e', _⟩ := r.new_obj m; exact ⟨a, e, o, e'⟩
  have ne : ∀ (j : Nat) (lv' : LV) (a : Addr), lvs[j]? = some lv' → lv.mine = true → lv'.mine = true → v = .ref a → vs[j]? = some (.ref a) → False := by
    intro j lv' a e m m' ev ew
    obtain ⟨a', e1, o, e2⟩ := new m
    rw [ev] at e1; cases e1
    obtain ⟨a'', e3, _, e4, _⟩ := (t.at_ j lv' _ e ew).new_obj m'
    cases e3
    rw [e2] at e4; cases e4
  refine ⟨by simp [t.len], fun i w u e e' => ?_, fun i j w w' a e e' m m' ev ew => ?_⟩
  · cases i with
    | zero => simp at e e'; subst e; subst e'; exact r'
    | succ i => exact (t.at_ i w u (by simpa using e) (by simpa using e')).back n₀
  · cases i with
    | zero =>
      cases j with
      | zero => rfl
      | succ j =>
        simp at e ev; subst e
        exact (ne j w' a (by simpa using e') m m' ev (by simpa using ew)).elim
    | succ i =>
      cases j with
      | zero =>
        simp at e' ew; subst e'
        exact (ne i w a (by simpa using e) m' m ew (by simpa using ev)).elim
      | succ j => rw [t.sep i j w w' a (by simpa using e) (by simpa using e') m m' (by simpa using ev) (by simpa using ew)]

theorem args_nil {pos : Pos} {QA : List LV → Loc → Prop} (h : QA [] loc) : Args' Γ loc pos [] QA X :=
  fun H O s st => wpAny_items_nil ⟨H, O, loc, [], .refl .., st, .nil .., h⟩
theorem args_cons {pos : Pos} {e : Expr} {es : List Expr} {QA : List LV → Loc → Prop} (h : Ev Γ loc e (fun lv l => Args' Γ l pos es (fun lvs l' => QA (lv :: lvs) l') X) X)
    (he : starEach (e :: es) Γ.env = (false, eval e Γ.env) :: starEach es Γ.env := by rfl) : Args' Γ loc pos (e :: es) QA X := by
  intro H O s st
  refine wpAny_items_cons (wpAny_mono (h H O s st) (fun v s₁ p => ?_) fun _ _ p => p) he
  obtain ⟨H₁, O₁, l₁, lv, n₁, st₁, r₁, q₁⟩ := p
  refine wpAny_mono (q₁ H₁ O₁ s₁ st₁) (fun vs s₂ p => ?_) fun _ _ p => p.back n₁
  obtain ⟨H₂, O₂, l₂, lvs, n₂, st₂, t₂, q₂⟩ := p
  exact ⟨H₂, O₂, l₂, lv :: lvs, n₁.trans n₂, st₂, .cons n₁ r₁ n₂ t₂, q₂⟩
theorem kws_nil {QA : List LV → Loc → Prop} (h : QA [] loc) : Kws Γ loc [] QA X :=
  fun H O s st => wpAny_evalAll_nil ⟨H, O, loc, [], .refl .., st, .nil .., h⟩
theorem kws_cons {pos : Pos} {e : Expr} {ts : List (Sem Value)} {QA : List LV → Loc → Prop} (h : Ev Γ loc e (fun lv l => Kws Γ l ts (fun lvs l' => QA (lv :: lvs) l') X) X) :
    Kws Γ loc ((do let v ← eval e Γ.env; standAt pos; pure v) :: ts) QA X := by
  intro H O s st
  refine wpAny_evalAll_cons (wpAny_bind (wpAny_mono (h H O s st) (fun v s₁ p => ?_) fun _ _ p => p))
  obtain ⟨H₁, O₁, l₁, lv, n₁, st₁, r₁, q₁⟩ := p
  refine wpAny_bind (wpAny_standAt (wpAny_pure ?_))
  refine wpAny_mono (q₁ H₁ O₁ s₁ st₁) (fun vs s₂ p => ?_) fun _ _ p => p.back n₁
  obtain ⟨H₂, O₂, l₂, lvs, n₂, st₂, t₂, q₂⟩ := p
  exact ⟨H₂, O₂, l₂, lv :: lvs, n₁.trans n₂, st₂, .cons n₁ r₁ n₂ t₂, q₂⟩

theorem Temps.append {F : Fix} {H : Hm} {O : OSet} {H₁ H₂ : Hm} {O₁ O₂ : OSet} {h₀ h₁ h₂ : Heap} {lvs lws : List LV} {vs ws : List Value} (n₀ : Nx F H O h₀ H₁ O₁ h₁) (t : Temps H₁ O₁ h₀ h₁ lvs vs) (n : Nx F H₁ O₁ h₁ H₂ O₂ h₂) (t' : Temps H₂ O₂ h₁ h₂ lws ws) :
    Temps H₂ O₂ h₀ h₂ (lvs ++ lws) (vs ++ ws) := by
  induction lvs generalizing vs with
  | nil =>
    have : vs = [] := List.eq_nil_of_length_eq_zero (by simpa using t.len)
    subst this
    refine ⟨t'.len, fun i lv v e e' => (t'.at_ i lv v e e').back n₀, t'.sep⟩
  | cons lv lvs ih =>
    cases vs with
    | nil => have := t.len; simp at this
    | cons v vs =>
      have t₁ : Temps H₁ O₁ h₀ h₁ lvs vs := ⟨by simpa using t.len, fun i w u e e' => t.at_ (i + 1) w u (by simpa using e) (by simpa using e'), fun i j w w' a e e' m m' ev ew => by
        have := t.sep (i + 1) (j + 1) w w' a (by simpa using e) (by simpa using e') m m' (by simpa using ev) (by simpa using ew); omega⟩
      have t₂ := ih t₁
      have r := (t.at_ 0 lv v rfl rfl)
      refine ⟨by simp [t₂.len], fun i w u e e' => ?_, fun i j w w' a e e' m m' ev ew => ?_⟩
      · cases i with
        | zero => simp at e e'; subst e; subst e'; exact r.on n
        | succ i => exact t₂.at_ i w u (by simpa using e) (by simpa using e')
      · have hd : ∀ (j : Nat) (w' : LV) (a : Addr), (lvs ++ lws)[j]? = some w' → lv.mine = true → w'.mine = true → v = .ref a → (vs ++ ws)[j]? = some (.ref a) → False := by
          intro j w' a e' m m' ev ew
          have hl : vs.length = lvs.length := t₁.len
          by_cases hj : j < lvs.length
          · rw [List.getElem?_append_left hj] at e'
            rw [List.getElem?_append_left (by omega)] at ew
            have := t.sep 0 (j + 1) lv w' a rfl (by simpa using e') m m' (by rw [ev]; rfl) (by simpa using ew)
            omega
          · rw [List.getElem?_append_right (by omega)] at e'
            rw [List.getElem?_append_right (by omega), hl] at ew
            obtain ⟨a', e1, _, _, _, _, o, e2, _⟩ := r.new_obj m
            rw [ev] at e1; cases e1
            obtain ⟨a'', e3, _, e4, _⟩ := (t'.at_ _ w' _ e' ew).new_obj m'
            cases e3
            rw [e2] at e4; cases e4
        cases i with
        | zero =>
          cases j with
          | zero => rfl
          | succ j =>
            simp at e ev; subst e
            exact (hd j w' a (by simpa using e') m m' ev (by simpa using ew)).elim
        | succ i =>
          cases j with
          | zero =>
            simp at e' ew; subst e'
            exact (hd i w a (by simpa using e) m' m ew (by simpa using ev)).elim
          | succ j => rw [t₂.sep i j w w' a (by simpa using e) (by simpa using e') m m' (by simpa using ev) (by simpa using ew)]

/-- a contract of a function of the text's -/
def Calls (F : Fix) (fv : Value) (d : Nat) (lvs : List LV) (kn : List Str) (klvs : List LV) (Q : V → Prop) (X : Exc → Prop) : Prop :=
  ∀ A H O s vals kvals, Room A d → Wsp F A H s.heap s.os s.gens → vals.length = lvs.length → ArgsAt F A H O s.heap (lvs ++ klvs) (vals ++ kvals) →
    wpAny (model F.prog F.w) A (call fv vals (kn.zip kvals)) (CallQ F A H O s Q) (CallX F A H O s X) s

/-- the values waiting are handed over -/
def handed (lvs : List LV) (vs : List Value) : OSet := fun b => ∃ (i : Nat) (lv : LV), lvs[i]? = some lv ∧ lv.mine = true ∧ vs[i]? = some (.ref b)

theorem Temps.args {H : Hm} {O : OSet} {s₀ s : Shared} {lvs : List LV} {vs : List Value} {loc₀ : Loc} {H₀ : Hm} {O₀ : OSet} (st₀ : St Γ H₀ O₀ loc₀ s₀) (t : Temps H O s₀.heap s.heap lvs vs) : ArgsAt Γ.F Γ.A H (handed lvs vs) s.heap lvs vs := by
  refine ⟨t.len, fun i lv v e e' => ?_, t.sep, fun b hb => ?_⟩
  · have r := t.at_ i lv v e e'
    cases lv with
    | val A => exact r
    | own b As => obtain ⟨a, ev, _, _, _, r⟩ := r; subst ev; exact ⟨a, rfl, ⟨i, _, e, rfl, e'⟩, r⟩
    | itr As => obtain ⟨a, ev, _, _, _, r⟩ := r; subst ev; exact ⟨a, rfl, ⟨i, _, e, rfl, e'⟩, r⟩
  · obtain ⟨i, lv, e, m, e'⟩ := hb
    obtain ⟨a, ev, _, h1, h2, h3, o, eo, _, hd⟩ := (t.at_ i lv _ e e').new_obj m
    cases ev
    refine ⟨?_, h3, o, eo, hd⟩
    cases q : Γ.F.h₁.get? b with
    | none => rfl
    | some w => have := st₀.base _ w q; rw [h1] at this; cases this

theorem Temps.foreign {H : Hm} {O : OSet} {s₀ s : Shared} {lvs : List LV} {vs : List Value} {loc₀ : Loc} {H₀ : Hm} {O₀ : OSet} (st₀ : St Γ H₀ O₀ loc₀ s₀) (t : Temps H O s₀.heap s.heap lvs vs) : ∀ b, handed lvs vs b → Foreign Γ H O b := by
  rintro b ⟨i, lv, e, m, e'⟩
  obtain ⟨a, ev, _, h1, h2, h3, _⟩ := (t.at_ i lv _ e e').new_obj m
  cases ev
  exact { st₀.foreign h1 with hm := h3, o := h2 }

/-- behind a call: the caller's state -/
theorem StH.after {H H' : Hm} {O Oc : OSet} {h h' : Heap} {os os' : OsState} {g g' : Array GenState} (st : StH Γ H O loc h os g) (n : Nx Γ.F H Oc h H' (fun _ => False) h') (ws : Wsp Γ.F Γ.A H' h' os' g') (hO : ∀ b, Oc b → Foreign Γ H O b) : StH Γ H' O loc h' os' g' :=
  st.extW Oc hO (fun b o hb e => n.kp b o e hb) ws.gens n.hle ws.os fun b o e => by
    rcases n.hnew b o e with h1 | h1 | h1
    · exact .inl h1
    · exact .inr ⟨(hO b h1).o, ws.agree b o e, ws.nofr b o e⟩
    · exact .inr ⟨fun z => (by obtain ⟨o', e'⟩ := st.othere b z; rw [h1] at e'; cases e'), ws.agree b o e, ws.nofr b o e⟩
theorem Nx.after {F : Fix} {H₀ H H' : Hm} {O₀ O Oc : OSet} {h₀ h h' : Heap} (n₀ : Nx F H₀ O₀ h₀ H O h) (n : Nx F H Oc h H' (fun _ => False) h') (hO : ∀ b, Oc b → h₀.get? b = none) : Nx F H₀ O₀ h₀ H' O h' :=
  n₀.then (fun b o e hb hne => n.kp b o e fun z => hne (hO b z)) (fun b o e _ => n.there b o e) n.hle (fun b o e => by
    rcases n.hnew b o e with h1 | h1 | h1
    · exact .inl h1
    · exact .inr (.inr (hO b h1))
    · exact .inr (.inr (n₀.none_back h1))) fun b e => .inl e

theorem handed_new {H : Hm} {O : OSet} {h₀ h : Heap} {lvs : List LV} {vs : List Value} (t : Temps H O h₀ h lvs vs) : ∀ b, handed lvs vs b → h₀.get? b = none := by
  rintro b ⟨i, lv, e, m, e'⟩
  obtain ⟨a, ev, _, h1, _⟩ := (t.at_ i lv _ e e').new_obj m
  cases ev; exact h1

/-- f(args, name=value ..) of a function of the text's -/
theorem ev_call {x : Str} {p pos : Pos} {e : Expr} {es : List Expr} {ks : List Keyword} {a : Addr} {fd : FuncData} {body : List Stmt} (g : GlobAt Γ.F x (.ref a)) (fn : FnAt Γ.F a fd body)
    (h : Args' Γ loc pos (e :: es) (fun lvs l => Kws Γ l ((backToKw pos (keywordEach ks Γ.env)).map (·.2)) (fun klvs l' =>
      ∃ d Q' X', Room Γ.A d ∧ Calls Γ.F (.ref a) d lvs ((backToKw pos (keywordEach ks Γ.env)).filterMap (·.1)) klvs Q' X' ∧ (∀ R, Q' R → Q R l') ∧ (∀ x, X' x → X x l')) X) X)
    (hk : Γ.env.kindOf x = some .globalImplicit := by rfl) (hg : Γ.env.globals = mainGlobals := by rfl) (hb : Γ.env.builtins = builtinsNs := by rfl)
    (hd : (x == ("__debug__" : Str)) = false := by decide) (he : ∃ r, backTo pos (starEach (e :: es) Γ.env) = (false, eval e Γ.env) :: r := by exact ⟨_, rfl⟩)
    (hkw : (backToKw pos (keywordEach ks Γ.env)).all (·.1.isSome) = true := by rfl) : Ev Γ loc (.Call (.Name x p) (e :: es) ks pos) (VQ Q) X := by
  intro H O s st
  refine wpAny_Call_Name_kw (Calls.Name_function_global st.kind hk (wp_glob st g ?_ hg hb) hd)
  obtain ⟨o, ho, hdat⟩ := fn.o
  obtain ⟨r, hr⟩ := he
  have hh := h H O s st
  refine callWith_function_kw (o := o) (fd := fd) ?_
  rw [hr] at hh ⊢
  refine evalArgs_kw hkw (wpAny_mono hh (fun vs s₁ p => ?_) fun _ _ p => p)
  obtain ⟨H₁, O₁, l₁, lvs, n₁, st₁, t₁, q₁⟩ := p
  refine wpAny_mono (q₁ H₁ O₁ s₁ st₁) (fun kvs s₂ p => ?_) fun _ _ p => p.back n₁
  obtain ⟨H₂, O₂, l₂, klvs, n₂, st₂, t₂, d, Q', X', hroom, hc, hQ, hX⟩ := p
  have tt := Temps.append n₁ t₁ n₂ t₂
  have nn := n₁.trans n₂
  refine ⟨⟨st₂.base _ _ ho, hdat⟩, ?_⟩
  refine wpAny_mono (hc Γ.A H₂ _ s₂ vs kvs hroom st₂.wsp t₁.len (tt.args st)) (fun v s₃ p => ?_) fun ex s₃ p => ?_
  · obtain ⟨H₃, R, n₃, ws, hr, hq⟩ := p
    exact ⟨H₃, O₂, l₂, .val R, nn.after n₃ (handed_new tt), st₂.after n₃ ws (tt.foreign st), hr, hQ R hq⟩
  · obtain ⟨H₃, x', n₃, ws, fl, hq⟩ := p
    refine ⟨H₃, O₂, l₂, x', nn.after n₃ (handed_new tt), st₂.after n₃ ws (tt.foreign st), ?_, hX _ hq⟩
    obtain ⟨b, o, ws', e1, e2, e3, e4, e5, e6, e7, e8, e9⟩ := fl.is
    have nO : ∀ b, s₂.heap.get? b = none → ¬ O₂ b := fun b e z => by obtain ⟨o, e'⟩ := st₂.othere b z; rw [e] at e'; cases e'
    refine ⟨b, o, ws', e1, nn.none_back e2, nO b e2, e4, e5, e6, e7, e8, e9.imp id ?_⟩
    rintro ⟨tb, otb, tvs, k1, k2, k3, k4⟩
    exact ⟨tb, otb, tvs, k1, nn.none_back k2, nO tb k2, k4⟩

/-- a built-in function, or a built-in type, is called with plain values -/
def OpN (Γ : Cx) (loc : Loc) (t : List Value → Sem Value) (As : List V) (Q : LV → Loc → Prop) (X : Exc → Loc → Prop) : Prop :=
  ∀ H O s vs, St Γ H O loc s → Reps H As vs → wpAny Γ.M Γ.A (t vs) (PostV Γ H O s Q) (PostX Γ H O s X) s

def AllVal (Q : List V → Loc → Prop) (lvs : List LV) (l : Loc) : Prop := ∃ As, lvs = As.map .val ∧ Q As l

theorem Temps.reps {H : Hm} {O : OSet} {h₀ h : Heap} {As : List V} {vs : List Value} (t : Temps H O h₀ h (As.map .val) vs) : Reps H As vs := by
  refine Reps.of_get (by simpa using t.len) fun i A y e e' => ?_
  exact t.at_ i (.val A) y (by simp [e]) e'

theorem ev_builtin {x : Str} {p pos : Pos} {e : Expr} {es : List Expr} {id : String} (g : GlobAt Γ.F x (.builtin id)) (h : Args' Γ loc pos (e :: es) (AllVal fun As l => OpN Γ l (fun vs => call (.builtin id) vs) As QL X) X)
    (hk : Γ.env.kindOf x = some .globalImplicit := by rfl) (hg : Γ.env.globals = mainGlobals := by rfl) (hb : Γ.env.builtins = builtinsNs := by rfl)
    (hd : (x == ("__debug__" : Str)) = false := by decide) (he : ∃ r, backTo pos (starEach (e :: es) Γ.env) = (false, eval e Γ.env) :: r ∧ r.any (·.1) = false := by exact ⟨_, rfl, rfl⟩) : Ev Γ loc (.Call (.Name x p) (e :: es) [] pos) QL X := by
  intro H O s st
  refine wpAny_Call_Name_kw (Calls.Name_function_global st.kind hk (wp_glob st g ?_ hg hb) hd)
  obtain ⟨r, hr, hr'⟩ := he
  have hh := h H O s st
  rw [hr] at hh ⊢
  show wpAny _ _ (callWith pos (.builtin id) [] _ []) _ _ _
  refine Calls.callWith_builtin (by rw [List.any_cons, hr']; rfl) (Calls.evalArgs_plain (wpAny_mono hh (fun vs s₁ p => ?_) fun _ _ p => p))
  obtain ⟨H₁, O₁, l₁, lvs, n₁, st₁, t₁, As, rfl, q₁⟩ := p
  exact wpAny_mono (q₁ H₁ O₁ s₁ vs st₁ t₁.reps) (fun _ _ p => p.back n₁) fun _ _ p => p.back n₁

theorem ev_type {x : Str} {p pos : Pos} {e : Expr} {es : List Expr} {T : String} (g : GlobAt Γ.F x (.type T)) (h : Args' Γ loc pos (e :: es) (AllVal fun As l => OpN Γ l (fun vs => call (.type T) vs) As QL X) X)
    (hk : Γ.env.kindOf x = some .globalImplicit := by rfl) (hg : Γ.env.globals = mainGlobals := by rfl) (hb : Γ.env.builtins = builtinsNs := by rfl)
    (hd : (x == ("__debug__" : Str)) = false := by decide) (he : ∃ r, backTo pos (starEach (e :: es) Γ.env) = (false, eval e Γ.env) :: r ∧ r.any (·.1) = false := by exact ⟨_, rfl, rfl⟩) : Ev Γ loc (.Call (.Name x p) (e :: es) [] pos) QL X := by
  intro H O s st
  refine wpAny_Call_Name_kw (Calls.Name_function_global st.kind hk (wp_glob st g ?_ hg hb) hd)
  obtain ⟨r, hr, hr'⟩ := he
  have hh := h H O s st
  rw [hr] at hh ⊢
  show wpAny _ _ (callWith pos (.type T) [] _ []) _ _ _
  refine PySem.callWith_type (by rw [List.any_cons, hr']; rfl) (Calls.evalArgs_plain (wpAny_mono hh (fun vs s₁ p => ?_) fun _ _ p => p))
  obtain ⟨H₁, O₁, l₁, lvs, n₁, st₁, t₁, As, rfl, q₁⟩ := p
  exact wpAny_mono (q₁ H₁ O₁ s₁ vs st₁ t₁.reps) (fun _ _ p => p.back n₁) fun _ _ p => p.back n₁
end
end Mine
end
section
open PySem PySem.W PyProof.Rows
set_option linter.unusedVariables false
namespace Mine

section
variable {Γ : Cx} {loc : Loc} {Q : V → Loc → Prop} {QL : LV → Loc → Prop} {QB : Bool → Loc → Prop} {QF : Fl → Loc → Prop} {X : Exc → Loc → Prop} {a b : Int} {x y : UInt64} {p q : Bool} {u v : Str}

/-- an exception that the interpreter has just made -/
theorem PostX.new {H : Hm} {O : OSet} {s : Shared} {h' : Heap} {tk : Nat} {e : Addr} {cls : String} (st : St Γ H O loc s) (ne : Heap.NewExc s.heap h' e cls) (hx : X ⟨.type cls, none⟩ loc) : PostX Γ H O s X (.ref e) { s with heap := h', toks := tk } := by
  obtain ⟨ob, t, e1, e2, e3⟩ := ne.there
  have fe := st.foreign ne.new
  refine ⟨H, O, loc, ⟨.type cls, none⟩, ⟨fun b o e _ => ⟨o, ne.keeps b o e, .refl ..⟩, fun b o e => ⟨o, ne.keeps b o e⟩, .refl _, fun b o e => .inl e, fun b e => .inl e⟩,
    st.ext (fun b o e => ⟨o, ne.keeps b o e, .refl ..⟩) st.gens (.refl _) fun b o e => .inl e, ⟨e, ob, _, rfl, ne.new, fe.o, fe.hm, e1, e2, e3, ⟨fun A hA => (by cases hA), fun _ => rfl⟩, .inl rfl⟩, hx⟩

/-- what an operation that may raise leaves -/
theorem raised {H : Hm} {O : OSet} {s : Shared} {cls : String} {Qv : Value → Shared → Prop} (st : St Γ H O loc s) (hh : Γ.A.handled = none) (hx : X ⟨.type cls, none⟩ loc) :
    raisesNew cls Γ.A (wants Qv (PostX Γ H O s X)) s := ⟨hh, fun h' tk e ne => PostX.new st ne hx⟩

/-! ### ints -/
theorem op_add (h : Q (.int (a + b)) loc) : Op2 Γ loc (binaryOp .Add) (.int a) (.int b) Q X := fun H O s va vb st ra rb => by
  obtain ⟨t, rfl⟩ := ra.int_of; obtain ⟨t', rfl⟩ := rb.int_of; exact PyProof.Rows.add_int (PostV.here st (rep_int ..) h _)
theorem op_sub (h : Q (.int (a - b)) loc) : Op2 Γ loc (binaryOp .Sub) (.int a) (.int b) Q X := fun H O s va vb st ra rb => by
  obtain ⟨t, rfl⟩ := ra.int_of; obtain ⟨t', rfl⟩ := rb.int_of; exact PyProof.Rows.sub_int (PostV.here st (rep_int ..) h _)
theorem op_mul (h : Q (.int (a * b)) loc) (hm : IntMulOk a b) : Op2 Γ loc (binaryOp .Mult) (.int a) (.int b) Q X := fun H O s va vb st ra rb => by
  obtain ⟨t, rfl⟩ := ra.int_of; obtain ⟨t', rfl⟩ := rb.int_of; exact PyProof.Rows.mul_int (PostV.here st (rep_int ..) h _) hm
theorem op_mod (hb : b ≠ 0) (h : Q (.int (a.fmod b)) loc) : Op2 Γ loc (binaryOp .Mod) (.int a) (.int b) Q X := fun H O s va vb st ra rb => by
  obtain ⟨t, rfl⟩ := ra.int_of; obtain ⟨t', rfl⟩ := rb.int_of; exact PyProof.Rows.mod_int' hb (PostV.here st (rep_int ..) h _)
theorem op_fdiv (hb : b ≠ 0) (hp : Builtin.divisionGoesByPylong a b = false) (h : Q (.int (a.fdiv b)) loc) : Op2 Γ loc (binaryOp .FloorDiv) (.int a) (.int b) Q X := fun H O s va vb st ra rb => by
  obtain ⟨t, rfl⟩ := ra.int_of; obtain ⟨t', rfl⟩ := rb.int_of; exact PyProof.Rows.floordiv_int hb (PostV.here st (rep_int ..) h _) (.inl hp)
theorem op_pow (hn : 0 ≤ b) (hz : (Builtin.Int.intBits a : Int) * b ≤ 2 ^ 27) (h : Q (.int (a ^ b.toNat)) loc) : Op2 Γ loc (binaryOp .Pow) (.int a) (.int b) Q X := fun H O s va vb st ra rb => by
  obtain ⟨t, rfl⟩ := ra.int_of; obtain ⟨t', rfl⟩ := rb.int_of; exact PyProof.Rows.pow_int hn hz (PostV.here st (rep_int ..) h _)
theorem op_div_ii (hb : b ≠ 0) (hf : ¬ Float64.isInf (Float64.ofFrac (decide (a < 0) != decide (b < 0)) a.natAbs b.natAbs) = true) (h : Q (.flt (Float64.ofFrac (decide (a < 0) != decide (b < 0)) a.natAbs b.natAbs)) loc) :
    Op2 Γ loc (binaryOp .Div) (.int a) (.int b) Q X := fun H O s va vb st ra rb => by
  obtain ⟨t, rfl⟩ := ra.int_of; obtain ⟨t', rfl⟩ := rb.int_of; exact AutoIntOps.truediv_2 (by simpa using hb) hf (PostV.here st (rep_flt ..) h _)
theorem op_neg (h : Q (.int (-a)) loc) : Op1 Γ loc (unaryOp .USub) (.int a) Q X := fun H O s va st ra => by
  obtain ⟨t, rfl⟩ := ra.int_of; exact PyProof.Rows.neg_int (PostV.here st (rep_int ..) h _)

/-! ### floats -/
theorem op_addF (h : Q (.flt (Float64.add x y)) loc) : Op2 Γ loc (binaryOp .Add) (.flt x) (.flt y) Q X := fun H O s va vb st ra rb => by
  obtain ⟨t, rfl⟩ := ra.flt_of; obtain ⟨t', rfl⟩ := rb.flt_of; exact PyProof.Rows.add_float (PostV.here st (rep_flt ..) h _)
theorem op_subF (h : Q (.flt (Float64.sub x y)) loc) : Op2 Γ loc (binaryOp .Sub) (.flt x) (.flt y) Q X := fun H O s va vb st ra rb => by
  obtain ⟨t, rfl⟩ := ra.flt_of; obtain ⟨t', rfl⟩ := rb.flt_of; exact PyProof.Rows.sub_float (PostV.here st (rep_flt ..) h _)
theorem op_mulF (h : Q (.flt (Float64.mul x y)) loc) : Op2 Γ loc (binaryOp .Mult) (.flt x) (.flt y) Q X := fun H O s va vb st ra rb => by
  obtain ⟨t, rfl⟩ := ra.flt_of; obtain ⟨t', rfl⟩ := rb.flt_of; exact PyProof.Rows.mul_float (PostV.here st (rep_flt ..) h _)
theorem op_divF (hz : Float64.isZero y = false) (h : Q (.flt (Float64.div x y)) loc) : Op2 Γ loc (binaryOp .Div) (.flt x) (.flt y) Q X := fun H O s va vb st ra rb => by
  obtain ⟨t, rfl⟩ := ra.flt_of; obtain ⟨t', rfl⟩ := rb.flt_of; exact AutoFloatOpsIf.truediv (by rw [if_neg (by simp [hz])]; exact PostV.here st (rep_flt ..) h _)
theorem op_negF (h : Q (.flt (Float64.neg x)) loc) : Op1 Γ loc (unaryOp .USub) (.flt x) Q X := fun H O s va st ra => by
  obtain ⟨t, rfl⟩ := ra.flt_of; exact PyProof.Rows.neg_float (PostV.here st (rep_flt ..) h _)
/-! an int and a float -/
theorem op_mul_if (hi : Float64.isInf (Float64.ofInt a) = false) (h : Q (.flt (Float64.mul (Float64.ofInt a) x)) loc) : Op2 Γ loc (binaryOp .Mult) (.int a) (.flt x) Q X := fun H O s va vb st ra rb => by
  obtain ⟨t, rfl⟩ := ra.int_of; obtain ⟨t', rfl⟩ := rb.flt_of; exact AutoFloatOpsIf.mul_if (by rw [if_neg (by simp [hi])]; exact PostV.here st (rep_flt ..) h _)
theorem op_mul_fi (hi : Float64.isInf (Float64.ofInt a) = false) (h : Q (.flt (Float64.mul x (Float64.ofInt a))) loc) : Op2 Γ loc (binaryOp .Mult) (.flt x) (.int a) Q X := fun H O s va vb st ra rb => by
  obtain ⟨t, rfl⟩ := ra.flt_of; obtain ⟨t', rfl⟩ := rb.int_of; exact AutoFloatOpsIf.mul_fi (by rw [if_neg (by simp [hi])]; exact PostV.here st (rep_flt ..) h _)
theorem op_add_if (hi : Float64.isInf (Float64.ofInt a) = false) (h : Q (.flt (Float64.add (Float64.ofInt a) x)) loc) : Op2 Γ loc (binaryOp .Add) (.int a) (.flt x) Q X := fun H O s va vb st ra rb => by
  obtain ⟨t, rfl⟩ := ra.int_of; obtain ⟨t', rfl⟩ := rb.flt_of; exact AutoFloatOpsIf.add_if (by rw [if_neg (by simp [hi])]; exact PostV.here st (rep_flt ..) h _)
theorem op_add_fi (hi : Float64.isInf (Float64.ofInt a) = false) (h : Q (.flt (Float64.add x (Float64.ofInt a))) loc) : Op2 Γ loc (binaryOp .Add) (.flt x) (.int a) Q X := fun H O s va vb st ra rb => by
  obtain ⟨t, rfl⟩ := ra.flt_of; obtain ⟨t', rfl⟩ := rb.int_of; exact AutoFloatOpsIf.add_fi (by rw [if_neg (by simp [hi])]; exact PostV.here st (rep_flt ..) h _)
theorem op_sub_if (hi : Float64.isInf (Float64.ofInt a) = false) (h : Q (.flt (Float64.sub (Float64.ofInt a) x)) loc) : Op2 Γ loc (binaryOp .Sub) (.int a) (.flt x) Q X := fun H O s va vb st ra rb => by
  obtain ⟨t, rfl⟩ := ra.int_of; obtain ⟨t', rfl⟩ := rb.flt_of; exact AutoFloatOpsIf.sub_if (by rw [if_neg (by simp [hi])]; exact PostV.here st (rep_flt ..) h _)
/-- an int over a float: the float nearest to the int, or OverflowError -/
theorem op_div_if (hh : Γ.A.handled = none) (hz : Float64.isZero x = false) (hx : Float64.isInf (Float64.ofInt a) = true → X ⟨.type "OverflowError", none⟩ loc) (h : Float64.isInf (Float64.ofInt a) = false → Q (.flt (Float64.div (Float64.ofInt a) x)) loc) :
    Op2 Γ loc (binaryOp .Div) (.int a) (.flt x) Q X := fun H O s va vb st ra rb => by
  obtain ⟨t, rfl⟩ := ra.int_of; obtain ⟨t', rfl⟩ := rb.flt_of
  refine AutoFloatOpsIf.truediv_if ?_
  by_cases hi : Float64.isInf (Float64.ofInt a) = true
  · rw [if_pos hi]; exact raised st hh (hx hi)
  · rw [if_neg hi, if_neg (by simp [hz])]; exact PostV.here st (rep_flt ..) (h (by simpa using hi)) _
theorem op_div_fi (hi : Float64.isInf (Float64.ofInt a) = false) (hz : Float64.isZero (Float64.ofInt a) = false) (h : Q (.flt (Float64.div x (Float64.ofInt a))) loc) : Op2 Γ loc (binaryOp .Div) (.flt x) (.int a) Q X := fun H O s va vb st ra rb => by
  obtain ⟨t, rfl⟩ := ra.flt_of; obtain ⟨t', rfl⟩ := rb.int_of
  exact AutoFloatOpsIf.truediv_fi (by rw [if_neg (by simp [hi]), if_neg (by simp [hz])]; exact PostV.here st (rep_flt ..) h _)

/-! ### comparisons -/
theorem cmp_eq (h : Q (.bool (a == b)) loc) : Op2 Γ loc (compareOp .Eq) (.int a) (.int b) Q X := fun H O s va vb st ra rb => by
  obtain ⟨t, rfl⟩ := ra.int_of; obtain ⟨t', rfl⟩ := rb.int_of; exact PyProof.Rows.eq_int (PostV.here' st (rep_bool ..) h)
theorem cmp_ne (h : Q (.bool (a != b)) loc) : Op2 Γ loc (compareOp .NotEq) (.int a) (.int b) Q X := fun H O s va vb st ra rb => by
  obtain ⟨t, rfl⟩ := ra.int_of; obtain ⟨t', rfl⟩ := rb.int_of; exact PyProof.Rows.ne_int (PostV.here' st (rep_bool ..) h)
theorem cmp_lt (h : Q (.bool (decide (a < b))) loc) : Op2 Γ loc (compareOp .Lt) (.int a) (.int b) Q X := fun H O s va vb st ra rb => by
  obtain ⟨t, rfl⟩ := ra.int_of; obtain ⟨t', rfl⟩ := rb.int_of; exact PyProof.Rows.lt_int (PostV.here' st (rep_bool ..) h)
theorem cmp_gt (h : Q (.bool (decide (a > b))) loc) : Op2 Γ loc (compareOp .Gt) (.int a) (.int b) Q X := fun H O s va vb st ra rb => by
  obtain ⟨t, rfl⟩ := ra.int_of; obtain ⟨t', rfl⟩ := rb.int_of; exact PyProof.Rows.gt_int (PostV.here' st (rep_bool ..) h)
theorem cmp_le (h : Q (.bool (decide (a ≤ b))) loc) : Op2 Γ loc (compareOp .LtE) (.int a) (.int b) Q X := fun H O s va vb st ra rb => by
  obtain ⟨t, rfl⟩ := ra.int_of; obtain ⟨t', rfl⟩ := rb.int_of; exact PyProof.Rows.le_int (PostV.here' st (rep_bool ..) h)
theorem cmp_gt_fi (h : Q (.bool (Float64.cmpInt x b == some .gt)) loc) : Op2 Γ loc (compareOp .Gt) (.flt x) (.int b) Q X := fun H O s va vb st ra rb => by
  obtain ⟨t, rfl⟩ := ra.flt_of; obtain ⟨t', rfl⟩ := rb.int_of; exact PyProof.Rows.gt_fi (PostV.here' st (rep_bool ..) h)
theorem cmp_ne_fi (h : Q (.bool (Float64.cmpInt x b != some .eq)) loc) : Op2 Γ loc (compareOp .NotEq) (.flt x) (.int b) Q X := fun H O s va vb st ra rb => by
  obtain ⟨t, rfl⟩ := ra.flt_of; obtain ⟨t', rfl⟩ := rb.int_of; exact PyProof.Rows.ne_fi (PostV.here' st (rep_bool ..) h)
theorem cmp_neF (h : Q (.bool (Float64.cmp x y != some .eq)) loc) : Op2 Γ loc (compareOp .NotEq) (.flt x) (.flt y) Q X := fun H O s va vb st ra rb => by
  obtain ⟨t, rfl⟩ := ra.flt_of; obtain ⟨t', rfl⟩ := rb.flt_of; exact AutoFloatOps.ne_0 (PostV.here' st (rep_bool ..) h)
theorem cmp_eqF (h : Q (.bool (Float64.cmp x y == some .eq)) loc) : Op2 Γ loc (compareOp .Eq) (.flt x) (.flt y) Q X := fun H O s va vb st ra rb => by
  obtain ⟨t, rfl⟩ := ra.flt_of; obtain ⟨t', rfl⟩ := rb.flt_of; exact AutoFloatOps.eq_0 (PostV.here' st (rep_bool ..) h)
theorem cmp_neB (h : Q (.bool (p != q)) loc) : Op2 Γ loc (compareOp .NotEq) (.bool p) (.bool q) Q X := fun H O s va vb st ra rb => by
  cases ra.bool_of; cases rb.bool_of; exact PyProof.Rows.ne_bool (PostV.here' st (rep_bool ..) h)
theorem cmp_neS (h : Q (.bool (u != v)) loc) : Op2 Γ loc (compareOp .NotEq) (.str u) (.str v) Q X := fun H O s va vb st ra rb => by
  obtain ⟨t, rfl⟩ := ra.str_of; obtain ⟨t', rfl⟩ := rb.str_of; exact PyProof.Rows.ne_str (PostV.here' st (rep_bool ..) h)
theorem cmp_eqS (h : Q (.bool (u == v)) loc) : Op2 Γ loc (compareOp .Eq) (.str u) (.str v) Q X := fun H O s va vb st ra rb => by
  obtain ⟨t, rfl⟩ := ra.str_of; obtain ⟨t', rfl⟩ := rb.str_of; exact PyProof.Rows.eq_str (PostV.here' st (rep_bool ..) h)

def V.isNone : V → Bool
  | .none => true
  | .con v => v == .none
  | _ => false
theorem Rep.isNone {H : Hm} {A : V} {w : Value} (r : Rep H A w) : (w == .none) = A.isNone := by
  cases A with
  | none => cases r.none_of; rfl
  | bool b => cases r.bool_of; rfl
  | int i => obtain ⟨t, rfl⟩ := r.int_of; rfl
  | flt i => obtain ⟨t, rfl⟩ := r.flt_of; rfl
  | str i => obtain ⟨t, rfl⟩ := r.str_of; rfl
  | con c => cases r.con_of; rfl
  | tup As => obtain ⟨a, o, xs, n, rfl, _⟩ := r.tup_of; rfl
  | lst As => obtain ⟨a, o, xs, n, rfl, _⟩ := r.lst_of; rfl
  | rng i j k => simp only [Rep] at r; obtain ⟨a, t, u, w, rfl, _⟩ := r; rfl
  | exc c m => simp only [Rep] at r; obtain ⟨a, o, vs, t, ot, n, tk, rfl, _⟩ := r; rfl
theorem cmp_is_none {A : V} (h : Q (.bool A.isNone) loc) : Op2 Γ loc (compareOp .Is) A .none Q X := fun H O s va vb st ra rb => by
  cases rb.none_of; exact is_none (by rw [ra.isNone]; exact PostV.here' st (rep_bool ..) h)
theorem cmp_isnot_none {A : V} (h : Q (.bool (!A.isNone)) loc) : Op2 Γ loc (compareOp .IsNot) A .none Q X := fun H O s va vb st ra rb => by
  cases rb.none_of; exact isNot_none (by rw [ra.isNone]; exact PostV.here' st (rep_bool ..) h)

/-! ### truth -/
theorem tr_bool (h : QB p loc) : Opb Γ loc truthy (.bool p) QB X := fun H O s va st ra => by
  cases ra.bool_of; exact wpAny_truthy_bool ⟨H, O, loc, .refl .., st, h⟩
theorem tr_int (h : QB (a != 0) loc) : Opb Γ loc truthy (.int a) QB X := fun H O s va st ra => by
  obtain ⟨t, rfl⟩ := ra.int_of; exact PyProof.Rows.truthy_int ⟨H, O, loc, .refl .., st, h⟩
theorem tr_flt (h : QB (!Float64.isZero x) loc) : Opb Γ loc truthy (.flt x) QB X := fun H O s va st ra => by
  obtain ⟨t, rfl⟩ := ra.flt_of; exact AutoFloatOps.truthy_0 ⟨H, O, loc, .refl .., st, h⟩

/-! ### new objects -/
/-- a new object, never changed again -/
theorem PostV.made {H : Hm} {O : OSet} {s : Shared} {h' : Heap} {tk : Nat} {o : Obj} {A : V} {a : Addr} (st : St Γ H O loc s) (hk : ∀ b o, s.heap.get? b = some o → h'.get? b = some o) (hn : s.heap.get? a = none) (e : h'.get? a = some o)
    (hd : ∀ es ep, o.data ≠ .dict es ep) (r : Rep (Hset H a o) A (.ref a)) (q : QL (.val A) loc) : PostV Γ H O s QL (.ref a) { s with heap := h', toks := tk } := by
  have fa := st.foreign hn
  have st₁ : StH Γ H O loc h' s.os s.gens := st.ext (fun b o e => ⟨o, hk b o e, .refl ..⟩) st.gens (.refl _) fun b o e => .inl e
  have n₁ : Nx Γ.F H O s.heap H O h' := ⟨fun b o e _ => ⟨o, hk b o e, .refl ..⟩, fun b o e => ⟨o, hk b o e⟩, .refl _, fun b o e => .inl e, fun b e => .inl e⟩
  exact ⟨Hset H a o, O, loc, .val A, n₁.freeze fa.hm hn, st₁.freeze e hd fa.o fa.hm, r, q⟩
/-- a new list of the frame's own -/
theorem PostV.own {H : Hm} {O : OSet} {s : Shared} {h' : Heap} {tk : Nat} {o : Obj} {As : List V} {a : Addr} {xs : Array Value} {n : Nat} (st : St Γ H O loc s) (hk : ∀ b o, s.heap.get? b = some o → h'.get? b = some o) (hn : s.heap.get? a = none) (e : h'.get? a = some o)
    (hc : o.cls = .type "list") (hd : o.data = .seq xs n) (hp : o.dict = none ∧ o.slots = #[]) (r : Reps H As xs.toList) (q : QL (.own a As) loc) : PostV Γ H O s QL (.ref a) { s with heap := h', toks := tk } := by
  have fa := st.foreign hn
  have st₁ : StH Γ H O loc h' s.os s.gens := st.ext (fun b o e => ⟨o, hk b o e, .refl ..⟩) st.gens (.refl _) fun b o e => .inl e
  have n₁ : Nx Γ.F H O s.heap H O h' := ⟨fun b o e _ => ⟨o, hk b o e, .refl ..⟩, fun b o e => ⟨o, hk b o e⟩, .refl _, fun b o e => .inl e, fun b e => .inl e⟩
  exact ⟨H, O, loc, .own a As, n₁, st₁, ⟨a, rfl, hn, fa.o, fa.hm, rfl, o, xs, n, e, hc, hd, hp, r⟩, q⟩

theorem fresh_none (h : Heap) : h.get? h.objs.size = none := Heap.get?_none_of_le (Nat.le_refl _)
theorem seq_nodict {o : Obj} {xs : Array Value} {n : Nat} (h : o.data = .seq xs n) : ∀ es ep, o.data ≠ .dict es ep := fun es ep z => by rw [h] at z; cases z
theorem rep_new_lst {H : Hm} {As : List V} {a : Addr} {o : Obj} {xs : Array Value} {n : Nat} (hm : H a = none) (h3 : o.cls = .type "list") (h4 : o.data = .seq xs n) (h5 : Reps H As xs.toList) : Rep (Hset H a o) (.lst As) (.ref a) :=
  rep_lst (Hset.self ..) h3 h4 (h5.mono (Hset.le hm))
theorem rep_new_tup {H : Hm} {As : List V} {a : Addr} {o : Obj} {xs : Array Value} {n : Nat} (hm : H a = none) (h3 : o.cls = .type "tuple") (h4 : o.data = .seq xs n) (h5 : Reps H As xs.toList) : Rep (Hset H a o) (.tup As) (.ref a) :=
  rep_tup (Hset.self ..) h3 h4 (h5.mono (Hset.le hm))

theorem ev_list {es : List Expr} {pos : Pos} (h : Args' Γ loc pos es (AllVal fun As l => As.length ≤ sizeLine ∧ Q (.lst As) l) X) : Ev Γ loc (.List es pos) (VQ Q) X := by
  intro H O s st
  refine wpAny_List (wpAny_mono (h H O s st) (fun vs s₁ p => ?_) fun _ _ p => p)
  obtain ⟨H₁, O₁, l₁, lvs, n₁, st₁, t₁, As, rfl, hsz, q⟩ := p
  have r := t₁.reps
  have fa := st₁.foreign (fresh_none s₁.heap)
  refine ⟨by rw [r.length]; exact hsz, PostV.back n₁ (PostV.made (tk := s₁.toks) st₁ (fun b o e => Heap.get?_push_of_some _ e) (fresh_none _) (Heap.get?_push_size _ rfl) (seq_nodict rfl) (rep_new_lst fa.hm rfl rfl (by simpa using r)) q)⟩
theorem ev_tuple {es : List Expr} {k : Nat} {pos : Pos} (h : Args' Γ loc pos es (AllVal fun As l => As.length ≤ sizeLine ∧ Q (.tup As) l) X) : Ev Γ loc (.Tuple es k pos) (VQ Q) X := by
  intro H O s st
  refine wpAny_Tuple (wpAny_mono (h H O s st) (fun vs s₁ p => ?_) fun _ _ p => p)
  obtain ⟨H₁, O₁, l₁, lvs, n₁, st₁, t₁, As, rfl, hsz, q⟩ := p
  have r := t₁.reps
  have fa := st₁.foreign (fresh_none s₁.heap)
  refine ⟨by rw [r.length]; exact hsz, PostV.back n₁ (PostV.made (tk := s₁.toks) st₁ (fun b o e => Heap.get?_push_of_some _ e) (fresh_none _) (Heap.get?_push_size _ rfl) (seq_nodict rfl) (rep_new_tup fa.hm rfl rfl (by simpa using r)) q)⟩
/-- [] as a list of the frame's own -/
theorem ev_nil_own {pos : Pos} (h : ∀ b, QL (.own b []) loc) : Ev Γ loc (.List [] pos) QL X := by
  intro H O s st
  refine wpAny_List (wpAny_items_nil ⟨Nat.zero_le _, ?_⟩)
  exact PostV.own (tk := s.toks) st (fun b o e => Heap.get?_push_of_some _ e) (fresh_none _) (Heap.get?_push_size _ rfl) rfl rfl ⟨rfl, rfl⟩ (reps_nil _) (h _)

/-- the values of a display, one by one -/
theorem args_val {pos : Pos} {e : Expr} {es : List Expr} {QA : List V → Loc → Prop} (h : Ev Γ loc e (VQ fun A l => Args' Γ l pos es (AllVal fun As l' => QA (A :: As) l') X) X)
    (he : starEach (e :: es) Γ.env = (false, eval e Γ.env) :: starEach es Γ.env := by rfl) : Args' Γ loc pos (e :: es) (AllVal QA) X := by
  refine args_cons (h.mono (fun lv l q => ?_) fun _ _ x => x) he
  cases lv with
  | own _ _ => exact q.elim
  | itr _ => exact q.elim
  | val A => exact fun H O s st => wpAny_mono (q H O s st) (fun vs s' ⟨H', O', l', lvs, n, st', t, As, e, q'⟩ => ⟨H', O', l', lvs, n, st', t, A :: As, by rw [e]; rfl, q'⟩) fun _ _ p => p
theorem args_val_nil {pos : Pos} {QA : List V → Loc → Prop} (h : QA [] loc) : Args' Γ loc pos [] (AllVal QA) X := args_nil ⟨[], rfl, h⟩

/-! ### built-in functions -/
theorem bi_len_lst {As : List V} (hz : As.length ≤ sizeLine) (h : Q (.int As.length) loc) : OpN Γ loc (fun vs => call (.builtin "len") vs) [.lst As] (VQ Q) X := fun H O s vs st r => by
  simp only [Reps] at r
  obtain ⟨y, ys, rfl, hy, rfl⟩ := r
  obtain ⟨a, o, xs, n, rfl, h2, h3, h4, h5⟩ := hy.lst_of
  have hl : xs.size = As.length := by rw [← h5.length]; simp
  have hz' : As.length ≤ 2 ^ 24 := hz
  refine len_list ⟨o, st.agree _ _ h2, h3, n, h4⟩ (by rw [hl]; omega) ?_
  rw [hl]; exact PostV.here st (rep_int ..) h _
theorem bi_len_tup {As : List V} (hz : As.length ≤ sizeLine) (h : Q (.int As.length) loc) : OpN Γ loc (fun vs => call (.builtin "len") vs) [.tup As] (VQ Q) X := fun H O s vs st r => by
  simp only [Reps] at r
  obtain ⟨y, ys, rfl, hy, rfl⟩ := r
  obtain ⟨a, o, xs, n, rfl, h2, h3, h4, h5⟩ := hy.tup_of
  have hl : xs.size = As.length := by rw [← h5.length]; simp
  have hz' : As.length ≤ 2 ^ 24 := hz
  refine len_tuple ⟨o, st.agree _ _ h2, h3, n, h4⟩ (by rw [hl]; omega) ?_
  rw [hl]; exact PostV.here st (rep_int ..) h _

theorem rng_nodict {cls : Value} {vs : Array Value} : ∀ es ep, ({ cls := cls, dict := none, data := .fields vs, slots := #[] } : Obj).data ≠ .dict es ep := fun es ep z => by cases z
theorem rep_new_rng {H : Hm} {a : Addr} {i j k : Int} {t u w : Tok} : Rep (Hset H a { cls := .type "range", dict := none, data := .fields #[.int i t, .int j u, .int k w], slots := #[] }) (.rng i j k) (.ref a) := by
  simp only [Rep]; exact ⟨a, t, u, w, rfl, Hset.self ..⟩
theorem bi_range1 (h : Q (.rng 0 a 1) loc) : OpN Γ loc (fun vs => call (.type "range") vs) [.int a] (VQ Q) X := fun H O s vs st r => by
  simp only [Reps] at r
  obtain ⟨y, ys, rfl, hy, rfl⟩ := r
  obtain ⟨t, rfl⟩ := hy.int_of
  exact call_range_1 (PostV.made st (fun b o e => Heap.get?_push_of_some _ e) (fresh_none _) (Heap.get?_push_size _ rfl) rng_nodict rep_new_rng h)
theorem bi_range2 (h : Q (.rng a b 1) loc) : OpN Γ loc (fun vs => call (.type "range") vs) [.int a, .int b] (VQ Q) X := fun H O s vs st r => by
  simp only [Reps] at r
  obtain ⟨y, _, rfl, hy, z, _, rfl, hz, rfl⟩ := r
  obtain ⟨t, rfl⟩ := hy.int_of; obtain ⟨t', rfl⟩ := hz.int_of
  exact call_range_2 (PostV.made st (fun b o e => Heap.get?_push_of_some _ e) (fresh_none _) (Heap.get?_push_size _ rfl) rng_nodict rep_new_rng h)
theorem bi_range3 {c : Int} (hc : c ≠ 0) (hp : Builtin.divisionGoesByPylong (b - a) c = false) (h : Q (.rng a b c) loc) : OpN Γ loc (fun vs => call (.type "range") vs) [.int a, .int b, .int c] (VQ Q) X := fun H O s vs st r => by
  simp only [Reps] at r
  obtain ⟨y, _, rfl, hy, z, _, rfl, hz, w, _, rfl, hw, rfl⟩ := r
  obtain ⟨t, rfl⟩ := hy.int_of; obtain ⟨t', rfl⟩ := hz.int_of; obtain ⟨t'', rfl⟩ := hw.int_of
  exact call_range_3 hc (PostV.made (tk := s.toks) st (fun b o e => Heap.get?_push_of_some _ e) (fresh_none _) (Heap.get?_push_size _ rfl) rng_nodict rep_new_rng h) (.inl hp)
theorem bi_abs (h : Q (.int (if a < 0 then -a else a)) loc) : OpN Γ loc (fun vs => call (.builtin "abs") vs) [.int a] (VQ Q) X := fun H O s vs st r => by
  simp only [Reps] at r
  obtain ⟨y, _, rfl, hy, rfl⟩ := r
  obtain ⟨t, rfl⟩ := hy.int_of
  exact call_abs_int fun u tk => PostV.here st (rep_int ..) h _
theorem bi_float (hh : Γ.A.handled = none) (hx : Float64.isInf (Float64.ofInt a) = true → X ⟨.type "OverflowError", none⟩ loc) (h : Float64.isInf (Float64.ofInt a) = false → Q (.flt (Float64.ofInt a)) loc) :
    OpN Γ loc (fun vs => call (.type "float") vs) [.int a] (VQ Q) X := fun H O s vs st r => by
  simp only [Reps] at r
  obtain ⟨y, _, rfl, hy, rfl⟩ := r
  obtain ⟨t, rfl⟩ := hy.int_of
  refine call_float_int_or hh (fun hi h' tk e ne => PostX.new st ne (hx hi)) fun hi => PostV.here st (rep_flt ..) (h (by simpa using hi)) _
/-- list(xs) -/
theorem bi_list {A : V} {As : List V} (hA : A = .lst As ∨ A = .tup As) (hz : As.length ≤ sizeLine) (h : Q (.lst As) loc) : OpN Γ loc (fun vs => call (.type "list") vs) [A] (VQ Q) X := fun H O s vs st r => by
  simp only [Reps] at r
  obtain ⟨y, _, rfl, hy, rfl⟩ := r
  have fa := st.foreign (fresh_none s.heap)
  rcases hA with rfl | rfl
  · obtain ⟨a, o, xs, n, rfl, h2, h3, h4, h5⟩ := hy.lst_of
    have hl : xs.size = As.length := by rw [← h5.length]; simp
    exact call_list_seq a (.inl rfl) (st.agree _ _ h2) h3 h4 (fun h' c' hk e => PostV.made (tk := s.toks) st hk (fresh_none _) e (seq_nodict rfl) (rep_new_lst fa.hm rfl rfl h5) h) (by rw [hl]; exact hz)
  · obtain ⟨a, o, xs, n, rfl, h2, h3, h4, h5⟩ := hy.tup_of
    have hl : xs.size = As.length := by rw [← h5.length]; simp
    exact call_list_seq a (.inr rfl) (st.agree _ _ h2) h3 h4 (fun h' c' hk e => PostV.made (tk := s.toks) st hk (fresh_none _) e (seq_nodict rfl) (rep_new_lst fa.hm rfl rfl h5) h) (by rw [hl]; exact hz)
/-- tuple(xs) of a list -/
theorem bi_tuple {As : List V} (hz : As.length ≤ sizeLine) (h : Q (.tup As) loc) : OpN Γ loc (fun vs => call (.type "tuple") vs) [.lst As] (VQ Q) X := fun H O s vs st r => by
  simp only [Reps] at r
  obtain ⟨y, _, rfl, hy, rfl⟩ := r
  obtain ⟨a, o, xs, n, rfl, h2, h3, h4, h5⟩ := hy.lst_of
  have hl : xs.size = As.length := by rw [← h5.length]; simp
  refine call_tuple_list ⟨o, st.agree _ _ h2, h3, n, h4⟩ (fun h' hk => ?_) (by rw [hl]; exact hz)
  have hn : s.heap.get? h'.objs.size = none := by
    cases e : s.heap.get? h'.objs.size with
    | none => rfl
    | some o => exact absurd (Heap.lt_size (hk _ _ e)) (Nat.lt_irrefl _)
  exact PostV.made (tk := s.toks) st (fun b o e => Heap.get?_push_of_some _ (hk b o e)) hn (Heap.get?_push_size _ rfl) (seq_nodict rfl) (rep_new_tup (st.foreign hn).hm rfl rfl h5) h
end
end Mine
end
section
open PySem PySem.W PyProof.Rows
set_option linter.unusedVariables false
namespace Mine

section
variable {Γ : Cx} {loc : Loc} {Q : V → Loc → Prop} {QL : LV → Loc → Prop} {QB : Bool → Loc → Prop} {QF : Fl → Loc → Prop} {X : Exc → Loc → Prop} {x : Str} {As : List V} {a : Addr}

/-- a list of the frame's own is changed no more -/
theorem StH.frz {H : Hm} {O : OSet} {h : Heap} {os : OsState} {g : Array GenState} (st : StH Γ H O loc h os g) (hx : loc.lookup x = some (.own a As)) :
    ∃ H' O', Nx Γ.F H O h H' O' h ∧ StH Γ H' O' ((x, .val (.lst As)) :: loc) h os g := by
  obtain ⟨v, hv, b, rfl, hO, rfl, o, xs, n, e, hc, hd, hp, hr⟩ := st.vars x _ hx
  have hm := st.ohm a hO
  have hdd := seq_nodict hd
  have ap := st.apart x a _ hx rfl hv
  have ne : ∀ y lv, loc.lookup y = some lv → lv.mine = true → y ≠ x → ∀ b, VarIs Γ.env h y (.ref b) → b ≠ a := fun y lv ey m hne b hb z => by
    subst z; exact hne (st.sep y x b lv _ ey hx m rfl hb hv)
  refine ⟨Hset H a o, fun b => O b ∧ b ≠ a, ⟨fun b q e _ => ⟨q, e, .refl ..⟩, fun b q e => ⟨q, e⟩, Hset.le hm, fun b q e => ?_, fun b z => .inl z.1⟩, ?_⟩
  · rcases Hset.cases e with ⟨rfl, rfl⟩ | h1
    · exact .inr (.inl hO)
    · exact .inl h1
  · exact
    { base := st.base
      agree := fun b q e' => by
        rcases Hset.cases e' with ⟨rfl, rfl⟩ | h1
        · exact e
        · exact st.agree b q h1
      nofr := fun b q e' => by
        rcases Hset.cases e' with ⟨rfl, rfl⟩ | h1
        · exact hdd
        · exact st.nofr b q h1
      os := st.os
      gens := st.gens
      obase := fun b hb => st.obase b hb.1
      ohm := fun b hb => by simp only [Hset, hb.2, if_false]; exact st.ohm b hb.1
      othere := fun b hb => st.othere b hb.1
      kind := st.kind
      ns := st.ns
      onsO := ⟨st.onsO, fun z => ap.1 z.symm⟩
      vars := fun y lv e' => by
        by_cases hy : y = x
        · subst hy
          rw [lookup_cons_self] at e'; cases e'
          exact ⟨_, hv, rep_lst (Hset.self ..) hc hd (hr.mono (Hset.le hm))⟩
        · rw [lookup_cons_ne hy] at e'
          obtain ⟨w, hw, hl⟩ := st.vars y lv e'
          refine ⟨w, hw, ?_⟩
          cases lv with
          | val B => exact Rep.mono (Hset.le hm) _ _ hl
          | own c Bs =>
            obtain ⟨b, rfl, hb, rfl, l⟩ := hl
            exact ⟨c, rfl, ⟨hb, ne y _ e' rfl hy _ hw⟩, rfl, l.same (F := Γ.F) (Hset.le hm) fun o e => ⟨o, e, .refl ..⟩⟩
          | itr Bs =>
            obtain ⟨b, rfl, hb, l⟩ := hl
            exact ⟨b, rfl, ⟨hb, ne y _ e' rfl hy _ hw⟩, l.same (F := Γ.F) (Hset.le hm) fun o e => ⟨o, e, .refl ..⟩⟩
      sep := fun y z b l1 l2 e1 e2 m1 m2 v1 v2 => by
        by_cases hy : y = x
        · subst hy; rw [lookup_cons_self] at e1; cases e1; cases m1
        · by_cases hz : z = x
          · subst hz; rw [lookup_cons_self] at e2; cases e2; cases m2
          · rw [lookup_cons_ne hy] at e1; rw [lookup_cons_ne hz] at e2
            exact st.sep y z b l1 l2 e1 e2 m1 m2 v1 v2
      apart := fun y b l1 e1 m1 v1 => by
        by_cases hy : y = x
        · subst hy; rw [lookup_cons_self] at e1; cases e1; cases m1
        · rw [lookup_cons_ne hy] at e1
          exact st.apart y b l1 e1 m1 v1
      cells := fun y c e' => ⟨fun m => ⟨(st.cells y c e').1 m, fun z => ap.2 y c e' z.symm⟩, (st.cells y c e').2⟩
      cne := st.cne
      cinj := st.cinj
      frames := st.frames }

theorem exs_freeze {ss : List Stmt} (hx : loc.lookup x = some (.own a As)) (h : Exs Γ ((x, .val (.lst As)) :: loc) ss QF X) : Exs Γ loc ss QF X := by
  intro H O s st
  obtain ⟨H', O', n, st'⟩ := st.frz hx
  exact wpAny_mono (h H' O' s st') (fun _ _ p => p.back n) fun _ _ p => p.back n
theorem ev_freeze {e : Expr} (hx : loc.lookup x = some (.own a As)) (h : Ev Γ ((x, .val (.lst As)) :: loc) e QL X) : Ev Γ loc e QL X := by
  intro H O s st
  obtain ⟨H', O', n, st'⟩ := st.frz hx
  exact wpAny_mono (h H' O' s st') (fun _ _ p => p.back n) fun _ _ p => p.back n

/-! ### items -/
theorem ev_sub {value slice : Expr} {pos : Pos} (h : Ev Γ loc value (VQ fun A l₁ => Ev Γ l₁ slice (VQ fun B l₂ => Op2 Γ l₂ (subscriptTail value slice) A B Q X) X) X) : Ev Γ loc (.Subscript value slice pos) (VQ Q) X := by
  intro H O s st
  refine Subscript_ (wpAny_mono (h H O s st) (fun a s₁ p => ?_) fun _ _ p => p)
  obtain ⟨H₁, O₁, l₁, lv, n₁, st₁, r₁, q₁⟩ := p
  cases lv with
  | own _ _ => exact q₁.elim
  | itr _ => exact q₁.elim
  | val A =>
    refine wpAny_mono (q₁ H₁ O₁ s₁ st₁) (fun b s₂ p => ?_) fun _ _ p => p.back n₁
    obtain ⟨H₂, O₂, l₂, lv, n₂, st₂, r₂, q₂⟩ := p
    cases lv with
    | own _ _ => exact q₂.elim
    | itr _ => exact q₂.elim
    | val B => exact wpAny_mono (q₂ H₂ O₂ s₂ a b st₂ (Rep.mono n₂.hle _ _ r₁) r₂) (fun _ _ p => p.back (n₁.trans n₂)) fun _ _ p => p.back (n₁.trans n₂)

def pyIdx (k : Int) (n : Nat) : Nat := if k < 0 then (k + n).toNat else k.toNat

theorem wp_item_list {M : Model} {prog : Program} {w : World} {A : Around} {E : Value → Shared → Prop} {s : Shared} {value slice : Expr} {l : Addr} {xs : Array Value} {k : Int} {t : Tok} {y : Value} {Q : Value → Shared → Prop}
    (hl : s.heap.IsList l xs) (hk : -(xs.size : Int) ≤ k ∧ k < xs.size) (hz : xs.size ≤ 2 ^ 24) (hy : xs[pyIdx k xs.size]? = some y) (h : Q y s)
    (hs : subscripted slice false (.ref l) (.int k t) = operate [.ref l, .int k t] (getItem (.ref l) (.int k t))) : wpAny (model prog w) A (subscriptTail value slice (.ref l) (.int k t)) Q E s := by
  unfold pyIdx at hy
  by_cases h0 : k < 0
  · rw [if_pos h0] at hy
    exact PyProof.Rows.tail_any hl.typeIs slot_list_getitem.lookup (wpAny_getItem_list_neg hl h0 hk.1 (by omega) hy h) hs
  · rw [if_neg h0] at hy
    exact PyProof.Rows.tail_any hl.typeIs slot_list_getitem.lookup (wpAny_getItem_list hl (by omega) (by omega) hy h) hs

theorem it_lst {value slice : Expr} {k : Int} {R : V} (hz : As.length ≤ sizeLine) (hk : -(As.length : Int) ≤ k ∧ k < As.length) (hR : As[pyIdx k As.length]? = some R) (h : Q R loc)
    (hs : ∀ o i, subscripted slice false o i = operate [o, i] (getItem o i) := by intro _ _; with_unfolding_all rfl) : Op2 Γ loc (subscriptTail value slice) (.lst As) (.int k) Q X := fun H O s va vb st ra rb => by
  obtain ⟨a, o, xs, n, rfl, h2, h3, h4, h5⟩ := ra.lst_of
  obtain ⟨t, rfl⟩ := rb.int_of
  have hl : xs.size = As.length := by rw [← h5.length]; simp
  obtain ⟨y, hy, hr⟩ := h5.get hR
  have hz' : As.length ≤ 2 ^ 24 := hz
  refine wp_item_list (M := Γ.M) ⟨o, st.agree _ _ h2, h3, n, h4⟩ (by rw [hl]; exact hk) (by omega) (y := y) (by rw [hl]; simpa using hy) (PostV.here' st hr h) (hs _ _)
theorem it_tup {value slice : Expr} {k : Int} {R : V} (hz : As.length ≤ sizeLine) (hk : -(As.length : Int) ≤ k ∧ k < As.length) (hR : As[pyIdx k As.length]? = some R) (h : Q R loc)
    (hs : ∀ o i, subscripted slice false o i = operate [o, i] (getItem o i) := by intro _ _; with_unfolding_all rfl) : Op2 Γ loc (subscriptTail value slice) (.tup As) (.int k) Q X := fun H O s va vb st ra rb => by
  obtain ⟨a, o, xs, n, rfl, h2, h3, h4, h5⟩ := ra.tup_of
  obtain ⟨t, rfl⟩ := rb.int_of
  obtain ⟨y, hy, hr⟩ := h5.get hR
  have hl := h5.length
  have hz' : As.length ≤ 2 ^ 24 := hz
  refine item_tupleT (l := xs.toList) (j := pyIdx k As.length) ⟨o, st.agree _ _ h2, h3, n, by simpa using h4⟩ (by omega) (by omega) ?_ hy (PostV.here' st hr h) (hs _ _)
  rw [hl]
  unfold seqIndex? pyIdx
  by_cases h0 : k < 0
  · simp only [h0, if_true]
    rw [if_pos (by simp; omega)]
  · simp only [h0, if_false]
    rw [if_pos (by simp; omega)]

/-- xs[k] of a list of the frame's own -/
theorem ev_sub_own {p pos : Pos} {slice : Expr} (hx : loc.lookup x = some (.own a As)) (h : Ev Γ loc slice (VQ fun B l => ∃ k R, B = .int k ∧ l.lookup x = some (.own a As) ∧ As.length ≤ sizeLine ∧ (-(As.length : Int) ≤ k ∧ k < As.length) ∧ As[pyIdx k As.length]? = some R ∧ Q R l) X)
    (hs : ∀ o i, subscripted slice false o i = operate [o, i] (getItem o i) := by intro _ _; with_unfolding_all rfl)
    (hd : (x == ("__debug__" : Str)) = false := by decide) (hn : (x == ("__classdict__" : Str)) = false := by decide) : Ev Γ loc (.Subscript (.Name x p) slice pos) (VQ Q) X := by
  intro H O s st
  obtain ⟨v, hv, b, rfl, hO, rfl, _⟩ := st.vars x _ hx
  refine Subscript_ (wpAny_Name (wp_var st.kind hv ?_ hn) hd)
  refine wpAny_mono (h H O s st) (fun i s₁ pq => ?_) fun _ _ p => p
  obtain ⟨H₁, O₁, l₁, lv, n₁, st₁, r₁, q₁⟩ := pq
  cases lv with
  | own _ _ => exact q₁.elim
  | itr _ => exact q₁.elim
  | val B =>
    obtain ⟨k, R, rfl, hx₁, hz, hk, hR, q⟩ := q₁
    obtain ⟨t, rfl⟩ := Rep.int_of (H := H₁) r₁
    obtain ⟨v', hv', b', rfl, hO', rfl, o, xs, n, e, hc, hdat, hp, hr⟩ := st₁.vars x _ hx₁
    have hl : xs.size = As.length := by rw [← hr.length]; simp
    obtain ⟨y, hy, hry⟩ := hr.get hR
    have hz' : As.length ≤ 2 ^ 24 := hz
    refine wp_item_list (M := Γ.M) ⟨o, e, hc, n, hdat⟩ (by rw [hl]; exact hk) (by omega) (y := y) (by rw [hl]; simpa using hy) (PostV.back n₁ (PostV.here' st₁ hry q)) (hs _ _)

/-! ### slices -/
def Pt (Γ : Cx) (loc : Loc) (oe : Option Expr) (Q : Option Int → Loc → Prop) (X : Exc → Loc → Prop) : Prop :=
  match oe with
  | none => Q none loc
  | some e => Ev Γ loc e (VQ fun A l => ∃ k, A = .int k ∧ Q (some k) l) X
theorem pt_none {QP : Option Int → Loc → Prop} (h : QP none loc) : Pt Γ loc none QP X := h
theorem pt_some {e : Expr} {QP : Option Int → Loc → Prop} (h : Ev Γ loc e (VQ fun A l => ∃ k, A = .int k ∧ QP (some k) l) X) : Pt Γ loc (some e) QP X := h

theorem wp_pt {oe : Option Expr} {QP : Option Int → Loc → Prop} (h : Pt Γ loc oe QP X) {H : Hm} {O : OSet} {s : Shared} (st : St Γ H O loc s) :
    wpAny Γ.M Γ.A (evalPart oe Γ.env) (fun v s' => ∃ H' O' l' k, Nx Γ.F H O s.heap H' O' s'.heap ∧ St Γ H' O' l' s' ∧ IsPart v k ∧ QP k l') (PostX Γ H O s X) s := by
  cases oe with
  | none => rw [evalPart_none]; exact wpAny_pure ⟨H, O, loc, none, .refl .., st, .none, h⟩
  | some e =>
    rw [evalPart_some]
    refine wpAny_mono (h H O s st) (fun v s₁ p => ?_) fun _ _ p => p
    obtain ⟨H₁, O₁, l₁, lv, n₁, st₁, r₁, q₁⟩ := p
    cases lv with
    | own _ _ => exact q₁.elim
    | itr _ => exact q₁.elim
    | val A =>
      obtain ⟨k, rfl, q⟩ := q₁
      obtain ⟨t, rfl⟩ := Rep.int_of (H := H₁) r₁
      exact ⟨H₁, O₁, l₁, some k, n₁, st₁, .int _ _, q⟩

/-- xs[lo:hi] -/
def slc (As : List V) (lo hi : Option Int) : List V := (As.drop (lo.elim 0 (clipAt As.length))).take (hi.elim As.length (clipAt As.length) - lo.elim 0 (clipAt As.length))

theorem slice_end {H₀ H : Hm} {O₀ O : OSet} {s₀ s : Shared} {l' : Loc} {vl vu : Value} {lo hi : Option Int} {b : Addr} {xs : Array Value} (n : Nx Γ.F H₀ O₀ s₀.heap H O s.heap) (st : St Γ H O l' s) (hr : Reps H As xs.toList) (q : Q (.lst (slc As lo hi)) l') :
    PostV Γ H₀ O₀ s₀ (VQ Q) (.ref (s.heap.objs.size + 1)) { s with heap := (s.heap.push { cls := .type "slice", data := .fields #[vl, vu, .none] }).push { cls := .type "list", data := .seq (slicePick xs lo hi none) } } := by
  have hl : xs.size = As.length := by rw [← hr.length]; simp
  have hn : s.heap.get? (s.heap.objs.size + 1) = none := Heap.get?_none_of_le (Nat.le_succ _)
  refine PostV.back n (PostV.made (tk := s.toks) (o := { cls := .type "list", data := .seq (slicePick xs lo hi none) }) st (fun b o e => Heap.get?_push_of_some _ (Heap.get?_push_of_some _ e)) hn ?_ (seq_nodict rfl) (rep_new_lst (st.foreign hn).hm rfl rfl ?_) q)
  · have := Heap.get?_push_size (s.heap.push { cls := .type "slice", data := .fields #[vl, vu, .none] }) (o := { cls := .type "list", data := .seq (slicePick xs lo hi none) }) rfl
    rw [Heap.size_push] at this; exact this
  · rw [slicePick_plain]
    unfold slc
    rw [← hl]
    exact (hr.drop _).take _

theorem ev_slice {value : Expr} {lower upper : Option Expr} {p pos : Pos} (h : Ev Γ loc value (VQ fun A l => ∃ As, A = .lst As ∧ As.length ≤ sizeLine ∧ Pt Γ l lower (fun lo l₁ => Pt Γ l₁ upper (fun hi l₂ => Q (.lst (slc As lo hi)) l₂) X) X) X)
    (ht : ∀ o r, letTemporaryGo value o r = pure () := by intro _ _; rfl) : Ev Γ loc (.Subscript value (.Slice lower upper none p) pos) (VQ Q) X := by
  intro H O s st
  refine wpAny_Subscript_list_slice (wpAny_mono (h H O s st) (fun a s₁ pq => ?_) fun _ _ p => p) ht
  obtain ⟨H₁, O₁, l₁, lv, n₁, st₁, r₁, q₁⟩ := pq
  cases lv with
  | own _ _ => exact q₁.elim
  | itr _ => exact q₁.elim
  | val A =>
    obtain ⟨As, rfl, hz, q₁⟩ := q₁
    refine wpAny_mono (wp_pt q₁ st₁) (fun vl s₂ pq => ?_) fun _ _ p => p.back n₁
    obtain ⟨H₂, O₂, l₂, lo, n₂, st₂, pl, q₂⟩ := pq
    refine wpAny_mono (wp_pt q₂ st₂) (fun vu s₃ pq => ?_) fun _ _ p => p.back (n₁.trans n₂)
    obtain ⟨H₃, O₃, l₃, hi, n₃, st₃, pu, q₃⟩ := pq
    obtain ⟨b, o, xs, n, rfl, h2, h3, h4, h5⟩ := Rep.lst_of (H := H₁) r₁
    have h2' := n₃.hle _ _ (n₂.hle _ _ h2)
    have hl : xs.size = As.length := by rw [← h5.length]; simp
    refine ⟨b, xs, lo, hi, rfl, ⟨o, st₃.agree _ _ h2', h3, n, h4⟩, by rw [hl]; exact hz, pl, pu, slice_end (b := b) ((n₁.trans n₂).trans n₃) st₃ (h5.mono (n₂.hle.trans n₃.hle)) q₃⟩

theorem ev_slice_own {lower upper : Option Expr} {px p pos : Pos} (hx : loc.lookup x = some (.own a As)) (hz : As.length ≤ sizeLine)
    (h : Pt Γ loc lower (fun lo l₁ => Pt Γ l₁ upper (fun hi l₂ => l₂.lookup x = some (.own a As) ∧ Q (.lst (slc As lo hi)) l₂) X) X)
    (hd : (x == ("__debug__" : Str)) = false := by decide) (hn : (x == ("__classdict__" : Str)) = false := by decide) : Ev Γ loc (.Subscript (.Name x px) (.Slice lower upper none p) pos) (VQ Q) X := by
  intro H O s st
  obtain ⟨v, hv, b, rfl, hO, rfl, _⟩ := st.vars x _ hx
  refine wpAny_Subscript_list_slice (wpAny_Name (wp_var st.kind hv ?_ hn) hd)
  refine wpAny_mono (wp_pt h st) (fun vl s₂ pq => ?_) fun _ _ p => p
  obtain ⟨H₂, O₂, l₂, lo, n₂, st₂, pl, q₂⟩ := pq
  refine wpAny_mono (wp_pt q₂ st₂) (fun vu s₃ pq => ?_) fun _ _ p => p.back n₂
  obtain ⟨H₃, O₃, l₃, hi, n₃, st₃, pu, hx₃, q₃⟩ := pq
  obtain ⟨v', hv', b', rfl, hO', rfl, o, xs, n, e, hc, hdat, hp, hr⟩ := st₃.vars x _ hx₃
  have hl : xs.size = As.length := by rw [← hr.length]; simp
  exact ⟨a, xs, lo, hi, rfl, ⟨o, e, hc, n, hdat⟩, by rw [hl]; exact hz, pl, pu, slice_end (b := a) (n₂.trans n₃) st₃ hr q₃⟩

/-! ### the frame's own lists are changed -/
/-- the object of an own list is written anew -/
theorem StH.ownSet {H : Hm} {O : OSet} {h h' : Heap} {os : OsState} {g : Array GenState} {Bs : List V} (st : StH Γ H O loc h os g) (hx : loc.lookup x = some (.own a As)) (hsb : Heap.SameBut a h h') (hn : OwnL H h' a Bs) :
    StH Γ H O ((x, .own a Bs) :: loc) h' os g := by
  obtain ⟨v, hv, b, rfl, hO, rfl, hol⟩ := st.vars x _ hx
  have ap := st.apart x a _ hx rfl hv
  have ne : ∀ y lv, loc.lookup y = some lv → lv.mine = true → y ≠ x → ∀ b, VarIs Γ.env h y (.ref b) → b ≠ a := fun y lv ey m hne b hb z => by
    subst z; exact hne (st.sep y x b lv _ ey hx m rfl hb hv)
  have kv : ∀ y w, VarIs Γ.env h y w → VarIs Γ.env h' y w := fun y w hy => hy.sameW (F := Γ.F) fun b o e z => ⟨o, (hsb.2 b fun q => by
    rcases z with z | ⟨c, z⟩
    · exact ap.1 (q ▸ z)
    · exact ap.2 c b z q.symm).trans e, .refl ..⟩
  have back : ∀ y w lv, loc.lookup y = some lv → VarIs Γ.env h' y w → VarIs Γ.env h y w := fun y w lv e hy => by
    obtain ⟨w', hw, _⟩ := st.vars y lv e
    have := (kv y w' hw).inj hy
    subst this; exact hw
  exact
  { base := fun b o e => (hsb.2 b fun z => by subst z; rw [st.obase _ hO] at e; cases e).trans (st.base b o e)
    agree := fun b o e => (hsb.2 b fun z => by subst z; rw [st.ohm _ hO] at e; cases e).trans (st.agree b o e)
    nofr := st.nofr
    os := st.os
    gens := st.gens
    obase := st.obase
    ohm := st.ohm
    othere := fun b hb => by
      by_cases z : b = a
      · subst z; obtain ⟨o, _, _, e, _⟩ := hn; exact ⟨o, e⟩
      · obtain ⟨o, e⟩ := st.othere b hb; exact ⟨o, (hsb.2 b z).trans e⟩
    kind := st.kind
    ns := let ⟨m, hm⟩ := st.ns; ⟨m, hm.sameBut hsb fun z => ap.1 z.symm⟩
    onsO := st.onsO
    vars := fun y lv e => by
      by_cases hy : y = x
      · subst hy
        rw [lookup_cons_self] at e; cases e
        exact ⟨_, kv _ _ hv, a, rfl, hO, rfl, hn⟩
      · rw [lookup_cons_ne hy] at e
        obtain ⟨w, hw, hl⟩ := st.vars y lv e
        refine ⟨w, kv y w hw, hl.keep (fun _ q => q) fun b o m ew eo => (hsb.2 b ?_).trans eo⟩
        subst ew; exact ne y lv e m hy b hw
    sep := fun y z b l1 l2 e1 e2 m1 m2 v1 v2 => by
      have g : ∀ y l, List.lookup y ((x, .own a Bs) :: loc) = some l → l.mine = true → ∃ l', loc.lookup y = some l' ∧ l'.mine = true := fun y l e m => by
        by_cases hy : y = x
        · subst hy; exact ⟨_, hx, rfl⟩
        · rw [lookup_cons_ne hy] at e; exact ⟨l, e, m⟩
      obtain ⟨l1', e1', m1'⟩ := g y l1 e1 m1
      obtain ⟨l2', e2', m2'⟩ := g z l2 e2 m2
      exact st.sep y z b l1' l2' e1' e2' m1' m2' (back y _ l1' e1' v1) (back z _ l2' e2' v2)
    apart := fun y b l1 e1 m1 v1 => by
      by_cases hy : y = x
      · subst hy; exact st.apart y b _ hx rfl (back y _ _ hx v1)
      · rw [lookup_cons_ne hy] at e1
        exact st.apart y b l1 e1 m1 (back y _ l1 e1 v1)
    cells := fun y c e => by
      obtain ⟨h1, o, w, e1, e2⟩ := st.cells y c e
      exact ⟨h1, o, w, (hsb.2 c fun z => ap.2 y c e z.symm).trans e1, e2⟩
    cne := st.cne
    cinj := st.cinj
    frames := st.frames.sameW fun b o e ⟨l, hl, env, he, hf⟩ => ⟨o, (hsb.2 b fun z => by
      obtain ⟨l', hl', r⟩ := st.frames
      rw [hl] at hl'; cases hl'
      obtain ⟨_, L, o', es, ep, h2, h3, h4, _⟩ := r env he
      rw [hf] at h2; cases h2
      obtain ⟨o'', xs, n, e'', _, d'', _⟩ := hol
      rw [z, e''] at h3; cases h3
      rw [d''] at h4; cases h4).trans e, .refl ..⟩ }
theorem Nx.ownSet {F : Fix} {H₀ H : Hm} {O₀ O : OSet} {h₀ h h' : Heap} (n : Nx F H₀ O₀ h₀ H O h) (hO : O a) (hsb : Heap.SameBut a h h') (ht : ∃ o, h'.get? a = some o) : Nx F H₀ O₀ h₀ H O h' :=
  n.then (fun b o e hb _ => ⟨o, (hsb.2 b fun z => hb (z ▸ hO)).trans e, .refl ..⟩) (fun b o e _ => by
    by_cases z : b = a
    · exact z ▸ ht
    · exact ⟨o, (hsb.2 b z).trans e⟩) (.refl _) (fun b o e => .inl e) fun b e => .inl e

/-- x.append(e), as a statement -/
theorem ex_append {px apos pos spos : Pos} {e : Expr} (hx : loc.lookup x = some (.own a As)) (h : Ev Γ loc e (VQ fun B l => ∃ Bs, l.lookup x = some (.own a Bs) ∧ Bs.length < sizeLine ∧ QF .next ((x, .own a (Bs ++ [B])) :: l)) X)
    (he : ∃ pl, eval (.Call (.Attribute (.Name x px) (Str.ofString "append") apos) [e] [] pos) Γ.env = (do
      let ov ← eval (.Name x px) Γ.env
      standAt apos.atName
      let (f, first) ← holding [ov] (getMethod ov (Str.ofString "append") pl)
      callWith pos f first (backTo pos (starEach [e] Γ.env)) []) := by exact ⟨_, rfl⟩)
    (hse : starEach [e] Γ.env = [(false, eval e Γ.env)] := by rfl)
    (hi : interactive Γ.env = false := by rfl) (hw : swapsWith (.Call (.Attribute (.Name x px) (Str.ofString "append") apos) [e] [] pos) none spos.line Γ.env = pure false := by rfl)
    (hd : (x == ("__debug__" : Str)) = false := by decide) (hn : (x == ("__classdict__" : Str)) = false := by decide) :
    Ex1 Γ loc (.Expr (.Call (.Attribute (.Name x px) (Str.ofString "append") apos) [e] [] pos) spos) QF X := by
  intro H O s st
  obtain ⟨pl, he⟩ := he
  refine wpAny_Expr (MethodCall_ (pl := pl) ?_ he) hi hw
  obtain ⟨v, hv, b, rfl, hO, rfl, o, xs, n, eo, hc, hdat, hp, hr⟩ := st.vars x _ hx
  refine wpAny_Name (wp_var st.kind hv ?_ hn) hd
  refine PySem.Calls.getMethod_list_append eo hc hp.1 ?_
  refine callWith_method1 ?_ hse rfl
  show wpAny _ _ (spliced (backTo pos (starEach [e] Γ.env))) _ _ _
  rw [hse]
  refine Calls.spliced_cons (wpAny_mono (h H O s st) (fun y s₁ pq => ?_) fun _ _ p => p)
  obtain ⟨H₁, O₁, l₁, lv, n₁, st₁, r₁, q₁⟩ := pq
  cases lv with
  | own _ _ => exact q₁.elim
  | itr _ => exact q₁.elim
  | val B =>
    obtain ⟨Bs, hx₁, hz, q⟩ := q₁
    refine Calls.spliced_nil ?_
    obtain ⟨v', hv', b', rfl, hO', rfl, o', xs', n', eo', hc', hdat', hp', hr'⟩ := st₁.vars x _ hx₁
    have hl : xs'.size = Bs.length := by rw [← hr'.length]; simp
    have hpl : s₁.heap.PlainList a xs' := by
      obtain ⟨c, d, dt, sl⟩ := o'
      obtain ⟨rfl, rfl⟩ := hp'
      simp only at hc' hdat'
      subst hc' hdat'
      exact ⟨n', eo'⟩
    refine wpAny_list_append_plain hpl (fun h₂ hl₂ hs₂ => ?_) (by rw [hl]; exact Nat.le_of_lt hz)
    obtain ⟨n₂, e₂⟩ := hl₂
    have ol : OwnL H₁ h₂ a (Bs ++ [B]) := ⟨_, _, n₂, e₂, rfl, rfl, ⟨rfl, rfl⟩, by rw [Array.toList_push]; exact hr'.append (reps_cons r₁ (reps_nil _))⟩
    exact ⟨H₁, O₁, _, .next, n₁.ownSet hO' hs₂ ⟨_, e₂⟩, st₁.ownSet hx₁ hs₂ ol, rfl, q⟩
end
end Mine
end
section
open PySem PySem.W PyProof.Rows
set_option linter.unusedVariables false
namespace Mine

/-! ## try, except -/
def Cx.isFn (Γ : Cx) : Prop := (∀ l, Γ.A.frames = some l → ∃ outer, l = Γ.env :: outer) ∧ ∃ L, Γ.env.frame = some L
theorem isFn_fn (F : Fix) (A : Around) (fd : FuncData) (a L : Addr) : (F.fn A fd a L).isFn := by
  refine ⟨fun l hl => ?_, L, rfl⟩
  have hl' : A.frames.map (callEnvC fd L a :: ·) = some l := hl
  cases h : A.frames with
  | none => rw [h] at hl'; cases hl'
  | some l₀ => rw [h] at hl'; cases hl'; exact ⟨l₀, rfl⟩

def Cx.mark (Γ : Cx) (e : Value) : Cx := { Γ with A := Γ.A.mark (some e) }
theorem StH.mark {Γ : Cx} {H : Hm} {O : OSet} {loc : Loc} {h : Heap} {os : OsState} {g : Array GenState} (st : StH Γ H O loc h os g) (e : Value) : StH (Γ.mark e) H O loc h os g := { st with frames := st.frames }
theorem StH.unmark {Γ : Cx} {H : Hm} {O : OSet} {loc : Loc} {h : Heap} {os : OsState} {g : Array GenState} {e : Value} (st : StH (Γ.mark e) H O loc h os g) : StH Γ H O loc h os g := { st with frames := st.frames }

def Matches (F : Fix) (cls tv : Value) (b : Bool) : Prop :=
  ∀ (M : Model) (A : Around) (E : Value → Shared → Prop) (s : Shared) (e : Addr) (o : Obj) (Q : Bool → Shared → Prop), (∀ b o, F.h₁.get? b = some o → s.heap.get? b = some o) → s.heap.get? e = some o → o.cls = cls → Q b s → wpAny M A (excMatches (.ref e) tv) Q E s
theorem matches_types {F : Fix} {X T : String} {b : Bool} (hexc : isSubtype (.type T) (.type "BaseException") = pure true) (hnt : isSubtype (.type ((Manifest.find? T).elim "type" fun x => x.metatype)) (.type "tuple") = pure false)
    (hsub : isSubtype (.type X) (.type T) = pure b) : Matches F (.type X) (.type T) b :=
  fun M A E s e o Q hk he hc h => wpAny_excMatches_type ⟨o, he, hc⟩ hexc hnt hsub h
theorem matches_overflow {F : Fix} : Matches F (.type "OverflowError") (.type "OverflowError") true :=
  matches_types (by rw [isSubtype_type]; kernel_rfl) (by rw [isSubtype_type]; kernel_rfl) (by rw [isSubtype_type]; kernel_rfl)
theorem matches_overflow_value {F : Fix} : Matches F (.type "OverflowError") (.type "ValueError") false :=
  matches_types (by rw [isSubtype_type]; kernel_rfl) (by rw [isSubtype_type]; kernel_rfl) (by rw [isSubtype_type]; kernel_rfl)
theorem matches_value {F : Fix} : Matches F (.type "ValueError") (.type "ValueError") true :=
  matches_types (by rw [isSubtype_type]; kernel_rfl) (by rw [isSubtype_type]; kernel_rfl) (by rw [isSubtype_type]; kernel_rfl)
theorem matches_type_value {F : Fix} : Matches F (.type "TypeError") (.type "ValueError") false :=
  matches_types (by rw [isSubtype_type]; kernel_rfl) (by rw [isSubtype_type]; kernel_rfl) (by rw [isSubtype_type]; kernel_rfl)

section
variable {Γ : Cx} {loc : Loc} {Q : V → Loc → Prop} {QL : LV → Loc → Prop} {QB : Bool → Loc → Prop} {QF : Fl → Loc → Prop} {X : Exc → Loc → Prop} {x : Exc}

/-- the handlers, an exception having landed -/
def Hd (Γ : Cx) (loc : Loc) (x : Exc) (hs : List ExceptHandler) (Q : Fl → Loc → Prop) (X : Exc → Loc → Prop) : Prop :=
  ∀ H₀ O₀ s₀ loc₀ H O s e, St Γ H₀ O₀ loc₀ s₀ → Nx Γ.F H₀ O₀ s₀.heap H O s.heap → St Γ H O loc s → FlyT H O s₀.heap s.heap e x →
    wpAny Γ.M Γ.A (handleBy e Γ.env hs) (PostF Γ H₀ O₀ s₀ Q) (PostX Γ H₀ O₀ s₀ X) s

theorem ex_try {body : List Stmt} {h₀ : ExceptHandler} {hs : List ExceptHandler} {pos : Pos} (hf : Γ.isFn) (h : Exs Γ loc body QF (fun x l => Hd Γ l x (h₀ :: hs) QF X)) : Ex1 Γ loc (.Try body (h₀ :: hs) [] [] pos) QF X := by
  intro H O s st
  refine wpAny_Try_except (wpAny_mono (h H O s st) (fun f s₁ p => ?_) fun e s₁ p => ?_)
  · cases f with
    | next => exact wpAny_execs_nil p
    | _ => exact p
  · obtain ⟨H₁, O₁, l₁, x, n₁, st₁, fl, q⟩ := p
    obtain ⟨l, hl, _⟩ := st.frames
    obtain ⟨outer, rfl⟩ := hf.1 l hl
    obtain ⟨L, hL⟩ := hf.2
    refine wp_note st n₁ st₁ fl hl hL fun h₂ n₂ st₂ fl₂ => ?_
    refine wp_setFlight (s := { s₁ with heap := h₂ }) st n₂ st₂ fl₂ fun h₃ n₃ st₃ fl₃ => ?_
    exact q H O s loc H₁ O₁ { s₁ with heap := h₃ } e st n₃ st₃ fl₃

theorem FlyT.ref {H : Hm} {O : OSet} {h₀ h : Heap} {e : Value} (f : FlyT H O h₀ h e x) : ∃ a o, e = .ref a ∧ h.get? a = some o ∧ o.cls = x.cls := by
  obtain ⟨a, o, vs, tb, otb, tvs, h1, h2, h3, h4, h5, h6, _⟩ := f.is
  exact ⟨a, o, h1, h5, h6⟩

theorem hd_no {t : Str} {tp pos : Pos} {tv : Value} {n : Option Str} {suite : List Stmt} {hs : List ExceptHandler} (g : GlobAt Γ.F t tv) (m : Matches Γ.F x.cls tv false) (h : Hd Γ loc x hs QF X)
    (hk : Γ.env.kindOf t = some .globalImplicit := by rfl) (hg : Γ.env.globals = mainGlobals := by rfl) (hb : Γ.env.builtins = builtinsNs := by rfl)
    (hd : (t == ("__debug__" : Str)) = false := by decide) : Hd Γ loc x (.ExceptHandler (some (.Name t tp)) n suite pos :: hs) QF X := by
  intro H₀ O₀ s₀ loc₀ H O s e st₀ nx st fl
  obtain ⟨a, o, rfl, ho, hc⟩ := fl.ref
  refine wpAny_handleBy_cons (codeAny_handlers_test ?_) (by intro q; cases q)
  refine Calls.Name_function_global st.kind hk (wp_glob st g ?_ hg hb) hd
  exact m _ _ _ s a o _ st.base ho hc (h H₀ O₀ s₀ loc₀ H O s _ st₀ nx st fl)

/-- what leaves the suite of a handler -/
theorem wp_came {H₀ H₁ : Hm} {O₀ O₁ : OSet} {s₀ s₁ : Shared} {loc₀ l₁ : Loc} {e ex : Value} {x' : Exc} {outer : List Env} {L : Addr} (st₀ : St Γ H₀ O₀ loc₀ s₀) (n : Nx Γ.F H₀ O₀ s₀.heap H₁ O₁ s₁.heap) (st : St (Γ.mark e) H₁ O₁ l₁ s₁) (fl : Fly H₁ O₁ s₀.heap s₁.heap ex x') (q : X x' l₁)
    (hl : Γ.A.frames = some (Γ.env :: outer)) (hL : Γ.env.frame = some L) : notedBy Γ.M (Γ.A.mark (some e)) Γ.env (cameBackBy Γ.M Γ.A Γ.env (PostX Γ H₀ O₀ s₀ X)) ex s₁ := by
  refine wp_note (Γ := Γ.mark e) (st₀.mark e) n st fl hl hL fun h₂ n₂ st₂ fl₂ => ?_
  obtain ⟨a, o, vs, tb, otb, tvs, rfl, h2, h3, h4, h5, h6, h7, h8, k1, k⟩ := id fl₂.is
  refine wpAny_bind (wpAny_field h5 h7 k1 ?_)
  rw [if_neg (by simp)]
  exact wp_setFlight (Γ := Γ) (s := { s₁ with heap := h₂ }) st₀ n₂ st₂.unmark fl₂ fun h₃ n₃ st₃ fl₃ => ⟨H₁, O₁, l₁, x', n₃, st₃, fl₃.fly, q⟩

theorem hd_yes {t : Str} {tp pos : Pos} {tv : Value} {b₀ : Stmt} {suite : List Stmt} {hs : List ExceptHandler} (hf : Γ.isFn) (g : GlobAt Γ.F t tv) (m : Matches Γ.F x.cls tv true) (h : ∀ e, Exs (Γ.mark e) loc (b₀ :: suite) QF X)
    (hk : Γ.env.kindOf t = some .globalImplicit := by rfl) (hg : Γ.env.globals = mainGlobals := by rfl) (hb : Γ.env.builtins = builtinsNs := by rfl)
    (hd : (t == ("__debug__" : Str)) = false := by decide) : Hd Γ loc x (.ExceptHandler (some (.Name t tp)) none (b₀ :: suite) pos :: hs) QF X := by
  intro H₀ O₀ s₀ loc₀ H O s e st₀ nx st fl
  obtain ⟨a, o, rfl, ho, hc⟩ := fl.ref
  obtain ⟨l, hl, _⟩ := st.frames
  obtain ⟨outer, rfl⟩ := hf.1 l hl
  obtain ⟨L, hL⟩ := hf.2
  refine wpAny_handleBy_cons (codeAny_handlers_test ?_) (by intro q; cases q)
  refine Calls.Name_function_global st.kind hk (wp_glob st g ?_ hg hb) hd
  refine m _ _ _ s a o _ st.base ho hc ?_
  refine codeAny_handlers_suite ?_
  refine wp_setFlight (Γ := Γ.mark (.ref a)) (st₀.mark _) nx (st.mark _) fl fun h₁ n₁ st₁ fl₁ => ?_
  refine wpAny_mono (h (.ref a) H O { s with heap := h₁ } st₁) (fun f s₂ p => ?_) fun ex s₂ p => ?_
  · obtain ⟨H₂, O₂, l₂, flw, n₂, st₂, r₂, q₂⟩ := p
    exact ⟨H₂, O₂, l₂, flw, n₁.trans n₂, st₂.unmark, r₂, q₂⟩
  · obtain ⟨H₂, O₂, l₂, x', n₂, st₂, f₂, q₂⟩ := p
    exact wp_came st₀ (n₁.trans n₂) st₂ (f₂.back n₁) q₂ hl hL
end
end Mine
end
section
open PySem PySem.W PyProof.Rows
set_option linter.unusedVariables false
set_option maxRecDepth 100000
namespace Mine

/-! ## isinstance of a list's iterator -/
theorem li_slot : Slot "list_iterator" "__getattribute__" "object.__getattribute__" :=
  .of (owner := "object") (n := "__getattribute__") (by rw [typeLookup_type, builtinLookup_eq_fast]; kernel_rfl) (by decide +kernel) (by decide +kernel) (by decide +kernel)
    (by first | exact .inl (by decide +kernel) | exact .inr (by decide +kernel)) (by rw [isSubtype_type]; kernel_rfl)
theorem li_args (a b : Value) : argsOk "object.__getattribute__" ⟨[a, b], []⟩ := by unfold argsOk; kernel_rfl
theorem li_entry : entryFor table "object.__getattribute__" = some Builtin.«object.__getattribute__» := entryFor_of_tree (by kernel_rfl)
theorem li_class : typeLookup (.type "list_iterator") "__class__" = pure (some (.builtin "object.__class__")) := by rw [typeLookup_type, builtinLookup_eq_fast]; kernel_rfl
theorem li_owner : isSubtype (.type "list_iterator") (.type (".".intercalate ("object.__class__".cutAt '.').dropLast)) = pure true := by
  rw [F.owner_object_class, isSubtype_type]; kernel_rfl

section
variable {prog : Program} {w : World} {A : Around} {E : Value → Shared → Prop} {h : Heap} {g : Array GenState} {d : Drawn} {t : Nat} {os : OsState} {a : Addr} {o : Obj}
theorem li_get {R : Result → Shared → Prop} (hx : h.get? a = some o) (hc : o.cls = .type "list_iterator") (hq : R (.ok (.ret (.type "list_iterator"))) ⟨h, g, d, t, os⟩) :
    codeAny (model prog w) A (.call (.builtin "getset_descriptor.__get__") ⟨[.builtin "object.__class__", .ref a, .type "list_iterator"], []⟩) R ⟨h, g, d, t, os⟩ := by
  have hT : (⟨h, g, d, t, os⟩ : Shared).TypeIs (.ref a) "list_iterator" := ⟨_, hx, hc⟩
  have hT5 : (⟨h, g, d, t, os⟩ : Shared).TypeIs (.builtin "object.__class__") "getset_descriptor" := F.typeOf_object_class
  have f8 := li_owner
  refine codeAny_call_builtin F.slot_gs_get.plain F.entry_gs_get (F.slot_gs_get.check _ _ _ _ _ _ _ _ hT5 (F.args_gs_get _ _ _) ?_)
  repeat (any_goals (first | assumption | wp_step))
  refine ⟨Code.quiet_builtin _ (by decide +kernel), codeAny_builtin F.entry_object_class ?_⟩
  repeat (any_goals (first | assumption | wp_step))
theorem li_own {tk : Tok} {Q : Fin → Shared → Prop} (hx : h.get? a = some o) (hc : o.cls = .type "list_iterator") (hq : Q (.done (.ret (.type "list_iterator"))) ⟨h, g, d, t, os⟩) :
    wpAny (model prog w) A (Builtin.«object.__getattribute__» ⟨[.ref a, .str "__class__" tk], []⟩) Q E ⟨h, g, d, t, os⟩ := by
  have hT : (⟨h, g, d, t, os⟩ : Shared).TypeIs (.ref a) "list_iterator" := ⟨_, hx, hc⟩
  have hT5 : (⟨h, g, d, t, os⟩ : Shared).TypeIs (.builtin "object.__class__") "getset_descriptor" := F.typeOf_object_class
  have f4 := li_class
  have f5 := F.typeOf_object_class
  have f6 := F.slot_gs_get.lookup
  have f7 := F.slot_gs_set.lookup
  repeat (any_goals (first | assumption | wp_step))
  refine li_get hx hc ?_
  repeat (any_goals (first | assumption | wp_step))
theorem li_call {tk : Tok} {R : Result → Shared → Prop} (hx : h.get? a = some o) (hc : o.cls = .type "list_iterator") (hq : R (.ok (.ret (.type "list_iterator"))) ⟨h, g, d, t, os⟩) :
    codeAny (model prog w) A (.call (.builtin "object.__getattribute__") ⟨[.ref a, .str "__class__" tk], []⟩) R ⟨h, g, d, t, os⟩ :=
  codeAny_call_builtin li_slot.plain li_entry (li_slot.check _ _ _ _ _ _ _ _ (show (⟨h, g, d, t, os⟩ : Shared).TypeIs (.ref a) "list_iterator" from ⟨_, hx, hc⟩) (li_args _ _) (li_own hx hc hq))
theorem li_by {tk : Tok} {Q : Value → Shared → Prop} (hx : h.get? a = some o) (hc : o.cls = .type "list_iterator") (hq : Q (.type "list_iterator") ⟨h, g, d, t, os⟩) : wpAny (model prog w) A (getAttrBy (.ref a) (.str "__class__" tk) false) Q E ⟨h, g, d, t, os⟩ := by
  have hT : (⟨h, g, d, t, os⟩ : Shared).TypeIs (.ref a) "list_iterator" := ⟨_, hx, hc⟩
  have f2 := li_slot.lookup
  have f3 := li_slot.bind (.ref a)
  repeat (any_goals (first | assumption | wp_step))
  refine li_call hx hc ?_
  repeat (any_goals (first | assumption | wp_step))
theorem li_attr {Q : Option Value → Shared → Prop} (hx : h.get? a = some o) (hc : o.cls = .type "list_iterator") (hq : Q (some (.type "list_iterator")) ⟨h, g, d, t + 1, os⟩) : wpAny (model prog w) A (getAttr? (.ref a) "__class__") Q E ⟨h, g, d, t, os⟩ := by
  unfold getAttr? getAttrBy?
  repeat (any_goals (first | assumption | with_reducible apply li_by hx hc | wp_step))
theorem li_nested {T : String} {dep : Int} {tk : Tok} {Q : Fin → Shared → Prop} (hx : h.get? a = some o) (hc : o.cls = .type "list_iterator") (hne : (Value.type "list_iterator" == Value.type T) = false) (hty : typeOf (.type T) = pure (.type "type"))
    (hsub : isSubtype (.type "list_iterator") (.type T) = pure false) (hq : Q (.done (.ret (.bool false))) ⟨h, g, d, t + 1, os⟩) :
    wpAny (model prog w) A (Builtin.«isinstance.nested» ⟨[.ref a, .type T, .int dep tk], []⟩) Q E ⟨h, g, d, t, os⟩ := by
  have hT : (⟨h, g, d, t, os⟩ : Shared).TypeIs (.ref a) "list_iterator" := ⟨_, hx, hc⟩
  repeat (any_goals (first | assumption | with_reducible apply li_attr hx hc | wp_step))
end
theorem li_answers {a : Addr} {T : String} (hne : (Value.type "list_iterator" == Value.type T) = false) (hty : typeOf (.type T) = pure (.type "type")) (hsub : isSubtype (.type "list_iterator") (.type T) = pure false) :
    Answers (fun s => s.TypeIs (.ref a) "list_iterator") (.ref a) (.type T) false :=
  fun _ _ _ _ _ _ s hs => by
    obtain ⟨h, g, d, t, os⟩ := s
    obtain ⟨⟨o, hx, hc⟩, hq⟩ := hs
    exact li_nested hx hc hne hty hsub (hq (t + 1))
end Mine
end
section
open PySem PySem.W PyProof.Rows
set_option linter.unusedVariables false
set_option maxRecDepth 100000
namespace Mine
theorem fs_entry : entryFor table "math.fsum" = some Builtin.«math.fsum» := entryFor_of_tree (by kernel_rfl)
theorem fs_entry_loop : entryFor table "math.fsum.loop" = some Builtin.«math.fsum.loop» := entryFor_of_tree (by kernel_rfl)
theorem fs_plain : plainId "math.fsum" = true := by decide +kernel
theorem fs_plain_loop : plainId "math.fsum.loop" = true := by decide +kernel
theorem fs_args (a : Value) : argsOk "math.fsum" ⟨[a], []⟩ := by unfold argsOk; kernel_rfl
theorem fs_kind : builtinKind "math.fsum" = none := by decide +kernel

/-- the float of a number; none: too great -/
def V.real : V → Option UInt64
  | .flt x => some x
  | .int i => if Float64.isInf (Float64.ofInt i) then Option.none else some (Float64.ofInt i)
  | .bool b => some (Float64.ofInt (if b then 1 else 0))
  | _ => Option.none
def V.fin : V → Prop
  | .flt x => Float64.isFinite x = true
  | .int _ => True
  | .bool _ => True
  | _ => False

/-- what fsum comes to; none: OverflowError -/
def fsumRun : List UInt64 → List V → Option UInt64
  | ps, [] => some (Float64.fsumEnd ps)
  | ps, A :: As =>
    match A.real with
    | none => none
    | some x => if Float64.isFinite (Float64.fsumAdd ps x).2 then fsumRun (if Float64.isZero (Float64.fsumAdd ps x).2 then (Float64.fsumAdd ps x).1 else (Float64.fsumAdd ps x).1 ++ [(Float64.fsumAdd ps x).2]) As else none

theorem bits_back (x : UInt64) : (Int.ofNat x.toNat).toNat.toUInt64 = x := by simp
theorem pack_back (ps : List UInt64) {f : Value → UInt64} (hf : ∀ x : UInt64, f (rawInt x.toNat) = x) : (ps.map fun x => rawInt x.toNat).map f = ps := by
  induction ps with
  | nil => rfl
  | cons x xs ih => simp only [List.map_cons, ih, hf]

theorem fsumAdd_length (ps : List UInt64) : ∀ x, (Float64.fsumAdd ps x).1.length ≤ ps.length := by
  induction ps with
  | nil => intro x; simp [Float64.fsumAdd]
  | cons y ps ih =>
    intro x
    simp only [Float64.fsumAdd]
    generalize (if Float64.lt (Float64.abs x) (Float64.abs y) = true then (y, x) else (x, y)) = p
    obtain ⟨a, b⟩ := p
    have := ih (Float64.add a b)
    split <;> simp only [List.length_cons] <;> omega

theorem real_fin {A : V} {x : UInt64} (h : A.fin) (e : A.real = some x) : Float64.isFinite x = true := by
  cases A with
  | flt y => simp only [V.real, Option.some.injEq] at e; subst e; exact h
  | int i =>
    simp only [V.real] at e
    split at e
    · cases e
    · rename_i hi; cases e
      have hn : Float64.isInf (Float64.ofInt i) = false := by simpa using hi
      exact PySem.Flt.finite_ofInt (fun c => by have := PySem.Flt.inf_of_over c; rw [this] at hn; cases hn)
  | bool b => cases b <;> (simp only [V.real, Option.some.injEq] at e; subst e; decide +kernel)
  | none => exact h.elim
  | str _ => exact h.elim
  | tup _ => exact h.elim
  | lst _ => exact h.elim
  | con _ => exact h.elim
  | rng _ _ _ => exact h.elim
  | exc _ _ => exact h.elim

section
variable {prog : Program} {w : World} {A : Around}

theorem slot_bool_float : Slot "bool" "__float__" "int.__float__" :=
  .of (owner := "int") (n := "__float__") (by rw [typeLookup_type, builtinLookup_eq_fast]; kernel_rfl) (by decide +kernel) (by decide +kernel) (by decide +kernel)
    (by first | exact .inl (by decide +kernel) | exact .inr (by decide +kernel)) (by rw [isSubtype_type]; kernel_rfl)
theorem bool_not_over (b : Bool) : ¬ Float64.isInf (Float64.ofInt (if b then 1 else 0)) = true := by cases b <;> decide +kernel
theorem gives_bool_float (b : Bool) : Gives (Builtin.«int.__float__» ⟨[.bool b], []⟩) (.float (Float64.ofInt (if b then 1 else 0))) :=
  .of_wp fun M A E s Q h => by
    have hc := bool_not_over b
    obtain ⟨hp, g, d, tk, os⟩ := s
    wp_walk
    all_goals first | exact ⟨_, rfl, h⟩ | skip
/-- realArg of a number -/
theorem wp_real {s : Shared} {H : Hm} {B : V} {v : Value} {Q : UInt64 → Shared → Prop} {E : Value → Shared → Prop} (hA : A.handled = none) (hB : B.fin) (r : Rep H B v)
    (h0 : B.real = none → PySem.Flt.Throws "OverflowError" E s) (h : ∀ x tk, B.real = some x → Q x { s with toks := tk }) : wpAny (model prog w) A (Builtin.Math.realArg v) Q E s := by
  cases B with
  | flt x =>
    obtain ⟨t, rfl⟩ := r.flt_of
    have := h x s.toks rfl
    obtain ⟨hp, g, d, tk, os⟩ := s
    unfold Builtin.Math.realArg
    wp_walk
    exact this
  | int i =>
    obtain ⟨t, rfl⟩ := r.int_of
    refine PySem.Flt.realArg_int hA (fun c => h0 ?_) fun c => h _ _ ?_
    · simp only [V.real, PySem.Flt.inf_of_over c, if_true]
    · simp only [V.real]; rw [if_neg (PySem.Flt.fin_of_fits c)]
  | bool b =>
    cases r.bool_of
    have h' := fun tk => h _ tk rfl
    have hT : s.TypeIs (.bool b) "bool" := rfl
    obtain ⟨hp, g, d, tk, os⟩ := s
    have f3 := slot_bool_float.lookup
    have f4 := slot_bool_float.bind (.bool b)
    unfold Builtin.Math.realArg
    repeat (any_goals (first | assumption | ((with_reducible show wpAny _ _ (call (Value.builtin "int.__float__") _ _) _ _ _); refine call_gives slot_bool_float hT PySem.F.entry_int_float (PySem.F.args_int_float_1 _) (gives_bool_float b) ?_; dsimp only [Made.post]) | wp_step))
    all_goals first | exact h' _ | skip
  | none => exact hB.elim
  | str _ => exact hB.elim
  | tup _ => exact hB.elim
  | lst _ => exact hB.elim
  | con _ => exact hB.elim
  | rng _ _ _ => exact hB.elim
  | exc _ _ => exact hB.elim

/-- what a builtin that walks along an iterator leaves -/
def Grow (I : Addr → Prop) (h h' : Heap) : Prop := ∀ b o, ¬ I b → h.get? b = some o → h'.get? b = some o
theorem Grow.refl (I : Addr → Prop) (h : Heap) : Grow I h h := fun _ _ _ e => e
theorem Grow.trans {I : Addr → Prop} {h h' h'' : Heap} (x : Grow I h h') (y : Grow I h' h'') : Grow I h h'' := fun b o hb e => y b o hb (x b o hb e)
theorem Grow.push (I : Addr → Prop) (h : Heap) (o : Obj) : Grow I h (h.push o) := fun b o _ e => Heap.get?_push_of_some _ e

/-- the answer of a run of a builtin -/
abbrev Answer (Q : Value → Shared → Prop) (E : Value → Shared → Prop) : Result → Shared → Prop := fun r s' => match r with | .ok (.ret v) => Q v s' | .ok _ => False | .error e => E e s'

def nextPs (ps : List UInt64) (x : UInt64) : List UInt64 := if Float64.isZero (Float64.fsumAdd ps x).2 then (Float64.fsumAdd ps x).1 else (Float64.fsumAdd ps x).1 ++ [(Float64.fsumAdd ps x).2]
theorem nextPs_length (ps : List UInt64) (x : UInt64) : (nextPs ps x).length ≤ ps.length + 1 := by
  have := fsumAdd_length ps x
  unfold nextPs
  split
  · omega
  · simp; omega

/-- the end of a walk; the iterator is still there, where that is asked -/
def Last (prog : Program) (w : World) (A : Around) (I : Addr) (n : Nat) (W : Nat → Heap → Prop) (L : Prop) : Prop :=
  ∀ (s : Shared) (Q : Option Value → Shared → Prop) (E : Value → Shared → Prop), W n s.heap → (∀ h' tk, (∀ b o, b ∉ [I] → s.heap.get? b = some o → h'.get? b = some o) → (L → ∃ o, h'.get? I = some o) → Q none { s with heap := h', toks := tk }) →
    wpAny (model prog w) A (pyNext (.ref I)) Q E s
theorem Last.of_walks {I : Addr} {fp : List Addr} {n : Nat} {P : Nat → Value → Prop} {W : Nat → Heap → Prop} {L : Prop} (Wk : Walks prog w A I fp [I] n P W) (hL : ¬ L) : Last prog w A I n W L :=
  fun s Q E hw h => Wk.done s Q E hw fun h' tk hk => h h' tk hk fun z => absurd z hL

theorem fsum_loop {L : Prop} {H : Hm} {I : Addr} {fp : List Addr} {n : Nat} {P : Nat → Value → Prop} {W : Nat → Heap → Prop} {As : List V} {Q : Value → Shared → Prop} {E : Value → Shared → Prop} (hA : A.handled = none) (Wk : Walks prog w A.in1 I fp [I] n P W) (La : Last prog w A.in1 I n W L) (hn : As.length = n)
    (hz : n < sizeLine) (hth : ∀ i h, W i h → ∃ o, h.get? I = some o) (hi : ∀ i v, i < n → P i v → ∃ B, As[i]? = some B ∧ Rep H B v ∧ B.fin) :
    ∀ (k i : Nat) (s : Shared) (ps : List UInt64) (tp ts : Addr) (op os : Obj) (n₁ n₂ : Nat), n - i = k → i ≤ n → ps.length ≤ i → W i s.heap → I ≠ tp → I ≠ ts →
    s.heap.get? tp = some op → op.data = .seq (ps.map fun x => rawInt x.toNat).toArray n₁ → s.heap.get? ts = some os → os.data = .seq #[rawInt (Float64.zero false).toNat, rawInt (Float64.zero false).toNat] n₂ →
    (∀ r t h' tk, fsumRun ps (As.drop i) = some r → Grow (· = I) s.heap h' → (L → ∃ o, h'.get? I = some o) → Q (.float r t) { s with heap := h', toks := tk }) →
    (fsumRun ps (As.drop i) = none → ∀ h' h'' tk e, Grow (· = I) s.heap h' → (L → ∃ o, h'.get? I = some o) → Heap.NewExc h' h'' e "OverflowError" → E (.ref e) { s with heap := h'', toks := tk }) →
    codeAny (model prog w) A (.builtin "math.fsum.loop" ⟨[.ref I, .ref tp, .ref ts], []⟩) (Answer Q E) s := by
  intro k
  induction k with
  | zero =>
    intro i s ps tp ts op os n₁ n₂ hk hile hpl hw h1 h2 htp dtp hts dts hQ hE
    have hin : i = n := by omega
    subst hin
    refine codeAny_builtin fs_entry_loop ?_
    rw [Around.under_plainId fs_plain_loop _]
    show wpAny _ A.in1 ((seqItems? (.ref tp) >>= _) >>= _) _ _ s
    refine wpAny_bind (wpAny_bind (wpAny_seqItems htp dtp (wpAny_pure ?_)))
    show wpAny _ A.in1 ((seqItems? (.ref ts) >>= _) >>= _) _ _ s
    refine wpAny_bind (wpAny_bind (wpAny_seqItems hts dts (wpAny_pure ?_)))
    show wpAny _ A.in1 (pyNext (.ref I) >>= _) _ _ s
    refine wpAny_bind (La s _ _ hw fun h' tk hk' hl => ?_)
    dsimp only [Option.getD]
    rw [if_neg (by decide +kernel), pack_back ps fun x => bits_back x]
    have hd : As.drop i = [] := List.drop_of_length_le (by omega)
    refine wpAny_bind (wpAny_mkFloat (wpAny_pure ?_))
    exact hQ _ _ h' _ (by rw [hd]; rfl) (fun b o hb e => hk' b o (by simpa using hb) e) hl
  | succ k ih =>
    intro i s ps tp ts op os n₁ n₂ hk hile hpl hw h1 h2 htp dtp hts dts hQ hE
    have hlt : i < n := by omega
    refine codeAny_builtin fs_entry_loop ?_
    rw [Around.under_plainId fs_plain_loop _]
    show wpAny _ A.in1 ((seqItems? (.ref tp) >>= _) >>= _) _ _ s
    refine wpAny_bind (wpAny_bind (wpAny_seqItems htp dtp (wpAny_pure ?_)))
    show wpAny _ A.in1 ((seqItems? (.ref ts) >>= _) >>= _) _ _ s
    refine wpAny_bind (wpAny_bind (wpAny_seqItems hts dts (wpAny_pure ?_)))
    show wpAny _ A.in1 (pyNext (.ref I) >>= _) _ _ s
    refine wpAny_bind (Wk.item i s _ _ hlt hw fun v h' tk hP hw' hk' => ?_)
    obtain ⟨B, hB, rB, fB⟩ := hi i v hlt hP
    dsimp only [Option.getD]
    have hd : As.drop i = B :: As.drop (i + 1) := by
      obtain ⟨hlt', eB⟩ := List.getElem?_eq_some_iff.mp hB
      rw [List.drop_eq_getElem_cons hlt', eB]
    have gr : Grow (· = I) s.heap h' := fun b o hb e => hk' b o (by simpa using hb) e
    refine wpAny_bind (wpAny_holding (wp_real (by exact hA) fB rB (fun c => ?_) fun x tk' c => ?_))
    · intro h₂ tk₂ e ne
      exact hE (by rw [hd]; simp only [fsumRun, c]) h' h₂ tk₂ e gr (fun _ => hth _ _ hw') ne
    · rw [pack_back ps fun x => bits_back x]
      have hrun : fsumRun ps (As.drop i) = if Float64.isFinite (Float64.fsumAdd ps x).2 then fsumRun (nextPs ps x) (As.drop (i + 1)) else none := by rw [hd]; simp only [fsumRun, c]; rfl
      by_cases hf : Float64.isFinite (Float64.fsumAdd ps x).2 = true
      · rw [if_pos hf] at hrun ⊢
        show wpAny _ _ (newTuple ((nextPs ps x).map fun x => rawInt x.toNat) >>= _) _ _ _
        have hl := nextPs_length ps x
        refine wpAny_bind (wpAny_newTuple (wpAny_pure ⟨plainId_quiet fs_plain_loop _, ?_⟩) (by simp; omega))
        have hkp : ∀ b o, b ≠ I → s.heap.get? b = some o → (h'.push { cls := .type "tuple", data := .seq ((nextPs ps x).map fun x => rawInt x.toNat).toArray }).get? b = some o := fun b o hb e => Heap.get?_push_of_some _ (hk' b o (by simpa using hb) e)
        have hIn : ∃ o, h'.get? I = some o := hth _ _ hw'
        refine ih (i + 1) _ (nextPs ps x) h'.objs.size ts _ os 0 n₂ (by omega) (by omega) (by omega) (Wk.frame _ _ _ hw' fun b hb o e => Heap.get?_push_of_some _ e) ?_ h2 (Heap.get?_push_size _ rfl) rfl (hkp ts os (fun z => h2 z.symm) hts) dts ?_ ?_
        · intro z
          obtain ⟨o, e⟩ := hIn
          rw [z, fresh_none] at e; cases e
        · intro r t h₂ tk₂ hr hg hl
          exact hQ r t h₂ tk₂ (by rw [hrun]; exact hr) ((gr.trans (.push _ _ _)).trans hg) hl
        · intro hr h₂ h₃ tk₂ e hg hl ne
          exact hE (by rw [hrun]; exact hr) h₂ h₃ tk₂ e ((gr.trans (.push _ _ _)).trans hg) hl ne
      · rw [if_neg hf] at hrun ⊢
        rw [if_pos (real_fin fB c)]
        refine wpAny_bind (wpAny_rule (wpAny_bind (wpAny_raiseErrorWords plainExc_OverflowError hA fun h₂ tk₂ e ne => ?_)))
        exact hE hrun h' h₂ tk₂ e gr (fun _ => hth _ _ hw') ne
end
end Mine
end
section
open PySem PySem.W PyProof.Rows
set_option linter.unusedVariables false
set_option maxRecDepth 100000
namespace Mine
theorem sp_entry : entryFor table "math.sumprod" = some Builtin.«math.sumprod» := entryFor_of_tree (by kernel_rfl)
theorem sp_entry_loop : entryFor table "math.sumprod.loop" = some Builtin.«math.sumprod.loop» := entryFor_of_tree (by kernel_rfl)
theorem sp_plain : plainId "math.sumprod" = true := by decide +kernel
theorem sp_plain_loop : plainId "math.sumprod.loop" = true := by decide +kernel
theorem sp_args (a b : Value) : argsOk "math.sumprod" ⟨[a, b], []⟩ := by unfold argsOk; kernel_rfl
theorem sp_kind : builtinKind "math.sumprod" = none := by decide +kernel

/-- an int or a float -/
def V.nm : V → Prop
  | .int _ => True
  | .flt _ => True
  | _ => False
/-- an int, a float or a bool -/
def V.nmb : V → Prop
  | .int _ => True
  | .flt _ => True
  | .bool _ => True
  | _ => False
def b01 (b : Bool) : Int := if b then 1 else 0
def nmul : V → V → Option V
  | .int a, .int b => some (.int (a * b))
  | .int a, .bool b => some (.int (a * b01 b))
  | .flt x, .flt y => some (.flt (Float64.mul x y))
  | .flt x, .int b => if Float64.isInf (Float64.ofInt b) then none else some (.flt (Float64.mul x (Float64.ofInt b)))
  | .flt x, .bool b => some (.flt (Float64.mul x (Float64.ofInt (b01 b))))
  | .int a, .flt y => if Float64.isInf (Float64.ofInt a) then none else some (.flt (Float64.mul (Float64.ofInt a) y))
  | _, _ => none
def nadd : V → V → Option V
  | .int a, .int b => some (.int (a + b))
  | .flt x, .flt y => some (.flt (Float64.add x y))
  | .flt x, .int b => if Float64.isInf (Float64.ofInt b) then none else some (.flt (Float64.add x (Float64.ofInt b)))
  | .int a, .flt y => if Float64.isInf (Float64.ofInt a) then none else some (.flt (Float64.add (Float64.ofInt a) y))
  | _, _ => none
theorem nmul_nm {A B C : V} (h : nmul A B = some C) : C.nm := by
  unfold nmul at h
  split at h <;> first | (cases h; trivial) | (split at h <;> first | (cases h; done) | (cases h; trivial)) | cases h
theorem nadd_nm {A B C : V} (h : nadd A B = some C) : C.nm := by
  unfold nadd at h
  split at h <;> first | (cases h; trivial) | (split at h <;> first | (cases h; done) | (cases h; trivial)) | cases h
def mulOk : V → V → Prop
  | .int a, .int b => IntMulOk a b
  | _, _ => True

section
variable {prog : Program} {w : World} {A : Around} {s : Shared} {H : Hm} {Q : Value → Shared → Prop} {E : Value → Shared → Prop} {B C : V} {vb vc : Value}

theorem mul_fb {a : UInt64} {t : Tok} {b : Bool} (h : (Made.float (Float64.mul a (Float64.ofInt (if b = true then (1 : Int) else 0)))).post Q s) : wpAny (model prog w) A (binaryOp .Mult (.float a t) (.bool b)) Q E s :=
  binaryOp_left_gives (op := .Mult) (by decide) (typeIs_float s a t) (fun s' => rfl) F.fills_float_mul F.fills_bool_mul F.sub_bool_float F.slot_float_mul F.slot_bool_rmul F.entry_float_mul (F.args_float_mul_2 _ _) (AutoFloatG6.float___mul___float_bool_1 a t b (bool_not_over b)) trivial h

theorem wp_nmul (hA : A.handled = none) (hB : B.nm) (hC : C.nmb) (ho : mulOk B C) (rb : Rep H B vb) (rc : Rep H C vc) (h0 : nmul B C = none → PySem.Flt.Throws "OverflowError" E s) (h : ∀ D v tk, nmul B C = some D → Rep H D v → Q v { s with toks := tk }) :
    wpAny (model prog w) A (binaryOp .Mult vb vc) Q E s := by
  cases B with
  | int b =>
    obtain ⟨t, rfl⟩ := rb.int_of
    cases C with
    | int c => obtain ⟨t', rfl⟩ := rc.int_of; exact PyProof.Rows.mul_int (h _ _ _ rfl (rep_int ..)) ho
    | bool c => cases rc.bool_of; exact PySem.IntBool.mul_int_bool (h _ _ _ rfl (rep_int ..))
    | flt c =>
      obtain ⟨t', rfl⟩ := rc.flt_of
      refine AutoFloatOpsIf.mul_if ?_
      by_cases hi : Float64.isInf (Float64.ofInt b) = true
      · rw [if_pos hi]; exact ⟨hA, fun h' tk e ne => h0 (by simp only [nmul, hi, if_true]) h' tk e ne⟩
      · rw [if_neg hi]; exact h _ _ _ (by simp only [nmul]; rw [if_neg hi]) (rep_flt ..)
    | _ => exact hC.elim
  | flt b =>
    obtain ⟨t, rfl⟩ := rb.flt_of
    cases C with
    | int c =>
      obtain ⟨t', rfl⟩ := rc.int_of
      refine AutoFloatOpsIf.mul_fi ?_
      by_cases hi : Float64.isInf (Float64.ofInt c) = true
      · rw [if_pos hi]; exact ⟨hA, fun h' tk e ne => h0 (by simp only [nmul, hi, if_true]) h' tk e ne⟩
      · rw [if_neg hi]; exact h _ _ _ (by simp only [nmul]; rw [if_neg hi]) (rep_flt ..)
    | bool c => cases rc.bool_of; exact mul_fb (h _ _ _ rfl (rep_flt ..))
    | flt c => obtain ⟨t', rfl⟩ := rc.flt_of; exact PyProof.Rows.mul_float (h _ _ _ rfl (rep_flt ..))
    | _ => exact hC.elim
  | _ => exact hB.elim
theorem wp_nadd (hA : A.handled = none) (hB : B.nm) (hC : C.nm) (rb : Rep H B vb) (rc : Rep H C vc) (h0 : nadd B C = none → PySem.Flt.Throws "OverflowError" E s) (h : ∀ D v tk, nadd B C = some D → Rep H D v → Q v { s with toks := tk }) :
    wpAny (model prog w) A (binaryOp .Add vb vc) Q E s := by
  cases B with
  | int b =>
    obtain ⟨t, rfl⟩ := rb.int_of
    cases C with
    | int c => obtain ⟨t', rfl⟩ := rc.int_of; exact PyProof.Rows.add_int (h _ _ _ rfl (rep_int ..))
    | flt c =>
      obtain ⟨t', rfl⟩ := rc.flt_of
      refine AutoFloatOpsIf.add_if ?_
      by_cases hi : Float64.isInf (Float64.ofInt b) = true
      · rw [if_pos hi]; exact ⟨hA, fun h' tk e ne => h0 (by simp only [nadd, hi, if_true]) h' tk e ne⟩
      · rw [if_neg hi]; exact h _ _ _ (by simp only [nadd]; rw [if_neg hi]) (rep_flt ..)
    | _ => exact hC.elim
  | flt b =>
    obtain ⟨t, rfl⟩ := rb.flt_of
    cases C with
    | int c =>
      obtain ⟨t', rfl⟩ := rc.int_of
      refine AutoFloatOpsIf.add_fi ?_
      by_cases hi : Float64.isInf (Float64.ofInt c) = true
      · rw [if_pos hi]; exact ⟨hA, fun h' tk e ne => h0 (by simp only [nadd, hi, if_true]) h' tk e ne⟩
      · rw [if_neg hi]; exact h _ _ _ (by simp only [nadd]; rw [if_neg hi]) (rep_flt ..)
    | flt c => obtain ⟨t', rfl⟩ := rc.flt_of; exact PyProof.Rows.add_float (h _ _ _ rfl (rep_flt ..))
    | _ => exact hC.elim
  | _ => exact hB.elim
end

abbrev Tri := UInt64 × UInt64 × UInt64
def V.isF : V → Bool
  | .flt _ => true
  | _ => false
def tryF (t : Tri) (A B : V) : Option Tri :=
  if A.isF || B.isF then
    match A.real, B.real with
    | some x, some y => if Float64.isFinite (Builtin.Math.tlFma x y t).1 then some (Builtin.Math.tlFma x y t) else none
    | _, _ => none
  else none
def fitsI (i : Int) : Bool := decide (-(2 ^ 63) ≤ i) && decide (i ≤ Builtin.Math.maxSsize)
def tryI (s : Int) : V → V → Option Int
  | .int a, .int b => if fitsI a && fitsI b && fitsI (a * b) && fitsI (s + a * b) then some (s + a * b) else none
  | _, _ => none
/-- how far sumprod has come: ints, floats, whatever -/
inductive SP where
  | I (s : Int) (u : Bool)
  | F (T : V) (t : Tri)
  | G (T : V)
def intT (s : Int) (u : Bool) : V := if u then .int (0 + s) else .int 0
def genG (T A B : V) : Option SP :=
  match nmul A B with
  | none => none
  | some C => (nadd T C).map .G
def zero3 : Tri := (Float64.zero false, Float64.zero false, Float64.zero false)
def spStep : SP → V → V → Option SP
  | .I s u, A, B =>
    match tryI s A B with
    | some s' => some (.I s' true)
    | none =>
      match tryF zero3 A B with
      | some t => some (.F (intT s u) t)
      | none => genG (intT s u) A B
  | .F T t, A, B =>
    match tryF t A B with
    | some t' => some (.F T t')
    | none =>
      match nadd T (.flt (Builtin.Math.tlToFloat t)) with
      | none => none
      | some T' => genG T' A B
  | .G T, A, B => genG T A B
def spEnd : SP → Option V
  | .I s u => some (intT s u)
  | .F T t => nadd T (.flt (Builtin.Math.tlToFloat t))
  | .G T => some T
def spRun : SP → List V → List V → Except String V
  | S, [], [] => match spEnd S with | none => .error "OverflowError" | some T => .ok T
  | S, A :: As, B :: Bs => match spStep S A B with | none => .error "OverflowError" | some S' => spRun S' As Bs
  | _, _, _ => .error "ValueError"

def SP.ok : SP → Prop
  | .I _ _ => True
  | .F T _ => T.nm
  | .G T => T.nm
def TriAt (h : Heap) (tt : Addr) (t : Tri) : Prop := ∃ o n, h.get? tt = some o ∧ o.data = .seq #[rawInt t.1.toNat, rawInt t.2.1.toNat, rawInt t.2.2.toNat] n
def SPAt (H : Hm) (h : Heap) (tt : Addr) : SP → List Value → Prop
  | .I s u, vs => ∃ t, vs = [.int 0 t, .bool true, rawInt s, .bool u, .bool true, .ref tt, .bool false] ∧ TriAt h tt zero3
  | .F T t, vs => ∃ v, vs = [v, .bool false, rawInt 0, .bool false, .bool true, .ref tt, .bool true] ∧ Rep H T v ∧ TriAt h tt t
  | .G T, vs => ∃ v t, vs = [v, .bool false, rawInt 0, .bool false, .bool false, .ref tt, .bool false] ∧ Rep H T v ∧ TriAt h tt t

theorem intT_nm (s : Int) (u : Bool) : (intT s u).nm := by cases u <;> trivial
theorem real_toks (s : Shared) : { s with toks := s.toks } = s := rfl
end Mine
end
section
open PySem PySem.W PyProof.Rows
set_option linter.unusedVariables false
set_option maxRecDepth 100000
namespace Mine
section
variable {prog : Program} {w : World} {A : Around} {s : Shared} {H : Hm} {I J tt : Addr} {Q : PySem.Fin → Shared → Prop} {E : Value → Shared → Prop} {B C : V} {vb vc : Value}

/-- what one turn leaves: the next state, at a heap that has only grown -/
def Turn (H : Hm) (I J : Addr) (s : Shared) (R : Option SP) (Q : PySem.Fin → Shared → Prop) (E : Value → Shared → Prop) : Prop :=
  (∀ S' h' tk tt' vs, R = some S' → S'.ok → (∀ b o, s.heap.get? b = some o → h'.get? b = some o) → (∃ o, h'.get? tt' = some o) → (s.heap.get? tt' = none ∨ h' = s.heap) → SPAt H h' tt' S' vs →
    Q (.again (.builtin "math.sumprod.loop" ⟨.ref I :: .ref J :: vs, []⟩)) { s with heap := h', toks := tk }) ∧
  (R = none → ∀ h' tk e, Heap.NewExc s.heap h' e "OverflowError" → E (.ref e) { s with heap := h', toks := tk })

theorem Turn.toks {R : Option SP} (t : Turn H I J s R Q E) (n : Nat) : Turn H I J { s with toks := n } R Q E := ⟨t.1, t.2⟩

theorem TriAt.back {h : Heap} {t : Tri} (x : TriAt h tt t) : ∃ o n, h.get? tt = some o ∧ o.data = .seq #[rawInt t.1.toNat, rawInt t.2.1.toNat, rawInt t.2.2.toNat] n := x

theorem turn_G {T : V} {v : Value} {t : Tri} (hA : A.handled = none) (hT : T.nm) (rT : Rep H T v) (ht : TriAt s.heap tt t) (hB : B.nm) (hC : C.nmb) (ho : mulOk B C) (rb : Rep H B vb) (rc : Rep H C vc) (h : Turn H I J s (genG T B C) Q E)
    {l1 : List Value} {l2 : Value → List Value} : wpAny (model prog w) A (do
      let term ← holding l1 (binaryOp .Mult vb vc)
      let total ← holding (l2 term) (binaryOp .Add v term)
      again (.builtin "math.sumprod.loop" ⟨[.ref I, .ref J, total, .bool false, rawInt 0, .bool false, .bool false, .ref tt, .bool false], []⟩)) Q E s := by
  refine wpAny_bind (wpAny_holding (wp_nmul hA hB hC ho rb rc (fun c => h.2 (by simp only [genG, c])) fun D u tk c rD => ?_))
  refine wpAny_bind (wpAny_holding (wp_nadd hA hT (nmul_nm c) rT rD (fun c' => h.2 (by simp only [genG, c, c', Option.map])) fun D' u' tk' c' rD' => wpAny_pure ?_))
  obtain ⟨o, n, e, d⟩ := ht
  exact h.1 (.G D') s.heap tk' tt _ (by simp only [genG, c, c', Option.map]) (nadd_nm c') (fun _ _ e => e) ⟨o, e⟩ (.inr rfl) ⟨u', t, rfl, rD', o, n, e, d⟩
end





theorem bits_back' (x : UInt64) : ((x.toNat : Int)).toNat.toUInt64 = x := by simp

/-- both iterators give an item -/
def Two (M : Model) (A : Around) (I J : Addr) (E : Value → Shared → Prop) (s : Shared) (K : Value → Value → Shared → Prop) : Prop :=
  ∀ (R : Option Value → Option Value → Shared → Prop), (∀ vb vc s₂, K vb vc s₂ → R (some vb) (some vc) s₂) → wpAny M A (pyNext (.ref I)) (fun p s₁ => wpAny M A (pyNext (.ref J)) (R p) E s₁) E s

/-- after the floats, with a triple in use -/
theorem turn_FG {prog : Program} {w : World} {A : Around} {s : Shared} {H : Hm} {I J tt : Addr} {Q : PySem.Fin → Shared → Prop} {E : Value → Shared → Prop} {B C : V} {vb vc : Value} {T : V} {v : Value} {t : Tri} (hA : A.handled = none) (hT : T.nm) (rT : Rep H T v) (ht : TriAt s.heap tt t) (hB : B.nm) (hC : C.nmb) (ho : mulOk B C) (rb : Rep H B vb) (rc : Rep H C vc)
    (h : Turn H I J s (match nadd T (.flt (Builtin.Math.tlToFloat t)) with | none => none | some T' => genG T' B C) Q E) {l0 : List Value} {l1 : Value → List Value} {l2 : Value → Value → List Value} : wpAny (model prog w) A (do
      let f ← mkFloat (Builtin.Math.tlToFloat t)
      let total ← holding l0 (binaryOp .Add v f)
      let term ← holding (l1 total) (binaryOp .Mult vb vc)
      let total ← holding (l2 total term) (binaryOp .Add total term)
      again (.builtin "math.sumprod.loop" ⟨[.ref I, .ref J, total, .bool false, rawInt 0, .bool false, .bool false, .ref tt, .bool false], []⟩)) Q E s := by
  refine wpAny_bind (wpAny_mkFloat ?_)
  refine wpAny_bind (wpAny_holding (wp_nadd hA hT (C := .flt (Builtin.Math.tlToFloat t)) trivial rT (rep_flt ..) (fun c => h.2 (by simp only [c])) fun D u tk c rD => ?_))
  exact turn_G (s := { s with toks := tk }) hA (nadd_nm c) rD ht hB hC ho rb rc (by simp only [c] at h; exact h.toks tk)

/-- the floats go on -/
theorem turn_F {prog : Program} {w : World} {A : Around} {s : Shared} {H : Hm} {I J : Addr} {Q : PySem.Fin → Shared → Prop} {E : Value → Shared → Prop} {T : V} {v : Value} {t : Tri} (hT : T.nm) (rT : Rep H T v)
    (h : Turn H I J s (some (.F T t)) Q E) : wpAny (model prog w) A (do
      let u ← newTuple [rawInt t.1.toNat, rawInt t.2.1.toNat, rawInt t.2.2.toNat]
      again (.builtin "math.sumprod.loop" ⟨[.ref I, .ref J, v, .bool false, rawInt 0, .bool false, .bool true, u, .bool true], []⟩)) Q E s := by
  refine wpAny_bind (wpAny_newTuple (wpAny_pure ?_) (by show 3 ≤ sizeLine; decide))
  exact h.1 _ _ s.toks _ _ rfl hT (fun b o e => Heap.get?_push_of_some _ e) ⟨_, Heap.get?_push_size _ rfl⟩ (.inl (fresh_none _)) ⟨v, rfl, rT, _, 0, Heap.get?_push_size _ rfl, rfl⟩

section
variable {prog : Program} {w : World} {A : Around} {s : Shared} {H : Hm} {I J tt : Addr} {Q : PySem.Fin → Shared → Prop} {E : Value → Shared → Prop} {B C : V} {vs : List Value} {K : Value → Value → Shared → Prop}

theorem sp_turn_G {T : V} (hA : A.handled = none) (hT : T.nm) (hS : SPAt H s.heap tt (.G T) vs) (two : Two (model prog w) A I J E s K) (hB : B.nm) (hC : C.nmb) (ho : mulOk B C)
    (hK : ∀ vb vc s₂, K vb vc s₂ → Rep H B vb ∧ Rep H C vc ∧ (∀ t, TriAt s.heap tt t → TriAt s₂.heap tt t) ∧ Turn H I J s₂ (genG T B C) Q E) :
    wpAny (model prog w) A (Builtin.«math.sumprod.loop» ⟨.ref I :: .ref J :: vs, []⟩) Q E s := by
  obtain ⟨v, t, rfl, rT, ot, n, ht, hd⟩ := hS
  show wpAny _ _ (seqItems? (.ref tt) >>= _) _ _ s
  refine wpAny_bind (wpAny_seqItems ht hd ?_)
  show wpAny _ _ (pyNext (.ref I) >>= _) _ _ s
  refine wpAny_bind (wpAny_mono (two _ ?_) (fun p s₁ h => wpAny_bind (wpAny_holding h)) fun _ _ h => h)
  intro vb vc s₂ k
  obtain ⟨rb, rc, ht', h⟩ := hK vb vc s₂ k
  dsimp only [Option.isSome, bne, Option.toList]
  rw [if_neg (by simp)]
  exact turn_G hA hT rT (ht' _ ⟨ot, n, ht, hd⟩) hB hC ho rb rc h

theorem sp_turn_F {T : V} {t : Tri} (hA : A.handled = none) (hT : T.nm) (hS : SPAt H s.heap tt (.F T t) vs) (two : Two (model prog w) A I J E s K) (hB : B.nm) (hC : C.nmb) (ho : mulOk B C)
    (hK : ∀ vb vc s₂, K vb vc s₂ → Rep H B vb ∧ Rep H C vc ∧ (∀ t, TriAt s.heap tt t → TriAt s₂.heap tt t) ∧ Turn H I J s₂ (spStep (.F T t) B C) Q E) :
    wpAny (model prog w) A (Builtin.«math.sumprod.loop» ⟨.ref I :: .ref J :: vs, []⟩) Q E s := by
  obtain ⟨v, rfl, rT, ot, n, ht, hd⟩ := hS
  show wpAny _ _ (seqItems? (.ref tt) >>= _) _ _ s
  refine wpAny_bind (wpAny_seqItems ht hd ?_)
  show wpAny _ _ (pyNext (.ref I) >>= _) _ _ s
  refine wpAny_bind (wpAny_mono (two _ ?_) (fun p s₁ h => wpAny_bind (wpAny_holding h)) fun _ _ h => h)
  intro vb vc s₂ k
  obtain ⟨rb, rc, ht', h⟩ := hK vb vc s₂ k
  dsimp only [Option.isSome, bne, Option.toList]
  rw [if_neg (by simp), if_neg (by simp), if_pos rfl]
  simp only [bits_back']
  have leave : tryF t B C = none → ∀ {l0 : List Value} {l1 : Value → List Value} {l2 : Value → Value → List Value}, wpAny (model prog w) A (do
      let f ← mkFloat (Builtin.Math.tlToFloat t)
      let total ← holding l0 (binaryOp .Add v f)
      let term ← holding (l1 total) (binaryOp .Mult vb vc)
      let total ← holding (l2 total term) (binaryOp .Add total term)
      again (.builtin "math.sumprod.loop" ⟨[.ref I, .ref J, total, .bool false, rawInt 0, .bool false, .bool false, .ref tt, .bool false], []⟩)) Q E s₂ := fun c l0 l1 l2 =>
    turn_FG hA hT rT (ht' _ ⟨ot, n, ht, hd⟩) hB hC ho rb rc (by simp only [spStep, c] at h; exact h)
  have stay : ∀ x y, tryF t B C = some (Builtin.Math.tlFma x y t) → wpAny (model prog w) A (do
      let u ← newTuple [rawInt (Builtin.Math.tlFma x y t).1.toNat, rawInt (Builtin.Math.tlFma x y t).2.1.toNat, rawInt (Builtin.Math.tlFma x y t).2.2.toNat]
      again (.builtin "math.sumprod.loop" ⟨[.ref I, .ref J, v, .bool false, rawInt 0, .bool false, .bool true, u, .bool true], []⟩)) Q E s₂ := fun x y c =>
    turn_F hT rT (by simp only [spStep, c] at h; exact h)
  cases B with
  | int xb =>
    obtain ⟨tb, rfl⟩ := rb.int_of
    cases C with
    | int xc =>
      obtain ⟨tc, rfl⟩ := rc.int_of
      dsimp only
      (try simp only [Bool.false_eq_true, if_false, Bool.or_self, Bool.or_false])
      refine wpAny_bind (wpAny_rule ?_); (try simp only [eq_self, if_true]); exact leave (by simp [tryF, V.isF])
    | flt xc =>
      obtain ⟨tc, rfl⟩ := rc.flt_of
      dsimp only
      (try simp only [Bool.or_true, Bool.true_or, Bool.or_self, if_true])
      by_cases hi : Float64.isInf (Float64.ofInt xb) = true
      · simp only [hi, if_true]
        refine wpAny_bind (wpAny_rule ?_); (try simp only [eq_self, if_true]); exact leave (by simp only [tryF, V.isF, V.real, Bool.or_true, Bool.true_or, if_true, hi])
      · simp only [hi, if_false, Bool.false_eq_true]
        by_cases hf : Float64.isFinite (Builtin.Math.tlFma (Float64.ofInt xb) xc t).1 = true
        · rw [if_pos (by exact hf)]; exact stay _ _ (by simp only [tryF, V.isF, V.real, Bool.or_true, Bool.true_or, if_true, hi, Bool.false_eq_true, if_false, hf])
        · rw [if_neg (by exact hf)]; refine wpAny_bind (wpAny_rule ?_); (try simp only [eq_self, if_true]); exact leave (by simp only [tryF, V.isF, V.real, Bool.or_true, Bool.true_or, if_true, hi, Bool.false_eq_true, if_false, hf])
    | bool xc =>
      cases rc.bool_of
      dsimp only
      (try simp only [Bool.false_eq_true, if_false, Bool.or_self, Bool.or_false])
      refine wpAny_bind (wpAny_rule ?_); (try simp only [eq_self, if_true]); exact leave (by simp [tryF, V.isF])
    | _ => exact hC.elim
  | flt xb =>
    obtain ⟨tb, rfl⟩ := rb.flt_of
    cases C with
    | int xc =>
      obtain ⟨tc, rfl⟩ := rc.int_of
      dsimp only
      (try simp only [Bool.or_true, Bool.true_or, Bool.or_self, if_true])
      by_cases hi : Float64.isInf (Float64.ofInt xc) = true
      · simp only [hi, if_true]
        refine wpAny_bind (wpAny_rule ?_); (try simp only [eq_self, if_true]); exact leave (by simp only [tryF, V.isF, V.real, Bool.or_true, Bool.true_or, if_true, hi])
      · simp only [hi, if_false, Bool.false_eq_true]
        by_cases hf : Float64.isFinite (Builtin.Math.tlFma xb (Float64.ofInt xc) t).1 = true
        · rw [if_pos (by exact hf)]; exact stay _ _ (by simp only [tryF, V.isF, V.real, Bool.or_true, Bool.true_or, if_true, hi, Bool.false_eq_true, if_false, hf])
        · rw [if_neg (by exact hf)]; refine wpAny_bind (wpAny_rule ?_); (try simp only [eq_self, if_true]); exact leave (by simp only [tryF, V.isF, V.real, Bool.or_true, Bool.true_or, if_true, hi, Bool.false_eq_true, if_false, hf])
    | flt xc =>
      obtain ⟨tc, rfl⟩ := rc.flt_of
      dsimp only
      (try simp only [Bool.or_true, Bool.true_or, Bool.or_self, if_true])
      by_cases hf : Float64.isFinite (Builtin.Math.tlFma xb xc t).1 = true
      · rw [if_pos (by exact hf)]; exact stay _ _ (by simp only [tryF, V.isF, V.real, Bool.or_true, Bool.true_or, if_true, Bool.false_eq_true, if_false, hf])
      · rw [if_neg (by exact hf)]; refine wpAny_bind (wpAny_rule ?_); (try simp only [eq_self, if_true]); exact leave (by simp only [tryF, V.isF, V.real, Bool.or_true, Bool.true_or, if_true, Bool.false_eq_true, if_false, hf])
    | bool xc =>
      cases rc.bool_of
      dsimp only
      (try simp only [Bool.or_true, Bool.true_or, Bool.or_self, if_true])
      by_cases hf : Float64.isFinite (Builtin.Math.tlFma xb (Float64.ofInt (if xc = true then 1 else 0)) t).1 = true
      · rw [if_pos (by exact hf)]; exact stay _ _ (by simp only [tryF, V.isF, V.real, Bool.or_true, Bool.true_or, if_true, Bool.false_eq_true, if_false, hf])
      · rw [if_neg (by exact hf)]; refine wpAny_bind (wpAny_rule ?_); (try simp only [eq_self, if_true]); exact leave (by simp only [tryF, V.isF, V.real, Bool.or_true, Bool.true_or, if_true, Bool.false_eq_true, if_false, hf])
    | _ => exact hC.elim
  | _ => exact hB.elim
theorem sp_turn_I {z : Int} {u : Bool} (hA : A.handled = none) (hS : SPAt H s.heap tt (.I z u) vs) (two : Two (model prog w) A I J E s K) (hB : B.nm) (hC : C.nmb) (ho : mulOk B C)
    (hK : ∀ vb vc s₂, K vb vc s₂ → Rep H B vb ∧ Rep H C vc ∧ (∀ t, TriAt s.heap tt t → TriAt s₂.heap tt t) ∧ Turn H I J s₂ (spStep (.I z u) B C) Q E) :
    wpAny (model prog w) A (Builtin.«math.sumprod.loop» ⟨.ref I :: .ref J :: vs, []⟩) Q E s := by
  obtain ⟨t0, rfl, ot, n, ht, hd⟩ := hS
  show wpAny _ _ (seqItems? (.ref tt) >>= _) _ _ s
  refine wpAny_bind (wpAny_seqItems ht hd ?_)
  show wpAny _ _ (pyNext (.ref I) >>= _) _ _ s
  refine wpAny_bind (wpAny_mono (two _ ?_) (fun p s₁ h => wpAny_bind (wpAny_holding h)) fun _ _ h => h)
  intro vb vc s₂ k
  obtain ⟨rb, rc, ht', h⟩ := hK vb vc s₂ k
  dsimp only [Option.isSome, bne, Option.toList]
  rw [if_neg (by simp), if_pos rfl]
  simp only [bits_back']
  have leave : ∀ v tk, tryI z B C = none → tryF zero3 B C = none → Rep H (intT z u) v → ∀ {l1 : List Value} {l2 : Value → List Value}, wpAny (model prog w) A (do
      let term ← holding l1 (binaryOp .Mult vb vc)
      let total ← holding (l2 term) (binaryOp .Add v term)
      again (.builtin "math.sumprod.loop" ⟨[.ref I, .ref J, total, .bool false, rawInt 0, .bool false, .bool false, .ref tt, .bool false], []⟩)) Q E { s₂ with toks := tk } := fun v tk c1 c2 rv l1 l2 =>
    turn_G (s := { s₂ with toks := tk }) hA (intT_nm z u) rv (ht' _ ⟨ot, n, ht, hd⟩) hB hC ho rb rc (by simp only [spStep, c1, c2] at h; exact h.toks tk)
  have stay : ∀ v tk x y, tryI z B C = none → tryF zero3 B C = some (Builtin.Math.tlFma x y zero3) → Rep H (intT z u) v → wpAny (model prog w) A (do
      let u ← newTuple [rawInt (Builtin.Math.tlFma x y zero3).1.toNat, rawInt (Builtin.Math.tlFma x y zero3).2.1.toNat, rawInt (Builtin.Math.tlFma x y zero3).2.2.toNat]
      again (.builtin "math.sumprod.loop" ⟨[.ref I, .ref J, v, .bool false, rawInt 0, .bool false, .bool true, u, .bool true], []⟩)) Q E { s₂ with toks := tk } := fun v tk x y c1 c2 rv =>
    turn_F (s := { s₂ with toks := tk }) (intT_nm z u) rv (by simp only [spStep, c1, c2] at h; exact h.toks tk)
  cases B with
  | int xb =>
    obtain ⟨tb, rfl⟩ := rb.int_of
    cases C with
    | int xc =>
      obtain ⟨tc, rfl⟩ := rc.int_of
      dsimp only
      by_cases hf : (fitsI xb && fitsI xc && fitsI (xb * xc) && fitsI (z + xb * xc)) = true
      · rw [if_pos (by exact hf)]
        refine wpAny_pure (h.1 (.I (z + xb * xc) true) s₂.heap s₂.toks tt _ (by simp only [spStep, tryI, hf, if_true]) trivial (fun _ _ e => e) ?_ (.inr rfl) ⟨t0, rfl, ht' _ ⟨ot, n, ht, hd⟩⟩)
        obtain ⟨o, _, e, _⟩ := ht' _ ⟨ot, n, ht, hd⟩; exact ⟨o, e⟩
      · rw [if_neg (by exact hf)]
        refine wpAny_bind (wpAny_rule ?_)
        cases u with
        | true =>
          (try simp only [eq_self, if_true])
          refine wpAny_bind (wpAny_mkInt (wpAny_bind (wpAny_holding (PyProof.Rows.add_int ?_))))
          (try simp only [eq_self, if_true])
          (try simp only [Bool.false_eq_true, if_false, Bool.or_self, Bool.or_false])
          refine wpAny_bind (wpAny_rule ?_); (try simp only [Bool.false_eq_true, if_false]); exact leave _ _ (by simp only [tryI, hf, Bool.false_eq_true, if_false]) (by simp [tryF, V.isF]) (rep_int ..)
        | false =>
          (try simp only [Bool.false_eq_true, if_false, Bool.or_self, Bool.or_false])
          (try simp only [eq_self, if_true])
          (try simp only [Bool.false_eq_true, if_false, Bool.or_self, Bool.or_false])
          refine wpAny_bind (wpAny_rule ?_); (try simp only [Bool.false_eq_true, if_false]); exact leave _ s₂.toks (by simp only [tryI, hf, Bool.false_eq_true, if_false]) (by simp [tryF, V.isF]) (rep_int ..)
    | flt xc =>
      obtain ⟨tc, rfl⟩ := rc.flt_of
      dsimp only
      refine wpAny_bind (wpAny_rule ?_)
      cases u with
      | true =>
        (try simp only [eq_self, if_true])
        refine wpAny_bind (wpAny_mkInt (wpAny_bind (wpAny_holding (PyProof.Rows.add_int ?_))))
        (try simp only [eq_self, if_true])
        (try simp only [Bool.or_true, Bool.true_or, Bool.or_self, if_true])
        by_cases hi : Float64.isInf (Float64.ofInt xb) = true
        · simp only [hi, if_true]
          refine wpAny_bind (wpAny_rule ?_); (try simp only [Bool.false_eq_true, if_false]); exact leave _ _ (by rfl) (by simp only [tryF, V.isF, V.real, Bool.or_true, Bool.true_or, if_true, hi]) (rep_int ..)
        · simp only [hi, if_false, Bool.false_eq_true]
          by_cases hf : Float64.isFinite (Builtin.Math.tlFma (Float64.ofInt xb) xc zero3).1 = true
          · rw [if_pos (by exact hf)]; exact stay _ _ _ _ (by rfl) (by simp only [tryF, V.isF, V.real, Bool.or_true, Bool.true_or, if_true, hi, Bool.false_eq_true, if_false, hf]) (rep_int ..)
          · rw [if_neg (by exact hf)]; refine wpAny_bind (wpAny_rule ?_); (try simp only [Bool.false_eq_true, if_false]); exact leave _ _ (by rfl) (by simp only [tryF, V.isF, V.real, Bool.or_true, Bool.true_or, if_true, hi, Bool.false_eq_true, if_false, hf]) (rep_int ..)
      | false =>
        (try simp only [Bool.false_eq_true, if_false, Bool.or_self, Bool.or_false])
        (try simp only [eq_self, if_true])
        (try simp only [Bool.or_true, Bool.true_or, Bool.or_self, if_true])
        by_cases hi : Float64.isInf (Float64.ofInt xb) = true
        · simp only [hi, if_true]
          refine wpAny_bind (wpAny_rule ?_); (try simp only [Bool.false_eq_true, if_false]); exact leave _ s₂.toks (by rfl) (by simp only [tryF, V.isF, V.real, Bool.or_true, Bool.true_or, if_true, hi]) (rep_int ..)
        · simp only [hi, if_false, Bool.false_eq_true]
          by_cases hf : Float64.isFinite (Builtin.Math.tlFma (Float64.ofInt xb) xc zero3).1 = true
          · rw [if_pos (by exact hf)]; exact stay _ s₂.toks _ _ (by rfl) (by simp only [tryF, V.isF, V.real, Bool.or_true, Bool.true_or, if_true, hi, Bool.false_eq_true, if_false, hf]) (rep_int ..)
          · rw [if_neg (by exact hf)]; refine wpAny_bind (wpAny_rule ?_); (try simp only [Bool.false_eq_true, if_false]); exact leave _ s₂.toks (by rfl) (by simp only [tryF, V.isF, V.real, Bool.or_true, Bool.true_or, if_true, hi, Bool.false_eq_true, if_false, hf]) (rep_int ..)
    | bool xc =>
      cases rc.bool_of
      dsimp only
      refine wpAny_bind (wpAny_rule ?_)
      cases u with
      | true =>
        (try simp only [eq_self, if_true])
        refine wpAny_bind (wpAny_mkInt (wpAny_bind (wpAny_holding (PyProof.Rows.add_int ?_))))
        (try simp only [eq_self, if_true])
        (try simp only [Bool.false_eq_true, if_false, Bool.or_self, Bool.or_false])
        refine wpAny_bind (wpAny_rule ?_); (try simp only [Bool.false_eq_true, if_false]); exact leave _ _ (by rfl) (by simp [tryF, V.isF]) (rep_int ..)
      | false =>
        (try simp only [Bool.false_eq_true, if_false, Bool.or_self, Bool.or_false])
        (try simp only [eq_self, if_true])
        (try simp only [Bool.false_eq_true, if_false, Bool.or_self, Bool.or_false])
        refine wpAny_bind (wpAny_rule ?_); (try simp only [Bool.false_eq_true, if_false]); exact leave _ s₂.toks (by rfl) (by simp [tryF, V.isF]) (rep_int ..)
    | _ => exact hC.elim
  | flt xb =>
    obtain ⟨tb, rfl⟩ := rb.flt_of
    cases C with
    | int xc =>
      obtain ⟨tc, rfl⟩ := rc.int_of
      dsimp only
      refine wpAny_bind (wpAny_rule ?_)
      cases u with
      | true =>
        (try simp only [eq_self, if_true])
        refine wpAny_bind (wpAny_mkInt (wpAny_bind (wpAny_holding (PyProof.Rows.add_int ?_))))
        (try simp only [eq_self, if_true])
        (try simp only [Bool.or_true, Bool.true_or, Bool.or_self, if_true])
        by_cases hi : Float64.isInf (Float64.ofInt xc) = true
        · simp only [hi, if_true]
          refine wpAny_bind (wpAny_rule ?_); (try simp only [Bool.false_eq_true, if_false]); exact leave _ _ (by rfl) (by simp only [tryF, V.isF, V.real, Bool.or_true, Bool.true_or, if_true, hi]) (rep_int ..)
        · simp only [hi, if_false, Bool.false_eq_true]
          by_cases hf : Float64.isFinite (Builtin.Math.tlFma xb (Float64.ofInt xc) zero3).1 = true
          · rw [if_pos (by exact hf)]; exact stay _ _ _ _ (by rfl) (by simp only [tryF, V.isF, V.real, Bool.or_true, Bool.true_or, if_true, hi, Bool.false_eq_true, if_false, hf]) (rep_int ..)
          · rw [if_neg (by exact hf)]; refine wpAny_bind (wpAny_rule ?_); (try simp only [Bool.false_eq_true, if_false]); exact leave _ _ (by rfl) (by simp only [tryF, V.isF, V.real, Bool.or_true, Bool.true_or, if_true, hi, Bool.false_eq_true, if_false, hf]) (rep_int ..)
      | false =>
        (try simp only [Bool.false_eq_true, if_false, Bool.or_self, Bool.or_false])
        (try simp only [eq_self, if_true])
        (try simp only [Bool.or_true, Bool.true_or, Bool.or_self, if_true])
        by_cases hi : Float64.isInf (Float64.ofInt xc) = true
        · simp only [hi, if_true]
          refine wpAny_bind (wpAny_rule ?_); (try simp only [Bool.false_eq_true, if_false]); exact leave _ s₂.toks (by rfl) (by simp only [tryF, V.isF, V.real, Bool.or_true, Bool.true_or, if_true, hi]) (rep_int ..)
        · simp only [hi, if_false, Bool.false_eq_true]
          by_cases hf : Float64.isFinite (Builtin.Math.tlFma xb (Float64.ofInt xc) zero3).1 = true
          · rw [if_pos (by exact hf)]; exact stay _ s₂.toks _ _ (by rfl) (by simp only [tryF, V.isF, V.real, Bool.or_true, Bool.true_or, if_true, hi, Bool.false_eq_true, if_false, hf]) (rep_int ..)
          · rw [if_neg (by exact hf)]; refine wpAny_bind (wpAny_rule ?_); (try simp only [Bool.false_eq_true, if_false]); exact leave _ s₂.toks (by rfl) (by simp only [tryF, V.isF, V.real, Bool.or_true, Bool.true_or, if_true, hi, Bool.false_eq_true, if_false, hf]) (rep_int ..)
    | flt xc =>
      obtain ⟨tc, rfl⟩ := rc.flt_of
      dsimp only
      refine wpAny_bind (wpAny_rule ?_)
      cases u with
      | true =>
        (try simp only [eq_self, if_true])
        refine wpAny_bind (wpAny_mkInt (wpAny_bind (wpAny_holding (PyProof.Rows.add_int ?_))))
        (try simp only [eq_self, if_true])
        (try simp only [Bool.or_true, Bool.true_or, Bool.or_self, if_true])
        by_cases hf : Float64.isFinite (Builtin.Math.tlFma xb xc zero3).1 = true
        · rw [if_pos (by exact hf)]; exact stay _ _ _ _ (by rfl) (by simp only [tryF, V.isF, V.real, Bool.or_true, Bool.true_or, if_true, Bool.false_eq_true, if_false, hf]) (rep_int ..)
        · rw [if_neg (by exact hf)]; refine wpAny_bind (wpAny_rule ?_); (try simp only [Bool.false_eq_true, if_false]); exact leave _ _ (by rfl) (by simp only [tryF, V.isF, V.real, Bool.or_true, Bool.true_or, if_true, Bool.false_eq_true, if_false, hf]) (rep_int ..)
      | false =>
        (try simp only [Bool.false_eq_true, if_false, Bool.or_self, Bool.or_false])
        (try simp only [eq_self, if_true])
        (try simp only [Bool.or_true, Bool.true_or, Bool.or_self, if_true])
        by_cases hf : Float64.isFinite (Builtin.Math.tlFma xb xc zero3).1 = true
        · rw [if_pos (by exact hf)]; exact stay _ s₂.toks _ _ (by rfl) (by simp only [tryF, V.isF, V.real, Bool.or_true, Bool.true_or, if_true, Bool.false_eq_true, if_false, hf]) (rep_int ..)
        · rw [if_neg (by exact hf)]; refine wpAny_bind (wpAny_rule ?_); (try simp only [Bool.false_eq_true, if_false]); exact leave _ s₂.toks (by rfl) (by simp only [tryF, V.isF, V.real, Bool.or_true, Bool.true_or, if_true, Bool.false_eq_true, if_false, hf]) (rep_int ..)
    | bool xc =>
      cases rc.bool_of
      dsimp only
      refine wpAny_bind (wpAny_rule ?_)
      cases u with
      | true =>
        (try simp only [eq_self, if_true])
        refine wpAny_bind (wpAny_mkInt (wpAny_bind (wpAny_holding (PyProof.Rows.add_int ?_))))
        (try simp only [eq_self, if_true])
        (try simp only [Bool.or_true, Bool.true_or, Bool.or_self, if_true])
        by_cases hf : Float64.isFinite (Builtin.Math.tlFma xb (Float64.ofInt (if xc = true then 1 else 0)) zero3).1 = true
        · rw [if_pos (by exact hf)]; exact stay _ _ _ _ (by rfl) (by simp only [tryF, V.isF, V.real, Bool.or_true, Bool.true_or, if_true, Bool.false_eq_true, if_false, hf]) (rep_int ..)
        · rw [if_neg (by exact hf)]; refine wpAny_bind (wpAny_rule ?_); (try simp only [Bool.false_eq_true, if_false]); exact leave _ _ (by rfl) (by simp only [tryF, V.isF, V.real, Bool.or_true, Bool.true_or, if_true, Bool.false_eq_true, if_false, hf]) (rep_int ..)
      | false =>
        (try simp only [Bool.false_eq_true, if_false, Bool.or_self, Bool.or_false])
        (try simp only [eq_self, if_true])
        (try simp only [Bool.or_true, Bool.true_or, Bool.or_self, if_true])
        by_cases hf : Float64.isFinite (Builtin.Math.tlFma xb (Float64.ofInt (if xc = true then 1 else 0)) zero3).1 = true
        · rw [if_pos (by exact hf)]; exact stay _ s₂.toks _ _ (by rfl) (by simp only [tryF, V.isF, V.real, Bool.or_true, Bool.true_or, if_true, Bool.false_eq_true, if_false, hf]) (rep_int ..)
        · rw [if_neg (by exact hf)]; refine wpAny_bind (wpAny_rule ?_); (try simp only [Bool.false_eq_true, if_false]); exact leave _ s₂.toks (by rfl) (by simp only [tryF, V.isF, V.real, Bool.or_true, Bool.true_or, if_true, Bool.false_eq_true, if_false, hf]) (rep_int ..)
    | _ => exact hC.elim
  | _ => exact hB.elim
end
end Mine
end
section
open PySem PySem.W PyProof.Rows
set_option linter.unusedVariables false
set_option maxRecDepth 100000
namespace Mine
def Two' (M : Model) (A : Around) (I J : Addr) (E : Value → Shared → Prop) (s : Shared) (p q : Option Unit) (K : Shared → Prop) : Prop :=
  ∀ (R : Option Value → Option Value → Shared → Prop), (∀ p' q' s₂, p'.isSome = p.isSome → q'.isSome = q.isSome → K s₂ → R p' q' s₂) → wpAny M A (pyNext (.ref I)) (fun p s₁ => wpAny M A (pyNext (.ref J)) (R p) E s₁) E s
section
variable {prog : Program} {w : World} {A : Around} {s : Shared} {H : Hm} {I J tt : Addr} {Q : PySem.Fin → Shared → Prop} {E : Value → Shared → Prop} {B C : V} {vs : List Value} {K : Shared → Prop}

theorem SPAt.shape {S : SP} {h : Heap} (hS : SPAt H h tt S vs) : ∃ v io is iu fo fu t, vs = [v, .bool io, rawInt is, .bool iu, .bool fo, .ref tt, .bool fu] ∧ TriAt h tt t := by
  cases S with
  | I z u => obtain ⟨t0, rfl, ht⟩ := hS; exact ⟨_, _, _, _, _, _, _, rfl, ht⟩
  | F T t => obtain ⟨v, rfl, _, ht⟩ := hS; exact ⟨_, _, _, _, _, _, _, rfl, ht⟩
  | G T => obtain ⟨v, t, rfl, _, ht⟩ := hS; exact ⟨_, _, _, _, _, _, _, rfl, ht⟩

theorem sp_unlike {S : SP} {p q : Option Unit} (hA : A.handled = none) (hS : SPAt H s.heap tt S vs) (hpq : p.isSome ≠ q.isSome) (two : Two' (model prog w) A I J E s p q K) (hK : ∀ s₂, K s₂ → PySem.Flt.Throws "ValueError" E s₂) :
    wpAny (model prog w) A (Builtin.«math.sumprod.loop» ⟨.ref I :: .ref J :: vs, []⟩) Q E s := by
  obtain ⟨v, io, is, iu, fo, fu, t, rfl, ot, n, ht, hd⟩ := hS.shape
  show wpAny _ _ (seqItems? (.ref tt) >>= _) _ _ s
  refine wpAny_bind (wpAny_seqItems ht hd ?_)
  show wpAny _ _ (pyNext (.ref I) >>= _) _ _ s
  refine wpAny_bind (wpAny_mono (two _ ?_) (fun p s₁ h => wpAny_bind (wpAny_holding h)) fun _ _ h => h)
  intro p' q' s₂ hp hq k
  rw [if_pos (by rw [hp, hq]; simpa using hpq)]
  refine wpAny_bind (wpAny_rule (wpAny_bind (wpAny_raiseErrorWords plainExc_ValueError hA fun h' tk e ne => hK s₂ k h' tk e ne)))

theorem sp_end {S : SP} (hA : A.handled = none) (hok : S.ok) (hS : SPAt H s.heap tt S vs) (two : Two' (model prog w) A I J E s none none K)
    (hK : ∀ s₂, K s₂ → (∀ T v tk, spEnd S = some T → Rep H T v → Q (.done (.ret v)) { s₂ with toks := tk }) ∧ (spEnd S = none → PySem.Flt.Throws "OverflowError" E s₂)) :
    wpAny (model prog w) A (Builtin.«math.sumprod.loop» ⟨.ref I :: .ref J :: vs, []⟩) Q E s := by
  cases S with
  | I z u =>
    obtain ⟨t0, rfl, ot, n, ht, hd⟩ := hS
    show wpAny _ _ (seqItems? (.ref tt) >>= _) _ _ s
    refine wpAny_bind (wpAny_seqItems ht hd ?_)
    show wpAny _ _ (pyNext (.ref I) >>= _) _ _ s
    refine wpAny_bind (wpAny_mono (two _ ?_) (fun p s₁ h => wpAny_bind (wpAny_holding h)) fun _ _ h => h)
    intro p' q' s₂ hp hq k
    obtain ⟨h1, h2⟩ := hK s₂ k
    cases p' with
    | some _ => cases hp
    | none =>
      cases q' with
      | some _ => cases hq
      | none =>
        dsimp only [Option.isSome, bne, Option.toList]
        rw [if_neg (by simp), if_pos rfl]
        refine wpAny_bind (wpAny_rule ?_)
        cases u with
        | true =>
          rw [if_pos rfl]
          refine wpAny_bind (wpAny_mkInt (wpAny_bind (wpAny_holding (PyProof.Rows.add_int ?_))))
          rw [if_pos rfl]
          refine wpAny_bind (wpAny_rule ?_)
          rw [if_neg (by simp)]
          exact wpAny_pure (h1 _ _ _ rfl (rep_int ..))
        | false =>
          rw [if_neg (by simp), if_pos rfl]
          refine wpAny_bind (wpAny_rule ?_)
          rw [if_neg (by simp)]
          exact wpAny_pure (h1 _ _ s₂.toks rfl (rep_int ..))
  | F T t =>
    obtain ⟨v, rfl, rT, ot, n, ht, hd⟩ := hS
    show wpAny _ _ (seqItems? (.ref tt) >>= _) _ _ s
    refine wpAny_bind (wpAny_seqItems ht hd ?_)
    show wpAny _ _ (pyNext (.ref I) >>= _) _ _ s
    refine wpAny_bind (wpAny_mono (two _ ?_) (fun p s₁ h => wpAny_bind (wpAny_holding h)) fun _ _ h => h)
    intro p' q' s₂ hp hq k
    obtain ⟨h1, h2⟩ := hK s₂ k
    cases p' with
    | some _ => cases hp
    | none =>
      cases q' with
      | some _ => cases hq
      | none =>
        dsimp only [Option.isSome, bne, Option.toList]
        simp only [bits_back']
        rw [if_neg (by simp), if_neg (by simp)]
        (try simp only [eq_self, if_true])
        refine wpAny_bind (wpAny_rule ?_)
        (try simp only [eq_self, if_true])
        refine wpAny_bind (wpAny_mkFloat ?_)
        refine wpAny_bind (wpAny_holding (wp_nadd hA hok (C := .flt (Builtin.Math.tlToFloat t)) trivial rT (rep_flt ..) (fun c => h2 c) fun D u tk c rD => ?_))
        exact wpAny_pure (h1 _ _ _ c rD)
  | G T =>
    obtain ⟨v, t, rfl, rT, ot, n, ht, hd⟩ := hS
    show wpAny _ _ (seqItems? (.ref tt) >>= _) _ _ s
    refine wpAny_bind (wpAny_seqItems ht hd ?_)
    show wpAny _ _ (pyNext (.ref I) >>= _) _ _ s
    refine wpAny_bind (wpAny_mono (two _ ?_) (fun p s₁ h => wpAny_bind (wpAny_holding h)) fun _ _ h => h)
    intro p' q' s₂ hp hq k
    obtain ⟨h1, h2⟩ := hK s₂ k
    cases p' with
    | some _ => cases hp
    | none =>
      cases q' with
      | some _ => cases hq
      | none =>
        dsimp only [Option.isSome, bne, Option.toList]
        rw [if_neg (by simp)]
        exact wpAny_pure (h1 _ _ s₂.toks rfl rT)
end

def Cx.in1 (Γ : Cx) : Cx := { Γ with A := Γ.A.in1 }

theorem TriAt.keep {h h' : Heap} {tt : Addr} {t : Tri} (x : TriAt h tt t) (k : ∀ o, h.get? tt = some o → h'.get? tt = some o) : TriAt h' tt t := by
  obtain ⟨o, n, e, d⟩ := x
  exact ⟨o, n, k o e, d⟩

theorem sp_loop {L : Prop} {Γ : Cx} {H : Hm} {As Bs : List V} {I J : Addr} {fpI fpJ : List Addr} {WI WJ : Nat → Heap → Prop} {PI PJ : Nat → Value → Prop} {Q : Value → Shared → Prop} {E : Value → Shared → Prop} (hA : Γ.A.handled = none) (itI : Itn Γ.in1 H As I fpI WI PI) (La : Last Γ.F.prog Γ.F.w Γ.A.in1 I As.length WI L) (itJ : Itn Γ.in1 H Bs J fpJ WJ PJ) (hIJ : I ≠ J) (hI : H I = none) (hJ : H J = none)
    (nAs : ∀ (i : Nat) A, As[i]? = some A → A.nm) (nBs : ∀ (i : Nat) B, Bs[i]? = some B → B.nmb) (mo : ∀ (i : Nat) A B, As[i]? = some A → Bs[i]? = some B → mulOk A B) :
    ∀ (k i : Nat) (s : Shared) (S : SP) (tt : Addr) (vs : List Value), As.length - i = k → i ≤ As.length → i ≤ Bs.length → S.ok → WI i s.heap → WJ i s.heap → SPAt H s.heap tt S vs → tt ≠ I → tt ≠ J →
    (∀ T v h' tk, spRun S (As.drop i) (Bs.drop i) = .ok T → Rep H T v → Grow (fun b => b = I ∨ b = J) s.heap h' → (L → ∃ o, h'.get? I = some o) → Q v { s with heap := h', toks := tk }) →
    (∀ c h' h'' tk e, spRun S (As.drop i) (Bs.drop i) = .error c → Grow (fun b => b = I ∨ b = J) s.heap h' → (L → ∃ o, h'.get? I = some o) → Heap.NewExc h' h'' e c → E (.ref e) { s with heap := h'', toks := tk }) →
    codeAny Γ.M Γ.A (.builtin "math.sumprod.loop" ⟨.ref I :: .ref J :: vs, []⟩) (Answer Q E) s := by
  have fI : ∀ i h h', WI i h → (∀ b o, b ∉ [J] → h.get? b = some o → h'.get? b = some o) → WI i h' := fun i h h' hw hk => itI.walks.frame i h h' hw fun b hb o e => hk b o (fun z => by
    have z := List.mem_singleton.mp z
    rcases itI.fp b hb with q | ⟨o', q⟩
    · exact hIJ (q.symm.trans z)
    · rw [z, hJ] at q; cases q) e
  have fJ : ∀ i h h', WJ i h → (∀ b o, b ∉ [I] → h.get? b = some o → h'.get? b = some o) → WJ i h' := fun i h h' hw hk => itJ.walks.frame i h h' hw fun b hb o e => hk b o (fun z => by
    have z := List.mem_singleton.mp z
    rcases itJ.fp b hb with q | ⟨o', q⟩
    · exact hIJ (z.symm.trans q)
    · rw [z, hI] at q; cases q) e
  have gI : ∀ h h', (∀ b o, b ∉ [I] → h.get? b = some o → h'.get? b = some o) → Grow (fun b => b = I ∨ b = J) h h' := fun h h' hk b o hb e => hk b o (fun z => hb (.inl (List.mem_singleton.mp z))) e
  have gJ : ∀ h h', (∀ b o, b ∉ [J] → h.get? b = some o → h'.get? b = some o) → Grow (fun b => b = I ∨ b = J) h h' := fun h h' hk b o hb e => hk b o (fun z => hb (.inr (List.mem_singleton.mp z))) e
  intro k
  induction k with
  | zero =>
    intro i s S tt vs hk hi hj hok hwI hwJ hS hti htj hQ hE
    have hin : i = As.length := by omega
    subst hin
    refine codeAny_builtin sp_entry_loop ?_
    rw [Around.under_plainId sp_plain_loop _]
    have hdA : As.drop As.length = [] := List.drop_of_length_le (Nat.le_refl _)
    by_cases hb : As.length < Bs.length
    · refine sp_unlike (p := none) (q := some ()) (K := fun s₂ => ∃ h tk, s₂ = { s with heap := h, toks := tk } ∧ Grow (fun b => b = I ∨ b = J) s.heap h ∧ (L → ∃ o, h.get? I = some o)) hA hS (by simp) ?_ ?_
      · intro R hR
        refine La s _ _ hwI fun h' tk hk' hl => ?_
        refine itJ.walks.item _ _ _ _ hb (fJ _ _ _ hwJ hk') fun v h'' tk'' hP hw'' hk'' => ?_
        exact hR _ _ _ rfl rfl ⟨h'', tk'', rfl, (gI _ _ hk').trans (gJ _ _ hk''), fun z => let ⟨o, e⟩ := hl z; ⟨o, hk'' I o (by simpa using hIJ) e⟩⟩
      · rintro s₂ ⟨h, tk, rfl, g, hl⟩ h' tk' e ne
        refine hE "ValueError" h h' tk' e ?_ g hl ne
        rw [hdA, List.drop_eq_getElem_cons hb]; rfl
    · have hbl : Bs.length = As.length := by omega
      have hdB : Bs.drop As.length = [] := List.drop_of_length_le (by omega)
      refine sp_end (K := fun s₂ => ∃ h tk, s₂ = { s with heap := h, toks := tk } ∧ Grow (fun b => b = I ∨ b = J) s.heap h ∧ (L → ∃ o, h.get? I = some o)) hA hok hS ?_ ?_
      · intro R hR
        refine La s _ _ hwI fun h' tk hk' hl => ?_
        refine itJ.walks.done _ _ _ (hbl ▸ fJ _ _ _ hwJ hk') fun h'' tk'' hk'' => ?_
        exact hR _ _ _ rfl rfl ⟨h'', tk'', rfl, (gI _ _ hk').trans (gJ _ _ hk''), fun z => let ⟨o, e⟩ := hl z; ⟨o, hk'' I o (by simpa using hIJ) e⟩⟩
      · rintro s₂ ⟨h, tk, rfl, g, hl⟩
        refine ⟨fun T v tk' hT rT => ?_, fun hn h' tk' e ne => ?_⟩
        · exact hQ T v h tk' (by rw [hdA, hdB]; simp only [spRun, hT]) rT g hl
        · exact hE "OverflowError" h h' tk' e (by rw [hdA, hdB]; simp only [spRun, hn]) g hl ne
  | succ k ih =>
    intro i s S tt vs hk hi hj hok hwI hwJ hS hti htj hQ hE
    have hlt : i < As.length := by omega
    refine codeAny_builtin sp_entry_loop ?_
    rw [Around.under_plainId sp_plain_loop _]
    by_cases hb : i < Bs.length
    · have eA : As[i]? = some As[i] := List.getElem?_eq_getElem hlt
      have eB : Bs[i]? = some Bs[i] := List.getElem?_eq_getElem hb
      have dA : As.drop i = As[i] :: As.drop (i + 1) := List.drop_eq_getElem_cons hlt
      have dB : Bs.drop i = Bs[i] :: Bs.drop (i + 1) := List.drop_eq_getElem_cons hb
      have two : Two Γ.M Γ.A.in1 I J (fun e s' => Answer Q E (.error e) s') s (fun vb vc s₂ => ∃ h tk, s₂ = { s with heap := h, toks := tk } ∧ Grow (fun b => b = I ∨ b = J) s.heap h ∧ Rep H As[i] vb ∧ Rep H Bs[i] vc ∧ WI (i + 1) h ∧ WJ (i + 1) h) := by
        intro R hR
        refine itI.walks.item i s _ _ hlt hwI fun v h' tk hP hw' hk' => ?_
        refine itJ.walks.item i _ _ _ hb (fJ _ _ _ hwJ hk') fun v'' h'' tk'' hP'' hw'' hk'' => ?_
        obtain ⟨X, hX, rX⟩ := itI.item i v hlt hP
        obtain ⟨Y, hY, rY⟩ := itJ.item i v'' hb hP''
        rw [eA] at hX; cases hX
        rw [eB] at hY; cases hY
        exact hR _ _ _ ⟨h'', tk'', rfl, (gI _ _ hk').trans (gJ _ _ hk''), rX, rY, fI _ _ _ hw' hk'', hw''⟩
      have hKK : ∀ vb vc s₂, (∃ h tk, s₂ = { s with heap := h, toks := tk } ∧ Grow (fun b => b = I ∨ b = J) s.heap h ∧ Rep H As[i] vb ∧ Rep H Bs[i] vc ∧ WI (i + 1) h ∧ WJ (i + 1) h) →
          Rep H As[i] vb ∧ Rep H Bs[i] vc ∧ (∀ t, TriAt s.heap tt t → TriAt s₂.heap tt t) ∧
          Turn H I J s₂ (spStep S As[i] Bs[i]) (fun fin s' => match fin with | .done f => Answer Q E (.ok f) s' | .again c' => c'.quiet = true ∧ codeAny Γ.M Γ.A c' (Answer Q E) s') (fun e s' => Answer Q E (.error e) s') := by
        rintro vb vc s₂ ⟨h, tk, rfl, g, rX, rY, w1, w2⟩
        refine ⟨rX, rY, fun t ht => ht.keep fun o e => g tt o (fun z => z.elim hti htj) e, ?_, ?_⟩
        · intro S' h' tk' tt' vs' hR hok' hkp hth hnew hS'
          have g' : Grow (fun b => b = I ∨ b = J) s.heap h' := fun b o hb e => hkp b o (g b o hb e)
          have htI : ∃ o, h.get? I = some o := let ⟨o, _, e, _⟩ := itI.obj _ _ w1; ⟨o, e⟩
          have htJ : ∃ o, h.get? J = some o := let ⟨o, _, e, _⟩ := itJ.obj _ _ w2; ⟨o, e⟩
          refine ⟨plainId_quiet sp_plain_loop _, ih (i + 1) _ S' tt' vs' (by omega) hlt hb hok' (itI.walks.frame _ _ _ w1 fun b _ o e => hkp b o e) (itJ.walks.frame _ _ _ w2 fun b _ o e => hkp b o e) hS' ?_ ?_ ?_ ?_⟩
          · intro z
            obtain ⟨_, _, _, _, _, _, _, _, o, n, e, d⟩ := hS'.shape
            obtain ⟨oI, vI, eI, dI⟩ := itI.obj _ _ w1
            have := hkp I oI eI
            rw [z, this] at e; cases e
            rw [dI] at d; cases d
          · intro z
            obtain ⟨_, _, _, _, _, _, _, _, o, n, e, d⟩ := hS'.shape
            obtain ⟨oI, vI, eI, dI⟩ := itJ.obj _ _ w2
            have := hkp J oI eI
            rw [z, this] at e; cases e
            rw [dI] at d; cases d
          · intro T v h₃ tk₃ hT rT g₃ hl
            exact hQ T v h₃ tk₃ (by rw [dA, dB]; simp only [spRun, hR]; exact hT) rT (g'.trans g₃) hl
          · intro c h₃ h₄ tk₃ e hc g₃ hl ne
            exact hE c h₃ h₄ tk₃ e (by rw [dA, dB]; simp only [spRun, hR]; exact hc) (g'.trans g₃) hl ne
        · intro hn h' tk' e ne
          exact hE "OverflowError" h h' tk' e (by rw [dA, dB]; simp only [spRun, hn]) g (fun _ => let ⟨o, _, e, _⟩ := itI.obj _ _ w1; ⟨o, e⟩) ne
      cases S with
      | I z u => exact sp_turn_I hA hS two (nAs i _ eA) (nBs i _ eB) (mo i _ _ eA eB) hKK
      | F T t => exact sp_turn_F hA hok hS two (nAs i _ eA) (nBs i _ eB) (mo i _ _ eA eB) hKK
      | G T => exact sp_turn_G hA hok hS two (nAs i _ eA) (nBs i _ eB) (mo i _ _ eA eB) hKK
    · have hbl : i = Bs.length := by omega
      refine sp_unlike (p := some ()) (q := none) (K := fun s₂ => ∃ h tk, s₂ = { s with heap := h, toks := tk } ∧ Grow (fun b => b = I ∨ b = J) s.heap h ∧ (L → ∃ o, h.get? I = some o)) hA hS (by simp) ?_ ?_
      · intro R hR
        refine itI.walks.item i s _ _ hlt hwI fun v h' tk hP hw' hk' => ?_
        refine itJ.walks.done _ _ _ (hbl ▸ fJ _ _ _ hwJ hk') fun h'' tk'' hk'' => ?_
        exact hR _ _ _ rfl rfl ⟨h'', tk'', rfl, (gI _ _ hk').trans (gJ _ _ hk''), fun z => let ⟨o, _, e, _⟩ := itI.obj _ _ hw'; ⟨o, hk'' I o (by simpa using hIJ) e⟩⟩
      · rintro s₂ ⟨h, tk, rfl, g, hl⟩ h' tk' e ne
        refine hE "ValueError" h h' tk' e ?_ g hl ne
        rw [List.drop_eq_getElem_cons hlt, List.drop_of_length_le (show Bs.length ≤ i by omega)]; rfl
end Mine
end
section
open PySem PySem.W PyProof.Rows
set_option linter.unusedVariables false
set_option maxRecDepth 100000
namespace Mine
theorem StH.in1 {Γ : Cx} {H : Hm} {O : OSet} {loc : Loc} {h : Heap} {os : OsState} {g : Array GenState} (st : StH Γ H O loc h os g) : StH Γ.in1 H O loc h os g :=
  { base := st.base, agree := st.agree, nofr := st.nofr, os := st.os, gens := st.gens, obase := st.obase, ohm := st.ohm, othere := st.othere, kind := st.kind, ns := st.ns, onsO := st.onsO, vars := st.vars, sep := st.sep, apart := st.apart, cells := st.cells, cne := st.cne, cinj := st.cinj, frames := st.frames }

/-- a list iterator, from where it stands -/
theorem walks_from {prog : Program} {w : World} {A : Around} (hh : A.handled = none) (I ax : Addr) (hne : ax ≠ I) (items : Array Value) (k : Nat) :
    Walks prog w A I [I, ax] [I] (items.size - k) (fun i v => items[k + i]? = some v) (fun i h => h.IsListIter I ax (k + i) ∧ h.IsList ax items) where
  sub := fun b hb => by simp at hb; simp [hb]
  frame := fun _ _ _ st hk => ⟨st.1.at fun o e => hk I (by simp) o e, st.2.at fun o e => hk ax (by simp) o e⟩
  item := fun i s Q E hi st hQ => by
    have hi' : k + i < items.size := by omega
    refine wpAny_pyNext_list_item st.1 st.2 (x := items[k + i]) (by simp [hi']) fun h' hit' hs' => ?_
    exact hQ _ h' s.toks (by simp [hi']) ⟨hit', st.2.extBut hs'.extBut hne⟩ fun b o hb e => hs'.extBut b o (fun h => hb (by simp [h])) e
  done := fun s Q E st hQ => wpAny_pyNext_list_end hh st.1 st.2 (by simp; omega) fun h' he' => hQ h' s.toks fun b o hb e => he' b o (fun h => hb (by simp [h])) e
  self := fun _ _ _ _ st hQ => wpAny_pyIter_listiter st.1 hQ

/-- at the end of a list's iterator: it is still there -/
theorem li_end {prog : Program} {w : World} {A : Around} {E : Value → Shared → Prop} {s : Shared} {it l : Addr} {i : Nat} {items} {Q : Option Value → Shared → Prop} (hh : A.handled = none)
    (hit : s.heap.IsListIter it l i) (hl : s.heap.IsList l items) (hx : items[i]? = none)
    (hQ : ∀ h', Heap.ExtBut it s.heap h' → (∃ o, h'.get? it = some o) → Q none { s with heap := h' }) : wpAny (model prog w) A (pyNext (.ref it)) Q E s := by
  obtain ⟨o, ho, hc, hd⟩ := id hit
  obtain ⟨ol, hol, _, nl, hdl⟩ := hl
  unfold pyNext
  refine wpAny_bind (wpAny_attempt (wpAny_callSpecial?_slot (name := Str.ofString "__next__") hit.typeIs slot_listiter_next
    (wpAny_call_entry slot_listiter_next hit.typeIs entry_listiter_next ?_ (args_listiter_next _))))
  refine wpAny_bind (m := field (.ref it) 0) (wpAny_field ho hd (x := .ref l) rfl ?_)
  show wpAny _ _ (if (Value.ref l == Value.none) = true then _ else _) _ _ s
  rw [if_neg (show ¬ ((Value.ref l == Value.none) = true) from Bool.false_ne_true)]
  refine wpAny_bind (m := field (.ref it) 1) (wpAny_field ho hd (x := .int i 0) rfl ?_)
  refine wpAny_bind (m := seqItems? (.ref l)) (wpAny_seqItems hol hdl ?_)
  simp only [Int.toNat_natCast, hx]
  refine wpAny_bind (wpAny_rule (wpAny_bind (wpAny_setField ho hd (by simp) ?_)))
  refine wpAny_bind (m := newExc (.type "StopIteration") []) ?_
  simp only [newExc, newTuple]
  refine wpAny_bind (wpAny_newObj_type ?_ (by size_fits))
  refine wpAny_bind (m := firstArgMember _ _) (wpAny_of_eq (a := Value.none) (by first | rfl | (simp only [firstArgMember]; rfl)) ?_)
  refine wpAny_newObj_type ?_ (by size_fits)
  simp only [raiseNew]
  refine wpAny_bind (wpAny_handled ?_)
  rw [show A.in1.handled = none from hh]
  refine wpAny_bind (wpAny_pure (wpAny_throw ?_))
  refine wpAny_bind (wpAny_isInstance (T := "StopIteration") (b := true) ⟨_, Heap.get?_push_size _ rfl, rfl⟩ isSubtype_stop ?_)
  exact wpAny_pure (hQ _ (((Heap.SameBut.update ..).extBut.push _).push _) ⟨_, Heap.get?_push_of_some _ (Heap.get?_push_of_some _ (Heap.get?_update_self _ ho (Obj.isFreed_of_fields (Obj.data_mapFields hd _))))⟩)

theorem li_last {prog : Program} {w : World} {A : Around} (hh : A.handled = none) (I ax : Addr) (items : Array Value) (k : Nat) (L : Prop) : Last prog w A I (items.size - k) (fun i h => h.IsListIter I ax (k + i) ∧ h.IsList ax items) L :=
  fun s Q E st hQ => li_end hh st.1 st.2 (by simp; omega) fun h' he' ht => hQ h' s.toks (fun b o hb e => he' b o (fun h => hb (by simp [h])) e) fun _ => ht

/-- what is walked along: a list, a tuple; or an iterator -/
def SrcV (H : Hm) (h : Heap) (rel : Addr → Prop) (v : Value) (As : List V) : Prop :=
  (∃ A, (A = .lst As ∨ A = .tup As) ∧ Rep H A v) ∨ (∃ a, v = .ref a ∧ H a = none ∧ rel a ∧ ItrL H h a As)

section
variable {Γ : Cx} {loc : Loc} {QL : LV → Loc → Prop} {Q : V → Loc → Prop} {X : Exc → Loc → Prop}

theorem wp_src {H : Hm} {O : OSet} {s : Shared} {v : Value} {As : List V} {rel : Addr → Prop} {Q : Value → Shared → Prop} {E : Value → Shared → Prop} (st : St Γ H O loc s) (r : SrcV H s.heap rel v As) (hh : Γ.A.handled = none)
    (k : ∀ I fp W P (h' : Heap), Itn Γ H As I fp W P → Last Γ.F.prog Γ.F.w Γ.A I As.length W (∃ o, s.heap.get? I = some o) → W 0 h' → H I = none → (s.heap.get? I = none ∨ rel I) → (∀ b o, s.heap.get? b = some o → h'.get? b = some o) → Q (.ref I) { s with heap := h' }) :
    wpAny Γ.M Γ.A (pyIter v) Q E s := by
  rcases r with ⟨A, hA, r⟩ | ⟨a, rfl, hm, hr, l, i, o, xs, n, hit, hl, hc, hd, rs⟩
  · have hi : A.items = As ∧ A.iter := by rcases hA with rfl | rfl <;> exact ⟨rfl, trivial⟩
    refine wp_iter st r hi.2 hh fun I fp W P h' it w0 hI hk ho => k I fp W P h' (hi.1 ▸ it) (.of_walks (hi.1 ▸ it.walks) fun ⟨o, e⟩ => by rw [hI] at e; cases e) w0 ?_ (.inl hI) hk
    cases e : H I with
    | none => rfl
    | some o => have := st.agree I o e; rw [hI] at this; cases this
  · have hne : l ≠ a := fun z => by rw [z, hm] at hl; cases hl
    refine wpAny_pyIter_listiter hit ?_
    have W := walks_from (prog := Γ.F.prog) (w := Γ.F.w) hh a l hne xs i
    have La := li_last (prog := Γ.F.prog) (w := Γ.F.w) hh a l xs i (∃ o, s.heap.get? a = some o)
    have hlen : xs.size - i = As.length := by rw [← rs.length]; simp
    rw [hlen] at W La
    refine k _ _ _ _ _ ⟨W, fun j v hj hv => ?_, fun b hb => ?_, fun j h hw => ?_⟩ La ⟨hit, o, st.agree _ _ hl, hc, n, hd⟩ hm (.inr hr) (fun b o e => e)
    · have hv' : (xs.toList.drop i)[j]? = some v := by simpa using hv
      cases hA : As[j]? with
      | none => rw [List.getElem?_eq_none_iff] at hA; omega
      | some B =>
        obtain ⟨y, ey, ry⟩ := rs.get hA
        rw [hv'] at ey; cases ey
        exact ⟨B, rfl, ry⟩
    · rcases List.mem_cons.mp hb with rfl | hb
      · exact .inl rfl
      · rw [List.mem_singleton.mp hb]; exact .inr ⟨o, hl⟩
    · obtain ⟨⟨q, e1, _, e3⟩, _⟩ := hw; exact ⟨q, _, e1, e3⟩

/-- what a builtin that walks along a source leaves -/
def GrowT (rel : Addr → Prop) (h h' : Heap) : Prop := Grow rel h h' ∧ ∀ b o, rel b → h.get? b = some o → ∃ o', h'.get? b = some o'

/-- check of a builtin function's arguments -/
theorem wp_check {prog : Program} {w : World} {A : Around} {id : String} {args : List Value} {s : Shared} {Q : Unit → Shared → Prop} {E : Value → Shared → Prop} (hk : builtinKind id = none) (ha : argsOk id ⟨args, []⟩) (h : Q () s) :
    wpAny (model prog w) A (checkBuiltinCall id ⟨args, []⟩) Q E s := by
  simp only [checkBuiltinCall, hk]
  cases hsig : Manifest.signature? id with
  | none => exact wpAny_pure h
  | some sig =>
    have ha' : Bind.checkArgs id sig ⟨args, []⟩ = pure () := by simpa only [argsOk, hsig] using ha
    simp only [ha']
    exact wpAny_pure h

theorem wp_fsum {H : Hm} {O : OSet} {s : Shared} {v : Value} {As : List V} {rel : Addr → Prop} {Q : Value → Shared → Prop} {E : Value → Shared → Prop} (st : St Γ H O loc s) (r : SrcV H s.heap rel v As) (hh : Γ.A.handled = none) (hz : As.length < sizeLine) (hf : ∀ (i : Nat) A, As[i]? = some A → A.fin)
    (hQ : ∀ x t h' tk, fsumRun [] As = some x → GrowT rel s.heap h' → Q (.float x t) { s with heap := h', toks := tk })
    (hE : ∀ h' h'' tk e, fsumRun [] As = none → GrowT rel s.heap h' → Heap.NewExc h' h'' e "OverflowError" → E (.ref e) { s with heap := h'', toks := tk }) :
    wpAny Γ.M Γ.A (call (.builtin "math.fsum") [v]) Q E s := by
  refine wpAny_call (codeAny_call_builtin fs_plain fs_entry (wp_check fs_kind (fs_args v) ?_))
  show wpAny _ Γ.A.in1 (pyIter v >>= _) _ _ s
  refine wpAny_bind (wp_src (Γ := Γ.in1) st.in1 r hh fun I fp W P h' it La w0 hI hnr hk => ?_)
  show wpAny _ Γ.A.in1 (newTuple [] >>= _) _ _ _
  refine wpAny_bind (wpAny_newTuple ?_ (by decide))
  show wpAny _ Γ.A.in1 (newTuple [rawInt (Float64.zero false).toNat, rawInt (Float64.zero false).toNat] >>= _) _ _ _
  refine wpAny_bind (wpAny_newTuple (wpAny_pure ⟨plainId_quiet fs_plain_loop _, ?_⟩) (by show 2 ≤ sizeLine; decide))
  have g : Grow rel s.heap h' := fun b o _ e => hk b o e
  have gI : ∀ {h₁ h₂ h₃ : Heap}, Grow rel s.heap h₁ → (∀ b o, s.heap.get? b = some o → h₁.get? b = some o) → Grow (· = I) h₁ h₂ → Grow rel s.heap h₂ := fun g hk g' b o hb e => g' b o (fun z => by
    subst z
    rcases hnr with q | q
    · rw [q] at e; cases e
    · exact hb q) (g b o hb e)
  have tt : ∀ {h₁ h₂ : Heap}, ((∃ o, s.heap.get? I = some o) → ∃ o, h₂.get? I = some o) → Grow (· = I) ((h'.push { cls := .type "tuple", data := .seq ([] : List Value).toArray }).push { cls := .type "tuple", data := .seq [rawInt (Float64.zero false).toNat, rawInt (Float64.zero false).toNat].toArray }) h₂ →
      ∀ b o, s.heap.get? b = some o → ∃ o', h₂.get? b = some o' := fun hl hg b o e => by
    by_cases z : b = I
    · subst z; exact hl ⟨o, e⟩
    · exact ⟨o, hg b o z (Heap.get?_push_of_some _ (Heap.get?_push_of_some _ (hk b o e)))⟩
  have hth : ∀ i h, W i h → ∃ o, h.get? I = some o := fun i h hw => let ⟨o, _, e, _⟩ := it.obj i h hw; ⟨o, e⟩
  obtain ⟨oI, eI⟩ := hth _ _ w0
  have ltI := Heap.lt_size eI
  refine fsum_loop (H := H) (A := Γ.A) hh it.walks La rfl hz hth (fun i v hi hv => ?_) As.length 0 _ [] _ _ _ _ 0 0 rfl (Nat.zero_le _) (Nat.le_refl _) (it.walks.frame _ _ _ w0 fun b _ o e => Heap.get?_push_of_some _ (Heap.get?_push_of_some _ e)) ?_ ?_ (Heap.get?_push_of_some _ (Heap.get?_push_size _ rfl)) rfl (Heap.get?_push_size _ rfl) rfl ?_ ?_
  · obtain ⟨B, hB, rB⟩ := it.item i v hi hv
    exact ⟨B, hB, rB, hf i B hB⟩
  · exact fun z => absurd (z ▸ ltI) (Nat.lt_irrefl _)
  · intro z
    have : (h'.push { cls := .type "tuple", data := .seq ([] : List Value).toArray }).get? I = some oI := Heap.get?_push_of_some _ eI
    have := Heap.lt_size this
    exact absurd (z ▸ this) (Nat.lt_irrefl _)
  · intro x t h₂ tk hx hg hl
    have g₂ : Grow rel s.heap h₂ := gI (h₃ := h₂) ((g.trans (.push _ _ _)).trans (.push _ _ _)) (fun b o e => Heap.get?_push_of_some _ (Heap.get?_push_of_some _ (hk b o e))) hg
    exact hQ x t h₂ tk hx ⟨g₂, fun b o hb e => tt (h₁ := h₂) hl hg b o e⟩
  · intro hx h₂ h₃ tk e hg hl ne
    have g₂ : Grow rel s.heap h₂ := gI (h₃ := h₂) ((g.trans (.push _ _ _)).trans (.push _ _ _)) (fun b o e => Heap.get?_push_of_some _ (Heap.get?_push_of_some _ (hk b o e))) hg
    exact hE h₂ h₃ tk e hx ⟨g₂, fun b o hb e => tt (h₁ := h₂) hl hg b o e⟩ ne

theorem wp_sumprod {H : Hm} {O : OSet} {s : Shared} {v u : Value} {As Bs : List V} {B : V} {rel : Addr → Prop} {Q : Value → Shared → Prop} {E : Value → Shared → Prop} (st : St Γ H O loc s) (r : SrcV H s.heap rel v As) (hB : B = .lst Bs ∨ B = .tup Bs) (ru : Rep H B u) (hh : Γ.A.handled = none)
    (nAs : ∀ (i : Nat) A, As[i]? = some A → A.nm) (nBs : ∀ (i : Nat) B, Bs[i]? = some B → B.nmb) (mo : ∀ (i : Nat) A B, As[i]? = some A → Bs[i]? = some B → mulOk A B)
    (hQ : ∀ T v h' tk, spRun (.I 0 false) As Bs = .ok T → Rep H T v → GrowT rel s.heap h' → Q v { s with heap := h', toks := tk })
    (hE : ∀ c h' h'' tk e, spRun (.I 0 false) As Bs = .error c → GrowT rel s.heap h' → Heap.NewExc h' h'' e c → E (.ref e) { s with heap := h'', toks := tk }) :
    wpAny Γ.M Γ.A (call (.builtin "math.sumprod") [v, u]) Q E s := by
  refine wpAny_call (codeAny_call_builtin (id := "math.sumprod") (args := ⟨[v, u], []⟩) sp_plain sp_entry ?_)
  refine wp_check (id := "math.sumprod") (args := [v, u]) sp_kind (sp_args v u) ?_
  show wpAny _ Γ.A.in1 (pyIter v >>= _) _ _ s
  refine wpAny_bind (wp_src (Γ := Γ.in1) st.in1 r hh fun I fp W P h₁ it La w0 hI hnr hk => ?_)
  have st₁ : StH Γ H O loc h₁ s.os s.gens := st.ext (fun b o e => ⟨o, hk b o e, .refl ..⟩) st.gens (.refl _) fun b o e => .inl e
  refine wpAny_bind (wpAny_holding (wp_src (Γ := Γ.in1) (s := { s with heap := h₁ }) (rel := fun _ => False) st₁.in1 (.inl ⟨B, hB, ru⟩) hh fun J fp' W' P' h₂ it' _ w0' hJ hnr' hk' => ?_))
  have hJ1 : h₁.get? J = none := hnr'.resolve_right id
  refine wpAny_bind (wpAny_mkInt ?_)
  show wpAny _ Γ.A.in1 (newTuple [rawInt (Float64.zero false).toNat, rawInt (Float64.zero false).toNat, rawInt (Float64.zero false).toNat] >>= _) _ _ _
  refine wpAny_bind (wpAny_newTuple (wpAny_pure ⟨plainId_quiet sp_plain_loop _, ?_⟩) (by show 3 ≤ sizeLine; decide))
  obtain ⟨oI, _, eI, _⟩ := it.obj _ _ w0
  obtain ⟨oJ, _, eJ, _⟩ := it'.obj _ _ w0'
  have eI2 := hk' I oI eI
  have hIJ : I ≠ J := fun z => by subst z; rw [eI] at hJ1; cases hJ1
  have gI : ∀ {h₃ : Heap}, Grow (fun b => b = I ∨ b = J) (h₂.push { cls := .type "tuple", data := .seq #[rawInt (Float64.zero false).toNat, rawInt (Float64.zero false).toNat, rawInt (Float64.zero false).toNat] }) h₃ → Grow rel s.heap h₃ := fun g' b o hb e => g' b o (fun z => by
    rcases z with rfl | rfl
    · rcases hnr with q | q
      · rw [q] at e; cases e
      · exact hb q
    · have := hk _ _ e; rw [hJ1] at this; cases this) (Heap.get?_push_of_some _ (hk' b o (hk b o e)))
  have tt : ∀ {h₃ : Heap}, ((∃ o, s.heap.get? I = some o) → ∃ o, h₃.get? I = some o) → Grow (fun b => b = I ∨ b = J) (h₂.push { cls := .type "tuple", data := .seq #[rawInt (Float64.zero false).toNat, rawInt (Float64.zero false).toNat, rawInt (Float64.zero false).toNat] }) h₃ →
      ∀ b o, s.heap.get? b = some o → ∃ o', h₃.get? b = some o' := fun hl hg b o e => by
    by_cases z : b = I
    · subst z; exact hl ⟨o, e⟩
    · refine ⟨o, hg b o (fun q => q.elim z fun q => ?_) (Heap.get?_push_of_some _ (hk' b o (hk b o e)))⟩
      have := hk _ _ e; rw [q, hJ1] at this; cases this
  refine sp_loop (Γ := Γ) hh it La it' hIJ hI hJ nAs nBs mo As.length 0 _ (.I 0 false) h₂.objs.size _ rfl (Nat.zero_le _) (Nat.zero_le _) trivial (it.walks.frame _ _ _ w0 fun b _ o e => Heap.get?_push_of_some _ (hk' b o e)) (it'.walks.frame _ _ _ w0' fun b _ o e => Heap.get?_push_of_some _ e) ⟨_, rfl, _, 0, Heap.get?_push_size _ rfl, rfl⟩ ?_ ?_ ?_ ?_
  · exact fun z => absurd (z ▸ Heap.lt_size eI2) (Nat.lt_irrefl _)
  · exact fun z => absurd (z ▸ Heap.lt_size eJ) (Nat.lt_irrefl _)
  · intro T v h₃ tk hT rT hg hl
    exact hQ T v h₃ tk hT rT ⟨gI hg, fun b o hb e => tt hl hg b o e⟩
  · intro c h₃ h₄ tk e hc hg hl ne
    exact hE c h₃ h₄ tk e hc ⟨gI hg, fun b o hb e => tt hl hg b o e⟩ ne
end
end Mine
end
section
open PySem PySem.W PyProof.Rows
set_option linter.unusedVariables false
set_option maxRecDepth 100000
namespace Mine

theorem li_no_len : typeLookup (.type "list_iterator") "__len__" = pure none := by rw [typeLookup_type, builtinLookup_eq_fast]; kernel_rfl
theorem li_hint : typeLookup (.type "list_iterator") "__length_hint__" = pure (some (.builtin "list_iterator.__length_hint__")) := by rw [typeLookup_type, builtinLookup_eq_fast]; kernel_rfl
theorem li_split : splitId "list_iterator.__length_hint__" = some ("list_iterator", "__length_hint__") := by decide +kernel
theorem li_self : isSubtype (.type "list_iterator") (.type "list_iterator") = pure true := by rw [isSubtype_type]; kernel_rfl

section
variable {prog : Program} {w : World} {A : Around} {s : Shared} {R : Result → Shared → Prop} {I : Addr} {fp : List Addr} {n : Nat} {P : Nat → Value → Prop} {W : Nat → Heap → Prop}

theorem wp_hint_li {Q : Bool → Shared → Prop} {E : Value → Shared → Prop} (hT : s.TypeIs (.ref I) "list_iterator") (h : Q false s) : wpAny (model prog w) A (Builtin.List.listLengthHint (.ref I)) Q E s := by
  unfold Builtin.List.listLengthHint
  refine wpAny_bind (wpAny_specialOf hT li_no_len ?_)
  show wpAny _ _ (specialOf (Value.ref I) (Str.ofString "__length_hint__") >>= _) _ _ _
  refine wpAny_bind (wpAny_specialOf hT li_hint ?_)
  dsimp only
  rw [li_split]
  dsimp only
  refine wpAny_bind (wpAny_isInstance hT li_self ?_)
  exact wpAny_pure h

theorem extend_loop {L : Prop} (La : Last prog w A.in1 I n W L) (Wk : Walks prog w A.in1 I fp [I] n P W) (hn : n ≤ sizeLine) (S : Addr) (hSf : S ∉ fp) (res : Value) :
    ∀ (k i : Nat) (s : Shared) (acc : Array Value) (c : Nat), n - i = k → i ≤ n → W i s.heap → s.heap.get? S = some { cls := .type "list", dict := none, data := .seq acc c, slots := #[] } → ItemsOf P acc i →
    (∀ h' tk acc' c', (∀ b o, b ≠ S → b ≠ I → s.heap.get? b = some o → h'.get? b = some o) → (L → ∃ o, h'.get? I = some o) → h'.get? S = some { cls := .type "list", dict := none, data := .seq acc' c', slots := #[] } → ItemsOf P acc' n → R (.ok (.ret res)) { s with heap := h', toks := tk }) →
    codeAny (model prog w) A (.builtin "list.extend.loop" ⟨[.ref S, .ref I, res], []⟩) R s := by
  have hSI : S ≠ I := fun e => hSf (e ▸ Wk.sub I (by simp))
  intro k
  induction k with
  | zero =>
    intro i s acc c hk hi hst hS hacc hR
    have hin : i = n := by omega
    subst hin
    refine codeAny_builtin F.entry_extend_loop ?_
    rw [Around.under_plainId F.plain_extend_loop _]
    show wpAny _ A.in1 (pyNext (.ref I) >>= _) _ _ s
    refine wpAny_bind (La s _ _ hst fun h' tk hk' hl => ?_)
    exact wpAny_pure (hR h' tk acc c (fun b o _ hb e => hk' b o (by simpa using hb) e) hl (hk' S _ (by simpa using hSI) hS) hacc)
  | succ k ih =>
    intro i s acc c hk hi hst hS hacc hR
    have hlt : i < n := by omega
    refine codeAny_builtin F.entry_extend_loop ?_
    rw [Around.under_plainId F.plain_extend_loop _]
    show wpAny _ A.in1 (pyNext (.ref I) >>= _) _ _ s
    refine wpAny_bind (Wk.item i s _ _ hlt hst fun v h' tk hP hst' hk' => ?_)
    have hS' := hk' S _ (by simpa using hSI) hS
    show wpAny _ A.in1 (updateSeq S (·.push v) >>= _) _ _ _
    refine wpAny_bind ?_
    refine wpAny_updateSeq hS' rfl (wpAny_pure ⟨plainId_quiet F.plain_extend_loop _, ih (i + 1) _ (acc.push v) _ (by omega) hlt (Wk.frame _ _ _ hst' fun b hb o e => ?_) (Heap.get?_update_self _ hS' rfl) (hacc.push hP) fun h₂ tk₂ acc' c' hk₂ hl hS'' hacc' => ?_⟩)
      (by rw [hacc.1]; omega) (by show (acc.push v).size ≤ sizeLine + 1; rw [Array.size_push, hacc.1]; omega)
    · exact (Heap.get?_update_other _ _ (fun h : S = b => hSf (by rw [h]; exact hb))).trans e
    · refine hR h₂ tk₂ acc' c' (fun b o hbS hbI e => hk₂ b o hbS hbI ?_) hl hS'' hacc'
      exact (Heap.get?_update_other _ _ (fun h : S = b => hbS h.symm)).trans (hk' b o (by simpa using hbI) e)

theorem list_init_li {L : Prop} (La : Last prog w A.in1 I n W L) (Wk : Walks prog w A.in1 I fp [I] n P W) (hT : ∀ i h, W i h → ∃ o, h.get? I = some o ∧ o.cls = .type "list_iterator") (S : Addr) (hst : W 0 s.heap) (hSf : S ∉ fp)
    (hS : s.heap.get? S = some { cls := .type "list", data := .seq #[] })
    (hR : ∀ h' tk acc' c', (∀ b o, b ≠ S → b ≠ I → s.heap.get? b = some o → h'.get? b = some o) → (L → ∃ o, h'.get? I = some o) → h'.get? S = some { cls := .type "list", dict := none, data := .seq acc' c', slots := #[] } → ItemsOf P acc' n → R (.ok (.ret .none)) { s with heap := h', toks := tk }) (hn : n ≤ sizeLine) :
    wpAny (model prog w) A.in1 (Builtin.«list.__init__» ⟨[.ref S, .ref I], []⟩)
      (fun fin s' => match fin with | .done f => R (.ok f) s' | .again c' => c'.quiet = true ∧ codeAny (model prog w) A c' R s') (fun e s' => R (.error e) s') s := by
  have hSI : S ≠ I := fun e => hSf (e ▸ Wk.sub I (by simp))
  show wpAny _ A.in1 (do let old ← Builtin.List.listItems (.ref S); Builtin.List.listUpdate (.ref S) (fun _ => #[]); letGo old.toList.reverse; Builtin.List.listExtendWith (.ref S) (.ref I) .none) _ _ s
  refine wpAny_bind ?_
  unfold Builtin.List.listItems
  refine wpAny_bind (wpAny_seqItems hS rfl (wpAny_pure ?_))
  show wpAny _ A.in1 (updateSeq S (fun _ => #[]) >>= fun _ => letGo (#[] : Array Value).toList.reverse >>= fun _ => Builtin.List.listExtendWith (.ref S) (.ref I) .none) _ _ s
  refine wpAny_bind (wpAny_updateSeq hS rfl ?_)
  have hS₂ := Heap.get?_update_self (Obj.mapSeq (fun _ => (#[] : Array Value))) hS rfl
  have oth : ∀ b o, b ≠ S → s.heap.get? b = some o → (s.heap.update S (Obj.mapSeq (fun _ => (#[] : Array Value)))).get? b = some o :=
    fun b o hb e => (Heap.get?_update_other _ _ (Ne.symm hb)).trans e
  refine wpAny_bind (wpAny_letGo ?_)
  have hst₂ := Wk.frame 0 _ _ hst fun b hb o e => oth b o (fun h => hSf (h ▸ hb)) e
  unfold Builtin.List.listExtendWith
  have hT2 : Shared.TypeIs { s with heap := s.heap.update S (Obj.mapSeq (fun _ => (#[] : Array Value))) } (.ref I) "list_iterator" := hT 0 _ hst₂
  refine wpAny_bind (wpAny_typeOf hT2 ?_)
  have h1 : Builtin.List.listSameRef (.ref S) (.ref I) = false := by simp [Builtin.List.listSameRef, hSI]
  have h2 : (Value.type "list_iterator" == Value.type "list") = false := by decide
  have h3 : (Value.type "list_iterator" == Value.type "tuple") = false := by decide
  simp only [h1, h2, h3, Bool.or_false, Bool.false_eq_true, if_false]
  refine wpAny_bind (Wk.self 0 _ _ _ hst₂ ?_)
  refine wpAny_bind (wpAny_holding (wp_hint_li hT2 ?_))
  show wpAny _ _ (again _) _ _ _
  refine wpAny_pure ⟨plainId_quiet F.plain_extend_loop _, extend_loop La Wk hn S hSf _ n 0 _ #[] _ rfl (Nat.zero_le _) hst₂ hS₂ (ItemsOf.nil P) fun h' tk acc' c' hk hl hS' hacc => ?_⟩
  exact hR h' tk acc' c' (fun b o hbS hbI e => hk b o hbS hbI (oth b o hbS e)) hl hS' hacc

theorem call_list_li {L : Prop} {Q : Value → Shared → Prop} {E : Value → Shared → Prop} (La : Last prog w A.in1.in1 I n W L) (Wk : Walks prog w A.in1.in1 I fp [I] n P W) (hT : ∀ i h, W i h → ∃ o, h.get? I = some o ∧ o.cls = .type "list_iterator") (hst : W 0 s.heap) (hfp : ∀ b ∈ fp, b < s.heap.objs.size)
    (hQ : ∀ h' tk acc' c', (∀ b o, b ≠ I → s.heap.get? b = some o → h'.get? b = some o) → (L → ∃ o, h'.get? I = some o) →
      h'.get? s.heap.objs.size = some { cls := .type "list", dict := none, data := .seq acc' c', slots := #[] } → ItemsOf P acc' n → Q (.ref s.heap.objs.size) { s with heap := h', toks := tk }) (hn : n ≤ sizeLine) :
    wpAny (model prog w) A (call (.type "list") [.ref I]) Q E s := by
  have hSf : s.heap.objs.size ∉ fp := fun hm => Nat.lt_irrefl _ (hfp _ hm)
  refine callType_codes (Q₁ := fun obj s₁ => obj = .ref s.heap.objs.size ∧ s₁ = { s with heap := s.heap.push { cls := .type "list", data := .seq #[] } }) F.called_list (F.typeCall_list_1 _) F.entry_list_init
    (code_list_new _ ⟨rfl, rfl⟩) fun obj s₁ h₁ => ?_
  obtain ⟨rfl, rfl⟩ := h₁
  have hS : (s.heap.push { cls := .type "list", data := .seq #[] }).get? s.heap.objs.size = some { cls := .type "list", data := .seq #[] } := Heap.get?_push_size _ rfl
  refine ⟨⟨_, hS, rfl⟩, F.args_list_init_2 _ _, list_init_li La Wk hT _ (Wk.frame 0 _ _ hst fun b _ o e => Heap.get?_push_of_some _ e) hSf hS (fun h' tk acc' c' hk hl hS' hacc => ?_) hn⟩
  refine ⟨rfl, hQ h' tk acc' c' (fun b o hb e => hk b o (fun z => ?_) hb (Heap.get?_push_of_some _ e)) hl hS' hacc⟩
  exact absurd (z ▸ Heap.lt_size e) (Nat.lt_irrefl _)
end
end Mine
end
section
open PySem PySem.W PyProof.Rows
set_option linter.unusedVariables false
set_option maxRecDepth 100000
namespace Mine
section
variable {Γ : Cx} {loc loc' : Loc} {Q : V → Loc → Prop} {QL : LV → Loc → Prop} {QB : Bool → Loc → Prop} {X : Exc → Loc → Prop} {x y : Str} {As Bs : List V}

/-- an iterator of the frame's own is let go: nobody speaks of it any more -/
theorem StH.release {H : Hm} {O : OSet} {h : Heap} {os : OsState} {g : Array GenState} (st : StH Γ H O loc h os g) (hx : loc.lookup x = some (.itr As)) (hw : ∀ y lv, loc'.lookup y = some lv → loc.lookup y = some lv) (hn : loc'.lookup x = none) :
    ∃ a, VarIs Γ.env h x (.ref a) ∧ ItrL H h a As ∧ O a ∧ Foreign Γ H (fun b => O b ∧ b ≠ a) a ∧ StH Γ H (fun b => O b ∧ b ≠ a) loc' h os g := by
  obtain ⟨v, hv, a, rfl, hO, hi⟩ := st.vars x _ hx
  have ap := st.apart x a _ hx rfl hv
  have ne : ∀ y lv, loc'.lookup y = some lv → lv.mine = true → ∀ b, VarIs Γ.env h y (.ref b) → b ≠ a := fun y lv ey m b hb z => by
    subst z
    have := st.sep y x b lv _ (hw y lv ey) hx m rfl hb hv
    subst this; rw [hn] at ey; cases ey
  have hobj : ∃ o vs, h.get? a = some o ∧ o.data = .fields vs := by
    obtain ⟨l, i, o, xs, n, ⟨o', e1, _, e3⟩, _⟩ := hi; exact ⟨o', _, e1, e3⟩
  refine ⟨a, hv, hi, hO, ⟨st.obase a hO, st.ohm a hO, fun z => z.2 rfl, fun y e => ap.2 y a e rfl, fun l hl env he ef => ?_⟩, ?_⟩
  · obtain ⟨l', hl', hf⟩ := st.frames
    rw [hl] at hl'; cases hl'
    obtain ⟨_, L, o, es, ep, e1, e2, e3, _⟩ := hf env he
    rw [ef] at e1; cases e1
    obtain ⟨o', vs, e4, e5⟩ := hobj
    rw [e4] at e2; cases e2
    rw [e5] at e3; cases e3
  · exact
    { base := st.base, agree := st.agree, nofr := st.nofr, os := st.os, gens := st.gens
      obase := fun b hb => st.obase b hb.1
      ohm := fun b hb => st.ohm b hb.1
      othere := fun b hb => st.othere b hb.1
      kind := st.kind, ns := st.ns
      onsO := ⟨st.onsO, fun z => ap.1 z.symm⟩
      vars := fun y lv e => by
        obtain ⟨w, hw', hl⟩ := st.vars y lv (hw y lv e)
        refine ⟨w, hw', ?_⟩
        cases lv with
        | val B => exact hl
        | own c Bs =>
          obtain ⟨b, rfl, hb, rfl, l⟩ := hl
          exact ⟨c, rfl, ⟨hb, ne y _ e rfl _ hw'⟩, rfl, l⟩
        | itr Bs =>
          obtain ⟨b, rfl, hb, l⟩ := hl
          exact ⟨b, rfl, ⟨hb, ne y _ e rfl _ hw'⟩, l⟩
      sep := fun y z b l1 l2 e1 e2 => st.sep y z b l1 l2 (hw _ _ e1) (hw _ _ e2)
      apart := fun y b l1 e1 => st.apart y b l1 (hw _ _ e1)
      cells := fun y c e' => ⟨fun m => ⟨(st.cells y c e').1 m, fun z => ap.2 y c e' z.symm⟩, (st.cells y c e').2⟩
      cne := st.cne, cinj := st.cinj, frames := st.frames }

/-- the name of a source: a list or a tuple; an iterator, which is gone behind it -/
def Src (loc : Loc) (x : Str) (As : List V) (loc' : Loc) : Prop :=
  (∃ A, (A = .lst As ∨ A = .tup As) ∧ loc.lookup x = some (.val A) ∧ loc' = loc) ∨
  (loc.lookup x = some (.itr As) ∧ (∀ y lv, loc'.lookup y = some lv → loc.lookup y = some lv) ∧ loc'.lookup x = none)

/-- a source, opened: the state behind it, and what may change -/
theorem Src.open {H : Hm} {O : OSet} {s : Shared} (sr : Src loc x As loc') (st : St Γ H O loc s) :
    ∃ v O' rel, VarIs Γ.env s.heap x v ∧ SrcV H s.heap rel v As ∧ St Γ H O' loc' s ∧ Nx Γ.F H O s.heap H O' s.heap ∧ (∀ b, rel b → Foreign Γ H O' b ∧ O b) := by
  rcases sr with ⟨A, hA, hx, rfl⟩ | ⟨hx, hw, hn⟩
  · obtain ⟨v, hv, r⟩ := st.vars x _ hx
    exact ⟨v, O, fun _ => False, hv, .inl ⟨A, hA, r⟩, st, .refl .., fun b z => z.elim⟩
  · obtain ⟨a, hv, hi, hO, fa, st'⟩ := st.release hx hw hn
    refine ⟨.ref a, _, fun b => b = a, hv, .inr ⟨a, rfl, fa.hm, rfl, hi⟩, st', ⟨fun b o e _ => ⟨o, e, .refl ..⟩, fun b o e => ⟨o, e⟩, .refl _, fun b o e => .inl e, fun b e => .inl e.1⟩, fun b z => by subst z; exact ⟨fa, hO⟩⟩

/-- behind a walk along a source -/
theorem walked {H : Hm} {O O' : OSet} {s : Shared} {h' : Heap} {rel : Addr → Prop} (st : St Γ H O' loc' s) (n : Nx Γ.F H O s.heap H O' s.heap) (hr : ∀ b, rel b → Foreign Γ H O' b ∧ O b) (g : GrowT rel s.heap h') :
    StH Γ H O' loc' h' s.os s.gens ∧ Nx Γ.F H O s.heap H O' h' := by
  refine ⟨st.extW rel (fun b hb => (hr b hb).1) (fun b o hb e => ⟨o, g.1 b o hb e, .refl ..⟩) st.gens (.refl _) st.os fun b o e => .inl e, ?_⟩
  refine ⟨fun b o e hb => ⟨o, g.1 b o (fun z => hb (hr b z).2) e, .refl ..⟩, fun b o e => ?_, .refl _, fun b o e => .inl e, n.onew⟩
  by_cases z : rel b
  · exact g.2 b o z e
  · exact ⟨o, g.1 b o z e⟩

theorem walkedV {H : Hm} {O O' : OSet} {s : Shared} {h' : Heap} {tk : Nat} {rel : Addr → Prop} {R : V} {v : Value} (st : St Γ H O' loc' s) (n : Nx Γ.F H O s.heap H O' s.heap) (hr : ∀ b, rel b → Foreign Γ H O' b ∧ O b) (g : GrowT rel s.heap h')
    (r : Rep H R v) (q : Q R loc') : PostV Γ H O s (VQ Q) v { s with heap := h', toks := tk } :=
  let ⟨st', n'⟩ := walked st n hr g
  ⟨H, O', loc', .val R, n', st', r, q⟩
theorem walkedX {H : Hm} {O O' : OSet} {s : Shared} {h' h'' : Heap} {tk : Nat} {rel : Addr → Prop} {cls : String} {e : Addr} (st : St Γ H O' loc' s) (n : Nx Γ.F H O s.heap H O' s.heap) (hr : ∀ b, rel b → Foreign Γ H O' b ∧ O b) (g : GrowT rel s.heap h')
    (ne : Heap.NewExc h' h'' e cls) (q : X ⟨.type cls, none⟩ loc') : PostX Γ H O s X (.ref e) { s with heap := h'', toks := tk } := by
  obtain ⟨st', n'⟩ := walked st n hr g
  have p := PostX.new (s := { s with heap := h' }) (tk := tk) st' ne q
  exact p.back n'

/-- a builtin function is called with names -/
theorem ev_call1 {f : Str} {p px pos : Pos} {id : String} {v : Value} {H : Hm} {O : OSet} {s : Shared} {Qv Ev' : Value → Shared → Prop} (g : GlobAt Γ.F f (.builtin id)) (st : St Γ H O loc s) (hv : VarIs Γ.env s.heap x v) (h : wpAny Γ.M Γ.A (call (.builtin id) [v]) Qv Ev' s)
    (hk : Γ.env.kindOf f = some .globalImplicit := by rfl) (hg : Γ.env.globals = mainGlobals := by rfl) (hb : Γ.env.builtins = builtinsNs := by rfl)
    (hd : (f == ("__debug__" : Str)) = false := by decide) (hdx : (x == ("__debug__" : Str)) = false := by decide) (hn : (x == ("__classdict__" : Str)) = false := by decide) :
    wpAny Γ.M Γ.A (eval (.Call (.Name f p) [.Name x px] [] pos) Γ.env) Qv Ev' s := by
  refine wpAny_Call_Name_kw (Calls.Name_function_global st.kind hk (wp_glob st g ?_ hg hb) hd)
  show wpAny _ _ (callWith pos (.builtin id) [] _ []) _ _ _
  refine Calls.callWith_builtin (by rfl) (Calls.evalArgs_plain ?_)
  exact wpAny_items_cons (wpAny_Name (wp_var st.kind hv (wpAny_items_nil h) hn) hdx)
theorem ev_call2 {f : Str} {p px py pos : Pos} {id : String} {v u : Value} {H : Hm} {O : OSet} {s : Shared} {Qv Ev' : Value → Shared → Prop} (g : GlobAt Γ.F f (.builtin id)) (st : St Γ H O loc s) (hv : VarIs Γ.env s.heap x v) (hu : VarIs Γ.env s.heap y u) (h : wpAny Γ.M Γ.A (call (.builtin id) [v, u]) Qv Ev' s)
    (hk : Γ.env.kindOf f = some .globalImplicit := by rfl) (hg : Γ.env.globals = mainGlobals := by rfl) (hb : Γ.env.builtins = builtinsNs := by rfl)
    (hd : (f == ("__debug__" : Str)) = false := by decide) (hdx : (x == ("__debug__" : Str)) = false := by decide) (hn : (x == ("__classdict__" : Str)) = false := by decide) (hdy : (y == ("__debug__" : Str)) = false := by decide) (hny : (y == ("__classdict__" : Str)) = false := by decide) :
    wpAny Γ.M Γ.A (eval (.Call (.Name f p) [.Name x px, .Name y py] [] pos) Γ.env) Qv Ev' s := by
  refine wpAny_Call_Name_kw (Calls.Name_function_global st.kind hk (wp_glob st g ?_ hg hb) hd)
  show wpAny _ _ (callWith pos (.builtin id) [] _ []) _ _ _
  refine Calls.callWith_builtin (by rfl) (Calls.evalArgs_plain ?_)
  exact wpAny_items_cons (wpAny_Name (wp_var st.kind hv (wpAny_items_cons (wpAny_Name (wp_var st.kind hu (wpAny_items_nil h) hny) hdy)) hn) hdx)

/-- fsum(x) -/
theorem ev_fsum {p px pos : Pos} (g : GlobAt Γ.F "fsum" (.builtin "math.fsum")) (sr : Src loc x As loc') (hh : Γ.A.handled = none) (hz : As.length < sizeLine) (hf : ∀ (i : Nat) A, As[i]? = some A → A.fin)
    (hQ : ∀ d, fsumRun [] As = some d → Q (.flt d) loc') (hX : fsumRun [] As = none → X ⟨.type "OverflowError", none⟩ loc')
    (hk : Γ.env.kindOf "fsum" = some .globalImplicit := by rfl) (hg : Γ.env.globals = mainGlobals := by rfl) (hb : Γ.env.builtins = builtinsNs := by rfl) (hdx : (x == ("__debug__" : Str)) = false := by decide) (hn : (x == ("__classdict__" : Str)) = false := by decide) :
    Ev Γ loc (.Call (.Name "fsum" p) [.Name x px] [] pos) (VQ Q) X := by
  intro H O s st
  obtain ⟨v, O', rel, hv, sv, st', n', hr⟩ := sr.open st
  refine ev_call1 g st hv (wp_fsum st' sv hh hz hf ?_ ?_) hk hg hb (by decide) hdx hn
  · intro d t h' tk hd gr
    exact walkedV st' n' hr gr (rep_flt ..) (hQ d hd)
  · intro h' h'' tk e hd gr ne
    exact walkedX st' n' hr gr ne (hX hd)

/-- sumprod(x, y) -/
theorem ev_sumprod {p px py pos : Pos} {B : V} (g : GlobAt Γ.F "sumprod" (.builtin "math.sumprod")) (sr : Src loc x As loc') (hB : B = .lst Bs ∨ B = .tup Bs) (hy : loc.lookup y = some (.val B)) (hh : Γ.A.handled = none)
    (nAs : ∀ (i : Nat) A, As[i]? = some A → A.nm) (nBs : ∀ (i : Nat) B, Bs[i]? = some B → B.nmb) (mo : ∀ (i : Nat) A B, As[i]? = some A → Bs[i]? = some B → mulOk A B)
    (hQ : ∀ T, spRun (.I 0 false) As Bs = .ok T → Q T loc') (hX : ∀ c, spRun (.I 0 false) As Bs = .error c → X ⟨.type c, none⟩ loc')
    (hk : Γ.env.kindOf "sumprod" = some .globalImplicit := by rfl) (hg : Γ.env.globals = mainGlobals := by rfl) (hb : Γ.env.builtins = builtinsNs := by rfl) (hdx : (x == ("__debug__" : Str)) = false := by decide) (hn : (x == ("__classdict__" : Str)) = false := by decide) (hdy : (y == ("__debug__" : Str)) = false := by decide) (hny : (y == ("__classdict__" : Str)) = false := by decide) :
    Ev Γ loc (.Call (.Name "sumprod" p) [.Name x px, .Name y py] [] pos) (VQ Q) X := by
  intro H O s st
  obtain ⟨v, O', rel, hv, sv, st', n', hr⟩ := sr.open st
  obtain ⟨u, hu, ru⟩ := st.vars y _ hy
  refine ev_call2 g st hv hu (wp_sumprod st' sv hB ru hh nAs nBs mo ?_ ?_) hk hg hb (by decide) hdx hn hdy hny
  · intro T t h' tk hd rT gr
    exact walkedV st' n' hr gr rT (hQ T hd)
  · intro c h' h'' tk e hd gr ne
    exact walkedX st' n' hr gr ne (hX c hd)
end
end Mine
end
section
open PySem PySem.W PyProof.Rows
set_option linter.unusedVariables false
set_option maxRecDepth 100000
namespace Mine
theorem it_entry : entryFor table "iter" = some Builtin.«iter» := entryFor_of_tree (by kernel_rfl)
theorem it_args (a : Value) : argsOk "iter" ⟨[a], []⟩ := by unfold argsOk; kernel_rfl
theorem ty_list : typeOf (.type "list") = pure (.type "type") := by first | rfl | kernel_rfl
theorem ty_tuple : typeOf (.type "tuple") = pure (.type "type") := by first | rfl | kernel_rfl
theorem ty_float : typeOf (.type "float") = pure (.type "type") := by first | rfl | kernel_rfl
theorem sub_ll : isSubtype (.type "list") (.type "list") = pure true := by rw [isSubtype_type]; kernel_rfl
theorem sub_tt : isSubtype (.type "tuple") (.type "tuple") = pure true := by rw [isSubtype_type]; kernel_rfl
theorem sub_lt : isSubtype (.type "list") (.type "tuple") = pure false := by rw [isSubtype_type]; kernel_rfl
theorem sub_tl : isSubtype (.type "tuple") (.type "list") = pure false := by rw [isSubtype_type]; kernel_rfl
theorem sub_il : isSubtype (.type "list_iterator") (.type "list") = pure false := by rw [isSubtype_type]; kernel_rfl
theorem sub_it : isSubtype (.type "list_iterator") (.type "tuple") = pure false := by rw [isSubtype_type]; kernel_rfl
theorem isi_l (a : Addr) : AnswersAll (fun s => s.TypeIs (.ref a) "list") (.ref a) [.type "list", .type "tuple"] [true, false] :=
  .cons (Answers.of_true ty_list sub_ll) (.cons (Answers.of_false_list (by decide) ty_tuple sub_lt) .nil)
theorem isi_t (a : Addr) : AnswersAll (fun s => s.TypeIs (.ref a) "tuple") (.ref a) [.type "list", .type "tuple"] [false, true] :=
  .cons (Answers.of_false_tuple (by decide) ty_list sub_tl) (.cons (Answers.of_true ty_tuple sub_tt) .nil)
theorem isi_i (a : Addr) : AnswersAll (fun s => s.TypeIs (.ref a) "list_iterator") (.ref a) [.type "list", .type "tuple"] [false, false] :=
  .cons (li_answers (by decide) ty_list sub_il) (.cons (li_answers (by decide) ty_tuple sub_it) .nil)
section
variable {Γ : Cx} {loc loc' : Loc} {Q : V → Loc → Prop} {QL : LV → Loc → Prop} {QB : Bool → Loc → Prop} {X : Exc → Loc → Prop} {x y : Str} {As Bs : List V}

def LV.isSeq : LV → Option Bool
  | .val (.lst _) => some true
  | .val (.tup _) => some true
  | .itr _ => some false
  | _ => none

/-- x is None: of an iterator never -/
theorem tst_itr_none {px pc pos : Pos} {kc : Nat} (hx : loc.lookup x = some (.itr As)) (h : QB false loc) (hd : (x == ("__debug__" : Str)) = false := by decide) (hn : (x == ("__classdict__" : Str)) = false := by decide) :
    Tst Γ loc (.Compare (.Name x px) [.Is] [.Constant .none kc pc] pos) QB X := by
  intro H O s st
  obtain ⟨v, hv, a, rfl, _⟩ := st.vars x _ hx
  refine wpAny_isTrue_Compare1 (wpAny_Name (wp_var st.kind hv (wpAny_of_eq (a := Value.none) rfl (is_none ?_)) hn) hd) (by with_unfolding_all rfl)
  exact wpAny_truthy_bool ⟨H, O, loc, .refl .., st, h⟩

/-- isinstance(x, (list, tuple)) -/
theorem ev_isinstance {p px pl pt ptup pos : Pos} {k : Nat} {lv : LV} {b : Bool} (g : GlobAt Γ.F "isinstance" (.builtin "isinstance")) (gl : GlobAt Γ.F "list" (.type "list")) (gt : GlobAt Γ.F "tuple" (.type "tuple")) (hx : loc.lookup x = some lv) (hb : lv.isSeq = some b) (h : Q (.bool b) loc)
    (hk : Γ.env.kindOf "isinstance" = some .globalImplicit := by rfl) (hkl : Γ.env.kindOf "list" = some .globalImplicit := by rfl) (hkt : Γ.env.kindOf "tuple" = some .globalImplicit := by rfl) (hg : Γ.env.globals = mainGlobals := by rfl) (hbi : Γ.env.builtins = builtinsNs := by rfl) (hd : (x == ("__debug__" : Str)) = false := by decide) (hn : (x == ("__classdict__" : Str)) = false := by decide) :
    Ev Γ loc (.Call (.Name "isinstance" p) [.Name x px, .Tuple [.Name "list" pl, .Name "tuple" pt] k ptup] [] pos) (VQ Q) X := by
  intro H O s st
  obtain ⟨v, hv, hl⟩ := st.vars x _ hx
  refine wpAny_Call_Name_kw (Calls.Name_function_global st.kind hk (wp_glob st g ?_ hg hbi) (by decide))
  show wpAny _ _ (callWith pos (.builtin "isinstance") [] _ []) _ _ _
  refine Calls.callWith_builtin (by rfl) (Calls.evalArgs_plain ?_)
  refine wpAny_items_cons (wpAny_Name (wp_var st.kind hv (wpAny_items_cons (wpAny_Tuple ?_)) hn) hd)
  refine wpAny_items_cons (Calls.Name_function_global st.kind hkl (wp_glob st gl ?_ hg hbi) (by decide))
  refine wpAny_items_cons (Calls.Name_function_global st.kind hkt (wp_glob st gt ?_ hg hbi) (by decide))
  refine wpAny_items_nil ⟨by show 2 ≤ sizeLine; decide, wpAny_items_nil ?_⟩
  have fin : ∀ tk, PostV Γ H O s (VQ Q) (.bool b) { s with heap := s.heap.push { cls := .type "tuple", data := .seq #[.type "list", .type "tuple"] }, toks := tk } := fun tk =>
    ⟨H, O, loc, .val (.bool b), ⟨fun b o e _ => ⟨o, Heap.get?_push_of_some _ e, .refl ..⟩, fun b o e => ⟨o, Heap.get?_push_of_some _ e⟩, .refl _, fun b o e => .inl e, fun b e => .inl e⟩,
      st.ext (fun b o e => ⟨o, Heap.get?_push_of_some _ e, .refl ..⟩) st.gens (.refl _) (fun b o e => .inl e), rep_bool H b, h⟩
  have key : ∀ (a : Addr) (T : String) (vs : List Bool), v = .ref a → (∃ o, s.heap.get? a = some o ∧ o.cls = .type T) → AnswersAll (fun s => s.TypeIs (.ref a) T) (.ref a) [.type "list", .type "tuple"] vs → vs.any id = b →
      wpAny Γ.M Γ.A (call (.builtin "isinstance") [v, .ref s.heap.objs.size]) (PostV Γ H O s (VQ Q)) (PostX Γ H O s X) { s with heap := s.heap.push { cls := .type "tuple", data := .seq #[.type "list", .type "tuple"] } } := by
    intro a T vs ev ⟨o, eo, ec⟩ an hvs
    subst ev
    exact IsiPair.tupleOfB (Tx := T) an ⟨o, Heap.get?_push_of_some _ eo, ec⟩ (Heap.get?_push_size _ rfl) hvs fin
  cases lv with
  | own _ _ => cases hb
  | itr Cs =>
    cases hb
    obtain ⟨a, rfl, hO, l, i, o, xs, n, ⟨oi, e1, e2, _⟩, _⟩ := hl
    exact key a _ _ rfl ⟨oi, e1, e2⟩ (isi_i a) rfl
  | val A =>
    cases A with
    | lst Cs =>
      cases hb
      obtain ⟨a, o, xs, n, rfl, h2, h3, _⟩ := (show Rep H (.lst Cs) v from hl).lst_of
      exact key a _ _ rfl ⟨o, st.agree _ _ h2, h3⟩ (isi_l a) rfl
    | tup Cs =>
      cases hb
      obtain ⟨a, o, xs, n, rfl, h2, h3, _⟩ := (show Rep H (.tup Cs) v from hl).tup_of
      exact key a _ _ rfl ⟨o, st.agree _ _ h2, h3⟩ (isi_t a) rfl
    | _ => cases hb

/-- list(x) of an iterator -/
theorem ev_list_itr {p px pos : Pos} (g : GlobAt Γ.F "list" (.type "list")) (hx : loc.lookup x = some (.itr As)) (hw : ∀ y lv, loc'.lookup y = some lv → loc.lookup y = some lv) (hnx : loc'.lookup x = none) (hh : Γ.A.handled = none) (hz : As.length ≤ sizeLine) (h : Q (.lst As) loc')
    (hk : Γ.env.kindOf "list" = some .globalImplicit := by rfl) (hg : Γ.env.globals = mainGlobals := by rfl) (hb : Γ.env.builtins = builtinsNs := by rfl) (hd : (x == ("__debug__" : Str)) = false := by decide) (hn : (x == ("__classdict__" : Str)) = false := by decide) :
    Ev Γ loc (.Call (.Name "list" p) [.Name x px] [] pos) (VQ Q) X := by
  intro H O s st
  obtain ⟨a, hv, hi, hO, fa, st'⟩ := st.release hx hw hnx
  refine wpAny_Call_Name_kw (Calls.Name_function_global st.kind hk (wp_glob st g ?_ hg hb) (by decide))
  show wpAny _ _ (callWith pos (.type "list") [] _ []) _ _ _
  refine PySem.callWith_type (by rfl) (Calls.evalArgs_plain ?_)
  refine wpAny_items_cons (wpAny_Name (wp_var st.kind hv (wpAny_items_nil ?_) hn) hd)
  obtain ⟨l, i, o, xs, n, hit, hl, hc, hdt, rs⟩ := hi
  have hne : l ≠ a := fun z => by rw [z, fa.hm] at hl; cases hl
  have W := walks_from (prog := Γ.F.prog) (w := Γ.F.w) (A := Γ.A.in1.in1) hh a l hne xs i
  have La := li_last (prog := Γ.F.prog) (w := Γ.F.w) (A := Γ.A.in1.in1) hh a l xs i True
  have hlen : xs.size - i = As.length := by rw [← rs.length]; simp
  rw [hlen] at W La
  have ll : s.heap.IsList l xs := ⟨o, st.agree _ _ hl, hc, n, hdt⟩
  refine call_list_li La W (fun j h hw => ?_) ⟨hit, ll⟩ (fun b hb => ?_) (fun h' tk acc c hk ht hS hacc => ?_) hz
  · obtain ⟨⟨q, e1, e2, _⟩, _⟩ := hw; exact ⟨q, e1, e2⟩
  · rcases List.mem_cons.mp hb with rfl | hb
    · obtain ⟨q, e1, _⟩ := hit; exact Heap.lt_size e1
    · rw [List.mem_singleton.mp hb]; exact Heap.lt_size (st.agree _ _ hl)
  · have gr : GrowT (fun b => b = a) s.heap h' := ⟨fun b o hb e => hk b o hb e, fun b o hb e => by subst hb; exact ht trivial⟩
    obtain ⟨st₂, n₂⟩ := walked st' ⟨fun b o e _ => ⟨o, e, .refl ..⟩, fun b o e => ⟨o, e⟩, .refl _, fun b o e => .inl e, fun b e => .inl e.1⟩ (fun b z => by subst z; exact ⟨fa, hO⟩) gr
    have fn := st'.foreign (fresh_none s.heap)
    refine ⟨Hset H s.heap.objs.size _, _, loc', .val (.lst As), n₂.freeze fn.hm (fresh_none _), st₂.freeze hS (seq_nodict rfl) fn.o fn.hm, rep_new_lst fn.hm rfl rfl ?_, h⟩
    refine Reps.of_get (by simp [hacc.1]) fun j B y eB ey => ?_
    have hy := hacc.2 j y (by simpa using ey)
    obtain ⟨y', e', r'⟩ := rs.get eB
    have e'' : xs[i + j]? = some y' := by simpa using e'
    rw [hy] at e''; cases e''
    exact r'

/-- iter(e) of a list -/
theorem ev_iter {p pos : Pos} {e : Expr} (g : GlobAt Γ.F "iter" (.builtin "iter")) (h : Ev Γ loc e (VQ fun A l => ∃ As, A = .lst As ∧ QL (.itr As) l) X)
    (hk : Γ.env.kindOf "iter" = some .globalImplicit := by rfl) (hg : Γ.env.globals = mainGlobals := by rfl) (hb : Γ.env.builtins = builtinsNs := by rfl)
    (he : ∃ r, backTo pos (starEach [e] Γ.env) = (false, eval e Γ.env) :: r ∧ r.any (·.1) = false := by exact ⟨_, rfl, rfl⟩) (he' : starEach [e] Γ.env = [(false, eval e Γ.env)] := by rfl) :
    Ev Γ loc (.Call (.Name "iter" p) [e] [] pos) QL X := by
  refine ev_builtin g (args_val (h.mono (fun lv l q => ?_) fun _ _ x => x) he') hk hg hb (by decide) he
  cases lv with
  | own _ _ => exact q.elim
  | itr _ => exact q.elim
  | val A =>
    obtain ⟨As, rfl, q⟩ := q
    refine args_val_nil (fun H O s vs st r => ?_)
    simp only [Reps] at r
    obtain ⟨y, _, rfl, hy, rfl⟩ := r
    obtain ⟨a, o, xs, n, rfl, h2, h3, h4, h5⟩ := hy.lst_of
    refine Calls.call_function_entry (by decide +kernel) (by decide +kernel) it_entry (it_args _) ?_
    unfold Builtin.«iter»
    refine wpAny_bind (m := someArgs "iter" 1 2 _) (wpAny_of_eq (a := [Value.ref a]) (by first | rfl | kernel_rfl!) ?_)
    show wpAny _ _ (pyIter (.ref a) >>= _) _ _ _
    refine wpAny_bind (wpAny_pyIter_list ⟨o, st.agree _ _ h2, h3, n, h4⟩ (wpAny_pure ⟨_, rfl, ?_⟩))
    have fa := st.foreign (fresh_none s.heap)
    refine ⟨H, O, l, .itr As, ⟨fun b o e _ => ⟨o, Heap.get?_push_of_some _ e, .refl ..⟩, fun b o e => ⟨o, Heap.get?_push_of_some _ e⟩, .refl _, fun b o e => .inl e, fun b e => .inl e⟩,
      st.ext (fun b o e => ⟨o, Heap.get?_push_of_some _ e, .refl ..⟩) st.gens (.refl _) (fun b o e => .inl e), ⟨_, rfl, fresh_none _, fa.o, fa.hm, a, 0, o, xs, n, ⟨_, Heap.get?_push_size _ rfl, rfl, rfl⟩, h2, h3, h4, by simpa using h5⟩, q⟩
end
end Mine
end
section
open PySem PySem.W PyProof.Rows
set_option linter.unusedVariables false
set_option maxRecDepth 100000
namespace Mine
/-- what the law stands on -/
structure Land (K : Frag) (F : Fix) : Prop where
  kin : K.In F.h₁
  g : ∃ mg, F.h₁.Ns mainGlobals mg
  b : ∃ mb, F.h₁.Ns builtinsNs mb ∧ ∀ x : Str, x ≠ "__name__" → mb x = bootBuiltins x
  lim : F.h₁.NoLimit
section
variable {K : Frag} {F : Fix}
theorem Land.glob (l : Land K F) {x : Str} {v : Value} (e : nsIn K mainGlobals x = some (some v)) : GlobAt F x v :=
  let ⟨mg, hg⟩ := l.g
  .inl ⟨mg, hg, mg_of l.kin hg e⟩
theorem Land.bi (l : Land K F) {x : Str} {v : Value} (e : nsIn K mainGlobals x = some none) (e' : bootBuiltins x = some v) (hn : x ≠ "__name__") : GlobAt F x v :=
  let ⟨mg, hg⟩ := l.g
  let ⟨mb, hb, hb'⟩ := l.b
  .inr ⟨mg, mb, hg, mg_none_of l.kin hg e, hb, (hb' x hn).trans e'⟩
def fnOk (K : Frag) (a : Addr) (fd : FuncData) (body : List Stmt) : Prop :=
  (∃ o, K.lookup a = some o ∧ o.data = .func fd) ∧ (∃ c o vs t, fd.code = .ref c ∧ K.lookup c = some o ∧ o.data = .fields vs ∧ vs[1]? = some (.str fd.qualname t)) ∧ fd.body = .stmts body ∧ fd.closure = [] ∧ fd.scope.isCoroutine = false ∧ fd.scope.isGenerator = false ∧ fd.scope.kind = .function
theorem Land.fn (l : Land K F) {a : Addr} {fd : FuncData} {body : List Stmt} (h : fnOk K a fd body) : FnAt F a fd body :=
  let ⟨⟨o, e1, e2⟩, ⟨c, oc, vs, t, c1, c2, c3, c4⟩, h3, h4, h5, h6, h7⟩ := h
  { o := ⟨o, l.kin _ _ e1, e2⟩, lim := l.lim, cd := ⟨c, oc, vs, t, c1, l.kin _ _ c2, c3, c4⟩, body := h3, clos := h4, co := h5, gen := h6, kind := h7 }
end
def dummyFn : FuncData := { name := "", qualname := "", params := { posonlyargs := [], args := [], vararg := none, kwonlyargs := [], kw_defaults := [], kwarg := none, defaults := [] }, body := .stmts [], scope := { kind := .function, names := [], isGenerator := false, isCoroutine := false }, globals := 0, closure := [], defaults := .none, kwdefaults := .none }
/-- the function that lies at a place of the fragment -/
def fdAt (K : Frag) (k : Nat) : FuncData :=
  match (K.getD k (0, { cls := .none, data := .plain })).2.data with
  | .func fd => fd
  | _ => dummyFn
def bdAt (K : Frag) (k : Nat) : List Stmt :=
  match (fdAt K k).body with
  | .stmts b => b
  | _ => []
end Mine
end
section
open PySem PySem.W PyProof.Rows
set_option linter.unusedVariables false
set_option maxRecDepth 100000
namespace Mine
/-- a contract out of the body -/
theorem calls_of {F : Fix} {fd : FuncData} {a : Addr} {body : List Stmt} {names : List Str} {lvs klvs : List LV} {kn : List Str} {Q : V → Prop} {X : Exc → Prop} {d : Nat} (fn : FnAt F a fd body) (hn : names.Nodup)
    (hk : ∀ x ∈ names, fd.scope.names.lookup x = some .local ∨ fd.scope.names.lookup x = some .cell) (hlen : names.length = lvs.length + klvs.length)
    (hbind : ∀ (s : Shared) (vals kvals : List Value), (∀ b o, F.h₁.get? b = some o → s.heap.get? b = some o) → vals.length = lvs.length → kvals.length = klvs.length → BindsTo s fd ⟨vals, kn.zip kvals⟩ (names.zip (vals ++ kvals)))
    (h : ∀ A L, Room A (d + 1) → Exs (F.fn A fd a L) (names.zip (lvs ++ klvs)) body (FnQ Q) (fun x _ => X x)) : Calls F (.ref a) (d + 1) lvs kn klvs Q X := by
  intro A H O s vals kvals hr ws hl ar
  have hl2 : (vals ++ kvals).length = (lvs ++ klvs).length := ar.len
  have hl3 : kvals.length = klvs.length := by simp at hl2; omega
  refine call_fn fn (by have := hr.depth; omega) ws ar hn hk (by rw [hl2]; simp; omega) (fun Q' E' q => hbind s vals kvals ws.base hl hl3 _ _ _ _ q) fun L => h A L hr
theorem Exs.whnf {Γ : Cx} {loc : Loc} {ss ss' : List Stmt} {Q : Fl → Loc → Prop} {X : Exc → Loc → Prop} (e : ss = ss') (h : Exs Γ loc ss' Q X) : Exs Γ loc ss Q X := e ▸ h
end Mine
end
section
open PySem PySem.W PyProof.Rows
set_option linter.unusedVariables false
set_option maxRecDepth 100000
namespace Mine
theorem rangeSize_one (a b : Int) : (Builtin.Range.rangeSize a b 1).toNat = (b - a).toNat := by
  unfold Builtin.Range.rangeSize
  simp only [show (0 : Int) < 1 by decide, if_true, Int.ediv_one]
  split <;> omega
theorem items_rng (a b : Int) : V.items (.rng a b 1) = (List.range (b - a).toNat).map fun i => .int (a + (i : Nat)) := by
  simp only [V.items, rangeSize_one, Int.mul_one]
theorem items_rng0 (n : Nat) : V.items (.rng 0 n 1) = (List.range n).map fun i => .int (i : Nat) := by
  rw [items_rng]; simp
theorem noPylong {x y : Int} (h : y.natAbs < 2 ^ 64) : Builtin.divisionGoesByPylong x y = false := by
  have : y.natAbs.log2 < 64 := by
    by_cases c : y.natAbs = 0
    · rw [c]; decide
    · exact (Nat.log2_lt c).mpr h
  unfold Builtin.divisionGoesByPylong
  simp only [Bool.and_eq_false_imp, decide_eq_true_eq]
  intro hh
  exfalso
  split at hh <;> omega
end Mine
namespace Mine
theorem fitsLong {i : Int} (h : i.natAbs < 2 ^ 62) : Builtin.Range.rangeFitsLong i = true := by
  unfold Builtin.Range.rangeFitsLong
  simp
  omega
theorem small_one {a b : Int} (h : a.natAbs < 2 ^ 60) (h' : b.natAbs < 2 ^ 60) : Builtin.Range.small a b 1 = true := by
  have e := rangeSize_nonneg a b 1
  have e' := rangeSize_one a b
  unfold Builtin.Range.small
  rw [fitsLong (i := a) (by omega), fitsLong (i := b) (by omega), fitsLong (i := 1) (by decide), fitsLong (i := Builtin.Range.rangeSize a b 1) (by omega), if_pos (by decide), fitsLong (i := b + (1 - 1)) (by omega)]
  simp
end Mine
namespace Mine
section
variable {Γ : Cx} {loc : Loc} {QF : Fl → Loc → Prop} {X : Exc → Loc → Prop} {x : Str}
/-- x = value, and on -/
theorem exs_let {pos' pos : Pos} {value : Expr} {rest : List Stmt} (hx : Γ.stores x) (h : Ev Γ loc value (VQ fun A l => Exs Γ ((x, .val A) :: l) rest QF X) X)
    (hs : swapsWith value (some (.Name x pos')) pos.line Γ.env = pure false := by rfl) : Exs Γ loc (.Assign [.Name x pos'] value pos :: rest) QF X := by
  refine exs_cons (ex_assign (h.mono (fun lv l q => ?_) fun _ _ q => q) hx hs)
  cases lv with
  | val A => exact q
  | own _ _ => exact q.elim
  | itr _ => exact q.elim
theorem exs_ret {pos : Pos} {value : Expr} {rest : List Stmt} (h : Ev Γ loc value (VQ fun A l => QF (.ret A) l) X) : Exs Γ loc (.Return (some value) pos :: rest) QF X :=
  exs_cons (ex_return h)
end
theorem loc_put {l : Loc} {x y : Str} {lv : LV} {w : Option LV} (h : l.lookup y = w) (hne : (y == x) = false) : List.lookup y ((x, lv) :: l) = w := by
  rw [List.lookup_cons, hne]; exact h
theorem len6 {n : Nat} (h : n ≤ 70) : n ≤ sizeLine := Nat.le_trans h (by decide)
end Mine
namespace Mine
/-- a name holds a value -/
abbrev Has (l : Loc) (x : Str) (A : V) : Prop := l.lookup x = some (.val A)
end Mine
end
section
open PySem PySem.W PyProof.Rows
set_option linter.unusedVariables false
namespace Mine
section
variable {Γ : Cx} {loc : Loc} {QL : LV → Loc → Prop} {X : Exc → Loc → Prop}
theorem ev_val {e : Expr} (h : Ev Γ loc e (VQ fun A l => QL (.val A) l) X) : Ev Γ loc e QL X := h.mono (fun lv l q => by
  cases lv with
  | val A => exact q
  | own _ _ => exact q.elim
  | itr _ => exact q.elim) fun _ _ q => q
end
end Mine
end
section
open PySem PySem.W PyProof.Rows
set_option linter.unusedVariables false
set_option maxRecDepth 100000
namespace Mine
section
variable {Γ : Cx} {loc : Loc} {Q : V → Loc → Prop} {X : Exc → Loc → Prop}
def V.isFlt : V → Option Bool
  | .flt _ => some true
  | .str _ => some false
  | _ => Option.none
/-- isinstance(v, float) -/
theorem bi_isfloat {A : V} {b : Bool} (hA : A.isFlt = some b) (h : Q (.bool b) loc) : OpN Γ loc (fun vs => call (.builtin "isinstance") vs) [A, .con (.type "float")] (VQ Q) X := fun H O s vs st r => by
  simp only [Reps] at r
  obtain ⟨y, _, rfl, hy, z, _, rfl, hz, rfl⟩ := r
  cases hz.con_of
  cases A with
  | flt x => cases hA; obtain ⟨t, rfl⟩ := hy.flt_of; exact IsiPair.float_float (PostV.here' st (rep_bool H true) h)
  | str x => cases hA; obtain ⟨t, rfl⟩ := hy.str_of; exact IsiPair.str_float (PostV.here st (rep_bool H false) h _)
  | _ => cases hA
/-- list + list -/
theorem op_add_lst {As Bs : List V} (hz : As.length + Bs.length ≤ sizeLine) (h : Q (.lst (As ++ Bs)) loc) : Op2 Γ loc (binaryOp .Add) (.lst As) (.lst Bs) Q X := fun H O s va vb st ra rb => by
  obtain ⟨a, o, xs, n, rfl, h2, h3, h4, h5⟩ := ra.lst_of
  obtain ⟨a', o', xs', n', rfl, h2', h3', h4', h5'⟩ := rb.lst_of
  have hl : xs.size = As.length := by rw [← h5.length]; simp
  have hl' : xs'.size = Bs.length := by rw [← h5'.length]; simp
  have fa := st.foreign (fresh_none s.heap)
  obtain ⟨cls, dd, data, sl⟩ := o
  obtain ⟨cls2, dd2, data2, sl2⟩ := o'
  simp only at h3 h4 h3' h4'
  subst h3 h4 h3' h4'
  have ho := st.agree _ _ h2
  have ho2 := st.agree _ _ h2'
  refine concat_meets ⟨_, ho, rfl⟩ ⟨_, ho2, rfl⟩ noFill_list_add seq_list_add PySem.F.slot_list_add PySem.F.entry_list_add (PySem.F.args_list_add_2 _ _) (list_addW a a' xs xs' n n' dd dd2 sl sl2 (by omega)) ⟨ho, ho2, ?_⟩
  exact PostV.made (tk := s.toks) st (fun b o e => Heap.get?_push_of_some _ e) (fresh_none _) (Heap.get?_push_size _ rfl) (seq_nodict rfl) (rep_new_lst fa.hm rfl rfl (by simpa using h5.append h5')) h
end
end Mine
end
section
open PySem PySem.W PyProof.Rows
set_option linter.unusedVariables false
set_option maxRecDepth 100000
namespace Mine
theorem reps_ints {H : Hm} : ∀ {vs : List Value} {ns : List Int}, IntsAre vs ns → Reps H (ns.map .int) vs
  | [], [], _ => reps_nil H
  | v :: vs, n :: ns, h => by
    cases h with
    | cons _ _ h2 => exact reps_cons (rep_int ..) (reps_ints h2)
/-- the law's own call, told as the statement wants it -/
theorem fin_law {c : ClaimW} {cl : Str → Option Addr} {mean : ExcName → Option Value} {prog : Program} {w : World} {s₁ : Shared} {args : List WData} {l : Addr} {vs : List Value} {ns : List Int} {fa : Addr} {d : Nat}
    (hd : d ≤ 100) (hL : s₁.heap.IsList l vs.toArray) (hI : IntsAre vs ns) (hg : s₁.gens = #[]) (hraise : ∀ cls, c.raises args cls = false) (hpost : c.post args (.bool true) args = true)
    (h : Calls ⟨prog, w, s₁.heap, s₁.os⟩ (.ref fa) d [.val (.lst (ns.map .int))] [] [] (fun R => R = .bool true) (fun _ => False)) :
    wpAny (model prog w) callerA (call (.ref fa) [.ref l]) (fun v s' => GoodWG c cl mean args s₁ (.ok (.ret v)) s') (fun e s' => GoodWG c cl mean args s₁ (.error e) s') s₁ := by
  obtain ⟨o, h1, h2, n, h3⟩ := hL
  have hd' : ∀ es ep, o.data ≠ .dict es ep := fun es ep e => by rw [h3] at e; cases e
  refine wpAny_mono (h callerA (Hset (fun _ => none) l o) (fun _ => False) s₁ [.ref l] [] ⟨rfl, by show 1 + claimMargin + d < 1000; simp only [claimMargin]; omega, by show 4 + 3 * d + 100 < 9900; omega⟩ ?_ rfl ?_) ?_ ?_
  · refine ⟨fun _ _ e => e, fun b q e => ?_, fun b q e => ?_, rfl, .of_eq hg, [], rfl, fun _ e => by cases e⟩
    · rcases Hset.cases e with ⟨rfl, rfl⟩ | e
      · exact h1
      · cases e
    · rcases Hset.cases e with ⟨rfl, rfl⟩ | e
      · exact hd'
      · cases e
  · refine ⟨rfl, fun i lv v e1 e2 => ?_, fun i j lv lv' a e1 e2 m1 m2 => ?_, fun b e => e.elim⟩
    · match i, e1, e2 with
      | 0, e1, e2 =>
        cases e1; cases e2
        exact rep_lst (Hset.self _ _ _) h2 h3 (reps_ints hI)
    · match i, e1 with
      | 0, e1 => cases e1; cases m1
  · rintro v s' ⟨H', R, nx, ws, r, rfl⟩
    cases r.bool_of
    exact ⟨.inl ⟨_, .bool true, [], rfl, hraise, .bool _, hpost, fun _ => ⟨List.nodup_nil, fun a e => by cases e⟩⟩, .of_keep ws.base, ws.os, ws.gens⟩
  · rintro e s' ⟨H', x, nx, ws, fl, q⟩
    exact q.elim
end Mine
end
section
open PySem PySem.W PyProof.Rows
set_option linter.unusedVariables false
set_option maxRecDepth 100000
namespace Mine

/-! ## the text's own exceptions -/
abbrev veMro : List Value := [.type "ValueError", .type "Exception", .type "BaseException", .type "object"]
/-- a class of the text's whose base is ValueError -/
structure ExcCls (F : Fix) (C : Addr) : Prop where
  mk ::
  is : ∃ nm q N bs hdct sn sub ab col dd k0 k1 k2 k3 k5 mN, F.h₁.get? C = some (excClassObj nm q C N bs veMro hdct sn sub ab col dd k0 k1 k2 k3 k5 "ValueError.__new__") ∧ F.h₁.Ns N mN ∧
    mN "__init__" = none ∧ mN "__str__" = none
theorem ve_base : ExcBaseFacts "ValueError" "ValueError.__new__" "ValueError.__init__" veMro := PySem.F.excBase_ValueError
theorem ve_str : ExcStrFacts "ValueError" "ValueError" := PySem.F.excStr_ValueError
theorem uc_entry : entryFor table "proto.unchain" = some Builtin.«proto.unchain» := entryFor_of_tree (by kernel_rfl)
section
variable {prog : Program} {w : World} {A : Around} {E : Value → Shared → Prop} {s : Shared}
theorem wp_unchain {e h : Addr} {oh : Obj} {vs : Array Value} {Q : Value → Shared → Prop} (ho : s.heap.get? h = some oh) (hd : oh.data = .fields vs) (h2 : vs[2]? = some .none) (k : Q .none s) :
    wpAny (model prog w) A (runValue (.builtin "proto.unchain" ⟨[.ref e, .ref h, .ref h, .bool false], []⟩)) Q E s := by
  refine wpAny_runValue (codeAny_builtin uc_entry ?_)
  unfold Builtin.«proto.unchain»
  refine wpAny_bind (wpAny_field ho hd h2 ?_)
  rw [if_pos (by decide)]
  repeat wp_step
  exact k
theorem wp_raiseNew_in {e h : Addr} {oh oe : Obj} {vs us : Array Value} {α : Type} {Q : α → Shared → Prop} (hA : A.handled = some (.ref h)) (hne : h ≠ e) (ho : s.heap.get? h = some oh) (hd : oh.data = .fields vs) (h2 : vs[2]? = some .none)
    (he : s.heap.get? e = some oe) (hde : oe.data = .fields us) (hz : 2 < us.size) (k : E (.ref e) { s with heap := s.heap.update e (Obj.mapFields (·.setIfInBounds 2 (.ref h))) }) : wpAny (model prog w) A (raiseNew (.ref e) : Sem α) Q E s := by
  unfold raiseNew
  refine wpAny_bind (wpAny_handled ?_)
  rw [hA]
  show wpAny _ _ (if (Value.ref h != Value.ref e) = true then _ else _) _ _ _
  rw [if_pos (by simpa using hne)]
  refine wpAny_bind (wpAny_holding (wp_unchain ho hd h2 ?_))
  unfold updateField
  refine wpAny_bind (wpAny_bind (wpAny_load he ?_))
  rw [hde]
  simp only [hz, if_true]
  exact wpAny_update he (wpAny_throw k)
variable {nm q : Str} {C N : Addr} {bs : List Value} {hdct : Bool} {sn : List Str} {sub : List Value} {ab : Bool} {col : Option Bool} {dd : Option Addr} {k0 k1 k2 k3 k5 : Option Value} {env : Env}
theorem wp_raiseStmt {x : Sem Value} {Q : Flow → Shared → Prop}
    (h : wpAny (model prog w) A x (fun v s₁ => ∃ e t, v = .ref e ∧ s₁.heap.get? C = some (excClassObj nm q C N bs veMro hdct sn sub ab col dd k0 k1 k2 k3 k5 "ValueError.__new__") ∧
      s₁.heap.get? e = some { cls := .ref C, data := .fields #[.ref t, .none, .none, .none, .bool false, .none] } ∧ wpAny (model prog w) A (raiseNew (.ref e) : Sem Flow) Q E s₁) E s) :
    wpAny (model prog w) A (raiseStmt env (some x) none) Q E s := by
  have hcB : (Value.ref C :: veMro).contains (.type "BaseException") = true := by rw [List.contains_cons]; exact (Bool.or_true _ ▸ rfl)
  unfold raiseStmt
  refine wpAny_bind (wpAny_mono h (fun v s₁ h₁ => ?_) fun _ _ x => x)
  obtain ⟨e, t, rfl, hC, he, hE⟩ := h₁
  obtain ⟨hp, g, d, tk, os⟩ := s₁
  repeat (first | with_reducible refine wpAny_loadPart_at he ?_ | with_reducible refine wpAny_loadPart_at hC ?_ | (with_reducible refine wpAny_isSubtype_exc hC ?_; rw [hcB]) | wp_step)
  exact hE
end
section
variable {Γ : Cx} {loc : Loc} {Q : V → Loc → Prop} {QL : LV → Loc → Prop} {QF : Fl → Loc → Prop} {X : Exc → Loc → Prop}
theorem wp_raise {c m : Str} {C : Addr} {k : Nat} {np mp cpos pos : Pos} {H : Hm} {O : OSet} {s : Shared} {Qf : Flow → Shared → Prop} {E : Value → Shared → Prop} (cls : ExcCls Γ.F C) (g : GlobAt Γ.F c (.ref C)) (st : St Γ H O loc s)
    (hk : Γ.env.kindOf c = some .globalImplicit) (hg : Γ.env.globals = mainGlobals) (hb : Γ.env.builtins = builtinsNs) (hd : (c == ("__debug__" : Str)) = false)
    (hr : ∀ H₁ O₁ s₁ h' e tk, Nx Γ.F H O s.heap H₁ O₁ s₁.heap → St Γ H₁ O₁ loc s₁ → Heap.MadeExcOf s₁.heap h' e (.ref C) [.str m tk] → wpAny Γ.M Γ.A (raiseNew (.ref e) : Sem Flow) Qf E { s₁ with heap := h' }) :
    wpAny Γ.M Γ.A (exec (.Raise (some (.Call (.Name c np) [.Constant (.str m) k mp] [] cpos)) none pos) Γ.env) Qf E s := by
  obtain ⟨nm, q, N, bs, hdct, sn, sub, ab, col, dd, k0, k1, k2, k3, k5, mN, hC, hN, hi, hs⟩ := cls.is
  have hh : Args' Γ loc cpos [.Constant (.str m) k mp] (AllVal fun As l => As = [.str m] ∧ l = loc) NoX := args_val (ev_str (args_val_nil ⟨rfl, rfl⟩))
  rw [arm_exec_Raise]
  refine wpAny_bind (wpAny_standAt ?_)
  show wpAny Γ.M Γ.A (raiseStmt Γ.env (some (do let v ← eval (.Call (.Name c np) [.Constant (.str m) k mp] [] cpos) Γ.env; standAt pos; pure v)) none) _ _ _
  refine wp_raiseStmt (nm := nm) (q := q) (C := C) (N := N) (bs := bs) (hdct := hdct) (sn := sn) (sub := sub) (ab := ab) (col := col) (dd := dd) (k0 := k0) (k1 := k1) (k2 := k2) (k3 := k3) (k5 := k5) ?_
  refine wpAny_bind (wpAny_mono (Q := fun v s₁ => ∃ e t, v = .ref e ∧ s₁.heap.get? C = some (excClassObj nm q C N bs veMro hdct sn sub ab col dd k0 k1 k2 k3 k5 "ValueError.__new__") ∧
      s₁.heap.get? e = some { cls := .ref C, data := .fields #[.ref t, .none, .none, .none, .bool false, .none] } ∧ wpAny Γ.M Γ.A (raiseNew (.ref e) : Sem Flow) Qf E s₁) ?_ (fun v s₁ p => wpAny_bind (wpAny_standAt (wpAny_pure p))) fun _ _ p => p)
  refine wpAny_Call_ofName (Calls.Name_function_global st.kind hk (wp_glob st g ?_ hg hb) hd)
  unfold callWith
  refine wpAny_bind (wpAny_holding (Calls.evalArgs_plain (wpAny_mono (hh H O s st) (fun vs s₁ p => ?_) fun _ _ p => p.no.elim)))
  obtain ⟨H₁, O₁, l₁, lvs, n₁, st₁, t₁, As, rfl, rfl, rfl⟩ := p
  obtain ⟨y, ys, rfl, ⟨tk, rfl⟩, rfl⟩ : ∃ y ys, vs = y :: ys ∧ (∃ tk, y = .str m tk) ∧ ys = [] := by
    have := t₁.reps
    simp only [Reps] at this
    obtain ⟨y, ys, h1, h2, h3⟩ := this
    exact ⟨y, ys, h1, h2.str_of, h3⟩
  have hC₁ := st₁.base _ _ hC
  have hN₁ := hN.keeps st₁.base
  refine wpAny_bind (wpAny_standAt ?_)
  obtain ⟨hp, gg, d, tks, os⟩ := s₁
  refine wpAny_bind (wpAny_keeperOf_exc hC₁ ?_)
  refine wpAny_bind (wpAny_call_exc_sub ve_base hC₁ hN₁ hi (fun h' e hm => wpAny_bind (wpAny_holding (wpAny_point (wpAny_pure ?_)))))
  obtain ⟨t, ht, _, _⟩ := hm.there
  exact ⟨e, t, rfl, hm.keeps _ _ hC₁, ht, hr H₁ O₁ _ h' e tk n₁ st₁ hm⟩
/-- an exception of the text's, just made -/
theorem PostX.made {H : Hm} {O : OSet} {s : Shared} {h' : Heap} {e t C : Addr} {oe ot : Obj} {us : Array Value} {n : Nat} {tk : Tok} {m : Str} (st : St Γ H O loc s) (hk : ∀ b o, s.heap.get? b = some o → h'.get? b = some o) (hne : s.heap.get? e = none) (hnt : s.heap.get? t = none) (het : e ≠ t)
    (he : h'.get? e = some oe) (hc : oe.cls = .ref C) (hd : oe.data = .fields us) (h0 : us[0]? = some (.ref t)) (h1 : us[1]? = some .none) (ht : h'.get? t = some ot) (htc : ot.cls = .type "tuple") (htd : ot.data = .seq #[.str m tk] n)
    (hx : X ⟨.ref C, some m⟩ loc) : PostX Γ H O s X (.ref e) { s with heap := h' } := by
  have fe := st.foreign hne
  have ft := st.foreign hnt
  have st₁ : StH Γ H O loc h' s.os s.gens := st.ext (fun b o e => ⟨o, hk b o e, .refl ..⟩) st.gens (.refl _) fun b o e => .inl e
  have n₁ : Nx Γ.F H O s.heap H O h' := ⟨fun b o e _ => ⟨o, hk b o e, .refl ..⟩, fun b o e => ⟨o, hk b o e⟩, .refl _, fun b o e => .inl e, fun b e => .inl e⟩
  refine ⟨Hset H t ot, O, loc, ⟨.ref C, some m⟩, n₁.freeze ft.hm hnt, st₁.freeze ht (fun es ep z => by rw [htd] at z; cases z) ft.o ft.hm,
    ⟨e, oe, us, rfl, hne, fe.o, ?_, he, hc, hd, ⟨fun m' hm' => ?_, fun z => by cases z⟩, .inl h1⟩, hx⟩
  · unfold Hset; rw [if_neg het]; exact fe.hm
  · cases hm'
    exact ⟨t, ot, n, tk, h0, Hset.self _ _ _, htc, htd⟩
/-- raise C('m') -/
theorem ex_raise {c m : Str} {C : Addr} {k : Nat} {np mp cpos pos : Pos} (cls : ExcCls Γ.F C) (g : GlobAt Γ.F c (.ref C)) (hh : Γ.A.handled = none) (hx : X ⟨.ref C, some m⟩ loc)
    (hk : Γ.env.kindOf c = some .globalImplicit := by rfl) (hg : Γ.env.globals = mainGlobals := by rfl) (hb : Γ.env.builtins = builtinsNs := by rfl) (hd : (c == ("__debug__" : Str)) = false := by decide) :
    Ex1 Γ loc (.Raise (some (.Call (.Name c np) [.Constant (.str m) k mp] [] cpos)) none pos) QF X := by
  intro H O s st
  refine wp_raise cls g st hk hg hb hd fun H₁ O₁ s₁ h' e tk n₁ st₁ hm => wpAny_raiseNew_none hh ?_
  obtain ⟨t, h1, h2, h3⟩ := hm.there
  exact (PostX.made (X := X) st₁ hm.keeps hm.new h2 (fun z => by rw [z, h3] at h1; cases h1) h1 rfl rfl rfl rfl h3 rfl rfl hx).back n₁
end
end Mine
end
section
open PySem PySem.W PyProof.Rows
set_option linter.unusedVariables false
set_option maxRecDepth 100000
namespace Mine
theorem matches_own {F : Fix} {C : Addr} (cls : ExcCls F C) : Matches F (.ref C) (.ref C) true := by
  intro M A E s e o Q hb he hc hq
  obtain ⟨nm, q, N, bs, hdct, sn, sub, ab, col, dd, k0, k1, k2, k3, k5, mN, hC, hN, hi, hs⟩ := cls.is
  obtain ⟨hp, gg, d, tks, os⟩ := s
  exact wpAny_excMatches_sub_self (hb _ _ hC) he hc (by decide) hq
theorem matches_own_value {F : Fix} {C : Addr} (cls : ExcCls F C) : Matches F (.ref C) (.type "ValueError") true := by
  intro M A E s e o Q hb he hc hq
  obtain ⟨nm, q, N, bs, hdct, sn, sub, ab, col, dd, k0, k1, k2, k3, k5, mN, hC, hN, hi, hs⟩ := cls.is
  obtain ⟨hp, gg, d, tks, os⟩ := s
  refine wpAny_excMatches_sub_type (hb _ _ hC) he hc (by rw [isSubtype_type]; kernel_rfl) (by rw [isSubtype_type]; kernel_rfl) ?_
  exact hq
section
variable {Γ : Cx} {loc : Loc} {Q : V → Loc → Prop} {QL : LV → Loc → Prop} {QB : Bool → Loc → Prop} {QF : Fl → Loc → Prop} {X : Exc → Loc → Prop} {x : Exc}
/-- except T: raise C('m') -/
theorem hd_raise {t c m : Str} {C : Addr} {k : Nat} {tp np mp cpos rpos pos : Pos} {tv : Value} {hs : List ExceptHandler} (hf : Γ.isFn) (g : GlobAt Γ.F t tv) (mt : Matches Γ.F x.cls tv true) (hmsg : x.msg = none) (cls : ExcCls Γ.F C) (gc : GlobAt Γ.F c (.ref C)) (hx : X ⟨.ref C, some m⟩ loc)
    (hk : Γ.env.kindOf t = some .globalImplicit := by rfl) (hkc : Γ.env.kindOf c = some .globalImplicit := by rfl) (hg : Γ.env.globals = mainGlobals := by rfl) (hb : Γ.env.builtins = builtinsNs := by rfl)
    (hd : (t == ("__debug__" : Str)) = false := by decide) (hdc : (c == ("__debug__" : Str)) = false := by decide) :
    Hd Γ loc x (.ExceptHandler (some (.Name t tp)) none [.Raise (some (.Call (.Name c np) [.Constant (.str m) k mp] [] cpos)) none rpos] pos :: hs) QF X := by
  intro H₀ O₀ s₀ loc₀ H O s e st₀ nx st fl
  obtain ⟨a, o, rfl, ho, hc⟩ := fl.ref
  obtain ⟨l, hl, _⟩ := st.frames
  obtain ⟨outer, rfl⟩ := hf.1 l hl
  obtain ⟨L, hL⟩ := hf.2
  refine wpAny_handleBy_cons (codeAny_handlers_test ?_) (by intro q; cases q)
  refine Calls.Name_function_global st.kind hk (wp_glob st g ?_ hg hb) hd
  refine mt _ _ _ s a o _ st.base ho hc ?_
  refine codeAny_handlers_suite ?_
  refine wp_setFlight (Γ := Γ.mark (.ref a)) (st₀.mark _) nx (st.mark _) fl fun h₁ n₁ st₁ fl₁ => ?_
  obtain ⟨a', o', vs, tb, otb, tvs, ea, i2, i3, i4, i5, i6, i7, i8, _⟩ := id fl₁.is
  cases ea
  refine wpAny_execs_cons ?_
  refine wp_raise (Γ := Γ.mark (.ref a)) (s := { s with heap := h₁ }) cls gc st₁ hkc hg hb hdc fun H₂ O₂ s₂ h' e' tk n₂ st₂ hm => ?_
  have ha₂ : s₂.heap.get? a = some o' := by
    obtain ⟨o'', e1, e2⟩ := n₂.kp a o' i5 i3
    rw [e1, e2.eq_of_data (fun es ep z => by rw [i7] at z; cases z)]
  obtain ⟨t', h1, h2, h3⟩ := hm.there
  have hne : a ≠ e' := fun z => by rw [z, hm.new] at ha₂; cases ha₂
  refine wp_raiseNew_in (s := { s₂ with heap := h' }) rfl hne (hm.keeps _ _ ha₂) i7 (i8.2 hmsg) h1 rfl (show 2 < 6 by decide) ?_
  have hte : t' ≠ e' := fun z => by rw [z, h1] at h3; cases h3
  have hdm := Obj.data_mapFields (o := { cls := .ref C, data := .fields #[.ref t', .none, .none, .none, .bool false, .none] }) rfl (·.setIfInBounds 2 (Value.ref a))
  have hself := Heap.get?_update_self (Obj.mapFields (·.setIfInBounds 2 (Value.ref a))) h1 (Obj.isFreed_of_fields hdm)
  have px : PostX (Γ.mark (.ref a)) H₂ O₂ s₂ X (.ref e') { s₂ with heap := h'.update e' (Obj.mapFields (·.setIfInBounds 2 (Value.ref a))) } :=
    PostX.made st₂ (fun b q e => (Heap.get?_update_other _ _ (fun z => by rw [← z, hm.new] at e; cases e)).trans (hm.keeps _ _ e)) hm.new h2 (Ne.symm hte) hself (Obj.cls_mapFields _ _) hdm rfl rfl
      ((Heap.get?_update_other _ _ (Ne.symm hte)).trans h3) rfl rfl hx
  obtain ⟨H₃, O₃, l₃, x', n₃, st₃, f₃, q₃⟩ := px
  have n₁₂ : Nx Γ.F H₀ O₀ s₀.heap H₂ O₂ s₂.heap := n₁.trans n₂
  exact wp_came st₀ (n₁₂.trans n₃) st₃ (f₃.back n₁₂) q₃ hl hL
/-- the frame's names are forgotten -/
theorem StH.forget {H : Hm} {O : OSet} {h h' : Heap} {os : OsState} {g : Array GenState} {m' : Str → Option Value} (st : StH Γ H O loc h os g) (hsb : Heap.SameBut Γ.env.locals h h') (hn : h'.Ns Γ.env.locals m') : StH Γ H O [] h' os g where
  base := fun b o e => (hsb.2 b fun z => by subst z; rw [st.obase _ st.onsO] at e; cases e).trans (st.base b o e)
  agree := fun b o e => (hsb.2 b fun z => by subst z; rw [st.ohm _ st.onsO] at e; cases e).trans (st.agree b o e)
  nofr := st.nofr
  os := st.os
  gens := st.gens
  obase := st.obase
  ohm := st.ohm
  othere := fun b hb => by
    by_cases hbc : b = Γ.env.locals
    · obtain ⟨o, _, _, e, _⟩ := hn; exact ⟨o, hbc ▸ e⟩
    · obtain ⟨o, e⟩ := st.othere b hb; exact ⟨o, (hsb.2 b hbc).trans e⟩
  kind := st.kind
  ns := ⟨_, hn⟩
  onsO := st.onsO
  vars := fun x lv e => by cases e
  sep := fun x y a lv lv' e => by cases e
  apart := fun x a lv e => by cases e
  cells := fun x c e => ⟨(st.cells x c e).1, let ⟨o, v, h1, h2⟩ := (st.cells x c e).2; ⟨o, v, (hsb.2 c (st.cne x c e)).trans h1, h2⟩⟩
  cne := st.cne
  cinj := st.cinj
  frames := by
    obtain ⟨l, hl, r⟩ := st.frames
    refine ⟨l, hl, fun env he => ?_⟩
    obtain ⟨h1, L, o, es, ep, h2, h3, h4, h5⟩ := r env he
    by_cases hL : L = Γ.env.locals
    · obtain ⟨o', es', ep', e1, e2, _⟩ := hn
      exact ⟨h1, L, o', es', ep', h2, hL ▸ e1, e2, h5⟩
    · exact ⟨h1, L, o, es, ep, h2, (hsb.2 L hL).trans h3, h4, h5⟩
theorem Nx.names {F : Fix} {H₀ H : Hm} {O₀ O : OSet} {h₀ h h' : Heap} {c : Addr} (n : Nx F H₀ O₀ h₀ H O h) (hc : O c) (hsb : Heap.SameBut c h h') (ht : ∃ o, h'.get? c = some o) : Nx F H₀ O₀ h₀ H O h' := n.ownSet hc hsb ht
/-- except T as n: a suite that returns -/
theorem hd_named {t n m : Str} {tp pos : Pos} {tv : Value} {b₀ : Stmt} {suite : List Stmt} {hs : List ExceptHandler} (hf : Γ.isFn) (g : GlobAt Γ.F t tv) (mt : Matches Γ.F x.cls tv true) (hmsg : x.msg = some m) (hn : Γ.env.kindOf n = some .local)
    (h : ∀ e, Exs (Γ.mark e) ((n, .val (.exc x.cls m)) :: loc) (b₀ :: suite) (fun fl _ => QF fl []) NoX)
    (hk : Γ.env.kindOf t = some .globalImplicit := by rfl) (hg : Γ.env.globals = mainGlobals := by rfl) (hb : Γ.env.builtins = builtinsNs := by rfl)
    (hd : (t == ("__debug__" : Str)) = false := by decide) : Hd Γ loc x (.ExceptHandler (some (.Name t tp)) (some n) (b₀ :: suite) pos :: hs) QF X := by
  intro H₀ O₀ s₀ loc₀ H O s e st₀ nx st fl
  obtain ⟨a, o, rfl, ho, hc⟩ := fl.ref
  refine wpAny_handleBy_cons (codeAny_handlers_test ?_) (by intro q; cases q)
  refine Calls.Name_function_global st.kind hk (wp_glob st g ?_ hg hb) hd
  refine mt _ _ _ s a o _ st.base ho hc ?_
  refine codeAny_handlers_suite_as ?_
  refine wp_setFlight (Γ := Γ.mark (.ref a)) (st₀.mark _) nx (st.mark _) fl fun h₁ n₁ st₁ fl₁ => ?_
  obtain ⟨a', o', vs, tb, otb, tvs, ea, i2, i3, i4, i5, i6, i7, i8, _⟩ := id fl₁.is
  cases ea
  obtain ⟨t', ot, k, tk, j1, j2, j3, j4⟩ := i8.1 m hmsg
  have hta : t' ≠ a := fun z => by rw [z, i4] at j2; cases j2
  have hod : ∀ es ep, o'.data ≠ .dict es ep := fun es ep z => by rw [i7] at z; cases z
  have st₁' := st₁.freeze i5 hod i3 i4
  have n₁' := n₁.freeze i4 i2 (o := o')
  have rp : Rep (Hset H a o') (.exc x.cls m) (.ref a) := by
    simp only [Rep]
    exact ⟨a, o', vs, t', ot, k, tk, rfl, Hset.self _ _ _, i6, i7, j1, Hset.le i4 _ _ j2, j3, j4⟩
  refine wp_store (Γ := Γ.mark (.ref a)) (s := s₀) (s₁ := { s with heap := h₁ }) (x := n) (lv := .val (.exc x.cls m)) n₁' (st₀.mark _) st₁' rp (.inl hn) fun O₂ s₂ n₂ st₂ _ _ => ?_
  refine wpAny_mono (h (.ref a) (Hset H a o') O₂ s₂ st₂) (fun f s₃ p => ?_) fun ex s₃ p => p.no.elim
  obtain ⟨H₃, O₃, l₃, flw, n₃, st₃, r₃, q₃⟩ := p
  have st₃' := st₃.unmark
  obtain ⟨mm, hmm⟩ := st₃'.ns
  refine wpAny_nameGoes hn hmm (by rw [st₃'.kind]; rfl) fun h' m' hn' hsb => ?_
  exact ⟨H₃, O₃, [], flw, (n₂.trans n₃).names st₃'.onsO hsb (let ⟨o, _, _, e, _⟩ := hn'; ⟨o, e⟩), st₃'.forget hsb hn', r₃, q₃⟩
def V.plain : V → Prop
  | .none => True
  | .bool _ => True
  | .int _ => True
  | .flt _ => True
  | .str _ => True
  | _ => False
/-- a statement that is an expression; its value is dropped -/
theorem ex_expr {e pos} (h : Ev Γ loc e (VQ fun A l => A.plain ∧ QF .next l) X) (hi : interactive Γ.env = false := by rfl) (hw : swapsWith e none pos.line Γ.env = pure false := by rfl) : Ex1 Γ loc (.Expr e pos) QF X := by
  intro H O s hs
  refine wpAny_Expr (wpAny_mono (h H O s hs) (fun v s₁ p => ?_) fun _ _ p => p) hi hw
  obtain ⟨H₁, O₁, l₁, lv, n₁, st₁, r₁, q₁⟩ := p
  cases lv with
  | own _ _ => exact q₁.elim
  | itr _ => exact q₁.elim
  | val A =>
    obtain ⟨pl, q⟩ := q₁
    have post : PostF Γ H O s QF Flow.next s₁ := ⟨H₁, O₁, l₁, .next, n₁, st₁, rfl, q⟩
    cases A with
    | none => cases Rep.none_of (H := H₁) r₁; exact post
    | bool b => cases Rep.bool_of (H := H₁) r₁; exact post
    | int i => obtain ⟨t, rfl⟩ := Rep.int_of (H := H₁) r₁; exact post
    | flt i => obtain ⟨t, rfl⟩ := Rep.flt_of (H := H₁) r₁; exact post
    | str i => obtain ⟨t, rfl⟩ := Rep.str_of (H := H₁) r₁; exact post
    | _ => exact pl.elim
end
end Mine
end
section
open PySem PySem.W PyProof.Rows
set_option linter.unusedVariables false
set_option maxRecDepth 100000
namespace Mine

/-! ## str of an exception of the text's -/
open Builtin Builtin.Str Builtin.BaseException Builtin.Exceptions in
section
variable {prog : Program} {w : World} {A : Around} {E : Value → Shared → Prop} {h : Heap} {g : Array GenState} {d : Drawn} {t : Nat} {os : OsState} {a t0 : Addr} {o : Obj} {vs : Array Value} {m : Str} {tk : Tok}
variable {nm q : Str} {C N : Addr} {bs : List Value} {hdct : Bool} {sn : List Str} {sub : List Value} {ab : Bool} {col : Option Bool} {dd : Option Addr} {k0 k1 k2 k3 k5 : Option Value} {mN : Str → Option Value}
theorem check_str_own {M : Model} {Q : Unit → Shared → Prop} (hC : h.get? C = some (excClassObj nm q C N bs veMro hdct sn sub ab col dd k0 k1 k2 k3 k5 "ValueError.__new__"))
    (hx : h.get? a = some o) (hc : o.cls = .ref C) (hq : Q () ⟨h, g, d, t, os⟩) : wpAny M A (checkBuiltinCall "BaseException.__str__" ⟨[.ref a], []⟩) Q E ⟨h, g, d, t, os⟩ := by
  have hk : builtinKind "BaseException.__str__" = some .slot := by decide +kernel
  have hsplit : splitId "BaseException.__str__" = some ("BaseException", "__str__") := by decide +kernel
  have hcB : (Value.ref C :: veMro).contains (.type "BaseException") = true := by rw [List.contains_cons]; exact (Bool.or_true _ ▸ rfl)
  have ha := F.args_bexc_str (.ref a)
  simp only [checkBuiltinCall, hk, hsplit]
  refine wpAny_bind ?_
  · unfold isInstance
    repeat (first | (with_reducible refine wpAny_loadPart_at hx ?_; rw [hc]) | (with_reducible refine wpAny_isSubtype_exc hC ?_; rw [hcB]) | wp_step)
    exact hq
theorem bexcArgs_own {M : Model} {items : List Value} {Q : Value × List Value → Shared → Prop} (hx : h.get? a = some o) (hd : o.data = .fields vs) (h0 : vs[0]? = some (.ref t0)) (ht : h.TupAt t0 items) (hq : Q (.ref t0, items) ⟨h, g, d, t, os⟩) :
    wpAny M A (bexcArgs (.ref a)) Q E ⟨h, g, d, t, os⟩ := by
  obtain ⟨ot, k, hto, _, htd⟩ := ht
  unfold bexcArgs
  refine wpAny_bind (wpAny_field hx hd h0 (wpAny_bind (wpAny_seqItems hto htd ?_)))
  have : items.toArray.toList = items := by simp
  show wpAny M A (pure (Value.ref t0, items.toArray.toList)) Q E _
  rw [this]; exact wpAny_pure hq
theorem entry_str_own {Q : PySem.Fin → Shared → Prop} (hx : h.get? a = some o) (hd : o.data = .fields vs) (h0 : vs[0]? = some (.ref t0)) (ht : h.TupAt t0 [.str m tk]) (hq : Q (.done (.ret (.str m tk))) ⟨h, g, d, t, os⟩) :
    wpAny (model prog w) A (Builtin.«BaseException.__str__» ⟨[.ref a], []⟩) Q E ⟨h, g, d, t, os⟩ := by
  unfold Builtin.«BaseException.__str__»
  repeat (first | with_reducible refine bexcArgs_own hx hd h0 ht ?_ | wp_step)
  exact hq
theorem special_str_own {Q : Option Value → Shared → Prop} (hC : h.get? C = some (excClassObj nm q C N bs veMro hdct sn sub ab col dd k0 k1 k2 k3 k5 "ValueError.__new__")) (hN : h.Ns N mN) (hs : mN "__str__" = none)
    (hx : h.get? a = some o) (hc : o.cls = .ref C) (hd : o.data = .fields vs) (h0 : vs[0]? = some (.ref t0)) (ht : h.TupAt t0 [.str m tk]) (hq : Q (some (.str m tk)) ⟨h, g, d, t, os⟩) :
    wpAny (model prog w) A (callSpecial? (.ref a) "__str__" [] []) Q E ⟨h, g, d, t, os⟩ := by
  simp only [callSpecial?]
  refine wpAny_bind ?_
  unfold specialOf
  repeat (first | (with_reducible refine wpAny_loadPart_at hx ?_; rw [hc]) | with_reducible refine wpAny_typeLookup_exc hC hN ve_base.mroIs ve_str.str.lookup ?_ | wp_step)
  rw [hs]
  simp only [ve_str.str.bind]
  refine wpAny_holding (wpAny_bind (wpAny_pure (wpAny_bind (wpAny_mono (Q := fun v s' => Q (some v) s') ?_ (fun v s' h' => wpAny_pure h') fun _ _ h' => h'))))
  exact wpAny_call (codeAny_call_builtin ve_str.str.plain F.entry_bexc_str (check_str_own hC hx hc (entry_str_own hx hd h0 ht hq)))
theorem strOf_own (hu : A.units < cLine) {Q : Value → Shared → Prop} (hC : h.get? C = some (excClassObj nm q C N bs veMro hdct sn sub ab col dd k0 k1 k2 k3 k5 "ValueError.__new__")) (hN : h.Ns N mN) (hs : mN "__str__" = none)
    (hx : h.get? a = some o) (hc : o.cls = .ref C) (hd : o.data = .fields vs) (h0 : vs[0]? = some (.ref t0)) (ht : h.TupAt t0 [.str m tk]) (hq : Q (.str m tk) ⟨h, g, d, t, os⟩) :
    wpAny (model prog w) A (Builtin.Str.strOf (.ref a)) Q E ⟨h, g, d, t, os⟩ := by
  unfold Builtin.Str.strOf
  repeat (first | with_reducible refine wpAny_cRoomFor hu ?_ | with_reducible refine special_str_own hC hN hs hx hc hd h0 ht ?_ | wp_step)
  exact hq
end
theorem call_str_own {prog : Program} {w : World} {A : Around} {E : Value → Shared → Prop} {s : Shared} {a t0 C N : Addr} {o : Obj} {vs : Array Value} {m : Str} {tk : Tok} {nm q : Str} {bs : List Value} {hdct : Bool} {sn : List Str} {sub : List Value} {ab : Bool} {col : Option Bool} {dd : Option Addr} {k0 k1 k2 k3 k5 : Option Value} {mN : Str → Option Value}
    (hu : A.units + 2 < cLine) {Q : Value → Shared → Prop} (hC : s.heap.get? C = some (excClassObj nm q C N bs veMro hdct sn sub ab col dd k0 k1 k2 k3 k5 "ValueError.__new__")) (hN : s.heap.Ns N mN) (hs : mN "__str__" = none)
    (hx : s.heap.get? a = some o) (hc : o.cls = .ref C) (hd : o.data = .fields vs) (h0 : vs[0]? = some (.ref t0)) (ht : s.heap.TupAt t0 [.str m tk]) (h : Q (.str m tk) s) :
    wpAny (model prog w) A (call (.type "str") [.ref a]) Q E s :=
  callType_new F.called_str (by decide) (F.typeCall_str_1 _) (F.newCall_str_1 _) (fun obj => F.args_object_init_2 obj _) F.entry_str_new
    (meets_str_new (S := fun A' R s' => A'.units + 1 < cLine ∧ s'.heap.get? C = some (excClassObj nm q C N bs veMro hdct sn sub ab col dd k0 k1 k2 k3 k5 "ValueError.__new__") ∧ s'.heap.Ns N mN ∧ s'.heap.get? a = some o ∧ s'.heap.TupAt t0 [.str m tk] ∧ R (.ok (.ret (.str m tk))) s')
      fun _ _ A' _ s' hq => by
        obtain ⟨q1, q2, q3, q4, q5, q6⟩ := hq
        exact strOf_own (A := A'.in1) q1 q2 q3 hs q4 hc hd h0 q5 q6)
    ⟨(show A.units + 1 + 1 < cLine from hu), hC, hN, hx, ht, typeIs_str _ _ _, h⟩
section
variable {Γ : Cx} {loc : Loc} {Q : V → Loc → Prop} {X : Exc → Loc → Prop}
/-- str(error) -/
theorem bi_str_exc {C : Addr} {m : Str} (cls : ExcCls Γ.F C) (hu : Γ.A.units + 2 < cLine) (h : Q (.str m) loc) : OpN Γ loc (fun vs => call (.type "str") vs) [.exc (.ref C) m] (VQ Q) X := by
  intro H O s vs st r
  obtain ⟨nm, q, N, bs, hdct, sn, sub, ab, col, dd, k0, k1, k2, k3, k5, mN, hC, hN, hi, hs⟩ := cls.is
  simp only [Reps] at r
  obtain ⟨y, ys, rfl, r1, rfl⟩ := r
  simp only [Rep] at r1
  obtain ⟨a, o, us, t, ot, n, tk, rfl, j1, j2, j3, j4, j5, j6, j7⟩ := r1
  refine call_str_own hu (st.base _ _ hC) (hN.keeps st.base) hs (st.agree _ _ j1) j2 j3 j4 ⟨ot, n, st.agree _ _ j5, j6, j7⟩ ?_
  exact PostV.here' st (rep_str H m tk) h
end
end Mine
end
section
open PySem PySem.W PyProof.Rows
set_option linter.unusedVariables false
set_option maxRecDepth 100000
namespace Mine

/-! ## and, or as values; equality; values told to the object -/
section
variable {Γ : Cx} {loc : Loc} {Q : V → Loc → Prop} {QL : LV → Loc → Prop} {QB : Bool → Loc → Prop} {QF : Fl → Loc → Prop} {X : Exc → Loc → Prop}
def Bo (Γ : Cx) (loc : Loc) (pos : Pos) (op : BoolOp) (es : List Expr) (Q : V → Loc → Prop) (X : Exc → Loc → Prop) : Prop :=
  ∀ H O s, St Γ H O loc s → wpAny Γ.M Γ.A (boolOp pos op (evalEach es Γ.env)) (PostV Γ H O s (VQ Q)) (PostX Γ H O s X) s
theorem ev_bool_op {op : BoolOp} {es : List Expr} {pos : Pos} (h : Bo Γ loc pos op es Q X) : Ev Γ loc (.BoolOp op es pos) (VQ Q) X := fun H O s st => h H O s st
theorem bo_last {op : BoolOp} {e : Expr} {pos : Pos} (h : Ev Γ loc e (VQ Q) X) : Bo Γ loc pos op [e] Q X := fun H O s st => h H O s st
theorem bo_cons {op : BoolOp} {e e' : Expr} {es : List Expr} {pos : Pos} (h : Ev Γ loc e (VQ fun A l => Opb Γ l truthy A (fun b l' => if b == (op == .And) then Bo Γ l' pos op (e' :: es) Q X else Q A l') X) X) : Bo Γ loc pos op (e :: e' :: es) Q X := by
  intro H O s st
  show wpAny Γ.M Γ.A (boolOp pos op (eval e Γ.env :: eval e' Γ.env :: evalEach es Γ.env)) _ _ _
  unfold boolOp
  refine wpAny_bind (wpAny_mono (h H O s st) (fun v s₁ p => wpAny_bind (wpAny_standAt ?_)) fun _ _ p => p)
  obtain ⟨H₁, O₁, l₁, lv, n₁, st₁, r₁, q₁⟩ := p
  cases lv with
  | own _ _ => exact q₁.elim
  | itr _ => exact q₁.elim
  | val A =>
    refine wpAny_bind (wpAny_holding (wpAny_mono (q₁ H₁ O₁ s₁ v st₁ r₁) (fun b s₂ p => ?_) fun _ _ p => p.back n₁))
    obtain ⟨H₂, O₂, l₂, n₂, st₂, q₂⟩ := p
    have go : Bo Γ l₂ pos op (e' :: es) Q X → wpAny Γ.M Γ.A (boolOp pos op (eval e' Γ.env :: evalEach es Γ.env)) (PostV Γ H O s (VQ Q)) (PostX Γ H O s X) s₂ := fun z =>
      wpAny_mono (z H₂ O₂ s₂ st₂) (fun _ _ p => (p.back n₂).back n₁) fun _ _ p => (p.back n₂).back n₁
    have stop : Q A l₂ → wpAny Γ.M Γ.A (pure v) (PostV Γ H O s (VQ Q)) (PostX Γ H O s X) s₂ := fun z =>
      wpAny_pure ⟨H₂, O₂, l₂, .val A, n₁.trans n₂, st₂, Rep.mono n₂.hle _ _ r₁, z⟩
    cases op <;> cases b
    · exact stop q₂
    · exact go q₂
    · exact go q₂
    · exact stop q₂
/-- isinstance(v, float) of an int -/
theorem bi_isfloat_int {i : Int} (h : Q (.bool false) loc) : OpN Γ loc (fun vs => call (.builtin "isinstance") vs) [.int i, .con (.type "float")] (VQ Q) X := fun H O s vs st r => by
  simp only [Reps] at r
  obtain ⟨y, _, rfl, hy, z, _, rfl, hz, rfl⟩ := r
  cases hz.con_of
  obtain ⟨t, rfl⟩ := hy.int_of
  exact IsiPair.int_float (PostV.here st (rep_bool H false) h _)
theorem reps_of_items {H : Hm} {As : List V} {acc : Array Value} {n : Nat} {P : Nat → Value → Prop} (hl : As.length = n) (h : ItemsOf P acc n) (hP : ∀ i v A, P i v → As[i]? = some A → Rep H A v) : Reps H As acc.toList := by
  refine Reps.of_get (by simp [hl, h.1]) fun i A y hA hy => hP i y A (h.2 i y (by simpa using hy)) hA
/-- list(range(..)) -/
theorem bi_list_rng {a b : Int} (hh : Γ.A.handled = none) (hs : Builtin.Range.small a b 1 = true) (hz : (b - a).toNat ≤ sizeLine) (h : Q (.lst (V.items (.rng a b 1))) loc) : OpN Γ loc (fun vs => call (.type "list") vs) [.rng a b 1] (VQ Q) X := fun H O s vs st r => by
  simp only [Reps] at r
  obtain ⟨y, _, rfl, hy, rfl⟩ := r
  simp only [Rep] at hy
  obtain ⟨r, t, u, w, rfl, hr⟩ := hy
  have fa := st.foreign (fresh_none s.heap)
  refine call_list_range (n := (b - a).toNat) hh (st.agree _ _ hr) hs ?_ hz fun h' tk acc c hk e it => ?_
  · have := rangeSize_one a b
    have := rangeSize_nonneg a b 1
    omega
  · refine PostV.made st hk (fresh_none _) e (seq_nodict rfl) (rep_new_lst fa.hm rfl rfl ?_) h
    refine reps_of_items (n := (b - a).toNat) (by rw [items_rng]; simp) it fun i v A hv hA => ?_
    obtain ⟨t', rfl⟩ := hv
    rw [items_rng, List.getElem?_map] at hA
    cases e' : (List.range (b - a).toNat)[i]? with
    | none => rw [e'] at hA; cases hA
    | some j =>
      rw [e'] at hA
      obtain rfl : j = i := by
        have := List.getElem?_eq_some_iff.mp e'
        obtain ⟨h1, h2⟩ := this
        simpa using h2.symm
      cases hA
      rw [Int.mul_one]
      exact rep_int ..
end
/-- told to the object -/
def Sub (A B : V) : Prop := ∀ H v, Rep H A v → Rep H B v
theorem Sub.refl (A : V) : Sub A A := fun _ _ h => h
inductive Subs : List V → List V → Prop
  | nil : Subs [] []
  | cons {A B : V} {As Bs : List V} : Sub A B → Subs As Bs → Subs (A :: As) (B :: Bs)
theorem Subs.reps {As Bs : List V} (h : Subs As Bs) : ∀ {H : Hm} {vs : List Value}, Reps H As vs → Reps H Bs vs := by
  induction h with
  | nil => exact fun r => r
  | cons h1 _ ih =>
    intro H vs r
    simp only [Reps] at r ⊢
    obtain ⟨y, ys, rfl, r1, r2⟩ := r
    exact ⟨y, ys, rfl, h1 _ _ r1, ih r2⟩
theorem Subs.lst {As Bs : List V} (h : Subs As Bs) : Sub (.lst As) (.lst Bs) := fun H v r => by
  obtain ⟨a, o, xs, n, rfl, h2, h3, h4, h5⟩ := r.lst_of
  exact rep_lst h2 h3 h4 (h.reps h5)
def V.scal : V → Prop := V.plain
theorem Rep.scal {A : V} (h : A.scal) {H H' : Hm} {v : Value} (r : Rep H A v) : Rep H' A v := by
  cases A <;> first | (simp only [Rep] at r ⊢; exact r) | exact h.elim
theorem Subs.con : ∀ {As : List V} {vs : List Value} {H : Hm}, (∀ A ∈ As, A.scal) → Reps H As vs → Subs (vs.map .con) As
  | [], vs, H, _, r => by simp only [Reps] at r; subst r; exact .nil
  | A :: As, vs, H, h, r => by
    simp only [Reps] at r
    obtain ⟨y, ys, rfl, r1, r2⟩ := r
    exact .cons (fun H' v e => by cases e.con_of; exact r1.scal (h A List.mem_cons_self)) (Subs.con (fun B hB => h B (List.mem_cons_of_mem _ hB)) r2)
theorem reps_con {H : Hm} : ∀ (vs : List Value), Reps H (vs.map .con) vs
  | [] => reps_nil H
  | v :: vs => reps_cons (rep_con H v) (reps_con vs)
section
variable {Γ : Cx} {loc : Loc} {Q : V → Loc → Prop} {QL : LV → Loc → Prop} {QB : Bool → Loc → Prop} {QF : Fl → Loc → Prop} {X : Exc → Loc → Prop} {x : Str} {As : List V}
/-- a name's value is told anew -/
theorem StH.know {H : Hm} {O : OSet} {h : Heap} {os : OsState} {g : Array GenState} {A B : V} {v : Value} (st : StH Γ H O loc h os g) (hv : VarIs Γ.env h x v) (r : Rep H B v) : StH Γ H O ((x, .val B) :: loc) h os g :=
  { st with
    vars := fun y lv e => by
      by_cases hy : y = x
      · subst hy; rw [lookup_cons_self] at e; cases e; exact ⟨v, hv, r⟩
      · rw [lookup_cons_ne hy] at e; exact st.vars y lv e
    sep := fun y z a lv lv' e e' m m' => by
      by_cases hy : y = x
      · subst hy; rw [lookup_cons_self] at e; cases e; cases m
      · by_cases hz : z = x
        · subst hz; rw [lookup_cons_self] at e'; cases e'; cases m'
        · rw [lookup_cons_ne hy] at e; rw [lookup_cons_ne hz] at e'; exact st.sep y z a lv lv' e e' m m'
    apart := fun y a lv e m => by
      by_cases hy : y = x
      · subst hy; rw [lookup_cons_self] at e; cases e; cases m
      · rw [lookup_cons_ne hy] at e; exact st.apart y a lv e m }
theorem exs_con {ss : List Stmt} (hx : Has loc x (.lst As)) (hs : ∀ A ∈ As, A.scal) (h : ∀ vs : List Value, Subs (vs.map .con) As → Exs Γ ((x, .val (.lst (vs.map .con))) :: loc) ss QF X) : Exs Γ loc ss QF X := by
  intro H O s st
  obtain ⟨v, hv, r⟩ := st.vars x _ hx
  obtain ⟨a, o, xs, n, rfl, h2, h3, h4, h5⟩ := Rep.lst_of (H := H) r
  exact h xs.toList (Subs.con hs h5) H O s (st.know (A := .lst As) hv (rep_lst h2 h3 h4 (reps_con _)))
theorem ev_as {e : Expr} {A : V} (B : V) (hs : Sub A B) (h : Q B loc) (he : ∀ Q : V → Loc → Prop, Q A loc → Ev Γ loc e (VQ Q) X) : Ev Γ loc e (VQ Q) X := by
  intro H O s st
  refine wpAny_mono (he (fun C l => C = A ∧ l = loc) ⟨rfl, rfl⟩ H O s st) (fun v s₁ p => ?_) fun _ _ p => p
  obtain ⟨H₁, O₁, l₁, lv, n₁, st₁, r₁, q₁⟩ := p
  cases lv with
  | own _ _ => exact q₁.elim
  | itr _ => exact q₁.elim
  | val C =>
    obtain ⟨rfl, rfl⟩ := q₁
    exact ⟨H₁, O₁, l₁, .val B, n₁, st₁, hs _ _ r₁, h⟩
/-- the name's value, told more loosely -/
theorem ev_name_as {pos} {A : V} (B : V) (hs : Sub A B) (hx : Has loc x A) (h : Q B loc) (hd : (x == ("__debug__" : Str)) = false := by decide) (hn : (x == ("__classdict__" : Str)) = false := by decide) : Ev Γ loc (.Name x pos) (VQ Q) X :=
  ev_as B hs h fun _ q => ev_name hx q hd hn
end
/-- values that are equal to themselves -/
inductive EqS : Nat → V → Prop
  | none (d : Nat) : EqS d .none
  | bool (d : Nat) (b : Bool) : EqS d (.bool b)
  | int (d : Nat) (i : Int) : EqS d (.int i)
  | str (d : Nat) (x : Str) : EqS d (.str x)
  | con (d : Nat) (v : Value) : EqS d (.con v)
  | tup {d : Nat} {As : List V} : (∀ B ∈ As, EqS d B) → EqS (d + 1) (.tup As)
  | lst {d : Nat} {As : List V} : (∀ B ∈ As, EqS d B) → EqS (d + 1) (.lst As)
open SeqAt EqBoolInt in
theorem items_eq {H : Hm} {s : Shared} {Ar : Around} {As : List V} {xs ys : Array Value} (ih : ∀ B ∈ As, ∀ a b, Rep H B a → Rep H B b → EqAt Ar.in1 s a b true) (h : Reps H As xs.toList) (h' : Reps H As ys.toList) :
    ∀ j (h1 : j < xs.size) (h2 : j < ys.size), EqAt Ar.in1 s xs[j] ys[j] true := by
  intro j h1 h2
  have hl : xs.size = As.length := by rw [← h.length]; simp
  have hA : As[j]? = some (As[j]'(by omega)) := List.getElem?_eq_getElem (by omega)
  obtain ⟨a, ea, ra⟩ := h.get hA
  obtain ⟨b, eb, rb⟩ := h'.get hA
  have ea' : xs[j]? = some a := by simpa using ea
  have eb' : ys[j]? = some b := by simpa using eb
  rw [Array.getElem?_eq_getElem h1] at ea'
  rw [Array.getElem?_eq_getElem h2] at eb'
  cases ea'; cases eb'
  exact ih _ (List.getElem_mem _) _ _ ra rb
theorem all_true (n : Nat) : (List.range n).all (fun _ => true) = true := by simp
open SeqAt EqBoolInt in
theorem eqAt_same {H : Hm} {s : Shared} (ag : ∀ b o, H b = some o → s.heap.get? b = some o) {d : Nat} {A : V} (h : EqS d A) : ∀ (Ar : Around) (a b : Value), Ar.units + d < cLine → Rep H A a → Rep H A b → EqAt Ar s a b true := by
  induction h with
  | none d => intro Ar a b _ ra rb; cases ra.none_of; cases rb.none_of; exact EqAt.same _
  | bool d x => intro Ar a b _ ra rb; cases ra.bool_of; cases rb.bool_of; exact EqAt.same _
  | con d v => intro Ar a b _ ra rb; cases ra.con_of; cases rb.con_of; exact EqAt.same _
  | int d i => intro Ar a b _ ra rb; obtain ⟨t, rfl⟩ := ra.int_of; obtain ⟨u, rfl⟩ := rb.int_of; have := EqAt.int_int (A := Ar) (s := s) i t i u; rwa [beq_self_eq_true] at this
  | str d i => intro Ar a b _ ra rb; obtain ⟨t, rfl⟩ := ra.str_of; obtain ⟨u, rfl⟩ := rb.str_of; have := EqAt.str_str (A := Ar) (s := s) i t i u; rwa [beq_self_eq_true] at this
  | @tup d As _ ih =>
    intro Ar a b hu ra rb
    obtain ⟨x, o, xs, n, rfl, h2, h3, h4, h5⟩ := ra.tup_of
    obtain ⟨y, o', ys, n', rfl, k2, k3, k4, k5⟩ := rb.tup_of
    by_cases hxy : x = y
    · subst hxy; exact EqAt.same _
    have hl : xs.size = As.length := by rw [← h5.length]; simp
    have hl' : ys.size = As.length := by rw [← k5.length]; simp
    have := RcAt.tuples (A := Ar) (e := fun _ => true) ⟨o, ag _ _ h2, h3, n, h4⟩ ⟨o', ag _ _ k2, k3, n', k4⟩ (by omega) (items_eq (fun B hB a b ra rb => ih B hB Ar.in1 a b (by show Ar.units + 1 + d < cLine; omega) ra rb) h5 k5)
    rw [all_true, hl, hl', beq_self_eq_true] at this
    exact EqAt.of_refs hxy this
  | @lst d As _ ih =>
    intro Ar a b hu ra rb
    obtain ⟨x, o, xs, n, rfl, h2, h3, h4, h5⟩ := ra.lst_of
    obtain ⟨y, o', ys, n', rfl, k2, k3, k4, k5⟩ := rb.lst_of
    by_cases hxy : x = y
    · subst hxy; exact EqAt.same _
    have hl : xs.size = As.length := by rw [← h5.length]; simp
    have hl' : ys.size = As.length := by rw [← k5.length]; simp
    have := RcAt.lists (A := Ar) (e := fun _ => true) ⟨o, ag _ _ h2, h3, n, h4⟩ ⟨o', ag _ _ k2, k3, n', k4⟩ (by omega) (by omega) (items_eq (fun B hB a b ra rb => ih B hB Ar.in1 a b (by show Ar.units + 1 + d < cLine; omega) ra rb) h5 k5)
    rw [all_true] at this
    exact EqAt.of_refs hxy this
section
variable {Γ : Cx} {loc : Loc} {Q : V → Loc → Prop} {X : Exc → Loc → Prop} {As Bs : List V} {d : Nat}
open SeqAt EqBoolInt in
/-- two equal lists -/
theorem cmp_eqL (he : ∀ B ∈ As, EqS d B) (hu : Γ.A.units + 1 + d < cLine) (h : Q (.bool true) loc) : Op2 Γ loc (compareOp .Eq) (.lst As) (.lst As) Q X := fun H O s va vb st ra rb => by
  obtain ⟨x, o, xs, n, rfl, h2, h3, h4, h5⟩ := ra.lst_of
  obtain ⟨y, o', ys, n', rfl, k2, k3, k4, k5⟩ := rb.lst_of
  have hl : xs.size = As.length := by rw [← h5.length]; simp
  have hl' : ys.size = As.length := by rw [← k5.length]; simp
  refine eq_listAt (e := fun _ => true) ⟨o, st.agree _ _ h2, h3, n, h4⟩ ⟨o', st.agree _ _ k2, k3, n', k4⟩ (by omega) (by omega) (items_eq (fun B hB a b ra rb => eqAt_same st.agree (he B hB) _ a b (by show Γ.A.units + 1 + d < cLine; omega) ra rb) h5 k5) ?_
  rw [all_true]; exact PostV.here' st (rep_bool ..) h
open SeqAt EqBoolInt in
theorem cmp_neL (he : ∀ B ∈ As, EqS d B) (hu : Γ.A.units + 1 + d < cLine) (h : Q (.bool false) loc) : Op2 Γ loc (compareOp .NotEq) (.lst As) (.lst As) Q X := fun H O s va vb st ra rb => by
  obtain ⟨x, o, xs, n, rfl, h2, h3, h4, h5⟩ := ra.lst_of
  obtain ⟨y, o', ys, n', rfl, k2, k3, k4, k5⟩ := rb.lst_of
  have hl : xs.size = As.length := by rw [← h5.length]; simp
  have hl' : ys.size = As.length := by rw [← k5.length]; simp
  refine of_rcne (RcNeAt.lists (e := fun _ => true) ⟨o, st.agree _ _ h2, h3, n, h4⟩ ⟨o', st.agree _ _ k2, k3, n', k4⟩ (by omega) (by omega) (items_eq (fun B hB a b ra rb => eqAt_same st.agree (he B hB) _ a b (by show Γ.A.units + 1 + d < cLine; omega) ra rb) h5 k5)) ?_
  rw [all_true]; exact PostV.here' st (rep_bool ..) h
open SeqAt EqBoolInt in
/-- a list against [] -/
theorem cmp_eqNil (hu : Γ.A.units + 1 < cLine) (h : Q (.bool As.isEmpty) loc) : Op2 Γ loc (compareOp .Eq) (.lst As) (.lst []) Q X := fun H O s va vb st ra rb => by
  obtain ⟨x, o, xs, n, rfl, h2, h3, h4, h5⟩ := ra.lst_of
  obtain ⟨y, o', ys, n', rfl, k2, k3, k4, k5⟩ := rb.lst_of
  have hl : xs.size = As.length := by rw [← h5.length]; simp
  have hl' : ys.size = 0 := by have := k5.length; simpa using this
  cases As with
  | nil =>
    refine eq_listAt (e := fun _ => true) ⟨o, st.agree _ _ h2, h3, n, h4⟩ ⟨o', st.agree _ _ k2, k3, n', k4⟩ (by simp [hl, hl']) (by omega) (fun j h1 h2 => by omega) ?_
    rw [all_true]; exact PostV.here' st (rep_bool ..) h
  | cons A As => exact eq_list_lengthsAt ⟨o, st.agree _ _ h2, h3, n, h4⟩ ⟨o', st.agree _ _ k2, k3, n', k4⟩ (by simp [hl, hl']) (by omega) (PostV.here' st (rep_bool ..) h)
open SeqAt EqBoolInt in
theorem cmp_neNil (hu : Γ.A.units + 1 < cLine) (h : Q (.bool (!As.isEmpty)) loc) : Op2 Γ loc (compareOp .NotEq) (.lst As) (.lst []) Q X := fun H O s va vb st ra rb => by
  obtain ⟨x, o, xs, n, rfl, h2, h3, h4, h5⟩ := ra.lst_of
  obtain ⟨y, o', ys, n', rfl, k2, k3, k4, k5⟩ := rb.lst_of
  have hl : xs.size = As.length := by rw [← h5.length]; simp
  have hl' : ys.size = 0 := by have := k5.length; simpa using this
  cases As with
  | nil =>
    refine of_rcne (RcNeAt.lists (e := fun _ => true) ⟨o, st.agree _ _ h2, h3, n, h4⟩ ⟨o', st.agree _ _ k2, k3, n', k4⟩ (by simp [hl, hl']) (by omega) (fun j h1 h2 => by omega)) ?_
    rw [all_true]; exact PostV.here' st (rep_bool ..) h
  | cons A As => exact of_rcne (RcNeAt.lists_lengths ⟨o, st.agree _ _ h2, h3, n, h4⟩ ⟨o', st.agree _ _ k2, k3, n', k4⟩ (by simp [hl, hl']) (by omega)) (PostV.here' st (rep_bool ..) h)
end
end Mine
end
section
open PySem PySem.W PyProof.Rows
set_option linter.unusedVariables false
set_option maxRecDepth 100000
set_option exponentiation.threshold 3000
namespace Mine
open PySem.Float64 (decode val add sub mul div fma neg abs cmp isZero isFinite isInf ofInt Right pack infMag zero sgn)

/-- a float of that value, in units of 2 ** -1074 -/
def FV (x : UInt64) (v : Int) : Prop := (∃ a m e, decode x = .fin a m e) ∧ val x = v
/-- a value that some float has -/
def Rp (v : Int) : Prop := ∃ t, t < infMag ∧ Float64.V t = v.natAbs

theorem V_of {q k : Nat} (hq : q ≤ 2 ^ 53) (hk : k ≤ 2000) : ∃ t, t < infMag ∧ Float64.V t = q * 2 ^ k := by
  induction k generalizing q with
  | zero =>
    refine ⟨q, ?_, ?_⟩
    · have : infMag = 2047 * 2 ^ 52 := rfl
      omega
    · have := PySem.Float64.V_at (k := 0) (q := q) hq (.inr rfl)
      simpa using this
  | succ k ih =>
    by_cases h : 2 ^ 52 ≤ q
    · refine ⟨(k + 1) * 2 ^ 52 + q, ?_, PySem.Float64.V_at hq (.inl h)⟩
      have : infMag = 2047 * 2 ^ 52 := rfl
      omega
    · obtain ⟨t, h1, h2⟩ := ih (q := q * 2) (by omega) (by omega)
      exact ⟨t, h1, by rw [h2, Nat.pow_succ, Nat.mul_assoc, Nat.mul_comm 2]⟩

theorem V_inj {t t' : Nat} (h : Float64.V t = Float64.V t') : t = t' := by
  rcases Nat.lt_trichotomy t t' with c | c | c
  · have := PySem.Float64.V_lt c; omega
  · exact c
  · have := PySem.Float64.V_lt c; omega

/-- the float nearest to what a float has is that -/
theorem right_exact {r : UInt64} {ng : Bool} {W D : Nat} {v : Int} (h : Right r ng W D) (hv : Rp v) (hD : 0 < D) (hW : W = D * v.natAbs) (hs : v ≠ 0 → ng = decide (v < 0)) : FV r v := by
  obtain ⟨t', ht', hV⟩ := hv
  obtain ⟨t, rfl, hle, hov, hnear⟩ := h
  have hlt : t < infMag := by
    rcases Nat.lt_or_ge t infMag with c | c
    · exact c
    · exfalso
      have : t = infMag := by omega
      have hh := hov.mp this
      have hmax : Float64.V t' ≤ (2 ^ 53 - 1) * 2 ^ 2045 := by
        have e0 : infMag - 1 = 2045 * 2 ^ 52 + (2 ^ 53 - 1) := rfl
        have e1 := PySem.Float64.V_at (k := 2045) (q := 2 ^ 53 - 1) (by omega) (.inl (by omega))
        rw [← e0] at e1
        rw [← e1]
        exact PySem.Float64.V_mono (by omega)
      rw [hW, ← hV] at hh
      have h2 : D * (2 * Float64.V t') ≤ D * (2 * ((2 ^ 53 - 1) * 2 ^ 2045)) := Nat.mul_le_mul_left _ (Nat.mul_le_mul_left _ hmax)
      have h3 : D * (2 * ((2 ^ 53 - 1) * 2 ^ 2045)) < D * ((2 ^ 54 - 1) * 2 ^ 2045) := Nat.mul_lt_mul_of_pos_left (by decide +kernel) hD
      have h4 : 2 * (D * Float64.V t') = D * (2 * Float64.V t') := by rw [Nat.mul_left_comm]
      omega
  have hd := (hnear hlt t').1
  have hz : PySem.Float64.dist W (D * Float64.V t') = 0 := by rw [hW, hV]; unfold PySem.Float64.dist; omega
  rw [hz] at hd
  have hz2 : PySem.Float64.dist W (D * Float64.V t) = 0 := by omega
  have heq : D * Float64.V t = D * v.natAbs := by rw [← hW]; unfold PySem.Float64.dist at hz2; omega
  have hVt : Float64.V t = v.natAbs := Nat.eq_of_mul_eq_mul_left hD heq
  obtain ⟨m, ex, hdec, _⟩ := PySem.Float64.decode_pack ng hlt
  refine ⟨⟨_, _, _, hdec⟩, ?_⟩
  rw [PySem.Float64.val_pack ng hlt, hVt]
  unfold sgn
  by_cases c : v = 0
  · subst c; cases ng <;> simp
  · have := hs c
    subst this
    by_cases c2 : v < 0
    · simp [c2]; omega
    · simp [c2]; omega

theorem fv_zero (b : Bool) : FV (zero b) 0 := by
  cases b
  · exact ⟨⟨false, 0, -1074, by kernel_rfl⟩, by decide +kernel⟩
  · exact ⟨⟨true, 0, -1074, by kernel_rfl⟩, by decide +kernel⟩

section
variable {x y z : UInt64} {a b c : Int}
theorem FV.add (hx : FV x a) (hy : FV y b) (hr : Rp (a + b)) : FV (add x y) (a + b) := by
  obtain ⟨⟨_, _, _, hx⟩, rfl⟩ := hx
  obtain ⟨⟨_, _, _, hy⟩, rfl⟩ := hy
  obtain ⟨h0, h1⟩ := PySem.Float64.add_right hx hy
  by_cases c : val x + val y = 0
  · rw [h0 c, c]; exact fv_zero _
  · exact right_exact (h1 c) hr (by decide) (by simp) fun _ => rfl
theorem FV.sub (hx : FV x a) (hy : FV y b) (hr : Rp (a - b)) : FV (sub x y) (a - b) := by
  obtain ⟨⟨_, _, _, hx⟩, rfl⟩ := hx
  obtain ⟨⟨_, _, _, hy⟩, rfl⟩ := hy
  obtain ⟨h0, h1⟩ := PySem.Float64.sub_right hx hy
  by_cases c : val x - val y = 0
  · rw [h0 c, c]; exact fv_zero _
  · exact right_exact (h1 c) hr (by decide) (by simp) fun _ => rfl
theorem FV.neg (hx : FV x a) : FV (neg x) (-a) := by
  obtain ⟨⟨_, _, _, hx⟩, rfl⟩ := hx
  exact ⟨⟨_, _, _, PySem.Float64.neg_decode hx⟩, PySem.Float64.neg_val hx⟩

theorem sgn_neg_of {x : UInt64} {s : Bool} {m : Nat} {e : Int} (h : decode x = .fin s m e) (hz : val x ≠ 0) : s = decide (val x < 0) := by
  have := PySem.Float64.val_eq h
  generalize m * 2 ^ (e + 1074).toNat = M at this
  unfold sgn at this
  cases s
  · simp only [Bool.false_eq_true, if_false] at this
    exact (decide_eq_false (by omega)).symm
  · simp only [if_true] at this
    exact (decide_eq_true (by omega)).symm

theorem FV.mul (hx : FV x a) (hy : FV y b) (he : a * b = c * 2 ^ 1074) (hr : Rp c) : FV (mul x y) c := by
  obtain ⟨⟨s, m, e, hx⟩, rfl⟩ := hx
  obtain ⟨⟨s', m', e', hy⟩, rfl⟩ := hy
  refine right_exact (PySem.Float64.mul_right hx hy) hr (Nat.two_pow_pos _) ?_ fun hc => ?_
  · rw [← Int.natAbs_mul, he, Int.natAbs_mul, Nat.mul_comm]
    congr 1
  · have hne : val x * val y ≠ 0 := by rw [he]; exact Int.mul_ne_zero hc (by decide +kernel)
    have hx0 : val x ≠ 0 := fun z => hne (by rw [z, Int.zero_mul])
    have hy0 : val y ≠ 0 := fun z => hne (by rw [z, Int.mul_zero])
    rw [sgn_neg_of hx hx0, sgn_neg_of hy hy0]
    have hp : (0 : Int) < 2 ^ 1074 := by decide +kernel
    have hc2 : c < 0 ↔ val x * val y < 0 := by
      rw [he]
      constructor
      · intro h; exact Int.mul_neg_of_neg_of_pos h hp
      · intro h
        rcases Int.lt_or_le c 0 with q | q
        · exact q
        · have := Int.mul_nonneg q (Int.le_of_lt hp); omega
    rcases Int.lt_or_gt_of_ne hx0 with h1 | h1 <;> rcases Int.lt_or_gt_of_ne hy0 with h2 | h2
    · have := Int.mul_pos_of_neg_of_neg h1 h2
      have hcn : ¬ c < 0 := fun z => by have := hc2.mp z; omega
      simp [h1, h2, hcn]
    · have := Int.mul_neg_of_neg_of_pos h1 h2
      have hcn : c < 0 := hc2.mpr this
      have h2' : ¬ val y < 0 := by omega
      simp [h1, h2', hcn]
    · have := Int.mul_neg_of_pos_of_neg h1 h2
      have hcn : c < 0 := hc2.mpr this
      have h1' : ¬ val x < 0 := by omega
      simp [h1', h2, hcn]
    · have := Int.mul_pos h1 h2
      have hcn : ¬ c < 0 := fun z => by have := hc2.mp z; omega
      have h1' : ¬ val x < 0 := by omega
      have h2' : ¬ val y < 0 := by omega
      simp [h1', h2', hcn]
end
end Mine
end
section
open PySem PySem.W PyProof.Rows
set_option linter.unusedVariables false
set_option maxRecDepth 100000
set_option exponentiation.threshold 3000
namespace Mine
open PySem.Float64 (decode val add sub mul div fma neg abs cmp isZero isFinite isInf ofInt Right pack infMag zero sgn)
section
variable {x y z : UInt64} {a b c : Int}
theorem neg_iff_mul {c p : Int} (hp : 0 < p) : c < 0 ↔ c * p < 0 := by
  constructor
  · intro h; exact Int.mul_neg_of_neg_of_pos h hp
  · intro h
    rcases Int.lt_or_le c 0 with q | q
    · exact q
    · have := Int.mul_nonneg q (Int.le_of_lt hp); omega
/-- signs of two numbers and of their product's kin -/
theorem sign_mul {a b c : Int} (ha : a ≠ 0) (hb : b ≠ 0) (h : c < 0 ↔ a * b < 0) : (decide (a < 0) != decide (b < 0)) = decide (c < 0) := by
  rcases Int.lt_or_gt_of_ne ha with h1 | h1 <;> rcases Int.lt_or_gt_of_ne hb with h2 | h2
  · have := Int.mul_pos_of_neg_of_neg h1 h2
    have hcn : ¬ c < 0 := fun z => by have := h.mp z; omega
    simp [h1, h2, hcn]
  · have := Int.mul_neg_of_neg_of_pos h1 h2
    have hcn : c < 0 := h.mpr this
    have h2' : ¬ b < 0 := by omega
    simp [h1, h2', hcn]
  · have := Int.mul_neg_of_pos_of_neg h1 h2
    have hcn : c < 0 := h.mpr this
    have h1' : ¬ a < 0 := by omega
    simp [h1', h2, hcn]
  · have := Int.mul_pos h1 h2
    have hcn : ¬ c < 0 := fun z => by have := h.mp z; omega
    have h1' : ¬ a < 0 := by omega
    have h2' : ¬ b < 0 := by omega
    simp [h1', h2', hcn]

theorem FV.div (hx : FV x a) (hy : FV y b) (hb : b ≠ 0) (he : a * 2 ^ 1074 = c * b) (hr : Rp c) : FV (div x y) c := by
  obtain ⟨⟨s, m, e, hx⟩, rfl⟩ := hx
  obtain ⟨⟨s', m', e', hy⟩, rfl⟩ := hy
  have hm : m' ≠ 0 := fun z => hb (by rw [PySem.Float64.val_eq hy, z]; simp [sgn])
  refine right_exact (PySem.Float64.div_right hx hy hm) hr (by omega) ?_ fun hc => ?_
  · have := congrArg Int.natAbs he
    rw [Int.natAbs_mul, Int.natAbs_mul] at this
    rw [Nat.mul_comm (val y).natAbs, ← this]
    congr 1
  · have hx0 : val x ≠ 0 := fun z => by
      rw [z, Int.zero_mul] at he
      exact Int.mul_ne_zero hc hb he.symm
    rw [sgn_neg_of hx hx0, sgn_neg_of hy hb]
    refine sign_mul hx0 hb ?_
    have hp : (0 : Int) < 2 ^ 1074 := by decide +kernel
    have h2 : val x * val y * 2 ^ 1074 = c * (val y * val y) := by
      rw [Int.mul_right_comm, he, Int.mul_assoc]
    have hyy : 0 < val y * val y := by
      rcases Int.lt_or_gt_of_ne hb with h | h
      · exact Int.mul_pos_of_neg_of_neg h h
      · exact Int.mul_pos h h
    rw [neg_iff_mul hyy, ← h2, ← neg_iff_mul hp]
theorem FV.ofInt {i : Int} (hr : Rp (i * 2 ^ 1074)) : FV (ofInt i) (i * 2 ^ 1074) := by
  refine right_exact (PySem.Float64.ofInt_right i) hr (by decide) ?_ fun hc => ?_
  · rw [Int.natAbs_mul, Nat.one_mul]; congr 1
  · have hp : (0 : Int) < 2 ^ 1074 := by decide +kernel
    exact decide_eq_decide.mpr (neg_iff_mul hp)
theorem FV.isZero (hx : FV x a) : isZero x = decide (a = 0) := by
  obtain ⟨⟨s, m, e, hx⟩, rfl⟩ := hx
  unfold PySem.Float64.isZero
  have := PySem.Float64.val_natAbs hx
  rw [hx]
  cases m with
  | zero => simp at this; simp [this]
  | succ m =>
    have hp : 0 < 2 ^ (e + 1074).toNat := Nat.two_pow_pos _
    have : 0 < (m + 1) * 2 ^ (e + 1074).toNat := Nat.mul_pos (by omega) hp
    exact (decide_eq_false (by omega)).symm
theorem FV.fin (hx : FV x a) : isFinite x = true := by
  obtain ⟨⟨s, m, e, hx⟩, rfl⟩ := hx
  unfold PySem.Float64.isFinite; rw [hx]
theorem FV.notInf (hx : FV x a) : isInf x = false := by
  obtain ⟨⟨s, m, e, hx⟩, rfl⟩ := hx
  unfold PySem.Float64.isInf; rw [hx]
theorem FV.cmp (hx : FV x a) (hy : FV y b) : cmp x y = some (compare a b) := by
  obtain ⟨⟨s, m, e, hx⟩, rfl⟩ := hx
  obtain ⟨⟨s', m', e', hy⟩, rfl⟩ := hy
  exact PySem.Float64.cmp_right hx hy
theorem FV.cmpInt (hx : FV x a) (i : Int) : PySem.Float64.cmpInt x i = some (compare a (i * 2 ^ 1074)) := by
  obtain ⟨⟨s, m, e, hx⟩, rfl⟩ := hx
  exact PySem.Float64.cmpInt_right hx i

/-- the rest of an exact product -/
theorem FV.fma0 (hx : FV x a) (hy : FV y b) (hz : FV z c) (h : a * b = -c * 2 ^ 1074) : FV (fma x y z) 0 := by
  obtain ⟨⟨s, m, e, hx⟩, rfl⟩ := hx
  obtain ⟨⟨s', k, f, hy⟩, rfl⟩ := hy
  obtain ⟨⟨s'', n, g, hz⟩, rfl⟩ := hz
  have he := PySem.Float64.decode_ge hx
  have hf := PySem.Float64.decode_ge hy
  have hg := PySem.Float64.decode_ge hz
  have key : sgn (s != s') (m * k * 2 ^ (e + f - min (e + f) g).toNat) + sgn s'' (n * 2 ^ (g - min (e + f) g).toNat) = 0 := by
    have hK : (0 : Int) < ((2 ^ (min (e + f) g + 2148).toNat : Nat) : Int) := Int.ofNat_lt.mpr (Nat.two_pow_pos _)
    have e1 : (e + f - min (e + f) g).toNat + (min (e + f) g + 2148).toNat = (e + 1074).toNat + (f + 1074).toNat := by omega
    have e2 : (g - min (e + f) g).toNat + (min (e + f) g + 2148).toNat = (g + 1074).toNat + 1074 := by omega
    have m1 : sgn (s != s') (m * k * 2 ^ (e + f - min (e + f) g).toNat) * ((2 ^ (min (e + f) g + 2148).toNat : Nat) : Int) = val x * val y := by
      rw [← PySem.Float64.sgn_mul, Nat.mul_assoc, ← Nat.pow_add, e1, Nat.pow_add, PySem.Float64.val_eq hx, PySem.Float64.val_eq hy]
      have : m * k * (2 ^ (e + 1074).toNat * 2 ^ (f + 1074).toNat) = (m * 2 ^ (e + 1074).toNat) * (k * 2 ^ (f + 1074).toNat) := by ac_rfl
      rw [this]
      generalize m * 2 ^ (e + 1074).toNat = A
      generalize k * 2 ^ (f + 1074).toNat = B
      unfold sgn
      cases s <;> cases s' <;> simp [Int.neg_mul, Int.mul_neg]
    have m2 : sgn s'' (n * 2 ^ (g - min (e + f) g).toNat) * ((2 ^ (min (e + f) g + 2148).toNat : Nat) : Int) = val z * 2 ^ 1074 := by
      rw [← PySem.Float64.sgn_mul, Nat.mul_assoc, ← Nat.pow_add, e2, Nat.pow_add, ← Nat.mul_assoc, PySem.Float64.sgn_mul, ← PySem.Float64.val_eq hz]
      congr 1
    have : (sgn (s != s') (m * k * 2 ^ (e + f - min (e + f) g).toNat) + sgn s'' (n * 2 ^ (g - min (e + f) g).toNat)) * ((2 ^ (min (e + f) g + 2148).toNat : Nat) : Int) = 0 := by
      rw [Int.add_mul, m1, m2, h, Int.neg_mul]; omega
    rcases Int.mul_eq_zero.mp this with q | q
    · exact q
    · omega
  unfold PySem.Float64.fma
  rw [hx, hy, hz]
  dsimp only
  split
  · exact fv_zero _
  · rename_i hne
    exact absurd (beq_iff_eq.mpr key) hne

/-! ### fsum of exact sums -/
/-- the partials of an exact sum -/
def PS (ps : List UInt64) (s : Int) : Prop := (ps = [] ∧ s = 0) ∨ (∃ p, ps = [p] ∧ FV p s)
theorem rp_zero : Rp 0 := ⟨0, by decide, by decide⟩
theorem Rp.neg (h : Rp a) : Rp (-a) := by obtain ⟨t, r, e⟩ := h; exact ⟨t, r, by rw [Int.natAbs_neg]; exact e⟩
theorem PS.step {ps : List UInt64} {s : Int} (h : PS ps s) (hx : FV x a) (rs : Rp s) (ra : Rp a) (rsum : Rp (s + a)) : isFinite (PySem.Float64.fsumAdd ps x).2 = true ∧ PS (nextPs ps x) (s + a) := by
  rcases h with ⟨rfl, rfl⟩ | ⟨p, rfl, hp⟩
  · refine ⟨hx.fin, ?_⟩
    show PS (if isZero x = true then [] else [x]) (0 + a)
    rw [Int.zero_add]
    by_cases hz : isZero x = true
    · rw [if_pos hz]
      rw [hx.isZero] at hz
      exact .inl ⟨rfl, of_decide_eq_true hz⟩
    · rw [if_neg hz]; exact .inr ⟨x, rfl, hx⟩
  · have two : ∀ (u v : UInt64) (c d : Int), FV u c → FV v d → Rp d → Rp (c + d) → FV (add u v) (c + d) ∧ isZero (sub v (sub (add u v) u)) = true := by
      intro u v c d hu hv rd rcd
      have h1 := hu.add hv rcd
      have h2 := h1.sub hu (by rw [show c + d - c = d by omega]; exact rd)
      rw [show c + d - c = d by omega] at h2
      have h3 := hv.sub h2 (by rw [Int.sub_self]; exact rp_zero)
      rw [Int.sub_self] at h3
      exact ⟨h1, by rw [h3.isZero]; rfl⟩
    have main : ∀ (u v : UInt64) (c d : Int), c + d = s + a → FV u c → FV v d → Rp d → isFinite (add u v) = true ∧ isZero (sub v (sub (add u v) u)) = true ∧ PS (if isZero (add u v) then [] else [add u v]) (s + a) := by
      intro u v c d e hu hv rd
      obtain ⟨h1, h2⟩ := two u v c d hu hv rd (by rw [e]; exact rsum)
      rw [e] at h1
      refine ⟨h1.fin, h2, ?_⟩
      split
      · rename_i hz
        rw [h1.isZero] at hz
        exact .inl ⟨rfl, of_decide_eq_true hz⟩
      · exact .inr ⟨_, rfl, h1⟩
    simp only [nextPs, PySem.Float64.fsumAdd]
    by_cases hc : PySem.Float64.lt (PySem.Float64.abs x) (PySem.Float64.abs p) = true
    · obtain ⟨h1, h2, h3⟩ := main p x s a rfl hp hx ra
      simp only [hc, if_true, h2, List.nil_append]
      exact ⟨h1, h3⟩
    · obtain ⟨h1, h2, h3⟩ := main x p a s (Int.add_comm _ _) hx hp rs
      simp only [hc, if_false, Bool.false_eq_true, h2, if_true, List.nil_append]
      exact ⟨h1, h3⟩

/-- numbers and their values -/
inductive Vals : List V → List Int → Prop
  | nil : Vals [] []
  | cons {A : V} {As : List V} {x : UInt64} {a : Int} {as : List Int} : A.real = some x → FV x a → Vals As as → Vals (A :: As) (a :: as)
def isum : List Int → Int
  | [] => 0
  | a :: as => a + isum as
/-- all sums on the way fit -/
def Fits : Int → List Int → Prop
  | s, [] => Rp s
  | s, a :: as => Rp s ∧ Rp a ∧ Fits (s + a) as
theorem fsum_exact {As : List V} {as : List Int} (h : Vals As as) : ∀ {ps : List UInt64} {s : Int}, PS ps s → Fits s as → ∃ d, fsumRun ps As = some d ∧ FV d (s + isum as) := by
  induction h with
  | nil =>
    intro ps s hp hf
    rcases hp with ⟨rfl, rfl⟩ | ⟨p, rfl, hp⟩
    · exact ⟨_, rfl, by rw [isum]; exact fv_zero false⟩
    · refine ⟨p, rfl, by simpa [isum] using hp⟩
  | cons hr hx _ ih =>
    rename_i A As x a as hvals
    intro ps s hp hf
    obtain ⟨f1, f2, f3⟩ := hf
    have f4 : Rp (s + a) := by cases as with | nil => exact f3 | cons _ _ => exact f3.1
    obtain ⟨h1, h2⟩ := hp.step hx f1 f2 f4
    obtain ⟨d, h3, h4⟩ := ih h2 f3
    refine ⟨d, ?_, ?_⟩
    · simp only [fsumRun, hr, h1, if_true]; exact h3
    · rw [isum, ← Int.add_assoc]; exact h4
end
end Mine
end
section
open PySem PySem.W PyProof.Rows
set_option linter.unusedVariables false
set_option maxRecDepth 100000
set_option exponentiation.threshold 3000
namespace Mine
open PySem.Float64 (decode val add sub mul div fma neg abs cmp isZero isFinite isInf ofInt Right pack infMag zero sgn)
/-- a unit: 2 ** -u -/
def Un (u : Nat) : Int := 2 ^ (1074 - u)
theorem two_pos : (0 : Int) < 2 ^ 1074 := by decide +kernel
theorem rp_un {u : Nat} (hu : u ≤ 1000) {k : Int} (hk : k.natAbs ≤ 2 ^ 53) : Rp (k * Un u) := by
  obtain ⟨t, h1, h2⟩ := V_of hk (show 1074 - u ≤ 2000 by omega)
  refine ⟨t, h1, ?_⟩
  rw [h2, Int.natAbs_mul]
  unfold Un
  rw [Int.natAbs_pow]
  rfl
/-- an int, a float or a bool of that value -/
def Nv (A : V) (a : Int) : Prop := (∃ i, A = .int i ∧ a = i * 2 ^ 1074 ∧ Rp a) ∨ (∃ x, A = .flt x ∧ FV x a) ∨ (∃ b, A = .bool b ∧ a = b01 b * 2 ^ 1074)
theorem rp_b01 (b : Bool) : Rp (b01 b * 2 ^ 1074) := by
  have := rp_un (u := 0) (by decide) (k := b01 b) (by cases b <;> decide)
  exact this
theorem Nv.real {A : V} {a : Int} (h : Nv A a) : ∃ x, A.real = some x ∧ FV x a := by
  rcases h with ⟨i, rfl, rfl, hr⟩ | ⟨x, rfl, hx⟩ | ⟨b, rfl, rfl⟩
  · have := FV.ofInt hr
    exact ⟨_, by simp only [V.real, this.notInf, Bool.false_eq_true, if_false], this⟩
  · exact ⟨x, rfl, hx⟩
  · exact ⟨_, rfl, FV.ofInt (rp_b01 b)⟩
/-- a total -/
def Tv (u : Nat) (T : V) (k : Int) : Prop := (∃ i, T = .int i ∧ i * 2 ^ 1074 = k * Un u) ∨ (∃ x, T = .flt x ∧ FV x (k * Un u))

section
variable {x y z : UInt64} {a b c p s : Int} {t : Tri}
theorem dlSum_exact (hx : FV x a) (hy : FV y b) (ra : Rp a) (rb : Rp b) (rab : Rp (a + b)) : FV (Builtin.Math.dlSum x y).1 (a + b) ∧ FV (Builtin.Math.dlSum x y).2 0 := by
  have h1 := hx.add hy rab
  have h2 := h1.sub hx (by rw [show a + b - a = b by omega]; exact rb)
  rw [show a + b - a = b by omega] at h2
  have h3 := h1.sub h2 (by rw [show a + b - b = a by omega]; exact ra)
  rw [show a + b - b = a by omega] at h3
  have h4 := hx.sub h3 (by rw [Int.sub_self]; exact rp_zero)
  have h5 := hy.sub h2 (by rw [Int.sub_self]; exact rp_zero)
  rw [Int.sub_self] at h4 h5
  have h6 := h4.add h5 (by exact rp_zero)
  exact ⟨h1, h6⟩
theorem tlFma_exact (hx : FV x a) (hy : FV y b) (he : a * b = p * 2 ^ 1074) (rp : Rp p) (rs : Rp s) (rsp : Rp (s + p)) (h1 : FV t.1 s) (h2 : FV t.2.1 0) (h3 : FV t.2.2 0) :
    FV (Builtin.Math.tlFma x y t).1 (s + p) ∧ FV (Builtin.Math.tlFma x y t).2.1 0 ∧ FV (Builtin.Math.tlFma x y t).2.2 0 := by
  have hz := hx.mul hy he rp
  have hf := hx.fma0 hy hz.neg (by rw [he, Int.neg_neg])
  obtain ⟨s1, s2⟩ := dlSum_exact h1 hz rs rp rsp
  obtain ⟨r1, r2⟩ := dlSum_exact h2 hf rp_zero rp_zero rp_zero
  obtain ⟨q1, q2⟩ := dlSum_exact r1 s2 rp_zero rp_zero rp_zero
  exact ⟨s1, q1, (h3.add r2 rp_zero).add q2 rp_zero⟩
theorem tlToFloat_exact (rs : Rp s) (h1 : FV t.1 s) (h2 : FV t.2.1 0) (h3 : FV t.2.2 0) : FV (Builtin.Math.tlToFloat t) s := by
  obtain ⟨r1, r2⟩ := dlSum_exact h2 h1 rp_zero rs (by rw [Int.zero_add]; exact rs)
  rw [Int.zero_add] at r1
  have h4 := h3.add r2 rp_zero
  have h5 := h4.add r1 (by rw [Int.zero_add, Int.zero_add]; exact rs)
  rw [Int.zero_add, Int.zero_add] at h5
  exact h5
end

variable {u : Nat}
theorem mul_cancel {i j : Int} (h : i * 2 ^ 1074 = j * 2 ^ 1074) : i = j := Int.eq_of_mul_eq_mul_right (Int.ne_of_gt two_pos) h

theorem nmul_exact (hu : u ≤ 1000) {A B : V} {a b k : Int} (hA : Nv A a) (nA : A.nm) (hB : Nv B b) (he : a * b = k * Un u * 2 ^ 1074) (hk : k.natAbs ≤ 2 ^ 53) : ∃ C, nmul A B = some C ∧ Tv u C k := by
  have rk := rp_un hu hk
  rcases hA with ⟨i, rfl, rfl, hr⟩ | ⟨x, rfl, hx⟩ | ⟨b, rfl, _⟩
  · rcases hB with ⟨j, rfl, rfl, hr'⟩ | ⟨y, rfl, hy⟩ | ⟨q, rfl, rfl⟩
    · refine ⟨_, rfl, .inl ⟨_, rfl, mul_cancel ?_⟩⟩
      rw [← he]; ac_rfl
    · have := FV.ofInt hr
      refine ⟨_, by simp only [nmul, this.notInf, Bool.false_eq_true, if_false], .inr ⟨_, rfl, this.mul hy he rk⟩⟩
    · refine ⟨_, rfl, .inl ⟨_, rfl, mul_cancel ?_⟩⟩
      rw [← he]; ac_rfl
  · rcases hB with ⟨j, rfl, rfl, hr'⟩ | ⟨y, rfl, hy⟩ | ⟨q, rfl, rfl⟩
    · have := FV.ofInt hr'
      refine ⟨_, by simp only [nmul, this.notInf, Bool.false_eq_true, if_false], .inr ⟨_, rfl, hx.mul this he rk⟩⟩
    · exact ⟨_, rfl, .inr ⟨_, rfl, hx.mul hy he rk⟩⟩
    · exact ⟨_, rfl, .inr ⟨_, rfl, hx.mul (FV.ofInt (rp_b01 q)) he rk⟩⟩
  · exact nA.elim
theorem nadd_exact (hu : u ≤ 1000) {T C : V} {s k : Int} (hT : Tv u T s) (hC : Tv u C k) (hs : s.natAbs ≤ 2 ^ 53) (hk : k.natAbs ≤ 2 ^ 53) (hsk : (s + k).natAbs ≤ 2 ^ 53) : ∃ D, nadd T C = some D ∧ Tv u D (s + k) := by
  have rs := rp_un hu hs
  have rk := rp_un hu hk
  have rsk := rp_un hu hsk
  rw [Int.add_mul] at rsk
  rcases hT with ⟨i, rfl, hi⟩ | ⟨x, rfl, hx⟩
  · rcases hC with ⟨j, rfl, hj⟩ | ⟨y, rfl, hy⟩
    · exact ⟨_, rfl, .inl ⟨_, rfl, by rw [Int.add_mul, Int.add_mul, hi, hj]⟩⟩
    · have := FV.ofInt (i := i) (by rw [hi]; exact rs)
      rw [hi] at this
      exact ⟨.flt (add (ofInt i) y), by simp only [nadd, this.notInf, Bool.false_eq_true, if_false], .inr ⟨_, rfl, by rw [Int.add_mul]; exact this.add hy rsk⟩⟩
  · rcases hC with ⟨j, rfl, hj⟩ | ⟨y, rfl, hy⟩
    · have := FV.ofInt (i := j) (by rw [hj]; exact rk)
      rw [hj] at this
      exact ⟨.flt (add x (ofInt j)), by simp only [nadd, this.notInf, Bool.false_eq_true, if_false], .inr ⟨_, rfl, by rw [Int.add_mul]; exact hx.add this rsk⟩⟩
    · exact ⟨_, rfl, .inr ⟨_, rfl, by rw [Int.add_mul]; exact hx.add hy rsk⟩⟩

/-- how far sumprod has come, in units -/
def SPx (u : Nat) (m : Nat) (s : Int) : SP → Prop
  | .I z b => (b = false → z = 0) ∧ z * 2 ^ 1074 = s * Un u ∧ s.natAbs ≤ m
  | .F T t => ∃ s0 s1, Tv u T s0 ∧ FV t.1 (s1 * Un u) ∧ FV t.2.1 0 ∧ FV t.2.2 0 ∧ s = s0 + s1 ∧ s0.natAbs + s1.natAbs ≤ m
  | .G T => Tv u T s ∧ s.natAbs ≤ m
theorem intT_v {z s : Int} {b : Bool} (h : b = false → z = 0) (hz : z * 2 ^ 1074 = s * Un u) : Tv u (intT z b) s := by
  cases b with
  | true => exact .inl ⟨_, rfl, by rw [Int.zero_add]; exact hz⟩
  | false => exact .inl ⟨_, rfl, by rw [← hz, h rfl]⟩
theorem genG_exact (hu : u ≤ 1000) {m : Nat} {T A B : V} {a b k s : Int} (hT : Tv u T s) (hs : s.natAbs ≤ m) (hA : Nv A a) (nA : A.nm) (hB : Nv B b) (he : a * b = k * Un u * 2 ^ 1074) (hm : m + k.natAbs ≤ 2 ^ 53) : ∃ S', genG T A B = some S' ∧ SPx u (m + k.natAbs) (s + k) S' := by
  obtain ⟨C, h1, h2⟩ := nmul_exact hu hA nA hB he (by omega)
  obtain ⟨D, h3, h4⟩ := nadd_exact hu hT h2 (by omega) (by omega) (by omega)
  exact ⟨.G D, by simp only [genG, h1, h3, Option.map], h4, by omega⟩
theorem tryF_exact (hu : u ≤ 1000) {A B : V} {a b k s1 : Int} {t : Tri} (hA : Nv A a) (hB : Nv B b) (he : a * b = k * Un u * 2 ^ 1074) (hk : k.natAbs ≤ 2 ^ 53) (hs : s1.natAbs ≤ 2 ^ 53) (hks : (s1 + k).natAbs ≤ 2 ^ 53) (h1 : FV t.1 (s1 * Un u)) (h2 : FV t.2.1 0) (h3 : FV t.2.2 0) :
    tryF t A B = none ∨ ∃ t', tryF t A B = some t' ∧ FV t'.1 ((s1 + k) * Un u) ∧ FV t'.2.1 0 ∧ FV t'.2.2 0 := by
  obtain ⟨x, ex, hx⟩ := hA.real
  obtain ⟨y, ey, hy⟩ := hB.real
  obtain ⟨q1, q2, q3⟩ := tlFma_exact hx hy he (rp_un hu hk) (rp_un hu hs) (by rw [← Int.add_mul]; exact rp_un hu hks) h1 h2 h3
  rw [← Int.add_mul] at q1
  unfold tryF
  by_cases c : (A.isF || B.isF) = true
  · right
    refine ⟨_, by rw [if_pos c]; simp only [ex, ey, q1.fin, if_true], q1, q2, q3⟩
  · left; rw [if_neg c]
theorem zero3_fv : FV zero3.1 (0 * Un u) ∧ FV zero3.2.1 0 ∧ FV zero3.2.2 0 := ⟨by rw [Int.zero_mul]; exact fv_zero false, fv_zero false, fv_zero false⟩

theorem step_exact (hu : u ≤ 1000) {m : Nat} {S : SP} {A B : V} {a b k s : Int} (hS : SPx u m s S) (hA : Nv A a) (nA : A.nm) (hB : Nv B b) (he : a * b = k * Un u * 2 ^ 1074) (hm : m + k.natAbs ≤ 2 ^ 53) : ∃ S', spStep S A B = some S' ∧ SPx u (m + k.natAbs) (s + k) S' := by
  cases S with
  | I z bb =>
    obtain ⟨h1, h2, h3⟩ := hS
    cases c : tryI z A B with
    | some z' =>
      refine ⟨.I z' true, by simp only [spStep, c], ⟨fun h => Bool.noConfusion h, ?_, by omega⟩⟩
      rcases hA with ⟨i, rfl, rfl, _⟩ | ⟨x, rfl, _⟩ | ⟨q, rfl, _⟩
      · rcases hB with ⟨j, rfl, rfl, _⟩ | ⟨y, rfl, _⟩ | ⟨q, rfl, _⟩
        · simp only [tryI] at c
          split at c
          · cases c
            rw [Int.add_mul, Int.add_mul, h2]
            congr 1
            apply mul_cancel
            rw [← he]; ac_rfl
          · cases c
        · cases c
        · cases c
      · cases c
      · cases c
    | none =>
      have hT := intT_v (u := u) h1 h2
      rcases tryF_exact hu hA hB he (s1 := 0) (t := zero3) (by omega) (by decide) (by omega) (zero3_fv (u := u)).1 (zero3_fv (u := u)).2.1 (zero3_fv (u := u)).2.2 with c2 | ⟨t', c2, q1, q2, q3⟩
      · obtain ⟨S', e1, e2⟩ := genG_exact hu hT h3 hA nA hB he hm
        exact ⟨S', by simp only [spStep, c, c2]; exact e1, e2⟩
      · refine ⟨.F (intT z bb) t', by simp only [spStep, c, c2], s, k, hT, ?_, q2, q3, rfl, by omega⟩
        rw [Int.zero_add] at q1; exact q1
  | F T t =>
    obtain ⟨s0, s1, hT, t1, t2, t3, rfl, hb⟩ := hS
    rcases tryF_exact hu hA hB he (by omega) (by omega) (by omega) t1 t2 t3 with c2 | ⟨t', c2, q1, q2, q3⟩
    · have hf := tlToFloat_exact (rp_un hu (show s1.natAbs ≤ 2 ^ 53 by omega)) t1 t2 t3
      obtain ⟨D, e1, e2⟩ := nadd_exact hu hT (C := .flt (Builtin.Math.tlToFloat t)) (.inr ⟨_, rfl, hf⟩) (by omega) (by omega) (by omega)
      obtain ⟨S', e3, e4⟩ := genG_exact (m := m) hu e2 (by omega) hA nA hB he hm
      exact ⟨S', by simp only [spStep, c2, e1]; exact e3, e4⟩
    · exact ⟨.F T t', by simp only [spStep, c2], s0, s1 + k, hT, q1, q2, q3, by omega, by omega⟩
  | G T =>
    obtain ⟨hT, hs⟩ := hS
    exact genG_exact hu hT hs hA nA hB he hm
theorem end_exact (hu : u ≤ 1000) {m : Nat} {S : SP} {s : Int} (hS : SPx u m s S) (hm : m ≤ 2 ^ 53) : ∃ T, spEnd S = some T ∧ Tv u T s := by
  cases S with
  | I z b => obtain ⟨h1, h2, _⟩ := hS; exact ⟨_, rfl, intT_v h1 h2⟩
  | F T t =>
    obtain ⟨s0, s1, hT, t1, t2, t3, rfl, hb⟩ := hS
    have hf := tlToFloat_exact (rp_un hu (show s1.natAbs ≤ 2 ^ 53 by omega)) t1 t2 t3
    exact nadd_exact hu hT (C := .flt (Builtin.Math.tlToFloat t)) (.inr ⟨_, rfl, hf⟩) (by omega) (by omega) (by omega)
  | G T => exact ⟨T, rfl, hS.1⟩

/-- data, weights and their products in units -/
inductive Prods (u : Nat) : List V → List V → List Int → Prop
  | nil : Prods u [] [] []
  | cons {A B : V} {As Bs : List V} {a b k : Int} {ks : List Int} : Nv A a → A.nm → Nv B b → a * b = k * Un u * 2 ^ 1074 → Prods u As Bs ks → Prods u (A :: As) (B :: Bs) (k :: ks)
def asum : List Int → Nat
  | [] => 0
  | k :: ks => k.natAbs + asum ks
theorem run_exact (hu : u ≤ 1000) {As Bs : List V} {ks : List Int} (h : Prods u As Bs ks) : ∀ {m : Nat} {S : SP} {s : Int}, SPx u m s S → m + asum ks ≤ 2 ^ 53 → ∃ T, spRun S As Bs = .ok T ∧ Tv u T (s + isum ks) := by
  induction h with
  | nil =>
    intro m S s hS hm
    obtain ⟨T, e1, e2⟩ := end_exact hu hS (by simpa [asum] using hm)
    exact ⟨T, by simp only [spRun, e1], by simpa [isum] using e2⟩
  | cons hA nA hB he _ ih =>
    intro m S s hS hm
    rw [asum] at hm
    obtain ⟨S', e1, e2⟩ := step_exact hu hS hA nA hB he (by omega)
    obtain ⟨T, e3, e4⟩ := ih e2 (by omega)
    exact ⟨T, by simp only [spRun, e1]; exact e3, by rw [isum, ← Int.add_assoc]; exact e4⟩
theorem sumprod_exact (hu : u ≤ 1000) {As Bs : List V} {ks : List Int} (h : Prods u As Bs ks) (hm : asum ks ≤ 2 ^ 53) : ∃ T, spRun (.I 0 false) As Bs = .ok T ∧ Tv u T (isum ks) := by
  have := run_exact hu h (m := 0) (S := .I 0 false) (s := 0) ⟨fun _ => rfl, by rw [Int.zero_mul, Int.zero_mul], by decide⟩ (by omega)
  rw [Int.zero_add] at this
  exact this
end Mine
end
section
open PySem PySem.W PyProof.Rows
set_option linter.unusedVariables false
set_option maxRecDepth 100000
set_option exponentiation.threshold 3000
namespace Mine
open PySem.Float64 (decode val add sub mul div fma neg abs cmp isZero isFinite isInf ofInt Right pack infMag zero sgn)
theorem isInf_pack (ng : Bool) {t : Nat} (h : t ≤ infMag) : isInf (pack ng t) = decide (t = infMag) := by
  rcases Nat.lt_or_ge t infMag with c | c
  · obtain ⟨m, e, hd, _⟩ := PySem.Float64.decode_pack ng c
    unfold PySem.Float64.isInf
    rw [hd]
    exact (decide_eq_false (by omega)).symm
  · have : t = infMag := by omega
    subst this
    cases ng <;> decide +kernel
theorem mag_le (i : Int) : Float64.roundMag i.natAbs 1 ≤ infMag := by rw [PySem.Float64.roundMag_min]; omega
theorem ofInt_eq (i : Int) : ofInt i = pack (decide (i < 0)) (Float64.roundMag i.natAbs 1) := by
  unfold PySem.Float64.ofInt PySem.Float64.ofFrac
  rfl
theorem isInf_ofInt (i : Int) : isInf (ofInt i) = decide (Float64.roundMag i.natAbs 1 = infMag) := by rw [ofInt_eq]; exact isInf_pack _ (mag_le i)
theorem isInf_sign (v s : Int) (hs : s = 1 ∨ s = -1) : isInf (ofInt (s * v)) = isInf (ofInt v) := by
  rw [isInf_ofInt, isInf_ofInt]
  have : (s * v).natAbs = v.natAbs := by rcases hs with rfl | rfl <;> simp
  rw [this]
theorem ofInt_fv (v : Int) (h : isInf (ofInt v) = false) : ∃ w, Rp w ∧ FV (ofInt v) w ∧ ∀ s, s = 1 ∨ s = -1 → FV (ofInt (s * v)) (s * w) := by
  rw [isInf_ofInt] at h
  have hlt : Float64.roundMag v.natAbs 1 < infMag := by
    have := mag_le v
    have := of_decide_eq_false h
    omega
  have pk : ∀ ng, FV (pack ng (Float64.roundMag v.natAbs 1)) (sgn ng (Float64.V (Float64.roundMag v.natAbs 1))) := fun ng => by
    obtain ⟨m, e, hd, _⟩ := PySem.Float64.decode_pack ng hlt
    exact ⟨⟨_, _, _, hd⟩, PySem.Float64.val_pack ng hlt⟩
  refine ⟨sgn (decide (v < 0)) (Float64.V (Float64.roundMag v.natAbs 1)), ⟨_, hlt, by rw [PySem.Float64.sgn_natAbs]⟩, by rw [ofInt_eq]; exact pk _, fun s hs => ?_⟩
  have e : (s * v).natAbs = v.natAbs := by rcases hs with rfl | rfl <;> simp
  rw [ofInt_eq, e]
  have := pk (decide (s * v < 0))
  have e2 : sgn (decide (s * v < 0)) (Float64.V (Float64.roundMag v.natAbs 1)) = s * sgn (decide (v < 0)) (Float64.V (Float64.roundMag v.natAbs 1)) := by
    rcases hs with rfl | rfl
    · simp
    · by_cases c : v = 0
      · subst c
        have : Float64.V (Float64.roundMag (0 : Int).natAbs 1) = 0 := by decide +kernel
        rw [this]; rfl
      · unfold sgn
        by_cases c2 : v < 0
        · have c3 : ¬ (-1 * v < 0) := by omega
          rw [decide_eq_false c3, decide_eq_true c2]
          simp
        · have c3 : (-1 * v < 0) := by omega
          rw [decide_eq_true c3, decide_eq_false c2]
          simp
  rw [← e2]; exact this

/-- an int's float over a float of 1 or -1 -/
theorem div_sign {v s : Int} {d : UInt64} (hs : s = 1 ∨ s = -1) (hd : FV d (s * 2 ^ 1074)) (h : isInf (ofInt v) = false) : cmp (div (ofInt (s * v)) d) (ofInt v) = some .eq := by
  obtain ⟨w, rw', hv, hs'⟩ := ofInt_fv v h
  have hb : s * 2 ^ 1074 ≠ 0 := Int.mul_ne_zero (by omega) (Int.ne_of_gt two_pos)
  have := (hs' s hs).div hd hb (c := w) (by ac_rfl) rw'
  rw [this.cmp hv]
  simp

def dot : List Int → List Int → Int
  | y :: ys, w :: ws => y * w + dot ys ws
  | _, _ => 0
theorem spG_int : ∀ (ys ws : List Int) (T : Int), ys.length = ws.length → spRun (.G (.int T)) (ys.map .int) (ws.map .int) = .ok (.int (T + dot ys ws))
  | [], [], T, _ => by simp [spRun, spEnd, dot]
  | y :: ys, w :: ws, T, h => by
    simp only [List.map_cons, spRun, spStep, genG, nmul, nadd, Option.map]
    rw [spG_int ys ws _ (by simpa using h), dot, Int.add_assoc]
  | [], _ :: _, _, h => by simp at h
  | _ :: _, [], _, h => by simp at h
theorem spI_int : ∀ (ys ws : List Int) (z : Int) (u : Bool), ys.length = ws.length → (u = false → z = 0) → spRun (.I z u) (ys.map .int) (ws.map .int) = .ok (.int (z + dot ys ws))
  | [], [], z, u, _, hu => by
    cases u with
    | true => simp [spRun, spEnd, dot, intT]
    | false => simp [spRun, spEnd, dot, intT, hu rfl]
  | y :: ys, w :: ws, z, u, h, hu => by
    have hF : tryF zero3 (.int y) (.int w) = none := rfl
    have hl : ys.length = ws.length := by simpa using h
    cases c : tryI z (.int y) (.int w) with
    | some z' =>
      simp only [List.map_cons, spRun, spStep, c]
      rw [spI_int ys ws z' true hl (fun h => Bool.noConfusion h)]
      simp only [tryI] at c
      split at c
      · cases c; rw [dot, Int.add_assoc]
      · cases c
    | none =>
      have ht : intT z u = .int z := by
        cases u with
        | true => simp [intT]
        | false => simp [intT, hu rfl]
      simp only [List.map_cons, spRun, spStep, c, hF, ht, genG, nmul, nadd, Option.map]
      rw [spG_int ys ws _ hl, dot, Int.add_assoc]
  | [], _ :: _, _, _, h, _ => by simp at h
  | _ :: _, [], _, _, h, _ => by simp at h

/-- fsum of small ints -/
theorem vals_int : ∀ (ws : List Int), (∀ w ∈ ws, w.natAbs ≤ 2 ^ 53) → Vals (ws.map .int) (ws.map (· * 2 ^ 1074))
  | [], _ => .nil
  | w :: ws, h => by
    have hw := FV.ofInt (i := w) (rp_un (u := 0) (by decide) (h w (List.mem_cons_self ..)))
    refine .cons (x := ofInt w) ?_ hw (vals_int ws fun q hq => h q (List.mem_cons_of_mem _ hq))
    simp only [V.real, hw.notInf, Bool.false_eq_true, if_false]
theorem fits_un {u : Nat} (hu : u ≤ 1000) : ∀ (ks : List Int) (s : Int), s.natAbs + asum ks ≤ 2 ^ 53 → Fits (s * Un u) (ks.map (· * Un u))
  | [], s, h => rp_un hu (by rw [asum] at h; omega)
  | k :: ks, s, h => by
    rw [asum] at h
    refine ⟨rp_un hu (by omega), rp_un hu (by omega), ?_⟩
    show Fits (s * Un u + k * Un u) _
    rw [← Int.add_mul]
    exact fits_un hu ks (s + k) (by omega)
theorem isum_mul (ks : List Int) (c : Int) : isum (ks.map (· * c)) = isum ks * c := by
  induction ks with
  | nil => simp [isum]
  | cons k ks ih => simp only [List.map_cons, isum, ih, Int.add_mul]
theorem fsum_un {u : Nat} (hu : u ≤ 1000) {As : List V} {ks : List Int} (h : Vals As (ks.map (· * Un u))) (hm : asum ks ≤ 2 ^ 53) : ∃ d, fsumRun [] As = some d ∧ FV d (isum ks * Un u) := by
  obtain ⟨d, h1, h2⟩ := fsum_exact h (ps := []) (s := 0) (.inl ⟨rfl, rfl⟩) (by
    have := fits_un hu ks 0 (by simpa using hm)
    rw [Int.zero_mul] at this; exact this)
  rw [Int.zero_add, isum_mul] at h2
  exact ⟨d, h1, h2⟩
end Mine
end
section
open PySem PySem.W PyProof.Rows
set_option linter.unusedVariables false
set_option maxRecDepth 100000
namespace Mine

/-! ## lists of the frame's own: pop, == [], comprehensions; sum -/
theorem preSum_isum : ∀ (ns : List Int), preSum (fun i => ns.getD i 0) ns.length = isum ns := by
  have gen : ∀ (ns : List Int) (k : Nat), k ≤ ns.length → preSum (fun i => ns.getD i 0) k = isum (ns.take k) := by
    intro ns k
    induction k with
    | zero => intro _; simp [preSum, isum]
    | succ k ih =>
      intro h
      have app : ∀ (a : List Int) (x : Int), isum (a ++ [x]) = isum a + x := by
        intro a x
        induction a with
        | nil => simp [isum]
        | cons y a ih => simp only [List.cons_append, isum, ih]; omega
      rw [preSum, ih (by omega), List.take_succ_eq_append_getElem (by omega), app]
      show _ + ns.getD k 0 = _
      rw [List.getD_eq_getElem?_getD, List.getElem?_eq_getElem (by omega)]; rfl
  intro ns
  rw [gen ns ns.length (Nat.le_refl _), List.take_length]
section
variable {Γ : Cx} {loc : Loc} {Q : V → Loc → Prop} {QL : LV → Loc → Prop} {QB : Bool → Loc → Prop} {QF : Fl → Loc → Prop} {X : Exc → Loc → Prop} {x : Str} {As : List V} {a : Addr}
/-- sum(xs) of ints -/
theorem bi_sum {ns : List Int} (hh : Γ.A.handled = none) (h : Q (.int (isum ns)) loc) : OpN Γ loc (fun vs => call (.builtin "sum") vs) [.lst (ns.map .int)] (VQ Q) X := fun H O s vs st r => by
  simp only [Reps] at r
  obtain ⟨y, _, rfl, hy, rfl⟩ := r
  obtain ⟨a, o, xs, n, rfl, h2, h3, h4, h5⟩ := hy.lst_of
  have fresh := fresh_none s.heap
  have hl : s.heap.IsList a xs := ⟨o, st.agree _ _ h2, h3, n, h4⟩
  have hne : a ≠ s.heap.objs.size := fun e => by rw [e] at h2; have := st.agree _ _ h2; rw [fresh] at this; cases this
  have hlen : xs.size = ns.length := by have := h5.length; simpa using this
  refine call_sum_walkG (wpAny_pyIter_list hl ?_)
  refine ⟨_, _, _, _, _, _, fun i => ns.getD i 0, rfl, Walks.list (prog := Γ.F.prog) (w := Γ.F.w) (A := Γ.A.in1) hh s.heap.objs.size a hne xs, ⟨⟨_, Heap.get?_push_size _ rfl, rfl, rfl⟩, hl.at fun o e => Heap.get?_push_of_some _ e⟩, fun b hb => ?_, fun i v hv => ?_, fun h' tk t' hk => ?_⟩
  · rcases List.mem_cons.mp hb with rfl | hb
    · exact Heap.lt_size (Heap.get?_push_size _ rfl)
    · obtain rfl := List.mem_singleton.mp hb
      exact Heap.lt_size (Heap.get?_push_of_some _ (st.agree _ _ h2))
  · have hv' : xs.toList[i]? = some v := by simpa using hv
    have hi : i < ns.length := by have := (Array.getElem?_eq_some_iff.mp hv).1; omega
    obtain ⟨y, e, r⟩ := h5.get (show (ns.map V.int)[i]? = some (.int (ns.getD i 0)) by rw [List.getElem?_map, List.getD_eq_getElem?_getD, List.getElem?_eq_getElem hi]; rfl)
    rw [e] at hv'; cases hv'
    exact r.int_of
  · rw [hlen, preSum_isum]
    have keep : ∀ b o, s.heap.get? b = some o → h'.get? b = some o := fun b o e => hk b o (fun hb => absurd (Heap.lt_size e) ((List.mem_singleton.mp hb) ▸ Nat.lt_irrefl _)) (Heap.get?_push_of_some _ e)
    exact ⟨H, O, loc, .val (.int (isum ns)), ⟨fun b o e _ => ⟨o, keep b o e, .refl ..⟩, fun b o e => ⟨o, keep b o e⟩, .refl _, fun b o e => .inl e, fun b e => .inl e⟩, st.ext (fun b o e => ⟨o, keep b o e, .refl ..⟩) st.gens (.refl _) fun b o e => .inl e, rep_int H _ _, h⟩
/-- x.pop() -/
theorem ev_pop {B : V} {px apos pos : Pos} (hx : loc.lookup x = some (.own a (As ++ [B]))) (hz : As.length < sizeLine) (h : Q B ((x, .own a As) :: loc))
    (he : ∃ pl, eval (.Call (.Attribute (.Name x px) (Str.ofString "pop") apos) [] [] pos) Γ.env = (do
      let ov ← eval (.Name x px) Γ.env
      standAt apos.atName
      let (f, first) ← holding [ov] (getMethod ov (Str.ofString "pop") pl)
      callWith pos f first (backTo pos (starEach [] Γ.env)) []) := by exact ⟨_, rfl⟩)
    (hd : (x == ("__debug__" : Str)) = false := by decide) (hn : (x == ("__classdict__" : Str)) = false := by decide) :
    Ev Γ loc (.Call (.Attribute (.Name x px) (Str.ofString "pop") apos) [] [] pos) (VQ Q) X := by
  intro H O s st
  obtain ⟨pl, he⟩ := he
  refine MethodCall_ (pl := pl) ?_ he
  obtain ⟨v, hv, b, rfl, hO, rfl, o, xs, n, eo, hc, hdat, hp, hr⟩ := st.vars x _ hx
  refine wpAny_Name (wp_var st.kind hv ?_ hn) hd
  refine getMethod_builtin ⟨_, eo, hc⟩ PySem.F.plainAttrs_list PySem.F.slot_list_pop PySem.F.type_list_pop (fun a e => by cases e; exact ⟨_, eo, hp.1⟩) ?_
  refine callWith_method0 ?_
  obtain ⟨c, d, dt, sl⟩ := o
  obtain ⟨rfl, rfl⟩ := hp
  simp only at hc hdat
  subst hc hdat
  have hl : xs.size = As.length + 1 := by have := hr.length; simpa using this
  obtain ⟨y, hy, ry⟩ := hr.get (show (As ++ [B])[As.length]? = some B by simp)
  have hy' : xs[xs.size - 1]? = some y := by rw [hl, Nat.add_sub_cancel]; simpa using hy
  refine call_meets PySem.F.slot_list_pop ⟨_, eo, rfl⟩ PySem.F.entry_list_pop (PySem.F.args_list_pop_1 _) (PySem.MeetsSeq.list_pop_last a _ n y hy' (by omega)) ⟨eo, ?_⟩
  have hup := PySem.IsL.update eo (fun xs => xs.eraseIdxIfInBounds (xs.size - 1))
  have hsb : Heap.SameBut a s.heap (s.heap.update a (Obj.mapSeq fun ys => ys.eraseIdxIfInBounds (xs.size - 1))) := Heap.SameBut.update ..
  have hup := PySem.IsL.update eo (fun ys => ys.eraseIdxIfInBounds (xs.size - 1))
  have hdl : (xs.eraseIdxIfInBounds (xs.size - 1)).toList = xs.toList.take As.length := by
    unfold Array.eraseIdxIfInBounds
    rw [dif_pos (by omega), Array.toList_eraseIdx, hl, Nat.add_sub_cancel, List.eraseIdx_eq_take_drop_succ, List.drop_of_length_le (by simp; omega), List.append_nil]
  have ol : OwnL H (s.heap.update a (Obj.mapSeq fun ys => ys.eraseIdxIfInBounds (xs.size - 1))) a As := by
    refine ⟨_, _, _, hup, rfl, rfl, ⟨rfl, rfl⟩, ?_⟩
    rw [hdl]
    have := hr.take As.length
    rwa [List.take_left'] at this
    rfl
  exact ⟨H, O, _, .val B, (Nx.refl ..).ownSet hO hsb ⟨_, hup⟩, st.ownSet hx hsb ol, ry, h⟩
theorem lg_entry : entryFor table "proto.let_go" = some Builtin.«proto.let_go» := entryFor_of_tree (by kernel_rfl)
/-- a statement that is an expression, of any value -/
theorem ex_expr_any {e pos} (h : Ev Γ loc e (VQ fun A l => QF .next l) X) (hi : interactive Γ.env = false := by rfl) (hw : swapsWith e none pos.line Γ.env = pure false := by rfl)
    (hne : ∀ a, dropValue e pos (.ref a) = (do standAt pos; let _ ← runValue (.builtin "proto.let_go" {}); pure .next) := by intro _; rfl) : Ex1 Γ loc (.Expr e pos) QF X := by
  intro H O s hs
  rw [exec_Expr Γ.env e pos hi hw]
  refine wpAny_bind (wpAny_standAt (wpAny_bind (wpAny_mono (h H O s hs) (fun v s₁ p => ?_) fun _ _ p => p)))
  obtain ⟨H₁, O₁, l₁, lv, n₁, st₁, r₁, q₁⟩ := p
  cases lv with
  | own _ _ => exact q₁.elim
  | itr _ => exact q₁.elim
  | val A =>
    have post : PostF Γ H O s QF Flow.next s₁ := ⟨H₁, O₁, l₁, .next, n₁, st₁, rfl, q₁⟩
    by_cases hv : ∃ b, v = .ref b
    · obtain ⟨b, rfl⟩ := hv
      rw [hne]
      refine wpAny_bind (wpAny_standAt (wpAny_bind (wpAny_runValue (codeAny_builtin lg_entry ?_))))
      unfold Builtin.«proto.let_go»
      repeat wp_step
      exact post
    · rw [dropValue_plain fun b e => hv ⟨b, e⟩]
      exact wpAny_pure post
open SeqAt EqBoolInt in
/-- x == [], x != [] of a list of the frame's own -/
theorem tst_own_nil {op : CmpOp} {px pl pos : Pos} (hop : op = .Eq ∨ op = .NotEq) (hx : loc.lookup x = some (.own a As)) (hu : Γ.A.units + 1 < cLine) (h : QB (if op = .Eq then As.isEmpty else !As.isEmpty) loc)
    (hd : (x == ("__debug__" : Str)) = false := by decide) (hn : (x == ("__classdict__" : Str)) = false := by decide)
    (hm : behindInMarks op (.List [] pl) = false := by with_unfolding_all rfl) : Tst Γ loc (.Compare (.Name x px) [op] [.List [] pl] pos) QB X := by
  intro H O s st
  obtain ⟨v, hv, b, rfl, hO, rfl, _⟩ := st.vars x _ hx
  refine wpAny_isTrue_Compare1 (wpAny_Name (wp_var st.kind hv ?_ hn) hd) hm
  have hnil : Ev Γ loc (.List [] pl) (VQ fun B l => B = .lst [] ∧ l = loc) X := ev_list (args_val_nil ⟨len6 (by simp), rfl, rfl⟩)
  refine wpAny_mono (hnil H O s st) (fun w s₁ p => ?_) fun _ _ p => p
  obtain ⟨H₁, O₁, l₁, lv, n₁, st₁, r₁, q₁⟩ := p
  cases lv with
  | own _ _ => exact q₁.elim
  | itr _ => exact q₁.elim
  | val B =>
    obtain ⟨rfl, rfl⟩ := q₁
    have hv₁ : VarIs Γ.env s₁.heap x (.ref a) := by
      obtain ⟨v', hv', b', rfl, _, rfl, _⟩ := st₁.vars x _ hx
      exact hv'
    obtain ⟨v', hv', b', rfl, hO', rfl, o, xs, n, e, hc, hdat, hp, hr⟩ := st₁.vars x _ hx
    obtain ⟨y, o', ys, n', rfl, k2, k3, k4, k5⟩ := Rep.lst_of (H := H₁) r₁
    have hl : xs.size = As.length := by rw [← hr.length]; simp
    have hl' : ys.size = 0 := by have := k5.length; simpa using this
    have fin : ∀ c : Bool, c = (if op = .Eq then As.isEmpty else !As.isEmpty) → wpAny Γ.M Γ.A (truthy (.bool c)) (PostB Γ H O s QB) (PostX Γ H O s X) s₁ := fun c hc => by
      refine wpAny_truthy_bool ⟨H₁, O₁, l₁, n₁, st₁, ?_⟩
      rw [hc]; exact h
    rcases hop with rfl | rfl
    · cases As with
      | nil =>
        refine eq_listAt (e := fun _ => true) ⟨o, e, hc, n, hdat⟩ ⟨o', st₁.agree _ _ k2, k3, n', k4⟩ (by simp [hl, hl']) (by omega) (fun j h1 h2 => by omega) ?_
        rw [all_true]; exact fin _ rfl
      | cons A As => exact eq_list_lengthsAt ⟨o, e, hc, n, hdat⟩ ⟨o', st₁.agree _ _ k2, k3, n', k4⟩ (by simp [hl, hl']) (by omega) (fin _ rfl)
    · cases As with
      | nil =>
        refine of_rcne (RcNeAt.lists (e := fun _ => true) ⟨o, e, hc, n, hdat⟩ ⟨o', st₁.agree _ _ k2, k3, n', k4⟩ (by simp [hl, hl']) (by omega) (fun j h1 h2 => by omega)) ?_
        rw [all_true]; exact fin _ rfl
      | cons A As => exact of_rcne (RcNeAt.lists_lengths ⟨o, e, hc, n, hdat⟩ ⟨o', st₁.agree _ _ k2, k3, n', k4⟩ (by simp [hl, hl']) (by omega)) (fin _ rfl)
end
end Mine
end
section
open PySem PySem.W PyProof.Rows
set_option linter.unusedVariables false
set_option maxRecDepth 100000
namespace Mine
section
variable {Γ : Cx} {loc fr : Loc} {Q : V → Loc → Prop} {X : Exc → Loc → Prop} {x y : Str} {As : List V} {a : Addr} {scope : Scope}
/-- a list of the frame's own, as if it were changed no more -/
theorem StH.frzE {H : Hm} {O : OSet} {h : Heap} {os : OsState} {g : Array GenState} (st : StH Γ H O loc h os g) (hx : loc.lookup x = some (.own a As)) :
    ∃ o xs n, VarIs Γ.env h x (.ref a) ∧ O a ∧ H a = none ∧ h.get? a = some o ∧ o.cls = .type "list" ∧ o.data = .seq xs n ∧ Reps H As xs.toList ∧ StH Γ (Hset H a o) (fun b => O b ∧ b ≠ a) ((x, .val (.lst As)) :: loc) h os g := by
  obtain ⟨v, hv, b, rfl, hO, rfl, o, xs, n, e, hc, hd, hp, hr⟩ := st.vars x _ hx
  have hm := st.ohm a hO
  have hdd := seq_nodict hd
  have ap := st.apart x a _ hx rfl hv
  have ne : ∀ y lv, loc.lookup y = some lv → lv.mine = true → y ≠ x → ∀ b, VarIs Γ.env h y (.ref b) → b ≠ a := fun y lv ey m hne b hb z => by
    subst z; exact hne (st.sep y x b lv _ ey hx m rfl hb hv)
  refine ⟨o, xs, n, hv, hO, hm, e, hc, hd, hr, ?_⟩
  exact
    { base := st.base
      agree := fun b q e' => by
        rcases Hset.cases e' with ⟨rfl, rfl⟩ | h1
        · exact e
        · exact st.agree b q h1
      nofr := fun b q e' => by
        rcases Hset.cases e' with ⟨rfl, rfl⟩ | h1
        · exact hdd
        · exact st.nofr b q h1
      os := st.os
      gens := st.gens
      obase := fun b hb => st.obase b hb.1
      ohm := fun b hb => by simp only [Hset, hb.2, if_false]; exact st.ohm b hb.1
      othere := fun b hb => st.othere b hb.1
      kind := st.kind
      ns := st.ns
      onsO := ⟨st.onsO, fun z => ap.1 z.symm⟩
      vars := fun y lv e' => by
        by_cases hy : y = x
        · subst hy
          rw [lookup_cons_self] at e'; cases e'
          exact ⟨_, hv, rep_lst (Hset.self ..) hc hd (hr.mono (Hset.le hm))⟩
        · rw [lookup_cons_ne hy] at e'
          obtain ⟨w, hw, hl⟩ := st.vars y lv e'
          refine ⟨w, hw, ?_⟩
          cases lv with
          | val B => exact Rep.mono (Hset.le hm) _ _ hl
          | own c Bs =>
            obtain ⟨b, rfl, hb, rfl, l⟩ := hl
            exact ⟨c, rfl, ⟨hb, ne y _ e' rfl hy _ hw⟩, rfl, l.same (F := Γ.F) (Hset.le hm) fun o e => ⟨o, e, .refl ..⟩⟩
          | itr Bs =>
            obtain ⟨b, rfl, hb, l⟩ := hl
            exact ⟨b, rfl, ⟨hb, ne y _ e' rfl hy _ hw⟩, l.same (F := Γ.F) (Hset.le hm) fun o e => ⟨o, e, .refl ..⟩⟩
      sep := fun y z b l1 l2 e1 e2 m1 m2 v1 v2 => by
        by_cases hy : y = x
        · subst hy; rw [lookup_cons_self] at e1; cases e1; cases m1
        · by_cases hz : z = x
          · subst hz; rw [lookup_cons_self] at e2; cases e2; cases m2
          · rw [lookup_cons_ne hy] at e1; rw [lookup_cons_ne hz] at e2
            exact st.sep y z b l1 l2 e1 e2 m1 m2 v1 v2
      apart := fun y b l1 e1 m1 v1 => by
        by_cases hy : y = x
        · subst hy; rw [lookup_cons_self] at e1; cases e1; cases m1
        · rw [lookup_cons_ne hy] at e1
          exact st.apart y b l1 e1 m1 v1
      cells := fun y c e' => ⟨fun m => ⟨(st.cells y c e').1 m, fun z => ap.2 y c e' z.symm⟩, (st.cells y c e').2⟩
      cne := st.cne
      cinj := st.cinj
      frames := st.frames }
/-- a tuple of plain values -/
def V.flat : V → Prop
  | .tup Bs => ∀ B ∈ Bs, B.scal
  | _ => False
theorem Reps.scals : ∀ {Bs : List V} {H H' : Hm} {vs : List Value}, (∀ B ∈ Bs, B.scal) → Reps H Bs vs → Reps H' Bs vs
  | [], H, H', vs, _, r => r
  | B :: Bs, H, H', vs, h, r => by
    simp only [Reps] at r ⊢
    obtain ⟨y, ys, rfl, r1, r2⟩ := r
    exact ⟨y, ys, rfl, r1.scal (h B List.mem_cons_self), Reps.scals (fun C hC => h C (List.mem_cons_of_mem _ hC)) r2⟩
theorem Rep.flat {A : V} (h : A.flat) {H H' : Hm} {v : Value} (r : Rep H A v) (k : ∀ b o, o.cls = .type "tuple" → H b = some o → H' b = some o) : Rep H' A v := by
  cases A with
  | tup Bs =>
    obtain ⟨b, o, xs, n, rfl, h2, h3, h4, h5⟩ := r.tup_of
    exact rep_tup (k b o h3 h2) h3 h4 (Reps.scals h h5)
  | _ => exact h.elim
theorem Reps.flat : ∀ {Rs : List V} {H H' : Hm} {vs : List Value}, (∀ R ∈ Rs, R.flat) → (∀ b o, o.cls = .type "tuple" → H b = some o → H' b = some o) → Reps H Rs vs → Reps H' Rs vs
  | [], H, H', vs, _, _, r => r
  | R :: Rs, H, H', vs, h, k, r => by
    simp only [Reps] at r ⊢
    obtain ⟨y, ys, rfl, r1, r2⟩ := r
    exact ⟨y, ys, rfl, r1.flat (h R List.mem_cons_self) k, Reps.flat (fun C hC => h C (List.mem_cons_of_mem _ hC)) k r2⟩
/-- [elt for x in y if ..], y a list of the frame's own -/
theorem ev_comp_own {elt : Expr} {px py : Pos} {ifs : List Expr} {pos : Pos} {cl : List (Str × Addr)} {f : V → V} {p : V → Bool} (hh : Γ.A.handled = none) (hy : loc.lookup y = some (.own a As)) (hsz : As.length ≤ sizeLine)
    (fs : Frees Γ ((y, .val (.lst As)) :: loc) scope cl fr) (ok : CompOk Γ scope cl fr x ifs elt As f p) (hfl : ∀ R ∈ (As.filter p).map f, R.flat) (q : Q (.lst ((As.filter p).map f)) loc)
    (hs : ∀ z, foldedSetIterable (.Name y py) Γ.env z = pure z := by intro _; rfl) (hd : (y == ("__debug__" : Str)) = false := by decide) (hn' : (y == ("__classdict__" : Str)) = false := by decide) : Ev Γ loc (.ListComp elt [⟨.Name x px, .Name y py, ifs, 0⟩] scope pos) (VQ Q) X := by
  intro H O s st
  rw [eval_ListComp]
  obtain ⟨o, xs, n, hv, hO, hm, e, hc, hdt, hr, stf⟩ := st.frzE hy
  refine wpAny_comprehension_free (use := none) rfl hs fs.clos fs.kind fs.names (wpAny_Name (wp_var st.kind hv ?_ hn') hd)
  have r : Rep (Hset H a o) (.lst As) (.ref a) := rep_lst (Hset.self ..) hc hdt (hr.mono (Hset.le hm))
  refine wp_iter stf r trivial hh fun I fp W P h₂ it hw hI hk₂ _ => ?_
  have stf₂ : StH Γ (Hset H a o) (fun b => O b ∧ b ≠ a) ((y, .val (.lst As)) :: loc) h₂ s.os s.gens := stf.ext (fun b o e => ⟨o, hk₂ b o e, .refl ..⟩) stf.gens (.refl _) fun b o e => .inl e
  have st₂ : StH Γ H O loc h₂ s.os s.gens := st.ext (fun b o e => ⟨o, hk₂ b o e, .refl ..⟩) st.gens (.refl _) fun b o e => .inl e
  refine wp_comp_block (s₂ := { s with heap := h₂ }) (RR := fun acc C => compPost Γ.M Γ.A (PostX Γ H O s X) none (PostV Γ H O s (VQ Q)) acc C) (A := .lst As) stf₂ fs ok it hw (stf.foreign hI) hsz fun D C s' ce => ?_
  obtain ⟨H', m, ys, hle, hnew, kp, stE, hD, hC, hDC, hDm, hCm, hns, hl, hr'⟩ := ce.is
  refine ⟨m, hns, fun h'' hsb => ?_⟩
  have none₁ : ∀ b, h₂.get? b = none → s.heap.get? b = none := fun b e => by
    cases e' : s.heap.get? b with
    | none => rfl
    | some o => rw [hk₂ b o e'] at e; cases e
  -- the list is the frame's own again
  have haI : a ≠ I := fun z => by rw [z, hI] at e; cases e
  have hae : h''.get? a = some o := by
    obtain ⟨o', e', sm⟩ := kp a o (hk₂ a o e) haI
    rw [(hsb.2 a fun z => by rw [← z, hk₂ a o e] at hC; cases hC), e', sm.eq_of_data (seq_nodict hdt)]
  let H₃ : Hm := fun b => if b = a then none else H' b
  have H₃le : Hle H H₃ := fun b q e' => by
    have hb : b ≠ a := fun z => by rw [z, hm] at e'; cases e'
    show (if b = a then none else H' b) = some q
    rw [if_neg hb]
    refine hle b q ?_
    unfold Hset; rw [if_neg hb]; exact e'
  have H₃of : ∀ b q, H₃ b = some q → b ≠ a ∧ H' b = some q := fun b q e' => by
    by_cases hb : b = a
    · simp only [H₃, hb, if_true] at e'; cases e'
    · simp only [H₃, hb, if_false] at e'; exact ⟨hb, e'⟩
  have fI := st.foreign hI
  have fC : Foreign Γ H O C := st₂.foreign hC
  have fD : Foreign Γ H O D := st₂.foreign hD
  have st₃ : StH Γ H₃ O loc h'' s'.os s'.gens := by
    refine st₂.extW (fun b => b = I ∨ b = C) (fun b z => by rcases z with rfl | rfl; exact fI; exact fC) (fun b q hb e' => ?_) stE.gens H₃le stE.os fun b q e' => ?_
    · obtain ⟨q', e'', sm⟩ := kp b q e' fun z => hb (.inl z)
      exact ⟨q', (hsb.2 b fun z => hb (.inr z)).trans e'', sm⟩
    · obtain ⟨hb, e''⟩ := H₃of b q e'
      rcases hnew b q e'' with h1 | h1
      · unfold Hset at h1; rw [if_neg hb] at h1; exact .inl h1
      · refine .inr ⟨fun z => ?_, ?_, stE.nofr b q e''⟩
        · obtain ⟨q', e1⟩ := st.othere b z
          rw [hk₂ b q' e1] at h1; cases h1
        · rw [hsb.2 b fun z => by rw [z, hCm] at e''; cases e'']; exact stE.agree b q e''
  have nx : Nx Γ.F H O s.heap H₃ O h'' := by
    refine ⟨fun b q e' hb => ?_, fun b q e' => ?_, H₃le, fun b q e' => ?_, fun b z => .inl z⟩
    · obtain ⟨q', e'', sm⟩ := kp b q (hk₂ b q e') fun z => by rw [z, hI] at e'; cases e'
      exact ⟨q', (hsb.2 b fun z => by rw [z, none₁ _ hC] at e'; cases e').trans e'', sm⟩
    · obtain ⟨q', e'', sm⟩ := kp b q (hk₂ b q e') fun z => by rw [z, hI] at e'; cases e'
      exact ⟨q', (hsb.2 b fun z => by rw [z, none₁ _ hC] at e'; cases e').trans e''⟩
    · obtain ⟨hb, e''⟩ := H₃of b q e'
      rcases hnew b q e'' with h1 | h1
      · unfold Hset at h1; rw [if_neg hb] at h1; exact .inl h1
      · exact .inr (.inr (none₁ _ h1))
  have hDa : D ≠ a := fun z => by rw [z, hk₂ a o e] at hD; cases hD
  have hD₃ : H₃ D = none := by show (if D = a then none else H' D) = none; rw [if_neg hDa]; exact hDm
  obtain ⟨no, eo⟩ := hl.extBut hsb.extBut hDC
  obtain ⟨ob, hoo⟩ : ∃ ob : Obj, ob = { cls := .type "list", data := .seq ys no } := ⟨_, rfl⟩
  rw [← hoo] at eo
  have co : ob.cls = .type "list" := by rw [hoo]
  have dO : ob.data = .seq ys no := by rw [hoo]
  have rs : Reps H₃ ((As.filter p).map f) ys.toList := Reps.flat hfl (fun b q hq e' => by
    have hb : b ≠ a := fun z => by
      rw [z] at e'
      have : H' a = some o := hle a o (Hset.self ..)
      rw [this] at e'; cases e'
      rw [hc] at hq; simp at hq
    show (if b = a then none else H' b) = some q
    rw [if_neg hb]; exact e') hr'
  exact ⟨Hset H₃ D ob, O, loc, .val (.lst ((As.filter p).map f)), nx.freeze hD₃ (none₁ _ hD), st₃.freeze eo (seq_nodict dO) fD.o hD₃, rep_lst (Hset.self ..) co dO (rs.mono (Hset.le hD₃)), q⟩
end
end Mine
end
section
open PySem PySem.W PyProof.Rows
namespace Mine
set_option maxRecDepth 100000 in
set_option maxHeartbeats 8000000 in
open_top hd07 for PySem.Challenge.rw_dn0169_07
end Mine
end
section
open PySem PySem.W PyProof.Rows
set_option linter.unusedVariables false
set_option maxRecDepth 100000
namespace Mine
noncomputable abbrev K7 (P : Params) : Frag := hd07.heap_39 P
theorem fn_fmean (P : Params) : fnOk (K7 P) 63 (fdAt (K7 P) 13) (bdAt (K7 P) 13) :=
  ⟨⟨_, rfl, rfl⟩, ⟨62, _, _, _, rfl, rfl, rfl, rfl⟩, rfl, rfl, rfl, rfl, rfl⟩
section
variable {F : Fix} {P : Params}
theorem Land.float (l : Land (K7 P) F) : GlobAt F "float" (.type "float") := l.bi rfl (by decide +kernel) (by decide)
theorem Land.value (l : Land (K7 P) F) : GlobAt F "ValueError" (.type "ValueError") := l.bi rfl (by decide +kernel) (by decide)
theorem Land.range (l : Land (K7 P) F) : GlobAt F "range" (.type "range") := l.bi rfl (by decide +kernel) (by decide)
theorem Land.str (l : Land (K7 P) F) : GlobAt F "str" (.type "str") := l.bi rfl (by decide +kernel) (by decide)
theorem Land.len (l : Land (K7 P) F) : GlobAt F "len" (.builtin "len") := l.bi rfl (by decide +kernel) (by decide)
theorem Land.sum (l : Land (K7 P) F) : GlobAt F "sum" (.builtin "sum") := l.bi rfl (by decide +kernel) (by decide)
theorem Land.iter (l : Land (K7 P) F) : GlobAt F "iter" (.builtin "iter") := l.bi rfl (by decide +kernel) (by decide)
theorem Land.isinstance (l : Land (K7 P) F) : GlobAt F "isinstance" (.builtin "isinstance") := l.bi rfl (by decide +kernel) (by decide)
theorem Land.list (l : Land (K7 P) F) : GlobAt F "list" (.type "list") := l.bi rfl (by decide +kernel) (by decide)
theorem Land.tuple (l : Land (K7 P) F) : GlobAt F "tuple" (.type "tuple") := l.bi rfl (by decide +kernel) (by decide)
theorem Land.fsum (l : Land (K7 P) F) : GlobAt F "fsum" (.builtin "math.fsum") := l.glob rfl
theorem Land.sumprod (l : Land (K7 P) F) : GlobAt F "sumprod" (.builtin "math.sumprod") := l.glob rfl
theorem Land.fmean (l : Land (K7 P) F) : GlobAt F "fmean" (.ref 63) := l.glob rfl
theorem Land.stat (l : Land (K7 P) F) : GlobAt F "StatisticsError" (.ref 52) := l.glob rfl
theorem strKeys_of {es : Array DictEntry} (h : es.toList.all (fun e => match e.key with | .str _ _ => true | _ => false) = true) : StrKeys es := by
  intro e he
  have := List.all_eq_true.mp h e (by simpa using he)
  split at this
  · rename_i n t hk; exact ⟨n, t, hk⟩
  · cases this
theorem Land.cls (l : Land (K7 P) F) : ExcCls F 52 := by
  refine ⟨_, _, _, _, _, _, _, _, _, _, _, _, _, _, _, _, l.kin 52 _ rfl, ⟨_, _, _, l.kin 51 _ rfl, rfl, ?_, fun _ => rfl⟩, ?_, ?_⟩
  · exact strKeys_of rfl
  · rfl
  · rfl
end
end Mine
end
section
open PySem PySem.W PyProof.Rows
set_option linter.unusedVariables false
set_option maxRecDepth 100000
namespace Mine
variable {F : Fix} {P : Params}
def ndiv : V → UInt64 → Option V
  | .int a, d => if Float64.isInf (Float64.ofInt a) then none else some (.flt (Float64.div (Float64.ofInt a) d))
  | .flt x, d => some (.flt (Float64.div x d))
  | _, _ => none
def xOver : Exc := ⟨.type "OverflowError", none⟩
def xLen : Exc := ⟨.ref 52, some "data and weights must be the same length"⟩
def xZero : Exc := ⟨.ref 52, some "sum of weights must be non-zero"⟩
/-- what fmean(data, weights=weights) comes to -/
inductive Fm (As Bs : List V) : Except Exc V → Prop
  | ok {T R : V} {d : UInt64} : spRun (.I 0 false) As Bs = .ok T → T.nm → fsumRun [] Bs = some d → Float64.isZero d = false → ndiv T d = some R → Fm As Bs (.ok R)
  | zero {T : V} {d : UInt64} : spRun (.I 0 false) As Bs = .ok T → fsumRun [] Bs = some d → Float64.isZero d = true → Fm As Bs (.error xZero)
  | unlike : spRun (.I 0 false) As Bs = .error "ValueError" → Fm As Bs (.error xLen)
/-- what the numbers have to be -/
structure FmOk (As Bs : List V) : Prop where
  sz : As.length ≤ 70 ∧ Bs.length ≤ 70
  nAs : ∀ (i : Nat) A, As[i]? = some A → A.nm
  nBs : ∀ (i : Nat) B, Bs[i]? = some B → B.nmb
  fBs : ∀ (i : Nat) B, Bs[i]? = some B → B.fin
  mo : ∀ (i : Nat) A B, As[i]? = some A → Bs[i]? = some B → mulOk A B
abbrev FmQ (r : Except Exc V) : V → Prop := fun R => r = .ok R
abbrev FmX (r : Except Exc V) : Exc → Prop := fun x => r = .error x

theorem fm_tail (l : Land (K7 P) F) {A : Around} {L : Addr} {As Bs : List V} {r : Except Exc V} (ok : FmOk As Bs) (fm : Fm As Bs r) (hr : Room A 1) {loc : Loc} {B : V} {loc' : Loc} (hB : B = .lst Bs ∨ B = .tup Bs) (hw : Has loc "weights" B) (sr : Src loc "data" As loc') (hw' : Has loc' "weights" B) :
    Exs (F.fn A (fdAt (K7 P) 13) 63 L) loc ((bdAt (K7 P) 13).drop 2) (FnQ (FmQ r)) (fun x _ => FmX r x) := by
  conv => arg 3; whnf
  refine exs_cons (ex_try (isFn_fn ..) ?_)
  refine exs_let (.inl rfl) (ev_sumprod l.sumprod sr hB hw hr.handled ok.nAs ok.nBs ok.mo ?_ ?_)
  · intro T' hT'
    cases fm with
    | unlike h => rw [h] at hT'; cases hT'
    | @zero T d h1 h2 h3 =>
      rw [h1] at hT'; cases hT'
      refine exs_nil (exs_let (.inl rfl) (ev_fsum l.fsum (.inl ⟨B, hB, hw', rfl⟩) hr.handled (Nat.lt_of_le_of_lt ok.sz.2 (by decide)) ok.fBs ?_ ?_))
      · intro d' hd'
        rw [h2] at hd'; cases hd'
        refine exs_cons (ex_if (tst_not (tst_val (ev_name rfl (tr_flt ?_)))))
        rw [h3]
        exact exs_cons (ex_raise l.cls l.stat hr.handled rfl)
      · intro h; rw [h2] at h; cases h
    | @ok T R d h1 nT h2 h3 h4 =>
      rw [h1] at hT'; cases hT'
      refine exs_nil (exs_let (.inl rfl) (ev_fsum l.fsum (.inl ⟨B, hB, hw', rfl⟩) hr.handled (Nat.lt_of_le_of_lt ok.sz.2 (by decide)) ok.fBs ?_ ?_))
      · intro d' hd'
        rw [h2] at hd'; cases hd'
        refine exs_cons (ex_if (tst_not (tst_val (ev_name rfl (tr_flt ?_)))))
        rw [h3]
        refine exs_nil (exs_ret (ev_bin (ev_name rfl (ev_name rfl ?_))))
        cases T' with
        | int a =>
          refine op_div_if hr.handled h3 (fun hi => ?_) fun hi => ?_
          · simp only [ndiv, hi, if_true] at h4; cases h4
          · simp only [ndiv, hi, Bool.false_eq_true, if_false] at h4; cases h4
            rfl
        | flt x =>
          cases h4
          exact op_divF h3 rfl
        | _ => exact nT.elim
      · intro h; rw [h2] at h; cases h
  · intro c hc
    cases fm with
    | unlike h =>
      rw [h] at hc; cases hc
      exact hd_raise (isFn_fn ..) l.value matches_value rfl l.cls l.stat rfl
    | zero h1 => rw [h1] at hc; cases hc
    | ok h1 => rw [h1] at hc; cases hc

set_option maxHeartbeats 4000000 in
theorem c_fmean (l : Land (K7 P) F) {As Bs : List V} {r : Except Exc V} (ok : FmOk As Bs) (fm : Fm As Bs r) {dlv wlv : LV} (hd : dlv = .val (.lst As) ∨ dlv = .val (.tup As) ∨ dlv = .itr As) (hw : wlv = .val (.lst Bs) ∨ wlv = .val (.tup Bs) ∨ wlv = .itr Bs) :
    Calls F (.ref 63) 1 [dlv] ["weights"] [wlv] (FmQ r) (FmX r) := by
  refine calls_of (names := ["data", "weights"]) (l.fn (fn_fmean P)) (by decide) (by intro x hx; simp at hx; rcases hx with rfl | rfl <;> exact .inl rfl) rfl (fun s vals kvals hb h1 h2 => ?_) fun A L hr => ?_
  · match vals, kvals, h1, h2 with
    | [v], [u], _, _ => exact kp_binds (l.kin.keeps hb) fun S => rfl
  · have rest : Exs (F.fn A (fdAt (K7 P) 13) 63 L) [("data", dlv), ("weights", wlv)] ((bdAt (K7 P) 13).drop 1) (FnQ (FmQ r)) (fun x _ => FmX r x) := by
      have src : ∀ (w : LV), Src [("data", dlv), ("weights", w)] "data" As (if dlv.mine then [("weights", w)] else [("data", dlv), ("weights", w)]) := fun w => by
        rcases hd with rfl | rfl | rfl
        · exact .inl ⟨_, .inl rfl, rfl, rfl⟩
        · exact .inl ⟨_, .inr rfl, rfl, rfl⟩
        · refine .inr ⟨rfl, fun y lv e => ?_, rfl⟩
          have := mem_of_lookup e
          simp only [LV.mine, if_true, List.mem_cons, List.not_mem_nil, or_false, Prod.mk.injEq] at this
          obtain ⟨rfl, rfl⟩ := this
          rfl
      have src' : ∀ (w : LV), Src [("weights", w), ("data", dlv)] "data" As (if dlv.mine then [("weights", w)] else [("weights", w), ("data", dlv)]) := fun w => by
        rcases hd with rfl | rfl | rfl
        · exact .inl ⟨_, .inl rfl, rfl, rfl⟩
        · exact .inl ⟨_, .inr rfl, rfl, rfl⟩
        · refine .inr ⟨rfl, fun y lv e => ?_, rfl⟩
          have := mem_of_lookup e
          simp only [LV.mine, if_true, List.mem_cons, List.not_mem_nil, or_false, Prod.mk.injEq] at this
          obtain ⟨rfl, rfl⟩ := this
          rfl
      have hs : ∀ (w : V), Has (if dlv.mine then [("weights", .val w)] else [("data", dlv), ("weights", .val w)]) "weights" w := fun w => by
        rcases hd with rfl | rfl | rfl <;> rfl
      have hs' : ∀ (w : V), Has (if dlv.mine then [("weights", .val w)] else [("weights", .val w), ("data", dlv)]) "weights" w := fun w => by
        rcases hd with rfl | rfl | rfl <;> rfl
      have tl1 := fun (B : V) (hB : B = .lst Bs ∨ B = .tup Bs) => fm_tail (L := L) l ok fm hr hB (loc := [("data", dlv), ("weights", .val B)]) rfl (src _) (hs B)
      have tl2 := fun (B : V) (hB : B = .lst Bs ∨ B = .tup Bs) => fm_tail (L := L) l ok fm hr hB (loc := [("weights", .val B), ("data", dlv)]) rfl (src' _) (hs' B)
      conv => arg 3; whnf
      rcases hw with rfl | rfl | rfl
      · refine exs_cons (ex_if (tst_not (tst_val (ev_isinstance l.isinstance l.list l.tuple (lv := .val (.lst Bs)) rfl rfl (tr_bool ?_)))))
        exact exs_nil (tl1 _ (.inl rfl))
      · refine exs_cons (ex_if (tst_not (tst_val (ev_isinstance l.isinstance l.list l.tuple (lv := .val (.tup Bs)) rfl rfl (tr_bool ?_)))))
        exact exs_nil (tl1 _ (.inr rfl))
      · refine exs_cons (ex_if (tst_not (tst_val (ev_isinstance l.isinstance l.list l.tuple (lv := .itr Bs) rfl rfl (tr_bool ?_)))))
        refine exs_let (.inl rfl) (ev_list_itr l.list (loc' := [("data", dlv)]) rfl (fun y lv e => ?_) rfl hr.handled (len6 ok.sz.2) ?_)
        · have := mem_of_lookup e
          simp only [List.mem_cons, List.not_mem_nil, or_false, Prod.mk.injEq] at this
          obtain ⟨rfl, rfl⟩ := this
          rfl
        · exact exs_nil (tl2 _ (.inl rfl))
    have rest' := rest
    show Exs _ [("data", dlv), ("weights", wlv)] _ _ _
    conv => arg 3; whnf
    rcases hw with rfl | rfl | rfl
    · exact exs_cons (ex_if (tst_cmp (ev_name rfl (ev_none (cmp_is_none ⟨_, rfl, exs_nil rest'⟩)))))
    · exact exs_cons (ex_if (tst_cmp (ev_name rfl (ev_none (cmp_is_none ⟨_, rfl, exs_nil rest'⟩)))))
    · exact exs_cons (ex_if (tst_itr_none rfl (exs_nil rest')))
end Mine
end
section
open PySem PySem.W PyProof.Rows
set_option linter.unusedVariables false
set_option maxRecDepth 100000
set_option exponentiation.threshold 3000
namespace Mine
open PySem.Float64 (decode val add sub mul div fma neg abs cmp isZero isFinite isInf ofInt Right pack infMag zero sgn)
theorem Tv.nm {u : Nat} {T : V} {k : Int} (h : Tv u T k) : T.nm := by
  rcases h with ⟨i, rfl, _⟩ | ⟨x, rfl, _⟩ <;> trivial
theorem tv_div {u v : Nat} (hu : u ≤ 1000) {T : V} {k w c : Int} {d : UInt64} (hT : Tv u T k) (hk : k.natAbs ≤ 2 ^ 53) (hd : FV d (w * Un v)) (hw : w * Un v ≠ 0) (he : k * Un u * 2 ^ 1074 = c * (w * Un v)) (hc : Rp c) :
    ∃ r, ndiv T d = some (.flt r) ∧ FV r c := by
  rcases hT with ⟨i, rfl, hi⟩ | ⟨x, rfl, hx⟩
  · have hf : FV (ofInt i) (i * 2 ^ 1074) := FV.ofInt (by rw [hi]; exact rp_un hu hk)
    refine ⟨_, by simp only [ndiv, hf.notInf, Bool.false_eq_true, if_false], hf.div hd hw (by rw [hi]; exact he) hc⟩
  · exact ⟨_, rfl, hx.div hd hw he hc⟩
theorem isum_abs : ∀ ks : List Int, (isum ks).natAbs ≤ asum ks
  | [] => Nat.le_refl _
  | k :: ks => by have := isum_abs ks; simp only [isum, asum]; omega
theorem un_ne (u : Nat) : Un u ≠ 0 := by unfold Un; exact Int.pow_ne_zero (by decide)
theorem fm_exact {u v : Nat} (hu : u ≤ 1000) (hv : v ≤ 1000) {As Bs : List V} {ks ws : List Int} {c : Int} (hp : Prods u As Bs ks) (hk : asum ks ≤ 2 ^ 53) (hw : Vals Bs (ws.map (· * Un v))) (hz : asum ws ≤ 2 ^ 53) (hn : isum ws ≠ 0)
    (he : isum ks * Un u * 2 ^ 1074 = c * (isum ws * Un v)) (hc : Rp c) : ∃ r, Fm As Bs (.ok (.flt r)) ∧ FV r c := by
  obtain ⟨T, h1, hT⟩ := sumprod_exact hu hp hk
  obtain ⟨d, h2, hd⟩ := fsum_un hv hw hz
  have hne : isum ws * Un v ≠ 0 := Int.mul_ne_zero hn (un_ne v)
  obtain ⟨r, h4, hr⟩ := tv_div hu hT (Nat.le_trans (isum_abs ks) hk) hd hne he hc
  exact ⟨r, .ok h1 hT.nm h2 (by rw [hd.isZero]; simpa using hne) h4, hr⟩
theorem fm_zero {u v : Nat} (hu : u ≤ 1000) (hv : v ≤ 1000) {As Bs : List V} {ks ws : List Int} (hp : Prods u As Bs ks) (hk : asum ks ≤ 2 ^ 53) (hw : Vals Bs (ws.map (· * Un v))) (hz : asum ws ≤ 2 ^ 53) (hn : isum ws = 0) : Fm As Bs (.error xZero) := by
  obtain ⟨T, h1, hT⟩ := sumprod_exact hu hp hk
  obtain ⟨d, h2, hd⟩ := fsum_un hv hw hz
  refine .zero h1 h2 ?_
  rw [hd.isZero, hn]; simp
theorem run_unlike {u : Nat} (hu : u ≤ 1000) {As Bs : List V} {ks : List Int} (h : Prods u As Bs ks) (Cs Ds : List V) (hl : (Cs = [] ∧ Ds ≠ []) ∨ (Cs ≠ [] ∧ Ds = [])) : ∀ {m : Nat} {S : SP} {s : Int}, SPx u m s S → m + asum ks ≤ 2 ^ 53 → spRun S (As ++ Cs) (Bs ++ Ds) = .error "ValueError" := by
  induction h with
  | nil =>
    intro m S s hS hm
    rcases hl with ⟨rfl, hd⟩ | ⟨hc, rfl⟩
    · cases Ds with
      | nil => exact absurd rfl hd
      | cons D Ds => rfl
    · cases Cs with
      | nil => exact absurd rfl hc
      | cons C Cs => rfl
  | @cons A B As Bs a b k ks hA nA hB he hp ih =>
    intro m S s hS hm
    simp only [asum] at hm
    obtain ⟨S', h1, h2⟩ := step_exact hu hS hA nA hB he (by omega)
    simp only [List.cons_append, spRun, h1]
    exact ih h2 (by omega)
theorem fm_unlike {u : Nat} (hu : u ≤ 1000) {As Bs : List V} {ks : List Int} (h : Prods u As Bs ks) (hk : asum ks ≤ 2 ^ 53) (Cs Ds : List V) (hl : (Cs = [] ∧ Ds ≠ []) ∨ (Cs ≠ [] ∧ Ds = [])) : Fm (As ++ Cs) (Bs ++ Ds) (.error xLen) := by
  refine .unlike (run_unlike hu h Cs Ds hl (m := 0) (s := 0) ⟨fun _ => rfl, ?_, Nat.le_refl _⟩ (by omega))
  rw [Int.zero_mul, Int.zero_mul]
end Mine
end
section
open PySem PySem.W PyProof.Rows
set_option linter.unusedVariables false
set_option maxRecDepth 100000
set_option exponentiation.threshold 3000
namespace Mine
open PySem.Float64 (decode val add sub mul div fma neg abs cmp isZero isFinite isInf ofInt Right pack infMag zero sgn)
variable {F : Fix} {P : Params}
theorem fn_join (P : Params) : fnOk (K7 P) 68 (fdAt (K7 P) 16) (bdAt (K7 P) 16) :=
  ⟨⟨_, rfl, rfl⟩, ⟨67, _, _, _, rfl, rfl, rfl, rfl⟩, rfl, rfl, rfl, rfl, rfl⟩
theorem fn_holds (P : Params) : fnOk (K7 P) 75 (fdAt (K7 P) 21) (bdAt (K7 P) 21) :=
  ⟨⟨_, rfl, rfl⟩, ⟨74, _, _, _, rfl, rfl, rfl, rfl⟩, rfl, rfl, rfl, rfl, rfl⟩
theorem fn_law (P : Params) : fnOk (K7 P) 80 (fdAt (K7 P) 24) (bdAt (K7 P) 24) :=
  ⟨⟨_, rfl, rfl⟩, ⟨79, _, _, _, rfl, rfl, rfl, rfl⟩, rfl, rfl, rfl, rfl, rfl⟩
theorem Land.joined (l : Land (K7 P) F) : GlobAt F "_law_joined" (.ref 68) := l.glob rfl
theorem Land.holds (l : Land (K7 P) F) : GlobAt F "_law_holds" (.ref 75) := l.glob rfl
abbrev bits (a : Int) : Nat := Builtin.Int.intBits a
theorem bits_small {i : Int} (h : i.natAbs ≤ 2 ^ 53) : bits i ≤ 60 := intBits_le (by omega)
/-- int / int -/
def dv (a b : Int) : UInt64 := Float64.ofFrac (decide (a < 0) != decide (b < 0)) a.natAbs b.natAbs
theorem dv_fv {y b : Int} {p : Nat} (hb : b = 2 ^ p) (hp : p ≤ 20) (h : y.natAbs ≤ 2 ^ 53) : FV (dv y b) (y * Un p) := by
  have hbn : b.natAbs = 2 ^ p := by rw [hb, Int.natAbs_pow]; rfl
  have hb0 : ¬ b < 0 := by rw [hb]; exact Int.not_lt.mpr (Int.pow_nonneg (by decide))
  unfold dv
  rw [hbn, show (decide (y < 0) != decide (b < 0)) = decide (y < 0) by simp [hb0]]
  refine right_exact (Float64.ofFrac_right (W := y.natAbs * 2 ^ (1074 - p)) (D := 1) (Nat.pow_pos (by decide)) ?_ (by decide)) (rp_un (u := p) (by omega) h) (by decide) ?_ fun hc => ?_
  · rw [Nat.mul_one, Nat.mul_assoc, ← Nat.pow_add, show 1074 - p + p = 1074 by omega]
  · rw [Int.natAbs_mul, Nat.one_mul]; congr 1
  · have hpos : 0 < Un p := by unfold Un; exact Int.pow_pos (by decide)
    exact decide_eq_decide.mpr (neg_iff_mul hpos)
theorem un_0 : Un 0 = 2 ^ 1074 := rfl
theorem un_10 : Un 0 = 1024 * Un 10 := by unfold Un; rw [show (1024 : Int) = 2 ^ 10 by decide, ← Int.pow_add]
theorem nv_int {i : Int} (h : i.natAbs ≤ 2 ^ 53) : Nv (.int i) (i * Un 0) := .inl ⟨i, rfl, rfl, rp_un (u := 0) (by decide) h⟩
def V.sm : V → Prop
  | .int i => i.natAbs ≤ 2 ^ 53
  | _ => True
/-- a mean, in 1024ths, and a size -/
structure Part where
  M : V
  q : Int
  c : Int
def Part.v (p : Part) : V := .tup [p.M, .int p.c]
structure Part.ok (p : Part) : Prop where
  nv : Nv p.M (p.q * Un 10)
  nm : p.M.nm
  sm : p.M.sm
  c : p.c.natAbs ≤ 20
def psum (ps : List Part) : Int := isum (ps.map fun p => p.q * p.c)
def pabs (ps : List Part) : Nat := asum (ps.map fun p => p.q * p.c)
def pcnt (ps : List Part) : Int := isum (ps.map (·.c))
theorem prods_parts : ∀ (ps : List Part), (∀ p ∈ ps, p.ok) → Prods 10 (ps.map (·.M)) (ps.map fun p => .int p.c) (ps.map fun p => p.q * p.c)
  | [], _ => .nil
  | p :: ps, h => by
    have k := h p List.mem_cons_self
    refine .cons k.nv k.nm (nv_int (i := p.c) (by have := k.c; omega)) ?_ (prods_parts ps fun q hq => h q (List.mem_cons_of_mem _ hq))
    rw [un_0]; grind
theorem vals_parts : ∀ (ps : List Part), (∀ p ∈ ps, p.ok) → Vals (ps.map fun p => .int p.c) ((ps.map (·.c)).map (· * Un 0))
  | [], _ => .nil
  | p :: ps, h => by
    have k := h p List.mem_cons_self
    obtain ⟨x, h1, h2⟩ := (nv_int (i := p.c) (by have := k.c; omega)).real
    exact .cons h1 h2 (vals_parts ps fun q hq => h q (List.mem_cons_of_mem _ hq))
theorem cnt_abs : ∀ (ps : List Part), (∀ p ∈ ps, p.ok) → asum (ps.map (·.c)) ≤ ps.length * 20
  | [], _ => by simp [asum]
  | p :: ps, h => by
    have k := (h p List.mem_cons_self).c
    have ih := cnt_abs ps fun q hq => h q (List.mem_cons_of_mem _ hq)
    simp only [List.map_cons, asum, List.length_cons, Nat.succ_mul]; omega
/-- parts that may be put together -/
structure Ps (ps : List Part) : Prop where
  ok : ∀ p ∈ ps, p.ok
  len : ps.length ≤ 20
  abs : pabs ps ≤ 2 ^ 53
theorem Ps.fmOk {ps : List Part} (h : Ps ps) : FmOk (ps.map (·.M)) (ps.map fun p => .int p.c) where
  sz := by have := h.len; simp; omega
  nAs := fun i A e => by obtain ⟨p, hp, rfl⟩ := List.mem_map.mp (List.mem_of_getElem? e); exact (h.ok p hp).nm
  nBs := fun i A e => by obtain ⟨p, hp, rfl⟩ := List.mem_map.mp (List.mem_of_getElem? e); trivial
  fBs := fun i A e => by obtain ⟨p, hp, rfl⟩ := List.mem_map.mp (List.mem_of_getElem? e); trivial
  mo := fun i A B e e' => by
    obtain ⟨p, hp, rfl⟩ := List.mem_map.mp (List.mem_of_getElem? e)
    obtain ⟨q, hq, rfl⟩ := List.mem_map.mp (List.mem_of_getElem? e')
    have a := (h.ok p hp).sm
    have b := (h.ok q hq).c
    revert a
    cases p.M <;> intro a <;> first | trivial | exact mulOk_of_bits (bits_small a) (bits_small (by omega)) (by decide)
theorem Ps.some {ps : List Part} (h : Ps ps) {q : Int} (hc : pcnt ps ≠ 0) (hq : psum ps = q * pcnt ps) : ∃ r, Fm (ps.map (·.M)) (ps.map fun p => .int p.c) (.ok (.flt r)) ∧ FV r (q * Un 10) := by
  have hl := h.len
  have ha := h.abs
  have hqa : q.natAbs ≤ 2 ^ 53 := by
    have h1 := isum_abs (ps.map fun p => p.q * p.c)
    have e : (psum ps).natAbs = q.natAbs * (pcnt ps).natAbs := by rw [hq, Int.natAbs_mul]
    have : 1 ≤ (pcnt ps).natAbs := by omega
    have : q.natAbs * 1 ≤ q.natAbs * (pcnt ps).natAbs := Nat.mul_le_mul_left _ this
    unfold psum at e; unfold pabs at ha; omega
  refine fm_exact (u := 10) (v := 0) (by decide) (by decide) (prods_parts ps h.ok) h.abs (vals_parts ps h.ok) (Nat.le_trans (cnt_abs ps h.ok) (by omega)) hc ?_ (rp_un (by decide) hqa)
  show psum ps * Un 10 * 2 ^ 1074 = q * Un 10 * (pcnt ps * Un 0)
  rw [hq, un_0]; grind
theorem Ps.none {ps : List Part} (h : Ps ps) (hc : pcnt ps = 0) : Fm (ps.map (·.M)) (ps.map fun p => .int p.c) (.error xZero) := by
  have hl := h.len
  exact fm_zero (u := 10) (v := 0) (by decide) (by decide) (prods_parts ps h.ok) h.abs (vals_parts ps h.ok) (Nat.le_trans (cnt_abs ps h.ok) (by omega)) hc
theorem len6' {n : Nat} (h : n ≤ 20) : n ≤ sizeLine := len6 (by omega)
set_option maxHeartbeats 4000000 in
/-- _law_joined, whatever fmean comes to -/
theorem c_joinedG (l : Land (K7 P) F) {ps : List Part} (h : Ps ps) (turn : Int) {r : Except Exc V} (fm : Fm (ps.map (·.M)) (ps.map fun p => .int p.c) r) :
    Calls F (.ref 68) 2 [.val (.lst (ps.map Part.v)), .val (.int turn)] [] [] (fun R => ∃ M, r = .ok M ∧ R = .tup [M, .int (pcnt ps)]) (fun x => r = .error x) := by
  have hl := h.len
  refine calls_of (names := ["parts", "turn"]) (l.fn (fn_join P)) (by decide) (by intro x hx; simp at hx; rcases hx with rfl | rfl <;> exact .inl rfl) rfl (fun s vals kvals hb h1 h2 => ?_) fun A L hr => ?_
  · match vals, kvals, h1, h2 with
    | [v, u], [], _, _ => exact .of_eq rfl
  · conv => arg 3; whnf
    have fr : ∀ {l : Loc} {scope : Scope}, closureFor scope (F.fn A (fdAt (K7 P) 16) 68 L).env = pure [] → scope.kind = .function → (∀ y ∈ scope.names, y.2 = .local → scope.names.lookup y.1 = some .local) → Frees (F.fn A (fdAt (K7 P) 16) 68 L) l scope [] [] := fun c k nm =>
      { clos := c, hcl := fun y c e => (by cases e), kind := k, names := nm, fr := fun y lv e => (by cases e) }
    have mem : ∀ B ∈ V.items (.lst (ps.map Part.v)), ∃ p ∈ ps, B = .tup [p.M, .int p.c] := fun B hB => by
      obtain ⟨p, hp, rfl⟩ := List.mem_map.mp (show B ∈ ps.map Part.v from hB); exact ⟨p, hp, rfl⟩
    refine exs_cons (ex_assign_comp false hr.handled (.inl rfl) (ev_name rfl ⟨trivial, len6' (by simpa [V.items] using hl), [], [], fun B => match B with | .tup [M, _] => M | _ => .none, fun _ => true, fr rfl rfl (by decide), ?b1, fun b => ?c1⟩))
    case b1 =>
      refine { hx := .inl rfl, xfr := rfl, hifs := fun B _ C => ifs_nil, helt := ?_ }
      intro B hB _ C
      obtain ⟨p, hp, rfl⟩ := mem B hB
      exact ev_sub (ev_name rfl (ev_int (it_tup (len6' (by simp)) (by simp) (R := p.M) rfl ⟨rfl, Loc.le_cons _ (Loc.le_refl _) rfl⟩)))
    case c1 =>
      have e1 : List.map (fun B => match B with | .tup [M, _] => M | _ => .none) (List.filter (fun _ => true) (V.items (.lst (ps.map Part.v)))) = ps.map (·.M) := by
        rw [List.filter_eq_self.mpr fun _ _ => rfl]
        show List.map _ (List.map _ _) = _
        rw [List.map_map]; rfl
      rw [e1]
      refine exs_cons (ex_assign_comp false hr.handled (.inl rfl) (ev_name rfl ⟨trivial, len6' (by simpa [V.items] using hl), [], [], fun B => match B with | .tup [_, c] => c | _ => .none, fun _ => true, fr rfl rfl (by decide), ?b2, fun b => ?c2⟩))
      case b2 =>
        refine { hx := .inl rfl, xfr := rfl, hifs := fun B _ C => ifs_nil, helt := ?_ }
        intro B hB _ C
        obtain ⟨p, hp, rfl⟩ := mem B hB
        exact ev_sub (ev_name rfl (ev_int (it_tup (len6' (by simp)) (by simp) (R := .int p.c) rfl ⟨rfl, Loc.le_cons _ (Loc.le_refl _) rfl⟩)))
      case c2 =>
        have e2 : List.map (fun B => match B with | .tup [_, c] => c | _ => .none) (List.filter (fun _ => true) (V.items (.lst (ps.map Part.v)))) = ps.map fun p => V.int p.c := by
          rw [List.filter_eq_self.mpr fun _ _ => rfl]
          show List.map _ (List.map _ _) = _
          rw [List.map_map]; rfl
        rw [e2]
        have ei : (ps.map fun p => V.int p.c) = (ps.map (·.c)).map .int := by rw [List.map_map]; rfl
        refine exs_cons (ex_if (tst_cmp (ev_bin (ev_name rfl (ev_int (op_mod (by decide) (ev_int (cmp_eq ⟨_, rfl, ?_⟩))))))))
        split
        · refine exs_ret (ev_tuple (args_val (ev_call l.fmean (l.fn (fn_fmean P)) (args_cons (ev_val (ev_name rfl (args_nil (kws_cons (ev_val (ev_name rfl (kws_nil ?_)))))))))))
          refine ⟨1, _, _, Room.deeper hr _, c_fmean l h.fmOk fm (.inl rfl) (.inl rfl), ?_, fun x e => e⟩
          intro M hM
          refine args_val (ev_builtin l.sum (args_val (ev_name rfl (args_val_nil ?_))))
          rw [ei]
          exact bi_sum hr.handled (args_val_nil ⟨len6' (by simp), M, hM, rfl⟩)
        · refine exs_nil (exs_ret (ev_tuple (args_val (ev_call l.fmean (l.fn (fn_fmean P)) (args_cons (ev_iter l.iter (ev_name rfl ⟨_, rfl, args_nil (kws_cons (ev_iter l.iter (ev_name rfl ⟨_, rfl, kws_nil ?_⟩)))⟩)))))))
          refine ⟨1, _, _, Room.deeper hr _, c_fmean l h.fmOk fm (.inr (.inr rfl)) (.inr (.inr rfl)), ?_, fun x e => e⟩
          intro M hM
          refine args_val (ev_builtin l.sum (args_val (ev_name rfl (args_val_nil ?_))))
          rw [ei]
          exact bi_sum hr.handled (args_val_nil ⟨len6' (by simp), M, hM, rfl⟩)
/-- _law_joined of parts with items -/
theorem c_joined (l : Land (K7 P) F) {ps : List Part} (h : Ps ps) (turn : Int) {q : Int} (hc : pcnt ps ≠ 0) (hq : psum ps = q * pcnt ps) :
    Calls F (.ref 68) 2 [.val (.lst (ps.map Part.v)), .val (.int turn)] [] [] (fun R => ∃ r, FV r (q * Un 10) ∧ R = .tup [.flt r, .int (pcnt ps)]) (fun _ => False) := by
  obtain ⟨r, fm, hr⟩ := h.some hc hq
  intro A H O s vals kvals rm ws hl ar
  refine wpAny_mono (c_joinedG l h turn fm A H O s vals kvals rm ws hl ar) ?_ ?_
  · rintro v s' ⟨H', R, n, ws', rp, M, e, rfl⟩
    cases e
    exact ⟨H', _, n, ws', rp, r, hr, rfl⟩
  · rintro e s' ⟨H', x, n, ws', fl, hx⟩
    cases hx
end Mine
end
section
open PySem PySem.W PyProof.Rows
set_option linter.unusedVariables false
set_option maxRecDepth 100000
set_option exponentiation.threshold 3000
namespace Mine
open PySem.Float64 (decode val add sub mul div fma neg abs cmp isZero isFinite isInf ofInt Right pack infMag zero sgn)
variable {F : Fix} {P : Params}
abbrev intsV (ys : List Int) : List V := ys.map .int
set_option maxHeartbeats 4000000 in
/-- _law_holds -/
theorem c_holds (l : Land (K7 P) F) {ps : List Part} (h : Ps ps) (us : List Int) (turn : Int) (hu : us.length ≤ 16) (hc : pcnt ps = us.length) (hs : psum ps = isum us) (hq : us ≠ [] → ∃ q, isum us = q * us.length ∧ q.natAbs ≤ 2 ^ 53) :
    Calls F (.ref 75) 3 [.val (.lst (ps.map Part.v)), .val (.lst (intsV us)), .val (.int turn)] [] [] (fun R => R = .bool true) (fun _ => False) := by
  refine calls_of (names := ["parts", "units", "turn"]) (l.fn (fn_holds P)) (by decide) (by intro x hx; simp at hx; rcases hx with rfl | rfl | rfl <;> exact .inl rfl) rfl (fun s vals kvals hb h1 h2 => ?_) fun A L hr => ?_
  · match vals, kvals, h1, h2 with
    | [v, u, t], [], _, _ => exact .of_eq rfl
  · conv => arg 3; whnf
    have units := (Room.deeper hr (callEnvC (fdAt (K7 P) 21) L 75)).units
    have rm : Room (F.fn A (fdAt (K7 P) 21) 75 L).A 2 := Room.deeper hr _
    have ui : (F.fn A (fdAt (K7 P) 21) 75 L).A.units + 10 < cLine := by
      show (A.deeper (callEnvC (fdAt (K7 P) 21) L 75)).units + 10 < cLine
      omega
    refine exs_cons (ex_try (isFn_fn ..) ?_)
    by_cases hus : us = []
    · subst hus
      have hc0 : pcnt ps = 0 := by rw [hc]; rfl
      refine exs_let (.inl rfl) (ev_sub (ev_call l.joined (l.fn (fn_join P)) (args_cons (ev_val (ev_name rfl (args_cons (ev_val (ev_name rfl (args_nil (kws_nil ⟨2, _, _, rm, c_joinedG l h turn (h.none hc0), ?_, ?_⟩))))))))))
      · rintro R ⟨M, e, _⟩; cases e
      · intro x e
        cases e
        refine hd_named (isFn_fn ..) l.stat (matches_own l.cls) rfl rfl fun e => ?_
        refine exs_ret (ev_bool_op (bo_cons (ev_cmp (ev_name rfl (ev_list (args_val_nil ⟨len6' (by simp), cmp_eqNil ?_ (tr_bool ?_)⟩))))))
        · show (F.fn A (fdAt (K7 P) 21) 75 L).A.units + 1 < cLine
          omega
        · refine bo_last (ev_cmp (ev_type l.str (args_val (ev_name rfl (args_val_nil (bi_str_exc l.cls ?_ (ev_str (cmp_eqS ?_))))))))
          · show (F.fn A (fdAt (K7 P) 21) 75 L).A.units + 2 < cLine
            omega
          · show V.bool _ = V.bool true
            simp
    · obtain ⟨q, hq1, hq2⟩ := hq hus
      have hlen : 0 < us.length := by rcases us with _ | ⟨a, us⟩ <;> simp at hus ⊢
      have hc0 : pcnt ps ≠ 0 := by rw [hc]; omega
      refine exs_let (.inl rfl) (ev_sub (ev_call l.joined (l.fn (fn_join P)) (args_cons (ev_val (ev_name rfl (args_cons (ev_val (ev_name rfl (args_nil (kws_nil ⟨2, _, _, rm, c_joined l h turn hc0 (q := q) (by rw [hs, hc, hq1]), ?_, fun _ e => e.elim⟩))))))))))
      rintro R ⟨r, fr, rfl⟩
      refine ev_int (it_tup (len6' (by simp)) (by simp) (R := .flt r) rfl (exs_nil ?_))
      have nf := (dv_fv (y := q) (p := 10) (b := 1024) rfl (by decide) hq2)
      have nif := nf.notInf
      refine exs_ret (ev_bool_op (bo_cons (ev_cmp (ev_name rfl (ev_list (args_val_nil ⟨len6' (by simp), cmp_neNil (by omega) (tr_bool ?_)⟩))))))
      have ne : (!(intsV us).isEmpty) = true := by rcases us with _ | ⟨a, us⟩ <;> simp at hus ⊢
      rw [ne]
      refine bo_cons (ev_cmp (ev_name rfl (ev_bin (ev_bin (ev_builtin l.sum (args_val (ev_name rfl (args_val_nil (bi_sum hr.handled (ev_builtin l.len (args_val (ev_name rfl (args_val_nil (bi_len_lst (len6' (by simp; omega)) ?_)))))))))))))) 
      have e1 : (isum us).fdiv ((intsV us).length : Int) = q := by
        rw [hq1, List.length_map, Int.fdiv_eq_ediv_of_nonneg _ (by omega)]
        exact Int.mul_ediv_cancel _ (by omega)
      refine op_fdiv (by simp; omega) (noPylong (by simp; omega)) ?_
      rw [e1]
      refine ev_int (op_div_ii (by decide) (fun h => by unfold dv at nif; rw [nif] at h; cases h) (cmp_eqF (tr_bool ?_)))
      have e2 : (Float64.cmp r (Float64.ofFrac (decide (q < 0) != decide ((1024 : Int) < 0)) q.natAbs (1024 : Int).natAbs) == some .eq) = true := by
        have := fr.cmp nf
        unfold dv at this
        rw [this]; simp
      rw [e2]
      exact bo_last (ev_builtin l.isinstance (args_val (ev_name rfl (args_val (ev_glob l.float (args_val_nil (bi_isfloat (b := true) rfl rfl)))))))
end Mine
end
section
open PySem PySem.W PyProof.Rows
set_option linter.unusedVariables false
set_option maxRecDepth 100000
set_option exponentiation.threshold 3000
namespace Mine
open PySem.Float64 (decode val add sub mul div fma neg abs cmp isZero isFinite isInf ofInt Right pack infMag zero sgn)
/-- a name holds a list of the frame's own -/
abbrev HasO (l : Loc) (x : Str) (b : Addr) (As : List V) : Prop := l.lookup x = some (.own b As)
/-- an item and its 1024ths -/
structure It where
  A : V
  u : Int
structure It.ok (i : It) : Prop where
  nv : Nv i.A (i.u * Un 10)
  nm : i.A.nm
  sm : i.A.sm
  scal : i.A.scal
  abs : i.u.natAbs ≤ 2 ^ 48
  dvd : ∃ k, i.u = 720720 * k
def us (its : List It) : List Int := its.map (·.u)
abbrev AllOk (its : List It) : Prop := ∀ i ∈ its, i.ok
theorem isum_append : ∀ a b : List Int, isum (a ++ b) = isum a + isum b
  | [], b => by simp [isum]
  | x :: a, b => by simp only [List.cons_append, isum, isum_append a b]; omega
theorem us_dvd : ∀ (its : List It), AllOk its → ∃ k, isum (us its) = 720720 * k
  | [], _ => ⟨0, rfl⟩
  | i :: its, h => by
    obtain ⟨k, hk⟩ := us_dvd its fun j hj => h j (List.mem_cons_of_mem _ hj)
    obtain ⟨m, hm⟩ := (h i List.mem_cons_self).dvd
    refine ⟨m + k, ?_⟩
    show i.u + isum (us its) = _
    rw [hk, hm, Int.mul_add]
theorem us_abs : ∀ (its : List It), AllOk its → (isum (us its)).natAbs ≤ its.length * 2 ^ 48
  | [], _ => by simp [us, isum]
  | i :: its, h => by
    have ih := us_abs its fun j hj => h j (List.mem_cons_of_mem _ hj)
    have hi := (h i List.mem_cons_self).abs
    show (i.u + isum (us its)).natAbs ≤ (its.length + 1) * 2 ^ 48
    rw [Nat.add_mul]; omega
theorem dvd_16 : ∀ c : Nat, 1 ≤ c → c ≤ 16 → ∃ m : Int, 720720 = m * c := by
  intro c h1 h2
  have : ∀ c ∈ List.range 17, 1 ≤ c → 720720 % c = 0 := by decide
  have h := this c (List.mem_range.mpr (by omega)) h1
  refine ⟨((720720 / c : Nat) : Int), ?_⟩
  have := Nat.div_mul_cancel (Nat.dvd_of_mod_eq_zero h)
  have e : ((720720 / c * c : Nat) : Int) = 720720 := by rw [this]; rfl
  rw [← e]; simp
theorem us_mean (its : List It) (h : AllOk its) (h1 : its ≠ []) (h2 : its.length ≤ 16) : ∃ q, isum (us its) = q * its.length ∧ q.natAbs ≤ 2 ^ 53 := by
  have hl : 1 ≤ its.length := by rcases its with _ | ⟨a, t⟩ <;> simp at h1 ⊢
  obtain ⟨k, hk⟩ := us_dvd its h
  obtain ⟨m, hm⟩ := dvd_16 its.length hl h2
  refine ⟨m * k, by rw [hk, hm]; grind, ?_⟩
  have ha := us_abs its h
  have e : (isum (us its)).natAbs = (m * k).natAbs * its.length := by
    rw [hk, hm, show m * (its.length : Int) * k = m * k * (its.length : Int) by grind, Int.natAbs_mul]; rfl
  have : (m * k).natAbs * 1 ≤ (m * k).natAbs * its.length := Nat.mul_le_mul_left _ hl
  have : its.length * 2 ^ 48 ≤ 16 * 2 ^ 48 := Nat.mul_le_mul_right _ h2
  omega
/-- mean and size of items -/
def PartOf (its : List It) (A : V) : Prop :=
  (its = [] ∧ A = .tup [.int 0, .int 0]) ∨ (its ≠ [] ∧ ∃ r q, A = .tup [.flt r, .int its.length] ∧ FV r (q * Un 10) ∧ isum (us its) = q * its.length)
theorem PartOf.part {its : List It} {A : V} (h : PartOf its A) (hl : its.length ≤ 16) : ∃ p : Part, p.v = A ∧ p.ok ∧ p.c = its.length ∧ p.q * p.c = isum (us its) := by
  rcases h with ⟨rfl, rfl⟩ | ⟨hne, r, q, rfl, hr, hq⟩
  · refine ⟨⟨.int 0, 0, 0⟩, rfl, ⟨?_, trivial, show (0 : Int).natAbs ≤ 2 ^ 53 by decide, by decide⟩, rfl, rfl⟩
    have := nv_int (i := 0) (by decide)
    rwa [Int.zero_mul] at this ⊢
  · exact ⟨⟨.flt r, q, its.length⟩, rfl, ⟨.inr (.inl ⟨r, rfl, hr⟩), trivial, trivial, by show (its.length : Int).natAbs ≤ 20; omega⟩, rfl, hq.symm⟩
def It.part (i : It) (c : Int) : Part := ⟨i.A, i.u, c⟩
theorem It.ok.part {i : It} (h : i.ok) {c : Int} (hc : c.natAbs ≤ 20) : (i.part c).ok := ⟨h.nv, h.nm, h.sm, hc⟩
/-- the pile: of each old item and all younger old ones -/
inductive PileOf : List It → List V → Prop
  | nil : PileOf [] []
  | cons {o : It} {os : List It} {PL : List V} {A : V} : PileOf os PL → PartOf (o :: os) A → PileOf (o :: os) (PL ++ [A])
theorem PileOf.length {os : List It} {PL : List V} (h : PileOf os PL) : PL.length = os.length := by
  induction h with
  | nil => rfl
  | cons _ _ ih => simp [ih]
theorem PileOf.top {os : List It} {PL : List V} (h : PileOf os PL) (hne : os ≠ []) : ∃ A PL', PL = PL' ++ [A] ∧ PartOf os A := by
  cases h with
  | nil => exact absurd rfl hne
  | cons h1 h2 => exact ⟨_, _, rfl, h2⟩
theorem ps_two {p1 p2 : Part} {i1 i2 : List It} {a1 a2 : Int} (h1 : p1.ok) (h2 : p2.ok) (e1 : p1.q * p1.c = a1) (e2 : p2.q * p2.c = a2) (hb : a1.natAbs + a2.natAbs ≤ 2 ^ 53) : Ps [p1, p2] ∧ psum [p1, p2] = a1 + a2 ∧ pcnt [p1, p2] = p1.c + p2.c := by
  refine ⟨⟨fun p hp => ?_, by simp, ?_⟩, ?_, ?_⟩
  · simp only [List.mem_cons, List.not_mem_nil, or_false] at hp
    rcases hp with rfl | rfl
    · exact h1
    · exact h2
  · simp only [pabs, List.map_cons, List.map_nil, asum, e1, e2]; omega
  · simp only [psum, List.map_cons, List.map_nil, isum, e1, e2]; omega
  · simp only [pcnt, List.map_cons, List.map_nil, isum]; omega
variable {F : Fix} {P : Params}
/-- parts put together are the part of all their items -/
theorem c_join_its (l : Land (K7 P) F) {ps : List Part} (h : Ps ps) (turn : Int) {its : List It} (ok : AllOk its) (hl : its.length ≤ 16) (hne : its ≠ []) (hc : pcnt ps = its.length) (hs : psum ps = isum (us its)) :
    Calls F (.ref 68) 2 [.val (.lst (ps.map Part.v)), .val (.int turn)] [] [] (fun R => PartOf its R) (fun _ => False) := by
  obtain ⟨q, hq, _⟩ := us_mean its ok hne hl
  have hl0 : 0 < its.length := by rcases its with _ | ⟨a, t⟩ <;> simp at hne ⊢
  intro A H O s vals kvals rm ws hlv ar
  refine wpAny_mono (c_joined l h turn (q := q) (by rw [hc]; omega) (by rw [hs, hc, hq]) A H O s vals kvals rm ws hlv ar) ?_ fun _ _ p => p
  rintro v s' ⟨H', R, n, ws', rp, r, hr, rfl⟩
  exact ⟨H', _, n, ws', rp, .inr ⟨hne, r, q, by rw [hc], hr, hq⟩⟩
theorem c_holds_its (l : Land (K7 P) F) {ps : List Part} (h : Ps ps) (turn : Int) {its : List It} (ok : AllOk its) (hl : its.length ≤ 16) (hc : pcnt ps = its.length) (hs : psum ps = isum (us its)) :
    Calls F (.ref 75) 3 [.val (.lst (ps.map Part.v)), .val (.lst (intsV (us its))), .val (.int turn)] [] [] (fun R => R = .bool true) (fun _ => False) :=
  c_holds l h (us its) turn (by simpa [us] using hl) (by rw [hc]; simp [us]) hs fun hne => by
    have := us_mean its ok (fun e => hne (by rw [e]; rfl)) hl
    simpa [us] using this
noncomputable abbrev ΓL (F : Fix) (A : Around) (P : Params) (L : Addr) : Cx := F.fn A (fdAt (K7 P) 24) 80 L
noncomputable abbrev bL (P : Params) : List Stmt := match (bdAt (K7 P) 24).drop 7 with | .For _ _ b _ _ :: _ => b | _ => []
/-- the state between the parts of a turn -/
structure Sta (b1 b2 : Addr) (steps : List Int) (olds yngs : List It) (PL : List V) (young : V) (l : Loc) : Prop where
  steps : Has l "steps" (.lst (intsV steps))
  queue : Has l "queue" (.lst ((olds ++ yngs).map (·.A)))
  units : Has l "units" (.lst (intsV (us (olds ++ yngs))))
  pile : HasO l "pile" b1 PL
  waiting : HasO l "waiting" b2 (yngs.map (·.A))
  hyoung : Has l "young" young
  ok : AllOk (olds ++ yngs)
  len : (olds ++ yngs).length ≤ 16
  pileOf : PileOf olds PL
  youngOf : PartOf yngs young
def Inv (b1 b2 : Addr) (steps : List Int) (l : Loc) : Prop := ∃ olds yngs PL young told, Sta b1 b2 steps olds yngs PL young l ∧ Has l "told" told ∧ PartOf (olds ++ yngs) told
end Mine
end
section
open PySem PySem.W PyProof.Rows
set_option linter.unusedVariables false
set_option maxRecDepth 100000
set_option exponentiation.threshold 3000
namespace Mine
open PySem.Float64 (decode val add sub mul div fma neg abs cmp isZero isFinite isInf ofInt Right pack infMag zero sgn)
variable {F : Fix} {P : Params}
theorem ok_left {a b : List It} (h : AllOk (a ++ b)) : AllOk a := fun i hi => h i (List.mem_append_left _ hi)
theorem ok_right {a b : List It} (h : AllOk (a ++ b)) : AllOk b := fun i hi => h i (List.mem_append_right _ hi)
theorem us_append (a b : List It) : us (a ++ b) = us a ++ us b := by simp [us]
/-- parts of single items, and one more -/
theorem ps_ones {p : Part} {its : List It} (ok : AllOk its) (hp : p.ok) (hl : its.length ≤ 16) (hb : its.length * 2 ^ 48 + (p.q * p.c).natAbs ≤ 2 ^ 53) : Ps (its.map (fun i => i.part 1) ++ [p]) ∧ psum (its.map (fun i => i.part 1) ++ [p]) = isum (us its) + p.q * p.c ∧ pcnt (its.map (fun i => i.part 1) ++ [p]) = its.length + p.c := by
  have ab : ∀ (its : List It), AllOk its → pabs (its.map (fun i => i.part 1) ++ [p]) ≤ its.length * 2 ^ 48 + (p.q * p.c).natAbs := by
    intro its
    induction its with
    | nil => intro _; simp [pabs, asum]
    | cons i its ih =>
      intro h
      have h1 := ih fun j hj => h j (List.mem_cons_of_mem _ hj)
      have h2 := (h i List.mem_cons_self).abs
      simp only [pabs, List.map_cons, List.cons_append, asum, List.length_cons, Nat.succ_mul] at h1 ⊢
      have e : (i.part 1).q * (i.part 1).c = i.u := by show i.u * 1 = i.u; omega
      rw [e]; omega
  have sm : ∀ (its : List It), psum (its.map (fun i => i.part 1) ++ [p]) = isum (us its) + p.q * p.c ∧ pcnt (its.map (fun i => i.part 1) ++ [p]) = its.length + p.c := by
    intro its
    induction its with
    | nil => simp [psum, pcnt, isum, us]
    | cons i its ih =>
      have e : (i.part 1).q * (i.part 1).c = i.u := by show i.u * 1 = i.u; omega
      have e' : (i.part 1).c = 1 := rfl
      have e2 : (i.part 1).q = i.u := rfl
      simp only [psum, pcnt, us, List.map_cons, List.cons_append, isum, List.length_cons, e', e2] at ih ⊢
      omega
  refine ⟨⟨fun q hq => ?_, by simp; omega, Nat.le_trans (ab its ok) hb⟩, sm its⟩
  rcases List.mem_append.mp hq with hq | hq
  · obtain ⟨i, hi, rfl⟩ := List.mem_map.mp hq
    exact (ok i hi).part (by decide)
  · rw [List.mem_singleton.mp hq]; exact hp
set_option maxHeartbeats 8000000 in
/-- the turn's end: what is told of the queue -/
theorem segC (l : Land (K7 P) F) {A : Around} {L : Addr} (hr : Room A 5) {loc : Loc} {b1 b2 : Addr} {steps : List Int} {olds yngs : List It} {PL : List V} {young : V} {t : Int} (st : Sta b1 b2 steps olds yngs PL young loc) (ht : Has loc "turn" (.int t)) {QF : Fl → Loc → Prop} :
    Exs (ΓL F A P L) loc ((bL P).drop 3) (Fl.loop (Inv b1 b2 steps) QF) NoX := by
  have rm : Room (ΓL F A P L).A 4 := Room.deeper hr _
  have ui : (ΓL F A P L).A.units + 10 < cLine := by have := rm.units; omega
  have hlen := st.len
  rw [List.length_append] at hlen
  have okO := ok_left st.ok
  have okY := ok_right st.ok
  obtain ⟨py, vy, oky, cy, sy⟩ := st.youngOf.part (by omega)
  have by1 := us_abs yngs okY
  have by2 := us_abs olds okO
  have m1 : yngs.length * 2 ^ 48 ≤ 16 * 2 ^ 48 := Nat.mul_le_mul_right _ (by omega)
  have m2 : olds.length * 2 ^ 48 ≤ 16 * 2 ^ 48 := Nat.mul_le_mul_right _ (by omega)
  have eus : isum (us (olds ++ yngs)) = isum (us olds) + isum (us yngs) := by rw [us_append, isum_append]
  -- with the top known
  have main : ∀ top, PartOf olds top → Exs (ΓL F A P L) (("top", .val top) :: loc) ((bL P).drop 4) (Fl.loop (Inv b1 b2 steps) QF) NoX := by
    intro top htop
    obtain ⟨pt, vt, okt, ct, stt⟩ := htop.part (by omega)
    obtain ⟨Ps2, s2, c2⟩ := ps_two (i1 := olds) (i2 := yngs) okt oky stt sy (by omega)
    have el2 : [top, young] = [pt, py].map Part.v := by simp [vt, vy]
    conv => arg 3; whnf
    refine exs_cons (ex_if (tst_not (tst_val (ev_call l.holds (l.fn (fn_holds P)) (args_cons (ev_val (ev_list (args_val (ev_name rfl (args_val (ev_name (loc_put st.hyoung rfl) (args_val_nil ⟨len6' (by simp), ?_⟩)))))))))))) 
    rw [el2]
    refine args_cons (ev_val (ev_name (loc_put st.units rfl) (args_cons (ev_val (ev_name (loc_put ht rfl) (args_nil (kws_nil ⟨3, _, _, rm.less (by decide), c_holds_its l Ps2 t st.ok st.len (by rw [c2, ct, cy]; simp) (by rw [s2, eus]), ?_, fun _ h => h⟩)))))))
    rintro _ rfl
    refine tr_bool (exs_nil ?_)
    have hb3 : yngs.length * 2 ^ 48 + (pt.q * pt.c).natAbs ≤ 2 ^ 53 := by
      have m3 : yngs.length * 2 ^ 48 + olds.length * 2 ^ 48 ≤ 16 * 2 ^ 48 := by rw [← Nat.add_mul]; exact Nat.mul_le_mul_right _ (by omega)
      rw [stt]
      exact Nat.le_trans (Nat.add_le_add_left by2 _) (Nat.le_trans m3 (by decide))
    have hy16 : yngs.length ≤ 16 := by omega
    obtain ⟨Ps3, s3, c3⟩ := ps_ones (p := pt) (its := yngs) okY okt hy16 hb3
    refine exs_cons (ex_if (tst_not (tst_val (ev_call l.holds (l.fn (fn_holds P)) (args_cons (ev_val (ev_bin (ev_comp_own hr.handled (loc_put st.waiting rfl) (len6' (by simp; omega)) (cl := []) (fr := []) (f := fun B => .tup [B, .int 1]) (p := fun _ => true) ?ga ?gb ?gc ?gd))))))))
    case ga => exact { clos := rfl, hcl := fun y c e => (by cases e), kind := rfl, names := by decide, fr := fun y lv e => (by cases e) }
    case gb =>
      refine { hx := .inl rfl, xfr := rfl, hifs := fun B _ C => ifs_nil, helt := ?_ }
      intro B hB _ C
      exact ev_tuple (args_val (ev_name rfl (args_val (ev_int (args_val_nil ⟨len6' (by simp), rfl, Loc.le_cons _ (Loc.le_refl _) rfl⟩)))))
    case gc =>
      intro R hR
      obtain ⟨B, hB, rfl⟩ := List.mem_map.mp hR
      have hB' := (List.mem_filter.mp hB).1
      obtain ⟨i, hi, rfl⟩ := List.mem_map.mp hB'
      intro C hC
      simp only [List.mem_cons, List.not_mem_nil, or_false] at hC
      rcases hC with rfl | rfl
      · exact (okY i hi).scal
      · trivial
    case gd =>
      have e1 : List.map (fun B => V.tup [B, .int 1]) (List.filter (fun _ => true) (yngs.map (·.A))) ++ [top] = (yngs.map (fun i => i.part 1) ++ [pt]).map Part.v := by
        rw [List.filter_eq_self.mpr fun _ _ => rfl, List.map_map, List.map_append, List.map_map, List.map_cons, List.map_nil, vt]; rfl
      refine ev_list (args_val (ev_name rfl (args_val_nil ⟨len6' (by simp), op_add_lst (len6' (by rw [List.filter_eq_self.mpr fun _ _ => rfl]; simp; omega)) ?_⟩)))
      rw [e1]
      refine args_cons (ev_val (ev_name (loc_put st.units rfl) (args_cons (ev_val (ev_bin (ev_name (loc_put ht rfl) (ev_int (op_add (args_nil (kws_nil ⟨3, _, _, rm.less (by decide), c_holds_its l Ps3 (t + 1) st.ok st.len (by rw [c3, ct]; simp; omega) (by rw [s3, eus, stt]; omega), ?_, fun _ h => h⟩))))))))))
      rintro _ rfl
      refine tr_bool (exs_nil ?_)
      have fin : ∀ told, PartOf (olds ++ yngs) told → Inv b1 b2 steps (("told", .val told) :: ("top", .val top) :: loc) := fun told h => 
        ⟨olds, yngs, PL, young, told, ⟨loc_put (loc_put st.steps rfl) rfl, loc_put (loc_put st.queue rfl) rfl, loc_put (loc_put st.units rfl) rfl, loc_put (loc_put st.pile rfl) rfl, loc_put (loc_put st.waiting rfl) rfl, loc_put (loc_put st.hyoung rfl) rfl, st.ok, st.len, st.pileOf, st.youngOf⟩, rfl, h⟩
      refine exs_let (.inl rfl) (ev_ifexp (tst_cmp (ev_name (loc_put st.queue rfl) (ev_list (args_val_nil ⟨len6' (by simp), cmp_neNil (by omega) ⟨_, rfl, ?_⟩⟩)))))
      by_cases hne : olds ++ yngs = []
      · have e : (!(List.map (·.A) (olds ++ yngs)).isEmpty) = false := by rw [hne]; rfl
        rw [e]
        exact ev_tuple (args_val (ev_int (args_val (ev_int (args_val_nil ⟨len6' (by simp), exs_nil (fin _ (.inl ⟨hne, rfl⟩))⟩)))))
      · have e : (!(List.map (·.A) (olds ++ yngs)).isEmpty) = true := by
          cases h : olds ++ yngs with
          | nil => exact absurd h hne
          | cons a b => rfl
        rw [e]
        refine ev_call l.joined (l.fn (fn_join P)) (args_cons (ev_val (ev_list (args_val (ev_name rfl (args_val (ev_name (loc_put st.hyoung rfl) (args_val_nil ⟨len6' (by simp), ?_⟩))))))))
        rw [el2]
        refine args_cons (ev_val (ev_name (loc_put ht rfl) (args_nil (kws_nil ⟨2, _, _, rm.less (by decide), c_join_its l Ps2 t st.ok st.len hne (by rw [c2, ct, cy]; simp) (by rw [s2, eus]), fun R hR => exs_nil (fin R hR), fun _ h => h⟩))))
  conv => arg 3; whnf
  refine exs_let (.inl rfl) (ev_ifexp (tst_own_nil (.inr rfl) st.pile (by omega) ?_))
  rw [show (if CmpOp.NotEq = CmpOp.Eq then PL.isEmpty else !PL.isEmpty) = !PL.isEmpty from if_neg (by decide)]
  by_cases ho : olds = []
  · have hp := st.pileOf
    subst ho
    cases hp
    exact ev_tuple (args_val (ev_int (args_val (ev_int (args_val_nil ⟨len6' (by simp), main _ (.inl ⟨rfl, rfl⟩)⟩)))))
  · obtain ⟨Atop, PL', hPL, htop⟩ := st.pileOf.top ho
    have hpl := st.pileOf.length
    have e : (!PL.isEmpty) = true := by rw [hPL]; simp
    rw [e]
    refine ev_sub_own st.pile (ev_un (ev_int (op_neg ⟨_, Atop, rfl, st.pile, len6' (by omega), ?_, ?_, main _ htop⟩)))
    · rw [hPL]; simp; omega
    · rw [hPL]
      have : pyIdx (-1) (PL' ++ [Atop]).length = PL'.length := by unfold pyIdx; simp; omega
      rw [this]; simp
end Mine
end
section
open PySem PySem.W PyProof.Rows
set_option linter.unusedVariables false
set_option maxRecDepth 100000
set_option exponentiation.threshold 3000
namespace Mine
open PySem.Float64 (decode val add sub mul div fma neg abs cmp isZero isFinite isInf ofInt Right pack infMag zero sgn)
variable {F : Fix} {P : Params}
def smallOf (y : Int) : Int := (y + 2 ^ 18).fmod (2 ^ 19) - 2 ^ 18
theorem smallOf_abs (y : Int) : (smallOf y).natAbs ≤ 2 ^ 18 := by
  unfold smallOf
  have h1 := Int.fmod_nonneg_of_pos (y + 2 ^ 18) (show (0 : Int) < 2 ^ 19 by decide)
  have h2 := Int.fmod_lt_of_pos (y + 2 ^ 18) (show (0 : Int) < 2 ^ 19 by decide)
  omega
/-- what comes in -/
def newIt (st : Int) (odd : Bool) : It := if odd then ⟨.flt (dv (smallOf (st.fdiv 3) * 720720) 1024), smallOf (st.fdiv 3) * 720720⟩ else ⟨.int (smallOf (st.fdiv 3) * 720720), smallOf (st.fdiv 3) * 720720 * 1024⟩
theorem newIt_ok (st : Int) (odd : Bool) : (newIt st odd).ok := by
  have hm := smallOf_abs (st.fdiv 3)
  unfold newIt
  generalize smallOf (st.fdiv 3) = m at hm
  cases odd with
  | true =>
    exact ⟨.inr (.inl ⟨_, rfl, dv_fv (p := 10) rfl (by decide) (by omega)⟩), trivial, trivial, trivial, by show (m * 720720).natAbs ≤ 2 ^ 48; omega, ⟨m, by show m * 720720 = _; omega⟩⟩
  | false =>
    refine ⟨?_, trivial, by show (m * 720720).natAbs ≤ 2 ^ 53; omega, trivial, by show (m * 720720 * 1024).natAbs ≤ 2 ^ 48; omega, ⟨m * 1024, by show m * 720720 * 1024 = _; omega⟩⟩
    have := nv_int (i := m * 720720) (by omega)
    rw [un_10] at this
    show Nv (.int (m * 720720)) (m * 720720 * 1024 * Un 10)
    rwa [Int.mul_assoc (m * 720720)]
theorem fmod2 (i : Nat) : (i : Int).fmod 2 = ((i % 2 : Nat) : Int) := by
  rw [Int.fmod_eq_emod_of_nonneg _ (by decide)]; omega
theorem odd_beq (t : Nat) : ((t : Int).fmod 2 == 1) = decide (t % 2 = 1) := by rw [fmod2]; apply Bool.eq_iff_iff.mpr; simp; omega
set_option maxHeartbeats 8000000 in
/-- what comes in, and on -/
theorem segB (l : Land (K7 P) F) {A : Around} {L : Addr} (hr : Room A 5) {loc : Loc} {b1 b2 : Addr} {steps : List Int} {olds yngs : List It} {PL : List V} {young : V} {t : Nat} {st : Int} (sta : Sta b1 b2 steps olds yngs PL young loc) (ht : Has loc "turn" (.int t)) (hs : Has loc "step" (.int st)) (hl : st.fmod 3 ≠ 0 → (olds ++ yngs).length ≤ 15) {QF : Fl → Loc → Prop} :
    Exs (ΓL F A P L) loc ((bL P).drop 2) (Fl.loop (Inv b1 b2 steps) QF) NoX := by
  have rm : Room (ΓL F A P L).A 4 := Room.deeper hr _
  have next := fun (loc : Loc) yngs young (s : Sta b1 b2 steps olds yngs PL young loc) h => segC l (A := A) (L := L) hr (t := (t : Int)) (QF := QF) s h
  conv => arg 3; whnf
  refine exs_cons (ex_if (tst_cmp (ev_bin (ev_name hs (ev_int (op_mod (by decide) (ev_int (cmp_ne ⟨_, rfl, ?_⟩))))))))
  by_cases c : st.fmod 3 = 0
  · rw [show (st.fmod 3 != 0) = false by simp [c]]
    exact exs_nil (next loc yngs young sta ht)
  · rw [show (st.fmod 3 != 0) = true by simp [c]]
    have hlen := hl c
    have hm := smallOf_abs (st.fdiv 3)
    have iok := newIt_ok st (decide (t % 2 = 1))
    refine exs_let (.inl rfl) (ev_bin (ev_bin (ev_bin (ev_bin (ev_bin (ev_name hs (ev_int (op_fdiv (by decide) (noPylong (by decide)) ?_))))))))
    refine ev_bin (ev_int (ev_int (op_pow (by decide) (by decide) (op_add ?_))))
    refine ev_bin (ev_int (ev_int (op_pow (by decide) (by decide) (op_mod (by decide) ?_))))
    refine ev_bin (ev_int (ev_int (op_pow (by decide) (by decide) (op_sub ?_))))
    refine ev_int (op_mul ?_ (mulOk_of_bits (m := 60) (n := 60) (bits_small (by show (smallOf (st.fdiv 3)).natAbs ≤ 2 ^ 53; omega)) (bits_small (by decide)) (by decide)))
    show Exs _ (("item", .val (.int (smallOf (st.fdiv 3) * 720720))) :: loc) _ _ _
    have hul : olds.length + yngs.length ≤ 15 := by simpa using hlen
    have fin : ∀ lc : Loc, Has lc "steps" (.lst (intsV steps)) → Has lc "queue" (.lst ((olds ++ yngs).map (·.A) ++ [(newIt st (decide (t % 2 = 1))).A])) → Has lc "units" (.lst (intsV (us (olds ++ yngs)) ++ [.int (newIt st (decide (t % 2 = 1))).u])) → HasO lc "pile" b1 PL → HasO lc "waiting" b2 (yngs.map (·.A) ++ [(newIt st (decide (t % 2 = 1))).A]) → Has lc "young" young → Has lc "turn" (.int t) → Has lc "item" (newIt st (decide (t % 2 = 1))).A →
        Exs (ΓL F A P L) lc (match (bL P).drop 2 with | .If _ [_, _, _, _, _, s] _ _ :: _ => [s] | _ => []) (Fl.go (ΓL F A P L) ((bL P).drop 3) (Fl.loop (Inv b1 b2 steps) QF) NoX) NoX := by
      intro lc f1 f2 f3 f4 f5 f6 f7 f8
      generalize newIt st (decide (t % 2 = 1)) = i at iok f2 f3 f5 f8
      have ok' : AllOk (olds ++ (yngs ++ [i])) := by
        intro j hj
        rw [← List.append_assoc] at hj
        rcases List.mem_append.mp hj with hj | hj
        · exact sta.ok j hj
        · rw [List.mem_singleton.mp hj]; exact iok
      have hl16 : (olds ++ (yngs ++ [i])).length ≤ 16 := by rw [← List.append_assoc, List.length_append]; simp only [List.length_cons, List.length_nil]; omega
      have hyl : (yngs ++ [i]).length ≤ 16 := by rw [List.length_append] at hl16; omega
      have okY : AllOk (yngs ++ [i]) := ok_right ok'
      have okY' : AllOk yngs := ok_left okY
      have hyl' : yngs.length ≤ 15 := by rw [List.length_append] at hlen; omega
      obtain ⟨py, vy, oky, cy, sy⟩ := sta.youngOf.part (by omega)
      have a1 := us_abs yngs okY'
      have a2 := iok.abs
      have m1 : yngs.length * 2 ^ 48 ≤ 15 * 2 ^ 48 := Nat.mul_le_mul_right _ hyl'
      have e1 : (i.part 1).q * (i.part 1).c = i.u := by show i.u * 1 = i.u; omega
      obtain ⟨Ps2, s2, c2⟩ := ps_two (i1 := yngs) (i2 := [i]) oky (iok.part (c := 1) (by decide)) sy e1 (by omega)
      conv => arg 3; whnf
      refine exs_let (.inl rfl) (ev_call l.joined (l.fn (fn_join P)) (args_cons (ev_val (ev_list (args_val (ev_name f6 (args_val (ev_tuple (args_val (ev_name f8 (args_val (ev_int (args_val_nil ⟨len6' (by simp), args_val_nil ⟨len6' (by simp), ?_⟩⟩)))))))))))))
      rw [show [young, V.tup [i.A, .int 1]] = [py, i.part 1].map Part.v by simp only [List.map_cons, List.map_nil, vy]; rfl]
      refine args_cons (ev_val (ev_name f7 (args_nil (kws_nil ⟨2, _, _, rm.less (by decide), c_join_its l Ps2 t okY hyl (by simp) ?_ ?_, fun R hR => ?_, fun _ h => h⟩))))
      · rw [c2, cy]; show (yngs.length : Int) + 1 = _; simp
      · rw [s2, us_append, isum_append]; simp [us, isum]
      · refine exs_nil (next _ (yngs ++ [i]) R ⟨loc_put f1 rfl, ?_, ?_, loc_put f4 rfl, ?_, rfl, ok', hl16, sta.pileOf, hR⟩ (loc_put f7 rfl))
        · have := f2
          rw [← List.append_assoc, List.map_append]; exact loc_put f2 rfl
        · rw [← List.append_assoc, us_append, intsV, List.map_append]; exact loc_put f3 rfl
        · rw [List.map_append]; exact loc_put f5 rfl
    refine exs_let (.inl rfl) (ev_bin (ev_name (loc_put sta.units rfl) (ev_list (args_val (ev_ifexp (tst_cmp (ev_bin (ev_name (loc_put ht rfl) (ev_int (op_mod (by decide) (ev_int (cmp_eq ⟨_, rfl, ?_⟩)))))))))))) 
    rw [odd_beq]
    have wlen : (yngs.map (·.A)).length < sizeLine := by
      have : yngs.length ≤ 15 := by rw [List.length_append] at hlen; omega
      exact Nat.lt_of_le_of_lt (by simpa using this) (by decide)
    by_cases o : t % 2 = 1
    · have en : newIt st (decide (t % 2 = 1)) = ⟨.flt (dv (smallOf (st.fdiv 3) * 720720) 1024), smallOf (st.fdiv 3) * 720720⟩ := by rw [decide_eq_true o]; rfl
      rw [en] at fin
      rw [decide_eq_true o]
      refine ev_name rfl (args_val_nil ⟨len6' (by simp), op_add_lst (len6' (by simp [us]; omega)) ?_⟩)
      refine exs_let (.inl rfl) (ev_ifexp (tst_cmp (ev_bin (ev_name (loc_put (loc_put ht rfl) rfl) (ev_int (op_mod (by decide) (ev_int (cmp_eq ⟨_, rfl, ?_⟩))))))))
      rw [odd_beq, decide_eq_true o]
      have nf := (dv_fv (y := smallOf (st.fdiv 3) * 720720) (p := 10) (b := 1024) rfl (by decide) (by omega)).notInf
      refine ev_bin (ev_name rfl (ev_int (op_div_ii (by decide) (fun h => by unfold dv at nf; rw [nf] at h; cases h) ?_)))
      refine exs_let (.inl rfl) (ev_bin (ev_name (loc_put (loc_put (loc_put sta.queue rfl) rfl) rfl) (ev_list (args_val (ev_name rfl (args_val_nil ⟨len6' (by simp), op_add_lst (len6' (by simp; omega)) ?_⟩))))))
      refine exs_cons (ex_append (loc_put (loc_put (loc_put (loc_put sta.waiting rfl) rfl) rfl) rfl) (ev_name rfl ⟨_, loc_put (loc_put (loc_put (loc_put sta.waiting rfl) rfl) rfl) rfl, wlen, ?_⟩))
      exact fin _ (loc_put (loc_put (loc_put (loc_put (loc_put sta.steps rfl) rfl) rfl) rfl) rfl) rfl rfl (loc_put (loc_put (loc_put (loc_put (loc_put sta.pile rfl) rfl) rfl) rfl) rfl) rfl (loc_put (loc_put (loc_put (loc_put (loc_put sta.hyoung rfl) rfl) rfl) rfl) rfl) (loc_put (loc_put (loc_put (loc_put (loc_put ht rfl) rfl) rfl) rfl) rfl) rfl
    · have en : newIt st (decide (t % 2 = 1)) = ⟨.int (smallOf (st.fdiv 3) * 720720), smallOf (st.fdiv 3) * 720720 * 1024⟩ := by rw [decide_eq_false o]; rfl
      rw [en] at fin
      rw [decide_eq_false o]
      refine ev_bin (ev_name rfl (ev_int (op_mul ?_ (mulOk_of_bits (m := 60) (n := 60) (bits_small (by omega)) (bits_small (by decide)) (by decide)))))
      refine args_val_nil ⟨len6' (by simp), op_add_lst (len6' (by simp [us]; omega)) ?_⟩
      refine exs_let (.inl rfl) (ev_ifexp (tst_cmp (ev_bin (ev_name (loc_put (loc_put ht rfl) rfl) (ev_int (op_mod (by decide) (ev_int (cmp_eq ⟨_, rfl, ?_⟩))))))))
      rw [odd_beq, decide_eq_false o]
      refine ev_name rfl ?_
      refine exs_let (.inl rfl) (ev_bin (ev_name (loc_put (loc_put (loc_put sta.queue rfl) rfl) rfl) (ev_list (args_val (ev_name rfl (args_val_nil ⟨len6' (by simp), op_add_lst (len6' (by simp; omega)) ?_⟩))))))
      refine exs_cons (ex_append (loc_put (loc_put (loc_put (loc_put sta.waiting rfl) rfl) rfl) rfl) (ev_name rfl ⟨_, loc_put (loc_put (loc_put (loc_put sta.waiting rfl) rfl) rfl) rfl, wlen, ?_⟩))
      exact fin _ (loc_put (loc_put (loc_put (loc_put (loc_put sta.steps rfl) rfl) rfl) rfl) rfl) rfl rfl (loc_put (loc_put (loc_put (loc_put (loc_put sta.pile rfl) rfl) rfl) rfl) rfl) rfl (loc_put (loc_put (loc_put (loc_put (loc_put sta.hyoung rfl) rfl) rfl) rfl) rfl) (loc_put (loc_put (loc_put (loc_put (loc_put ht rfl) rfl) rfl) rfl) rfl) rfl
end Mine
end
section
open PySem PySem.W PyProof.Rows
set_option linter.unusedVariables false
set_option maxRecDepth 100000
set_option exponentiation.threshold 3000
namespace Mine
open PySem.Float64 (decode val add sub mul div fma neg abs cmp isZero isFinite isInf ofInt Right pack infMag zero sgn)
variable {F : Fix} {P : Params}
theorem slc_one (a : V) (as : List V) : slc (a :: as) (some 1) none = as := by
  have c1 : clipAt (a :: as).length 1 = 1 := by unfold clipAt; simp; omega
  simp only [slc, Option.elim, c1]
  rw [List.take_of_length_le (by simp)]; rfl
/-- what stays known while the pile is made -/
structure Kp (steps : List Int) (rest : List It) (t : Nat) (st : Int) (l : Loc) : Prop where
  steps : Has l "steps" (.lst (intsV steps))
  queue : Has l "queue" (.lst (rest.map (·.A)))
  units : Has l "units" (.lst (intsV (us rest)))
  turn : Has l "turn" (.int t)
  step : Has l "step" (.int st)
theorem Kp.put {steps : List Int} {rest : List It} {t : Nat} {st : Int} {l : Loc} (k : Kp steps rest t st l) {x : Str} {lv : LV} (h : (x == "steps" || x == "queue" || x == "units" || x == "turn" || x == "step") = false := by decide) : Kp steps rest t st ((x, lv) :: l) := by
  simp only [Bool.or_eq_false_iff] at h
  obtain ⟨⟨⟨⟨h1, h2⟩, h3⟩, h4⟩, h5⟩ := h
  have sym : ∀ {a b : Str}, (a == b) = false → (b == a) = false := fun {a b} e => by rw [Bool.eq_false_iff] at e ⊢; intro z; exact e (by rw [eq_of_beq z]; exact beq_self_eq_true _)
  exact ⟨loc_put k.steps (sym h1), loc_put k.queue (sym h2), loc_put k.units (sym h3), loc_put k.turn (sym h4), loc_put k.step (sym h5)⟩
set_option maxHeartbeats 8000000 in
theorem segA (l : Land (K7 P) F) {A : Around} {L : Addr} (hr : Room A 5) {loc : Loc} {b1 b2 : Addr} {steps : List Int} {olds yngs : List It} {PL : List V} {young told : V} {t : Nat} {st : Int} (sta : Sta b1 b2 steps olds yngs PL young loc) (hto : Has loc "told" told) (pto : PartOf (olds ++ yngs) told) (ht : Has loc "turn" (.int t)) (hs : Has loc "step" (.int st)) {QF : Fl → Loc → Prop} :
    Exs (ΓL F A P L) loc ((bL P).drop 1) (Fl.loop (Inv b1 b2 steps) QF) NoX := by
  have rm : Room (ΓL F A P L).A 4 := Room.deeper hr _
  have ui : (ΓL F A P L).A.units + 10 < cLine := by have := rm.units; omega
  have next := fun (loc : Loc) olds yngs PL young (s : Sta b1 b2 steps olds yngs PL young loc) h1 h2 h3 => segB l (A := A) (L := L) hr (t := t) (st := st) (QF := QF) s h1 h2 h3
  -- the eldest leaves
  have leave : ∀ o rest, olds ++ yngs = o :: rest → Exs (ΓL F A P L) loc (match (bL P).drop 1 with | .If _ b _ _ :: _ => b | _ => []) (Fl.go (ΓL F A P L) ((bL P).drop 2) (Fl.loop (Inv b1 b2 steps) QF) NoX) NoX := by
    intro o rest hor
    have ok : AllOk (o :: rest) := hor ▸ sta.ok
    have okr : AllOk rest := fun j hj => ok j (List.mem_cons_of_mem _ hj)
    have oko : o.ok := ok o List.mem_cons_self
    have len : rest.length + 1 ≤ 16 := by have := sta.len; rw [hor] at this; simpa using this
    have qu := sta.queue
    have un := sta.units
    rw [hor] at qu un pto
    -- the pile's top goes
    have pop : ∀ (os yngs' : List It) (PL : List V) (young : V) (lc : Loc), rest = os ++ yngs' → Kp steps rest t st lc → HasO lc "pile" b1 PL → HasO lc "waiting" b2 (yngs'.map (·.A)) → Has lc "young" young → PileOf (o :: os) PL → PartOf yngs' young →
        Exs (ΓL F A P L) lc (match (bL P).drop 1 with | .If _ [_, _, _, _, _, s] _ _ :: _ => [s] | _ => []) (Fl.go (ΓL F A P L) ((bL P).drop 2) (Fl.loop (Inv b1 b2 steps) QF) NoX) NoX := by
      intro os yngs' PL young lc hrest kp h1 h2 h3 hp hy
      have hpl := hp.length
      cases hp with
      | @cons _ _ PL' Atop hp' htop =>
        have hol : os.length ≤ 15 := by rw [hrest, List.length_append] at len; omega
        have hpl' := hp'.length
        conv => arg 3; whnf
        refine exs_cons (ex_expr_any (ev_pop h1 (Nat.lt_of_le_of_lt (show PL'.length ≤ 15 by omega) (by decide)) (exs_nil ?_)))
        have kp' : Kp steps rest t st (("pile", .own b1 PL') :: lc) := kp.put
        refine next _ os yngs' PL' young ⟨kp'.steps, by rw [← hrest]; exact kp'.queue, by rw [← hrest]; exact kp'.units, rfl, loc_put h2 rfl, loc_put h3 rfl, by rw [← hrest]; exact okr, by rw [← hrest]; omega, hp', hy⟩ kp'.turn kp'.step fun _ => by rw [← hrest]; omega
    obtain ⟨pt, vt, okt, ct, stt⟩ := pto.part (by simpa using len)
    have a1 := us_abs (o :: rest) ok
    have a2 := oko.abs
    have m1 : (o :: rest).length * 2 ^ 48 ≤ 16 * 2 ^ 48 := Nat.mul_le_mul_right _ (by simpa using len)
    have e1 : (o.part (-1)).q * (o.part (-1)).c = -o.u := by show o.u * -1 = -o.u; omega
    obtain ⟨Ps2, s2, c2⟩ := ps_two (i1 := o :: rest) (i2 := [o]) okt (oko.part (c := -1) (by decide)) stt e1 (by omega)
    conv => arg 3; whnf
    refine exs_let (.inl rfl) (ev_sub (ev_name qu (ev_int (it_lst (len6' (by simp; omega)) (by simp; omega) (R := o.A) rfl ?_))))
    refine exs_let (.inl rfl) (ev_slice (ev_name (loc_put qu rfl) ⟨_, rfl, len6' (by simp; omega), pt_some (ev_int ⟨1, rfl, pt_none ?_⟩)⟩))
    rw [show List.map (·.A) (o :: rest) = o.A :: rest.map (·.A) from rfl, slc_one]
    refine exs_let (.inl rfl) (ev_slice (ev_name (loc_put (loc_put un rfl) rfl) ⟨_, rfl, len6' (by simp [us]; omega), pt_some (ev_int ⟨1, rfl, pt_none ?_⟩)⟩))
    rw [show intsV (us (o :: rest)) = .int o.u :: intsV (us rest) from rfl, slc_one]
    refine exs_cons (ex_if (tst_not (tst_val (ev_call l.holds (l.fn (fn_holds P)) (args_cons (ev_val (ev_list (args_val (ev_name (loc_put (loc_put (loc_put hto rfl) rfl) rfl) (args_val (ev_tuple (args_val (ev_name rfl (args_val (ev_un (ev_int (op_neg (args_val_nil ⟨len6' (by simp), args_val_nil ⟨len6' (by simp), ?_⟩⟩))))))))))))))))))
    rw [show [told, V.tup [o.A, .int (-1)]] = [pt, o.part (-1)].map Part.v by simp only [List.map_cons, List.map_nil, vt]; rfl]
    refine args_cons (ev_val (ev_name rfl (args_cons (ev_val (ev_name (loc_put (loc_put (loc_put ht rfl) rfl) rfl) (args_nil (kws_nil ⟨3, _, _, rm.less (by decide), c_holds_its l Ps2 t okr (by omega) ?_ ?_, ?_, fun _ h => h⟩)))))))
    · rw [c2, ct]; show ((o :: rest).length : Int) + -1 = _; simp; omega
    · rw [s2]; show o.u + isum (us rest) + -o.u = _; omega
    rintro _ rfl
    refine tr_bool (exs_nil ?_)
    have kp : Kp steps rest t st (("units", .val (.lst (intsV (us rest)))) :: ("queue", .val (.lst (rest.map (·.A)))) :: ("eldest", .val o.A) :: loc) :=
      ⟨loc_put (loc_put (loc_put sta.steps rfl) rfl) rfl, rfl, rfl, loc_put (loc_put (loc_put ht rfl) rfl) rfl, loc_put (loc_put (loc_put hs rfl) rfl) rfl⟩
    have hp1 : HasO (("units", .val (.lst (intsV (us rest)))) :: ("queue", .val (.lst (rest.map (·.A)))) :: ("eldest", .val o.A) :: loc) "pile" b1 PL := loc_put (loc_put (loc_put sta.pile rfl) rfl) rfl
    have hw1 : HasO (("units", .val (.lst (intsV (us rest)))) :: ("queue", .val (.lst (rest.map (·.A)))) :: ("eldest", .val o.A) :: loc) "waiting" b2 (yngs.map (·.A)) := loc_put (loc_put (loc_put sta.waiting rfl) rfl) rfl
    have hy1 : Has (("units", .val (.lst (intsV (us rest)))) :: ("queue", .val (.lst (rest.map (·.A)))) :: ("eldest", .val o.A) :: loc) "young" young := loc_put (loc_put (loc_put sta.hyoung rfl) rfl) rfl
    generalize (("units", LV.val (.lst (intsV (us rest)))) :: ("queue", .val (.lst (rest.map (·.A)))) :: ("eldest", .val o.A) :: loc : Loc) = lc at kp hp1 hw1 hy1
    refine exs_cons (ex_if (tst_own_nil (.inl rfl) hp1 (by omega) ?_))
    rw [show (if CmpOp.Eq = CmpOp.Eq then PL.isEmpty else !PL.isEmpty) = PL.isEmpty from if_pos rfl]
    have hpo := sta.pileOf
    by_cases ho : olds = []
    · subst ho
      cases hpo
      have hyo : yngs = o :: rest := hor
      refine exs_let (.inl rfl) (ev_tuple (args_val (ev_int (args_val (ev_int (args_val_nil ⟨len6' (by simp), ?_⟩))))))
      refine exs_cons (ex_while (fun m l => ∃ ys zs PL part, yngs = ys ++ zs ∧ m = ys.length ∧ HasO l "waiting" b2 (ys.map (·.A)) ∧ HasO l "pile" b1 PL ∧ PileOf zs PL ∧ Has l "part" part ∧ PartOf zs part ∧ Kp steps rest t st l) yngs.length ⟨yngs, [], [], _, by simp, rfl, loc_put hw1 rfl, loc_put hp1 rfl, .nil, rfl, .inl ⟨rfl, rfl⟩, kp.put⟩ ?_)
      clear kp hp1 hw1 hy1 lc
      rintro m lc ⟨ys, zs, PL, part, hyz, rfl, f1, f2, f3, f4, f5, kp⟩
      refine tst_own_nil (.inr rfl) f1 (by omega) ?_
      rw [show (if CmpOp.NotEq = CmpOp.Eq then (ys.map (·.A)).isEmpty else !(ys.map (·.A)).isEmpty) = !(ys.map (·.A)).isEmpty from if_neg (by decide)]
      have hyl : ys.length + zs.length ≤ 16 := by rw [← List.length_append, ← hyz, hyo]; simpa using len
      have okz : AllOk (ys ++ zs) := by rw [← hyz, hyo]; exact ok
      rcases List.eq_nil_or_concat ys with rfl | ⟨ys', y, rfl⟩
      · -- all are on the pile
        rw [show (!(List.map (fun x => x.A) ([] : List It)).isEmpty) = false from rfl]
        have hz : zs = o :: rest := by rw [← hyo, hyz]; rfl
        refine exs_let (.inl rfl) (ev_tuple (args_val (ev_int (args_val (ev_int (args_val_nil ⟨len6' (by simp), exs_nil ?_⟩))))))
        exact pop rest [] PL _ _ (by simp) kp.put (loc_put f2 rfl) (loc_put f1 rfl) rfl (hz ▸ f3) (.inl ⟨rfl, rfl⟩)
      · rw [List.concat_eq_append] at *
        rw [show (!(List.map (fun x => x.A) (ys' ++ [y])).isEmpty) = true by simp]
        simp only [List.length_append, List.length_cons, List.length_nil] at hyl
        have oky : y.ok := okz y (by simp)
        have okyz : AllOk (y :: zs) := fun j hj => okz j (by
          rcases List.mem_cons.mp hj with rfl | hj
          · simp
          · exact List.mem_append_right _ hj)
        have hzl : (y :: zs).length ≤ 16 := by simp only [List.length_cons]; omega
        obtain ⟨pz, vz, okz', cz, sz⟩ := f5.part (by omega)
        have b1' := us_abs zs fun j hj => okyz j (List.mem_cons_of_mem _ hj)
        have b2' := oky.abs
        have m2 : zs.length * 2 ^ 48 ≤ 15 * 2 ^ 48 := Nat.mul_le_mul_right _ (by omega)
        have e2 : (y.part 1).q * (y.part 1).c = y.u := by show y.u * 1 = y.u; omega
        obtain ⟨Ps3, s3, c3⟩ := ps_two (i1 := [y]) (i2 := zs) (oky.part (c := 1) (by decide)) okz' e2 sz (by omega)
        have f1' : HasO lc "waiting" b2 (ys'.map (·.A) ++ [y.A]) := by have := f1; rw [List.map_append] at this; exact this
        refine exs_let (.inl rfl) (ev_call l.joined (l.fn (fn_join P)) (args_cons (ev_val (ev_list (args_val (ev_tuple (args_val (ev_pop f1' (Nat.lt_of_le_of_lt (show (ys'.map (·.A)).length ≤ 16 by simp; omega) (by decide)) (args_val (ev_int (args_val_nil ⟨len6' (by simp), ?_⟩)))))))))))
        refine args_val (ev_name (loc_put f4 rfl) (args_val_nil ⟨len6' (by simp), ?_⟩))
        rw [show [V.tup [y.A, .int 1], part] = [y.part 1, pz].map Part.v by simp only [List.map_cons, List.map_nil, vz]; rfl]
        have kp1 : Kp steps rest t st (("waiting", .own b2 (ys'.map (·.A))) :: lc) := kp.put
        refine args_cons (ev_val (ev_name kp1.turn (args_nil (kws_nil ⟨2, _, _, rm.less (by decide), c_join_its l Ps3 t okyz hzl (by simp) ?_ ?_, fun R hR => ?_, fun _ h => h⟩))))
        · rw [c3, cz]; show (1 : Int) + zs.length = _; simp; omega
        · rw [s3]; rfl
        · have hpl := f3.length
          refine exs_cons (ex_append (loc_put (loc_put f2 rfl) rfl) (ev_name rfl ⟨PL, loc_put (loc_put f2 rfl) rfl, Nat.lt_of_le_of_lt (show PL.length ≤ 16 by omega) (by decide), ?_⟩))
          refine exs_nil ⟨ys'.length, by simp, ys', y :: zs, PL ++ [R], R, by rw [hyz]; simp, rfl, rfl, rfl, .cons f3 hR, rfl, hR, kp1.put.put⟩
    · obtain ⟨o', os, hoo⟩ : ∃ o' os, olds = o' :: os := by
        cases olds with
        | nil => exact absurd rfl ho
        | cons a b => exact ⟨a, b, rfl⟩
      subst hoo
      obtain ⟨rfl, hrest⟩ : o' = o ∧ os ++ yngs = rest := by simpa using hor
      have hne : PL.isEmpty = false := by
        cases hpo with
        | cons _ _ => simp
      rw [hne]
      exact exs_nil (pop os yngs PL young lc hrest.symm kp hp1 hw1 hy1 hpo sta.youngOf)
  have stay : (st.fmod 3 ≠ 0 → (olds ++ yngs).length ≤ 15) → Exs (ΓL F A P L) loc [] (Fl.go (ΓL F A P L) ((bL P).drop 2) (Fl.loop (Inv b1 b2 steps) QF) NoX) NoX := fun h => exs_nil (next loc olds yngs PL young sta ht hs h)
  conv => arg 3; whnf
  refine exs_cons (ex_if (tst_bool (all_and (tst_cmp (ev_name sta.queue (ev_list (args_val_nil ⟨len6' (by simp), cmp_neNil (by omega) ⟨_, rfl, ?_⟩⟩)))))))
  by_cases hne : olds ++ yngs = []
  · have e : (!(List.map (·.A) (olds ++ yngs)).isEmpty) = false := by rw [hne]; rfl
    rw [e]
    exact stay fun _ => by rw [hne]; simp
  · obtain ⟨o, rest, hor⟩ : ∃ o rest, olds ++ yngs = o :: rest := by
      cases h : olds ++ yngs with
      | nil => exact absurd h hne
      | cons a b => exact ⟨a, b, rfl⟩
    have e : (!(List.map (·.A) (olds ++ yngs)).isEmpty) = true := by rw [hor]; rfl
    rw [e]
    refine all_and (tst_bool (all_or (tst_cmp (ev_bin (ev_name hs (ev_int (op_mod (by decide) (ev_int (cmp_eq ⟨_, rfl, ?_⟩)))))))))
    by_cases c : st.fmod 3 = 0
    · rw [show (st.fmod 3 == 0) = true by simp [c]]
      exact all_and_nil (leave o rest hor)
    · rw [show (st.fmod 3 == 0) = false by simp [c]]
      refine all_or (tst_cmp (ev_builtin l.len (args_val (ev_name sta.queue (args_val_nil (bi_len_lst (len6' (by have := sta.len; simp at this ⊢; omega)) (ev_int (cmp_eq ⟨_, rfl, ?_⟩))))))))
      by_cases c' : (olds ++ yngs).length = 16
      · rw [show (((List.map (·.A) (olds ++ yngs)).length : Int) == 16) = true by rw [List.length_map, c']; rfl]
        exact all_and_nil (leave o rest hor)
      · rw [show (((List.map (·.A) (olds ++ yngs)).length : Int) == 16) = false by rw [List.length_map]; simp; simp at c'; omega]
        exact all_or_nil (stay fun _ => by have := sta.len; omega)
end Mine
end
section
open PySem PySem.W PyProof.Rows
set_option linter.unusedVariables false
set_option maxRecDepth 100000
namespace Mine
variable {F : Fix} {P : Params}
set_option maxHeartbeats 8000000 in
theorem c_law (l : Land (K7 P) F) (ns : List Int) (hn : ns.length ≤ 63) :
    Calls F (.ref 80) 5 [.val (.lst (intsV ns))] [] [] (fun R => R = .bool true) (fun _ => False) := by
  refine calls_of (names := ["script"]) (l.fn (fn_law P)) (by decide) (by intro x hx; simp at hx; subst hx; exact .inl rfl) rfl (fun s vals kvals hb h1 h2 => ?_) fun A L hr => ?_
  · match vals, kvals, h1, h2 with
    | [v], [], _, _ => exact .of_eq rfl
  · have turn := fun (loc : Loc) b1 b2 steps olds yngs PL young told (t : Nat) st sta hto pto ht hs (QF : Fl → Loc → Prop) => segA l (A := A) (L := L) hr (loc := loc) (b1 := b1) (b2 := b2) (steps := steps) (olds := olds) (yngs := yngs) (PL := PL) (young := young) (told := told) (t := t) (st := st) sta hto pto ht hs (QF := QF)
    conv => arg 3; whnf
    refine exs_let (.inl rfl) (ev_bin (ev_name rfl (ev_list ?_)))
    refine args_val (ev_int (args_val (ev_int (args_val (ev_int (args_val (ev_int (args_val (ev_int (args_val (ev_int (args_val_nil ⟨len6' (by simp), ?_⟩))))))))))))
    refine op_add_lst (len6 (by simp; omega)) ?_
    have hms : intsV ns ++ [V.int 4, V.int 2, V.int 3, V.int 8, V.int 3, V.int 7] = intsV (ns ++ [4, 2, 3, 8, 3, 7]) := by simp
    rw [hms]
    have hml : (ns ++ [4, 2, 3, 8, 3, 7]).length ≤ 69 := by simp; omega
    generalize ns ++ [4, 2, 3, 8, 3, 7] = ms at hml
    refine exs_let (.inl rfl) (ev_list (args_val_nil ⟨len6' (by simp), ?_⟩))
    refine exs_let (.inl rfl) (ev_list (args_val_nil ⟨len6' (by simp), ?_⟩))
    refine exs_cons (ex_assign (ev_nil_own fun b1 => ?_) (.inl rfl))
    refine exs_cons (ex_assign (ev_nil_own fun b2 => ?_) (.inl rfl))
    refine exs_let (.inl rfl) (ev_tuple (args_val (ev_int (args_val (ev_int (args_val_nil ⟨len6' (by simp), ?_⟩))))))
    refine exs_let (.inl rfl) (ev_tuple (args_val (ev_int (args_val (ev_int (args_val_nil ⟨len6' (by simp), ?_⟩))))))
    refine exs_cons (ex_for (ev_type l.range (args_val (ev_bin (ev_builtin l.len (args_val (ev_name rfl (args_val_nil (bi_len_lst (len6 (by simp; omega)) (ev_int (op_add (args_val_nil (bi_range1 ?_)))))))))))) (.inl rfl) hr.handled)
    have e17 : ((intsV ms).length : Int) + 17 = ((ms.length + 17 : Nat) : Int) := by simp
    rw [e17]
    refine ⟨small_one (by decide) (by omega), fun _ l => Inv b1 b2 ms l, ⟨[], [], [], _, _, ⟨rfl, rfl, rfl, rfl, rfl, rfl, fun i hi => (by cases hi), by simp, .nil, .inl ⟨rfl, rfl⟩⟩, rfl, .inl ⟨rfl, rfl⟩⟩, ?_, ?_⟩
    · intro t B lc hB ⟨olds, yngs, PL, young, told, sta, hto, pto⟩
      rw [items_rng0] at hB
      have htl : t < ms.length + 17 := by have := (List.getElem?_eq_some_iff.mp hB).1; simpa using this
      rw [List.getElem?_map, List.getElem?_range htl] at hB
      cases hB
      have sta' : Sta b1 b2 ms olds yngs PL young (("turn", .val (.int t)) :: lc) := ⟨loc_put sta.steps rfl, loc_put sta.queue rfl, loc_put sta.units rfl, loc_put sta.pile rfl, loc_put sta.waiting rfl, loc_put sta.hyoung rfl, sta.ok, sta.len, sta.pileOf, sta.youngOf⟩
      have go : ∀ (st : Int) (QF : Fl → Loc → Prop), Exs (ΓL F A P L) (("step", .val (.int st)) :: ("turn", .val (.int t)) :: lc) ((bL P).drop 1) (Fl.loop (Inv b1 b2 ms) QF) NoX := fun st QF =>
        turn _ b1 b2 ms olds yngs PL young told t st ⟨loc_put sta'.steps rfl, loc_put sta'.queue rfl, loc_put sta'.units rfl, loc_put sta'.pile rfl, loc_put sta'.waiting rfl, loc_put sta'.hyoung rfl, sta.ok, sta.len, sta.pileOf, sta.youngOf⟩ (loc_put (loc_put hto rfl) rfl) pto rfl rfl QF
      refine exs_let (.inl rfl) (ev_ifexp (tst_cmp (ev_name rfl (ev_builtin l.len (args_val (ev_name sta'.steps (args_val_nil (bi_len_lst (len6 (by simp; omega)) (cmp_lt ⟨_, rfl, ?_⟩)))))))))
      by_cases c : t < ms.length
      · rw [show decide ((t : Int) < ((intsV ms).length : Int)) = true by simp; omega]
        refine ev_sub (ev_name sta'.steps (ev_name rfl (it_lst (len6 (by simp; omega)) (by simp; omega) (R := .int (ms.getD t 0)) ?_ (go _ _))))
        rw [show pyIdx (t : Int) (intsV ms).length = t by unfold pyIdx; split <;> omega, intsV, List.getElem?_map, List.getD_eq_getElem?_getD, List.getElem?_eq_getElem c]; rfl
      · rw [show decide ((t : Int) < ((intsV ms).length : Int)) = false by simp; omega]
        exact ev_int (go _ _)
    · intro lc h
      exact exs_ret (ev_bool rfl)
end Mine
end
open PySem PySem.W PyProof.Rows
set_option linter.unusedVariables false
set_option maxRecDepth 100000
set_option maxHeartbeats 8000000 in
theorem PySem.Challenge.cw_dn0169_07_holds : PySem.Challenge.rw_dn0169_07.Holds := by
  refine Mine.hd07 ?_
  intro w s₀ s₁ mg mb G Y fa o pm cd doc dV kV ho hd hcd hD hmg hg args vals as hpre hlay hrd hwl hlo
  have T := G.T
  have KX := km_in_of Y
  have hfa : fa = 80 := by
    have e := mg_of KX T.g (n := "law") (v := .ref 80) rfl
    have e' : mg "law" = some (.ref fa) := hmg
    rw [e'] at e
    cases e; rfl
  subst hfa
  wrow_args hpre hlay hrd hwl hlo
  rename IntsAre _ _ => hI
  rename Heap.IsList _ _ _ => hL
  rename PyData.layable0 _ = true => hlay0
  rename ¬ ((63 : Nat) : Int) < _ => hlen
  refine Mine.fin_law (d := 5) (by decide) hL hI hg (fun _ => rfl) (postW_of rfl (w_eq_bool (w_res rfl) w_lit) rfl) ?_
  exact Mine.c_law (P := w.params) ⟨KX, ⟨_, T.g⟩, ⟨_, T.b, T.builtins⟩, T.nolimit⟩ _ (by omega)
#print axioms PySem.Challenge.cw_dn0169_07_holds
