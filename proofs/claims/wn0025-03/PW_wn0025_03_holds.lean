import PyProof.Rows.All
import Wide.All
import OpenK.AllK
import Wide.FinOn
import PySem.Challenge.RW_wn0025_03
open PySem PySem.W PyProof.Rows
set_option Elab.async false
set_option maxRecDepth 100000
set_option linter.unusedVariables false
set_option linter.unusedSimpArgs false
namespace Mine

/-- plain data -/
inductive D where
  | none
  | bool (b : Bool)
  | int (i : Int)
  | str (x : Str)
  | strn (x : Str)
  | strb (x : Str) (B : Nat)
  | tuple (ds : List D)
  | list (ds : List D)


abbrev Led := Addr → Option Obj
/-- ghost: the objects that values may speak of (led), the objects that must be kept (kp) -/
structure Gh where
  led : Led
  kp : Led
  sub : ∀ a o, led a = some o → kp a = some o

def Gh.Le (g g' : Gh) : Prop :=
  (∀ a o, g.led a = some o → g'.led a = some o) ∧ (∀ a o, g.kp a = some o → g'.kp a = some o) ∧ (∀ a o, g'.led a = some o → g.led a = some o ∨ g.kp a = none)
theorem Gh.Le.refl (g : Gh) : g.Le g := ⟨fun _ _ h => h, fun _ _ h => h, fun _ _ h => .inl h⟩
theorem Gh.Le.trans {g g' g'' : Gh} (h : g.Le g') (k : g'.Le g'') : g.Le g'' := by
  refine ⟨fun a o e => k.1 a o (h.1 a o e), fun a o e => k.2.1 a o (h.2.1 a o e), fun a o e => ?_⟩
  rcases k.2.2 a o e with e | e
  · exact h.2.2 a o e
  · right
    cases q : g.kp a with
    | none => rfl
    | some o' => rw [h.2.1 a o' q] at e; cases e

mutual
inductive Val (led : Led) : Value → D → Prop
  | none : Val led Value.none D.none
  | bool (b : Bool) : Val led (Value.bool b) (D.bool b)
  | int (i : Int) (t : Tok) : Val led (Value.int i t) (D.int i)
  | str (x : Str) (t : Tok) : Val led (Value.str x t) (D.str x)
  | strn (x : Str) (t : Tok) (ht : t ≠ 0) : Val led (Value.str x t) (D.strn x)
  | strb (x : Str) (t : Tok) (B : Nat) (ht : t ≠ 0) (hB : t < B) : Val led (Value.str x t) (D.strb x B)
  | tuple {a : Addr} {o : Obj} {vs : List Value} {n : Nat} {ds : List D} : led a = some o → o.cls = .type "tuple" → o.data = .seq vs.toArray n → ValL led vs ds → Val led (Value.ref a) (D.tuple ds)
  | list {a : Addr} {o : Obj} {vs : List Value} {n : Nat} {ds : List D} : led a = some o → o.cls = .type "list" → o.data = .seq vs.toArray n → ValL led vs ds → Val led (Value.ref a) (D.list ds)
inductive ValL (led : Led) : List Value → List D → Prop
  | nil : ValL led [] []
  | cons {v : Value} {vs : List Value} {d : D} {ds : List D} : Val led v d → ValL led vs ds → ValL led (v :: vs) (d :: ds)
end
mutual
theorem Val.mono {led led' : Led} (hs : ∀ a o, led a = some o → led' a = some o) : ∀ {v : Value} {d : D}, Val led v d → Val led' v d
  | _, _, .none => .none
  | _, _, .bool b => .bool b
  | _, _, .int i t => .int i t
  | _, _, .str x t => .str x t
  | _, _, .strn x t ht => .strn x t ht
  | _, _, .strb x t B ht hB => .strb x t B ht hB
  | _, _, .tuple h c e r => .tuple (hs _ _ h) c e (ValL.mono hs r)
  | _, _, .list h c e r => .list (hs _ _ h) c e (ValL.mono hs r)
theorem ValL.mono {led led' : Led} (hs : ∀ a o, led a = some o → led' a = some o) : ∀ {vs : List Value} {ds : List D}, ValL led vs ds → ValL led' vs ds
  | _, _, .nil => .nil
  | _, _, .cons h r => .cons (Val.mono hs h) (ValL.mono hs r)
end
section
variable {led : Led} {v : Value} {d : D} {vs ws : List Value} {ds es : List D}
theorem ValL.length (h : ValL led vs ds) : vs.length = ds.length := by
  induction vs generalizing ds with
  | nil => cases h; rfl
  | cons v vs ih => cases h with | cons _ r => rw [List.length_cons, List.length_cons, ih r]
theorem ValL.append (h : ValL led vs ds) (k : ValL led ws es) : ValL led (vs ++ ws) (ds ++ es) := by
  induction vs generalizing ds with
  | nil => cases h; exact k
  | cons v vs ih => cases h with | cons h r => exact .cons h (ih r)
theorem ValL.get (h : ValL led vs ds) {k : Nat} {d : D} (hk : ds[k]? = some d) : ∃ v, vs[k]? = some v ∧ Val led v d := by
  induction vs generalizing ds k with
  | nil => cases h; cases hk
  | cons v vs ih =>
    cases h with
    | cons h r =>
      cases k with
      | zero => cases hk; exact ⟨v, rfl, h⟩
      | succ k => exact ih r hk
theorem ValL.get' (h : ValL led vs ds) {k : Nat} {v : Value} (hk : vs[k]? = some v) : ∃ d, ds[k]? = some d ∧ Val led v d := by
  induction vs generalizing ds k with
  | nil => cases hk
  | cons v vs ih =>
    cases h with
    | cons h r =>
      cases k with
      | zero => cases hk; exact ⟨_, rfl, h⟩
      | succ k => exact ih r hk
end

/-- an object that is a name space: its slots may turn when an exception passes a frame -/
abbrev Plain (o : Obj) : Prop := ∀ es n, o.data ≠ .dict es n
/-- an object stands as it stood, but for a name space's slots -/
def Up (h' : Heap) (a : Addr) (o : Obj) : Prop := ∃ o', h'.get? a = some o' ∧ o'.data = o.data ∧ (Plain o → o' = o)
theorem Up.of {h' : Heap} {a : Addr} {o : Obj} (e : h'.get? a = some o) : Up h' a o := ⟨o, e, rfl, fun _ => rfl⟩
theorem Up.get {h' : Heap} {a : Addr} {o : Obj} (u : Up h' a o) (hp : Plain o) : h'.get? a = some o := by
  obtain ⟨o', e, _, h⟩ := u
  rw [← h hp]; exact e
theorem Up.trans {h' h'' : Heap} {a : Addr} {o : Obj} (u : Up h' a o) (k : ∀ o', h'.get? a = some o' → Up h'' a o') : Up h'' a o := by
  obtain ⟨o', e, d, h⟩ := u
  obtain ⟨o'', e', d', h'⟩ := k o' e
  refine ⟨o'', e', d'.trans d, fun hp => ?_⟩
  have q := h hp
  subst q
  exact h' hp
theorem Up.no {h' : Heap} {a : Addr} {o : Obj} (u : Up h' a o) (e : h'.get? a = none) : False := by
  obtain ⟨o', e', _⟩ := u
  rw [e] at e'; cases e'
theorem Up.ns {h h' : Heap} {a : Addr} {m : Str → Option Value} (hn : h.Ns a m) (k : ∀ o, h.get? a = some o → Up h' a o) : h'.Ns a m := by
  obtain ⟨o, es, ep, ho, hd, r⟩ := hn
  obtain ⟨o', e', d', _⟩ := k o ho
  exact ⟨o', es, ep, e', d'.trans hd, r⟩
theorem plain_seq {o : Obj} {vs : Array Value} {n : Nat} (h : o.data = .seq vs n) : Plain o := fun es m e => by rw [h] at e; cases e
theorem plain_cell {o : Obj} {v : Option Value} (h : o.data = .cell v) : Plain o := fun es m e => by rw [h] at e; cases e
theorem plain_fields {o : Obj} {v : Array Value} (h : o.data = .fields v) : Plain o := fun es m e => by rw [h] at e; cases e
theorem plain_func {o : Obj} {f : FuncData} (h : o.data = .func f) : Plain o := fun es m e => by rw [h] at e; cases e
theorem Up.cell {h h' : Heap} {c : Addr} {v : Option Value} (hc : h.IsCell c v) (k : ∀ o, h.get? c = some o → Up h' c o) : h'.IsCell c v := by
  obtain ⟨o, ho, hd⟩ := hc
  exact ⟨o, (k o ho).get (plain_cell hd), hd⟩

/-- a growth: all objects are kept; what is new to the ghost is new to the heap -/
structure Grow (g : Gh) (h : Heap) (g' : Gh) (h' : Heap) : Prop where
  keep : ∀ a o, h.get? a = some o → Up h' a o
  ledk : ∀ a o, g.led a = some o → h.get? a = some o → h'.get? a = some o
  led : ∀ a o, g.led a = some o → g'.led a = some o
  kp : ∀ a o, g.kp a = some o → g'.kp a = some o
  new : ∀ a o, g'.kp a = some o → g.kp a = some o ∨ (h.get? a = none ∧ Up h' a o)
  newled : ∀ a o, g'.led a = some o → g.led a = some o ∨ (h.get? a = none ∧ h'.get? a = some o ∧ Plain o)
theorem Grow.refl (g : Gh) (h : Heap) : Grow g h g h := ⟨fun _ _ e => .of e, fun _ _ _ e => e, fun _ _ e => e, fun _ _ e => e, fun _ _ e => .inl e, fun _ _ e => .inl e⟩
theorem none_of_up {h h' : Heap} (k : ∀ a o, h.get? a = some o → Up h' a o) {a : Addr} (e : h'.get? a = none) : h.get? a = none := by
  cases q : h.get? a with
  | none => rfl
  | some o => exact ((k a o q).no e).elim
theorem none_of_keep {h h' : Heap} (k : ∀ a o, h.get? a = some o → h'.get? a = some o) {a : Addr} (e : h'.get? a = none) : h.get? a = none := by
  cases q : h.get? a with
  | none => rfl
  | some o => rw [k a o q] at e; cases e
theorem Grow.trans {g g' g'' : Gh} {h h' h'' : Heap} (x : Grow g h g' h') (y : Grow g' h' g'' h'') : Grow g h g'' h'' where
  keep a o e := (x.keep a o e).trans fun o' e' => y.keep a o' e'
  ledk a o l e := y.ledk a o (x.led a o l) (x.ledk a o l e)
  led a o e := y.led a o (x.led a o e)
  kp a o e := y.kp a o (x.kp a o e)
  new a o e := by
    rcases y.new a o e with e | ⟨e1, e2⟩
    · rcases x.new a o e with e | ⟨e1, e2⟩
      · exact .inl e
      · exact .inr ⟨e1, e2.trans fun o' e' => y.keep a o' e'⟩
    · exact .inr ⟨none_of_up x.keep e1, e2⟩
  newled a o e := by
    rcases y.newled a o e with e | ⟨e1, e2, e3⟩
    · rcases x.newled a o e with q | ⟨e1, e2, e3⟩
      · exact .inl q
      · exact .inr ⟨e1, y.ledk a o e e2, e3⟩
    · exact .inr ⟨none_of_up x.keep e1, e2, e3⟩
theorem Grow.val {g g' : Gh} {h h' : Heap} (x : Grow g h g' h') {v : Value} {d : D} (k : Val g.led v d) : Val g'.led v d := k.mono x.led
theorem Grow.valL {g g' : Gh} {h h' : Heap} (x : Grow g h g' h') {v : List Value} {d : List D} (k : ValL g.led v d) : ValL g'.led v d := k.mono x.led
theorem Grow.kpIn {g g' : Gh} {h h' : Heap} (x : Grow g h g' h') (k : ∀ a o, g.kp a = some o → Up h a o) : ∀ a o, g'.kp a = some o → Up h' a o := fun a o e => by
  rcases x.new a o e with e | e
  · exact (k a o e).trans fun o' e' => x.keep a o' e'
  · exact e.2
theorem Grow.ledIn {g g' : Gh} {h h' : Heap} (x : Grow g h g' h') (k : ∀ a o, g.led a = some o → h.get? a = some o) : ∀ a o, g'.led a = some o → h'.get? a = some o := fun a o e => by
  rcases x.newled a o e with e | e
  · exact x.ledk a o e (k a o e)
  · exact e.2.1
theorem Grow.le {g g' : Gh} {h h' : Heap} (x : Grow g h g' h') (k : ∀ a o, g.kp a = some o → Up h a o) : g.Le g' := ⟨x.led, x.kp, fun a o e => by
  rcases x.newled a o e with e | ⟨e, _⟩
  · exact .inl e
  · right
    cases q : g.kp a with
    | none => rfl
    | some o' => exact ((k a o' q).no e).elim⟩
/-- the heap alone grows (things that no value speaks of) -/
theorem Grow.heap {g : Gh} {h h' : Heap} (k : ∀ a o, h.get? a = some o → h'.get? a = some o) : Grow g h g h' := ⟨fun a o e => .of (k a o e), fun a o _ e => k a o e, fun _ _ e => e, fun _ _ e => e, fun _ _ e => .inl e, fun _ _ e => .inl e⟩

def Gh.add (g : Gh) (a : Addr) (o : Obj) (h : g.kp a = none) : Gh where
  led b := if b = a then some o else g.led b
  kp b := if b = a then some o else g.kp b
  sub b o' e := by
    by_cases q : b = a
    · simp only [q, if_true] at e ⊢; exact e
    · simp only [q, if_false] at e ⊢; exact g.sub b o' e
theorem Gh.add_led (g : Gh) {a : Addr} {o : Obj} (h : g.kp a = none) : (g.add a o h).led a = some o := by simp [Gh.add]

/-- an object of the new heap, new to the old one, is taken into the ghost -/
theorem Grow.add {g g' : Gh} {h h' : Heap} (x : Grow g h g' h') {a : Addr} {o : Obj} (h0 : h.get? a = none) (h1 : h'.get? a = some o) (hp : Plain o) (q : g'.kp a = none) : Grow g h (g'.add a o q) h' where
  keep := x.keep
  ledk := x.ledk
  led b o' e := by
    by_cases hb : b = a
    · subst hb; have := g'.sub _ _ (x.led _ _ e); rw [q] at this; cases this
    · simp only [Gh.add, hb, if_false]; exact x.led b o' e
  kp b o' e := by
    by_cases hb : b = a
    · subst hb; have := x.kp _ _ e; rw [q] at this; cases this
    · simp only [Gh.add, hb, if_false]; exact x.kp b o' e
  new b o' e := by
    by_cases hb : b = a
    · subst hb; simp only [Gh.add, if_true] at e; cases e; exact .inr ⟨h0, .of h1⟩
    · simp only [Gh.add, hb, if_false] at e; exact x.new b o' e
  newled b o' e := by
    by_cases hb : b = a
    · subst hb; simp only [Gh.add, if_true] at e; cases e; exact .inr ⟨h0, h1, hp⟩
    · simp only [Gh.add, hb, if_false] at e; exact x.newled b o' e

/-- a fresh object pushed onto the heap and taken into the ghost -/
theorem Grow.push {g : Gh} {h : Heap} (o : Obj) (hf : o.isFreed = false) (hp : Plain o) (k : ∀ a o, g.kp a = some o → Up h a o) :
    ∃ g', Grow g h g' (h.push o) ∧ g'.led h.objs.size = some o := by
  have hn : h.get? h.objs.size = none := Heap.get?_none_of_le (Nat.le_refl _)
  have hk : g.kp h.objs.size = none := by
    cases q : g.kp h.objs.size with
    | none => rfl
    | some o' => exact ((k _ o' q).no hn).elim
  exact ⟨g.add _ o hk, (Grow.heap fun a o' e => Heap.get?_push_of_some _ e).add hn (Heap.get?_push_size _ hf) hp hk, Gh.add_led ..⟩

theorem kp_none_grow {g g' : Gh} {h h' : Heap} (x : Grow g h g' h') {a : Addr} {o : Obj} (k : g.kp a = none) (e : h.get? a = some o) : g'.kp a = none := by
  cases q : g'.kp a with
  | none => rfl
  | some o' =>
    rcases x.new a o' q with q | ⟨q, _⟩
    · rw [k] at q; cases q
    · rw [e] at q; cases q

structure GrowS (g : Gh) (s : Shared) (g' : Gh) (s' : Shared) : Prop where
  gr : Grow g s.heap g' s'.heap
  eq : s' = { s with heap := s'.heap, toks := s'.toks }
  tk : s.toks ≤ s'.toks
theorem GrowS.refl (g : Gh) (s : Shared) : GrowS g s g s := ⟨.refl _ _, rfl, Nat.le_refl _⟩
theorem GrowS.trans {g g' g'' : Gh} {s s' s'' : Shared} (x : GrowS g s g' s') (y : GrowS g' s' g'' s'') : GrowS g s g'' s'' :=
  ⟨x.gr.trans y.gr, by rw [y.eq, x.eq], Nat.le_trans x.tk y.tk⟩
theorem GrowS.mk' {g g' : Gh} {s : Shared} {h' : Heap} {tk' : Nat} (x : Grow g s.heap g' h') (h : s.toks ≤ tk') : GrowS g s g' { s with heap := h', toks := tk' } := ⟨x, rfl, h⟩
theorem GrowS.toks {g : Gh} {s : Shared} {tk' : Nat} (h : s.toks ≤ tk') : GrowS g s g { s with toks := tk' } := ⟨.refl _ _, rfl, h⟩
abbrev KpIn (g : Gh) (s : Shared) : Prop := (∀ a o, g.kp a = some o → Up s.heap a o) ∧ (∀ a o, g.led a = some o → s.heap.get? a = some o) ∧ 1 ≤ s.toks
theorem GrowS.kpIn {g g' : Gh} {s s' : Shared} (x : GrowS g s g' s') (k : KpIn g s) : KpIn g' s' := ⟨x.gr.kpIn k.1, x.gr.ledIn k.2.1, Nat.le_trans k.2.2 x.tk⟩

inductive Slot where
  | val (d : D)
  | own (a : Addr) (ds : List D)

def Holds (g : Gh) (h : Heap) (v : Value) : Slot → Prop
  | .val d => Val g.led v d
  | .own a ds => v = .ref a ∧ g.kp a = none ∧ ∃ vs n, h.get? a = some { cls := .type "list", data := .seq (vs : List Value).toArray n } ∧ ValL g.led vs ds

theorem Holds.grow {g g' : Gh} {h h' : Heap} (x : Grow g h g' h') {v : Value} : ∀ {sl : Slot}, Holds g h v sl → Holds g' h' v sl
  | .val _, k => x.val k
  | .own a ds, ⟨e, k, vs, n, e2, kv⟩ => ⟨e, kp_none_grow x k e2, vs, n, (x.keep _ _ e2).get (plain_seq rfl), x.valL kv⟩

/-- what is fixed while the law runs -/
structure Cx where
  prog : Program
  w : World
  h₀ : Heap
  mg : Str → Option Value
  mb : Str → Option Value
  G : h₀.Ns mainGlobals mg
  B : h₀.Ns builtinsNs mb
  boot : ∀ x : Str, x ≠ "__name__" → mb x = bootBuiltins x
  nolimit : h₀.NoLimit
  booked : NoneBooked h₀
  fr : List Env
def Cx.push (C : Cx) (env : Env) : Cx := { C with fr := env :: C.fr }
/-- the frames that run stand -/
def FrOk (h₀ h : Heap) (l : List Env) : Prop := ∀ env ∈ l, env.scope.kind ≠ .module ∧ ∃ L o es n, env.frame = some L ∧ h₀.get? L = none ∧ h.get? L = some o ∧ o.data = .dict es n
theorem FrOk.up {h₀ h h' : Heap} {l : List Env} (f : FrOk h₀ h l) (k : ∀ a o es n, h.get? a = some o → o.data = .dict es n → Up h' a o) : FrOk h₀ h' l := fun env he => by
  obtain ⟨hk, L, o, es, n, h1, h2, h3, h4⟩ := f env he
  obtain ⟨o', e', d', _⟩ := k L o es n h3 h4
  exact ⟨hk, L, o', es, n, h1, h2, e', d'.trans h4⟩

theorem FrOk.own {h₀ h h' : Heap} {l : List Env} {L : Addr} {m : Str → Option Value} (f : FrOk h₀ h l) (hn : h'.Ns L m) (k : ∀ b o, b ≠ L → h.get? b = some o → h'.get? b = some o) : FrOk h₀ h' l := fun env he => by
  obtain ⟨hk, L', o, es, n, h1, h2, h3, h4⟩ := f env he
  by_cases q : L' = L
  · subst q
    obtain ⟨o', es', ep', e', d', _⟩ := hn
    exact ⟨hk, L', o', es', ep', h1, h2, e', d'⟩
  · exact ⟨hk, L', o, es, n, h1, h2, k L' o q h3, h4⟩
theorem FrOk.but {h₀ h h' : Heap} {l : List Env} {xs : List Addr} (f : FrOk h₀ h l) (hx : ∀ b ∈ xs, ∃ o, h.get? b = some o ∧ Plain o) (k : ∀ b o, b ∉ xs → h.get? b = some o → Up h' b o) : FrOk h₀ h' l := f.up fun a o es n e d => k a o (fun q => by
  obtain ⟨o', e', hp⟩ := hx a q
  rw [e] at e'; cases e'; exact hp es n d) e

abbrev Sto := Str → Option Slot
def Sto.nil : Sto := fun _ => none
def Sto.set (σ : Sto) (x : Str) (s : Slot) : Sto := fun y => if y = x then some s else σ y

structure Inv (C : Cx) (env : Env) (ws : List Addr) (σ : Sto) (g : Gh) (h : Heap) : Prop where
  base : ∀ a o, C.h₀.get? a = some o → g.led a = some o
  ok : ∀ a o, g.led a = some o → C.h₀.get? a = some o ∨ Plain o
  fr : FrOk C.h₀ h C.fr
  led : ∀ a o, g.led a = some o → h.get? a = some o
  kp : ∀ a o, g.kp a = some o → Up h a o
  ns : ∃ m, h.Ns env.locals m ∧ ∀ x sl, env.kindOf x = some .local → σ x = some sl → ∃ v, m x = some v ∧ Holds g h v sl
  cl : ∀ x sl, env.kindOf x ≠ some .local → σ x = some sl → (env.kindOf x = some .cell ∨ env.kindOf x = some .free) ∧ ∃ c v, env.cells.lookup x = some c ∧ h.IsCell c (some v) ∧ Holds g h v sl ∧ ((∃ o, g.kp c = some o) ∨ c ∈ ws)
  wc : ∀ c ∈ ws, ∃ v, h.IsCell c v
  mt : g.kp env.locals = none ∧ ∀ c ∈ ws, g.kp c = none
  inj : ∀ x y c, env.cells.lookup x = some c → env.cells.lookup y = some c → c ∈ ws → x = y
  own : ∀ x y a ds es, σ x = some (.own a ds) → σ y = some (.own a es) → x = y

theorem Inv.grow {C : Cx} {env : Env} {ws : List Addr} {σ : Sto} {g g' : Gh} {h h' : Heap} (I : Inv C env ws σ g h) (x : Grow g h g' h') : Inv C env ws σ g' h' where
  base a o e := x.led a o (I.base a o e)
  ok a o e := by
    rcases x.newled a o e with e | e
    · exact I.ok a o e
    · exact .inr e.2.2
  fr := I.fr.up fun a o _ _ e _ => x.keep a o e
  led := x.ledIn I.led
  kp := x.kpIn I.kp
  ns := by
    obtain ⟨m, hn, hm⟩ := I.ns
    refine ⟨m, Up.ns hn fun o e => x.keep _ o e, fun y sl hy hs => ?_⟩
    obtain ⟨v, h1, h2⟩ := hm y sl hy hs
    exact ⟨v, h1, h2.grow x⟩
  cl y sl hy hs := by
    obtain ⟨k, c, v, h1, h2, h3, h4⟩ := I.cl y sl hy hs
    exact ⟨k, c, v, h1, Up.cell h2 fun o e => x.keep _ o e, h3.grow x, h4.imp (fun ⟨o, e⟩ => ⟨o, x.kp _ _ e⟩) id⟩
  wc c hc := by
    obtain ⟨v, h2⟩ := I.wc c hc
    exact ⟨v, Up.cell h2 fun o e => x.keep _ o e⟩
  mt := by
    obtain ⟨m, ⟨o, es, ep, ho, _⟩, _⟩ := I.ns
    refine ⟨kp_none_grow x I.mt.1 ho, fun c hc => ?_⟩
    obtain ⟨v, o, h2, _⟩ := I.wc c hc
    exact kp_none_grow x (I.mt.2 c hc) h2
  inj := I.inj
  own := I.own

/-! the frame's changes -/
theorem Inv.sub {C : Cx} {env : Env} {ws : List Addr} {σ τ : Sto} {g : Gh} {h : Heap} (I : Inv C env ws σ g h) (hs : ∀ x s, τ x = some s → σ x = some s) : Inv C env ws τ g h where
  base := I.base
  ok := I.ok
  fr := I.fr
  led := I.led
  kp := I.kp
  ns := by
    obtain ⟨m, hn, hm⟩ := I.ns
    exact ⟨m, hn, fun x sl hx h' => hm x sl hx (hs _ _ h')⟩
  cl x sl hx h' := I.cl x sl hx (hs _ _ h')
  wc := I.wc
  mt := I.mt
  inj := I.inj
  own x y a ds es h1 h2 := I.own x y a ds es (hs _ _ h1) (hs _ _ h2)

/-- objects that change are none of the ghost's -/
theorem Holds.but {g : Gh} {h h' : Heap} {b : Addr} {ob : Obj} (hb : h.get? b = some ob) (hs : Heap.SameBut b h h') (hc : ob.cls ≠ .type "list" ∨ ∀ vs n, ob.data ≠ .seq vs n) {v : Value} : ∀ {sl : Slot}, Holds g h v sl → Holds g h' v sl
  | .val _, k => k
  | .own a ds, ⟨e, k, vs, n, e2, kv⟩ => by
    refine ⟨e, k, vs, n, ?_, kv⟩
    rw [hs.2 a ?_]
    · exact e2
    · rintro rfl
      rw [hb] at e2; cases e2
      rcases hc with hc | hc
      · exact hc rfl
      · exact hc _ _ rfl

/-- a store to a name: to a local of the frame, or to a cell that the frame may write -/
theorem Inv.store {C : Cx} {A : Around} {env : Env} {ws : List Addr} {σ : Sto} {g : Gh} {s : Shared} {x : Str} {v : Value} {sl : Slot} {Q : Unit → Shared → Prop} {E : Value → Shared → Prop}
    (I : Inv C env ws σ g s.heap) (hv : Holds g s.heap v sl) (hk : env.scope.kind = .function)
    (hx : env.kindOf x = some .local ∨ (env.kindOf x = some .cell ∧ ∃ c, env.cells.lookup x = some c ∧ c ∈ ws))
    (ho : ∀ y a ds es, sl = .own a ds → σ y = some (.own a es) → y = x)
    (h : ∀ h' tk', s.toks ≤ tk' → (∀ b o, b ≠ env.locals → b ∉ ws → s.heap.get? b = some o → h'.get? b = some o) → Inv C env ws (σ.set x sl) g h' → Q () { s with heap := h', toks := tk' }) :
    wpAny (model C.prog C.w) A (storeName env x v) Q E s := by
  obtain ⟨m, hn, hm⟩ := I.ns
  obtain ⟨oL, es, ep, hL, hLd, hL2, hL3⟩ := id hn
  have hown : ∀ y z a ds es, (σ.set x sl) y = some (.own a ds) → (σ.set x sl) z = some (.own a es) → y = z := by
    intro y z a ds es h1 h2
    unfold Sto.set at h1 h2
    by_cases hy : y = x <;> by_cases hz : z = x
    · rw [hy, hz]
    · simp only [hy, hz, if_true, if_false] at h1 h2
      cases h1
      exact absurd (ho _ _ _ _ rfl h2) hz
    · simp only [hy, hz, if_true, if_false] at h1 h2
      cases h2
      exact absurd (ho _ _ _ _ rfl h1) hy
    · simp only [hy, hz, if_false] at h1 h2
      exact I.own _ _ _ _ _ h1 h2
  rcases hx with hx | ⟨hx, c, hc, hcw⟩
  · refine wpAny_storeName_local hx hn (fun h' hn' hs => h h' _ (Nat.le_succ _) (fun b o hb _ e => (hs.2 b hb).trans e) ?_) (by rw [hk]; rfl)
    have but : ∀ {w sl'}, Holds g s.heap w sl' → Holds g h' w sl' := fun k => k.but hL hs (.inr fun vs n => by rw [hLd]; exact fun e => by cases e)
    have keep : ∀ b o, b ≠ env.locals → s.heap.get? b = some o → h'.get? b = some o := fun b o hb e => (hs.2 b hb).trans e
    have hkL : ∀ a o, g.kp a = some o → a ≠ env.locals := fun a o e q => by rw [q, I.mt.1] at e; cases e
    refine ⟨I.base, I.ok, I.fr.own hn' keep, fun a o e => keep a o (hkL a o (g.sub _ _ e)) (I.led a o e), fun a o e => (I.kp a o e).trans fun o' e' => .of (keep a o' (hkL a o e) e'), ⟨_, hn', fun y sl' hy hs' => ?_⟩, fun y sl' hy hs' => ?_, fun c hc => ?_, I.mt, I.inj, hown⟩
    · unfold Sto.set at hs'
      by_cases hyx : y = x
      · simp only [hyx, if_true] at hs' ⊢
        cases hs'
        exact ⟨v, rfl, but hv⟩
      · simp only [hyx, if_false] at hs' ⊢
        obtain ⟨w, e1, e2⟩ := hm y sl' hy hs'
        exact ⟨w, e1, but e2⟩
    · unfold Sto.set at hs'
      have hyx : y ≠ x := by rintro rfl; exact hy hx
      simp only [hyx, if_false] at hs'
      obtain ⟨k, c, w, e1, ⟨oc, e2, e2'⟩, e3, e4⟩ := I.cl y sl' hy hs'
      refine ⟨k, c, w, e1, ⟨oc, keep c oc ?_ e2, e2'⟩, but e3, e4⟩
      rintro rfl; rw [hL] at e2; cases e2; rw [hLd] at e2'; cases e2'
    · obtain ⟨w, oc, e2, e2'⟩ := I.wc c hc
      refine ⟨w, oc, keep c oc ?_ e2, e2'⟩
      rintro rfl; rw [hL] at e2; cases e2; rw [hLd] at e2'; cases e2'
  · obtain ⟨v₀, oc, hoc, hocd⟩ := I.wc c hcw
    have hcL : env.locals ≠ c := by rintro e; rw [e, hoc] at hL; cases hL; rw [hLd] at hocd; cases hocd
    refine wpAny_storeName_cell hk hx hc ⟨oc, hoc, hocd⟩ (fun h' hc' hs => h h' s.toks (Nat.le_refl _) (fun b o _ hb e => (hs.2 b (fun q => hb (q ▸ hcw))).trans e) ?_)
    have but : ∀ {w sl'}, Holds g s.heap w sl' → Holds g h' w sl' := fun k => k.but hoc hs (.inr fun vs n => by rw [hocd]; exact fun e => by cases e)
    have keep : ∀ b o, b ≠ c → s.heap.get? b = some o → h'.get? b = some o := fun b o hb e => (hs.2 b hb).trans e
    have hkL : ∀ a o, g.kp a = some o → a ≠ c := fun a o e q => by rw [q, I.mt.2 _ hcw] at e; cases e
    refine ⟨I.base, I.ok, I.fr.but (xs := [c]) (fun b hb => by rw [List.mem_singleton.mp hb]; exact ⟨oc, hoc, plain_cell hocd⟩) (fun b o hb e => .of (keep b o (fun q => hb (by simp [q])) e)), fun a o e => keep a o (hkL a o (g.sub _ _ e)) (I.led a o e), fun a o e => (I.kp a o e).trans fun o' e' => .of (keep a o' (hkL a o e) e'), ⟨m, hn.sameBut hs hcL, fun y sl' hy hs' => ?_⟩, fun y sl' hy hs' => ?_, fun c₁ hc₁ => ?_, I.mt, I.inj, hown⟩
    · unfold Sto.set at hs'
      have hyx : y ≠ x := by rintro rfl; rw [hx] at hy; cases hy
      simp only [hyx, if_false] at hs'
      obtain ⟨w, e1, e2⟩ := hm y sl' hy hs'
      exact ⟨w, e1, but e2⟩
    · unfold Sto.set at hs'
      by_cases hyx : y = x
      · simp only [hyx, if_true] at hs'
        cases hs'
        rw [hyx]
        exact ⟨.inl hx, c, v, hc, hc', but hv, .inr hcw⟩
      · simp only [hyx, if_false] at hs'
        obtain ⟨k, c₁, w, e1, ⟨o₁, e2, e2'⟩, e3, e4⟩ := I.cl y sl' hy hs'
        refine ⟨k, c₁, w, e1, ⟨o₁, keep c₁ o₁ ?_ e2, e2'⟩, but e3, e4⟩
        rintro rfl
        exact hyx (I.inj _ _ _ e1 hc hcw)
    · by_cases hcc : c₁ = c
      · rw [hcc]; exact ⟨_, hc'⟩
      · obtain ⟨w, o₁, e2, e2'⟩ := I.wc c₁ hc₁
        exact ⟨w, o₁, keep c₁ o₁ hcc e2, e2'⟩

/-- an owned list is frozen: values may speak of it -/
theorem Inv.freeze {C : Cx} {env : Env} {ws : List Addr} {σ : Sto} {g : Gh} {h : Heap} {x : Str} {a : Addr} {ds : List D} (I : Inv C env ws σ g h) (hx : σ x = some (.own a ds)) :
    ∃ g', g.Le g' ∧ Inv C env ws (σ.set x (.val (.list ds))) g' h := by
  obtain ⟨m, hn, hm⟩ := I.ns
  obtain ⟨oL, es, ep, hL, hLd, hL2, hL3⟩ := id hn
  have hh : ∃ v, Holds g h v (.own a ds) ∧ (env.kindOf x = some .local → m x = some v) ∧ (env.kindOf x ≠ some .local → ∃ c, env.cells.lookup x = some c ∧ h.IsCell c (some v)) := by
    by_cases hk : env.kindOf x = some .local
    · obtain ⟨v, e1, e2⟩ := hm x _ hk hx
      exact ⟨v, e2, fun _ => e1, fun q => absurd hk q⟩
    · obtain ⟨_, c, v, e1, e2, e3, _⟩ := I.cl x _ hk hx
      exact ⟨v, e3, fun q => absurd q hk, fun _ => ⟨c, e1, e2⟩⟩
  obtain ⟨v, ⟨rfl, hkp, vs, n, ho, hvs⟩, hl, hc⟩ := hh
  have le : g.Le (g.add a { cls := .type "list", data := .seq vs.toArray n } hkp) := by
    refine ⟨fun b o e => ?_, fun b o e => ?_, fun b o e => ?_⟩
    · by_cases q : b = a
      · subst q; have := g.sub _ _ e; rw [hkp] at this; cases this
      · simp only [Gh.add, q, if_false]; exact e
    · by_cases q : b = a
      · subst q; rw [hkp] at e; cases e
      · simp only [Gh.add, q, if_false]; exact e
    · by_cases q : b = a
      · subst q; exact .inr hkp
      · simp only [Gh.add, q, if_false] at e; exact .inl e
  have ne : ∀ b o, h.get? b = some o → o.cls ≠ .type "list" ∨ (∀ vs n, o.data ≠ .seq vs n) → b ≠ a := fun b o e q => by
    rintro rfl; rw [ho] at e; cases e; rcases q with q | q; exact q rfl; exact q _ _ rfl
  have up : ∀ y sl w, y ≠ x → σ y = some sl → Holds g h w sl → Holds (g.add a { cls := .type "list", data := .seq vs.toArray n } hkp) h w sl := fun y sl w hy hs k => by
    cases sl with
    | val d => exact k.mono le.1
    | own b es =>
      obtain ⟨e, k1, vs', n', e2, k2⟩ := k
      have hba : b ≠ a := by rintro rfl; exact hy (I.own _ _ _ _ _ hs hx)
      exact ⟨e, by simp only [Gh.add, hba, if_false]; exact k1, vs', n', e2, k2.mono le.1⟩
  refine ⟨g.add a { cls := .type "list", data := .seq vs.toArray n } hkp, le, fun b o e => le.1 _ _ (I.base b o e), fun b o e => ?_, I.fr, fun b o e => ?_, fun b o e => ?_, ⟨m, hn, fun y sl hy hs => ?_⟩, fun y sl hy hs => ?_, I.wc, ⟨?_, fun c hc => ?_⟩, I.inj, fun y z b ds' es' h1 h2 => ?_⟩
  · by_cases q : b = a
    · simp only [Gh.add, q, if_true] at e; cases e; exact .inr (plain_seq rfl)
    · simp only [Gh.add, q, if_false] at e; exact I.ok b o e
  · by_cases q : b = a
    · simp only [Gh.add, q, if_true] at e; cases e; rw [q]; exact ho
    · simp only [Gh.add, q, if_false] at e; exact I.led b o e
  · by_cases q : b = a
    · simp only [Gh.add, q, if_true] at e; cases e; rw [q]; exact .of ho
    · simp only [Gh.add, q, if_false] at e; exact I.kp b o e
  · unfold Sto.set at hs
    by_cases hyx : y = x
    · simp only [hyx, if_true] at hs; cases hs
      rw [hyx] at hy ⊢
      exact ⟨_, hl hy, .list (Gh.add_led ..) rfl rfl (hvs.mono le.1)⟩
    · simp only [hyx, if_false] at hs
      obtain ⟨w, e1, e2⟩ := hm y sl hy hs
      exact ⟨w, e1, up y sl w hyx hs e2⟩
  · unfold Sto.set at hs
    by_cases hyx : y = x
    · simp only [hyx, if_true] at hs; cases hs
      rw [hyx] at hy ⊢
      obtain ⟨k, c, v', e1, e2, e3, e4⟩ := I.cl x _ hy hx
      obtain ⟨rfl, _⟩ := e3
      exact ⟨k, c, _, e1, e2, .list (Gh.add_led ..) rfl rfl (hvs.mono le.1), e4.imp (fun ⟨o, e⟩ => ⟨o, le.2.1 _ _ e⟩) id⟩
    · simp only [hyx, if_false] at hs
      obtain ⟨k, c, w, e1, e2, e3, e4⟩ := I.cl y sl hy hs
      exact ⟨k, c, w, e1, e2, up y sl w hyx hs e3, e4.imp (fun ⟨o, e⟩ => ⟨o, le.2.1 _ _ e⟩) id⟩
  · have := ne _ _ hL (.inr fun vs n => by rw [hLd]; exact fun e => by cases e)
    simp only [Gh.add, this, if_false]; exact I.mt.1
  · obtain ⟨w, oc, e1, e2⟩ := I.wc c hc
    have := ne _ _ e1 (.inr fun vs n => by rw [e2]; exact fun e => by cases e)
    simp only [Gh.add, this, if_false]; exact I.mt.2 c hc
  · unfold Sto.set at h1 h2
    by_cases hyx : y = x
    · simp only [hyx, if_true] at h1; cases h1
    · by_cases hzx : z = x
      · simp only [hzx, if_true] at h2; cases h2
      · simp only [hyx, hzx, if_false] at h1 h2; exact I.own _ _ _ _ _ h1 h2

end Mine
namespace Mine

abbrev Cont (g : Gh) (s : Shared) (d : D) (Q : Value → Shared → Prop) : Prop := ∀ v g' s', GrowS g s g' s' → Val g'.led v d → Q v s'
abbrev ContL (g : Gh) (s : Shared) (ds : List D) (Q : List Value → Shared → Prop) : Prop := ∀ vs g' s', GrowS g s g' s' → ValL g'.led vs ds → Q vs s'
abbrev ContB (g : Gh) (s : Shared) (b : Bool) (Q : Bool → Shared → Prop) : Prop := ∀ g' s', GrowS g s g' s' → Q b s'
structure Base (C : Cx) (g : Gh) (s : Shared) : Prop where
  base : ∀ a o, C.h₀.get? a = some o → g.led a = some o
  ok : ∀ a o, g.led a = some o → C.h₀.get? a = some o ∨ Plain o
  fr : FrOk C.h₀ s.heap C.fr
/-- tokens: none is 0; what a name is known to hold was made earlier -/
structure TkOk (σ : Sto) (s : Shared) : Prop where
  one : 1 ≤ s.toks
  all : ∀ x y B, σ x = some (.val (.strb y B)) → B ≤ s.toks
theorem TkOk.up {σ : Sto} {s s' : Shared} (h : TkOk σ s) (k : s.toks ≤ s'.toks) : TkOk σ s' := ⟨Nat.le_trans h.one k, fun x y B e => Nat.le_trans (h.all x y B e) k⟩
theorem TkOk.sub {σ τ : Sto} {s : Shared} (h : TkOk σ s) (hs : ∀ x s, τ x = some s → σ x = some s) : TkOk τ s := ⟨h.one, fun x y B e => h.all x y B (hs _ _ e)⟩
theorem TkOk.set {σ : Sto} {s : Shared} {x : Str} {sl : Slot} (h : TkOk σ s) (hd : ∀ y B, sl = .val (.strb y B) → B ≤ s.toks) : TkOk (σ.set x sl) s := ⟨h.one, fun z y B e => by
  unfold Sto.set at e
  by_cases q : z = x
  · simp only [q, if_true, Option.some.injEq] at e; exact hd y B e
  · simp only [q, if_false] at e; exact h.all z y B e⟩
/-- no bound on the token is told -/
abbrev NoB (d : D) : Prop := ∀ y B, d ≠ .strb y B
theorem NoB.slot {d : D} (h : NoB d) {n : Nat} : ∀ y B, Slot.val d = .val (.strb y B) → B ≤ n := fun y B e => by cases e; exact absurd rfl (h y B)
def InvS (C : Cx) (env : Env) (ws : List Addr) (σ : Sto) (g : Gh) (s : Shared) : Prop := Inv C env ws σ g s.heap ∧ TkOk σ s
theorem InvS.grow {C : Cx} {env : Env} {ws : List Addr} {σ : Sto} {g g' : Gh} {s s' : Shared} (I : InvS C env ws σ g s) (x : GrowS g s g' s') : InvS C env ws σ g' s' := ⟨I.1.grow x.gr, I.2.up x.tk⟩
theorem InvS.kp {C : Cx} {env : Env} {ws : List Addr} {σ : Sto} {g : Gh} {s : Shared} (I : InvS C env ws σ g s) : KpIn g s := ⟨I.1.kp, I.1.led, I.2.one⟩
theorem InvS.base {C : Cx} {env : Env} {ws : List Addr} {σ : Sto} {g : Gh} {s : Shared} (I : InvS C env ws σ g s) : Base C g s := ⟨I.1.base, I.1.ok, I.1.fr⟩
theorem Base.grow {C : Cx} {g g' : Gh} {s s' : Shared} (b : Base C g s) (x : GrowS g s g' s') : Base C g' s' := ⟨fun a o e => x.gr.led a o (b.base a o e), fun a o e => (x.gr.newled a o e).elim (b.ok a o) (fun h => .inr h.2.2), b.fr.up fun a o _ _ e _ => x.gr.keep a o e⟩

theorem lift {α : Type} {M : Model} {A : Around} {t : Sem α} {Q : α → Shared → Prop} {E : Value → Shared → Prop} {s : Shared}
    (h : ∀ E' : Value → Shared → Prop, wpAny M A t (fun a s' => s.toks ≤ s'.toks → Q a s') E' s) : wpAny M A t Q E s := wpAny_with_toks (Nat.le_refl _) (h _)

section
variable (C : Cx) (A : Around)
/-- an operation on two values -/
def Op2 (f : Value → Value → Sem Value) (d₁ d₂ d : D) : Prop :=
  ∀ (g : Gh) (s : Shared) (v₁ v₂ : Value) (Q : Value → Shared → Prop) (E : Value → Shared → Prop), Base C g s → KpIn g s → Val g.led v₁ d₁ → Val g.led v₂ d₂ → Cont g s d Q → wpAny (model C.prog C.w) A (f v₁ v₂) Q E s
def Op1 (f : Value → Sem Value) (d₁ d : D) : Prop :=
  ∀ (g : Gh) (s : Shared) (v₁ : Value) (Q : Value → Shared → Prop) (E : Value → Shared → Prop), Base C g s → KpIn g s → Val g.led v₁ d₁ → Cont g s d Q → wpAny (model C.prog C.w) A (f v₁) Q E s
/-- a callable on data -/
def Fn (f : Value) (ds : List D) (d : D) : Prop :=
  ∀ (g : Gh) (s : Shared) (vs : List Value) (Q : Value → Shared → Prop) (E : Value → Shared → Prop), Base C g s → KpIn g s → ValL g.led vs ds → Cont g s d Q → wpAny (model C.prog C.w) A (call f vs) Q E s
variable (env : Env) (ws : List Addr) (σ : Sto)
def Ev (e : Expr) (d : D) : Prop :=
  ∀ (g : Gh) (s : Shared) (Q : Value → Shared → Prop) (E : Value → Shared → Prop), InvS C env ws σ g s → Cont g s d Q → wpAny (model C.prog C.w) A (eval e env) Q E s
def EvL (es : List Expr) (ds : List D) : Prop :=
  ∀ (pos : Pos) (g : Gh) (s : Shared) (Q : List Value → Shared → Prop) (E : Value → Shared → Prop), InvS C env ws σ g s → ContL g s ds Q → wpAny (model C.prog C.w) A (spliced (backTo pos (starEach es env))) Q E s
def EvB (e : Expr) (b : Bool) : Prop :=
  ∀ (g : Gh) (s : Shared) (Q : Bool → Shared → Prop) (E : Value → Shared → Prop), InvS C env ws σ g s → ContB g s b Q → wpAny (model C.prog C.w) A (isTrue e env (eval e env)) Q E s
end

section
variable {C : Cx} {A : Around} {env : Env} {ws : List Addr} {σ : Sto}

theorem Cont.tk {g : Gh} {s : Shared} {d : D} {Q : Value → Shared → Prop} (k : Cont g s d Q) {v : Value} {tk' : Nat} (hv : Val g.led v d) (h : s.toks ≤ tk' := by first | exact Nat.le_succ _ | exact Nat.le_refl _ | omega) : Q v { s with toks := tk' } := k v g _ (GrowS.toks h) hv
theorem Cont.same {g : Gh} {s : Shared} {d : D} {Q : Value → Shared → Prop} (k : Cont g s d Q) {v : Value} (hv : Val g.led v d) : Q v s := k v g s (.refl _ _) hv
theorem Cont.bool {g : Gh} {s : Shared} {b : Bool} {Q : Value → Shared → Prop} (k : Cont g s (.bool b) Q) : Q (.bool b) s := k.same (.bool b)
/-- a fresh object -/
theorem Cont.push {g : Gh} {s : Shared} {d : D} {Q : Value → Shared → Prop} (k : Cont g s d Q) (kp : KpIn g s) (o : Obj) (hf : o.isFreed = false)
    (hv : ∀ g' : Gh, (∀ a o, g.led a = some o → g'.led a = some o) → g'.led s.heap.objs.size = some o → Val g'.led (.ref s.heap.objs.size) d) (hp : Plain o := by exact plain_seq rfl) : Q (.ref s.heap.objs.size) { s with heap := s.heap.push o } := by
  obtain ⟨g', x, hl⟩ := Grow.push (g := g) (h := s.heap) o hf hp kp.1
  exact k _ g' _ ⟨x, rfl, Nat.le_refl _⟩ (hv g' x.led hl)

/-! expressions -/
theorem ev_int {i k pos} : Ev C A env ws σ (.Constant (.int i) k pos) (.int i) := fun g s Q E I c => wpAny_Constant_int (c.tk (.int _ _))
theorem ev_bool {b k pos} : Ev C A env ws σ (.Constant (.bool b) k pos) (.bool b) := fun g s Q E I c => wpAny_Constant_bool c.bool
theorem ev_str {x k pos} : Ev C A env ws σ (.Constant (.str x) k pos) (.str x) := fun g s Q E I c => wpAny_Constant_str (c.tk (.str _ _))
theorem ev_strn {x k pos} : Ev C A env ws σ (.Constant (.str x) k pos) (.strn x) := fun g s Q E I c => wpAny_Constant_str (c.tk (.strn _ _ (Nat.ne_of_gt I.2.one)))
theorem Val.weakb {led : Led} {v : Value} {x : Str} {B : Nat} (h : Val led v (.strb x B)) : Val led v (.str x) := by cases h; exact .str _ _
theorem Ev.weakb {e : Expr} {x : Str} {B : Nat} (h : Ev C A env ws σ e (.strb x B)) : Ev C A env ws σ e (.str x) := fun g s Q E I c => h g s Q E I fun v g' s' x hv => c v g' s' x hv.weakb
theorem Val.weak {led : Led} {v : Value} {x : Str} (h : Val led v (.strn x)) : Val led v (.str x) := by cases h; exact .str _ _
theorem Ev.weak {e : Expr} {x : Str} (h : Ev C A env ws σ e (.strn x)) : Ev C A env ws σ e (.str x) := fun g s Q E I c => h g s Q E I fun v g' s' x hv => c v g' s' x hv.weak

theorem InvS.load {g : Gh} {s : Shared} {x : Str} {sl : Slot} {Q : Value → Shared → Prop} {E : Value → Shared → Prop} (I : InvS C env ws σ g s) (hs : σ x = some sl) (hk : env.scope.kind = .function)
    (h : ∀ v, Holds g s.heap v sl → Q v s) (hn : (x == ("__classdict__" : Str)) = false := by decide) : wpAny (model C.prog C.w) A (loadName env x) Q E s := by
  by_cases hx : env.kindOf x = some .local
  · obtain ⟨m, hm, hl⟩ := I.1.ns
    obtain ⟨v, e1, e2⟩ := hl x sl hx hs
    exact wpAny_loadName_local hk hx hm e1 (h v e2)
  · obtain ⟨hc, c, v, e1, e2, e3, _⟩ := I.1.cl x sl hx hs
    rcases hc with hc | hc
    · exact wpAny_loadName_cell hk hc e1 e2 (h v e3)
    · exact wpAny_loadName_free hk hc e1 e2 (h v e3) hn
theorem ev_name {x : Str} {pos} {d : D} (hs : σ x = some (.val d)) (hk : env.scope.kind = .function) (hd : (x == ("__debug__" : Str)) = false := by decide)
    (hn : (x == ("__classdict__" : Str)) = false := by decide) : Ev C A env ws σ (.Name x pos) d :=
  fun g s Q E I c => wpAny_Name (I.load hs hk (fun v hv => c.same hv) hn) hd

theorem ev_bin {l r : Expr} {op pos} {d₁ d₂ d : D} (h₁ : Ev C A env ws σ l d₁) (h₂ : Ev C A env ws σ r d₂) (h : Op2 C A (binaryOp op) d₁ d₂ d) : Ev C A env ws σ (.BinOp l op r pos) d :=
  fun g s Q E I c => wpAny_BinOp (h₁ g s _ E I fun v₁ g₁ s₁ x₁ w₁ => h₂ g₁ _ _ E (I.grow x₁) fun v₂ g₂ s₂ x₂ w₂ =>
    h g₂ _ v₁ v₂ _ E (I.base.grow (x₁.trans x₂)) (I.kp |> (x₁.trans x₂).kpIn) (w₁.mono x₂.gr.led) w₂ fun v₃ g₃ s₃ x₃ w₃ => c _ _ _ ((x₁.trans x₂).trans x₃) w₃)
theorem ev_cmp {l r : Expr} {op pos} {d₁ d₂ d : D} (h₁ : Ev C A env ws σ l d₁) (h₂ : Ev C A env ws σ r d₂) (h : Op2 C A (compareOp op) d₁ d₂ d) (hm : behindInMarks op r = false := by with_unfolding_all rfl) :
    Ev C A env ws σ (.Compare l [op] [r] pos) d :=
  fun g s Q E I c => wpAny_Compare1 (h₁ g s _ E I fun v₁ g₁ s₁ x₁ w₁ => h₂ g₁ _ _ E (I.grow x₁) fun v₂ g₂ s₂ x₂ w₂ =>
    h g₂ _ v₁ v₂ _ E (I.base.grow (x₁.trans x₂)) (I.kp |> (x₁.trans x₂).kpIn) (w₁.mono x₂.gr.led) w₂ fun v₃ g₃ s₃ x₃ w₃ => c _ _ _ ((x₁.trans x₂).trans x₃) w₃) hm
theorem evb_cmp {l r : Expr} {op pos} {d₁ d₂ : D} {b : Bool} (h₁ : Ev C A env ws σ l d₁) (h₂ : Ev C A env ws σ r d₂) (h : Op2 C A (compareOp op) d₁ d₂ (.bool b)) (hm : behindInMarks op r = false := by with_unfolding_all rfl) :
    EvB C A env ws σ (.Compare l [op] [r] pos) b :=
  fun g s Q E I c => wpAny_isTrue_Compare1 (h₁ g s _ E I fun v₁ g₁ s₁ x₁ w₁ => h₂ g₁ _ _ E (I.grow x₁) fun v₂ g₂ s₂ x₂ w₂ =>
    h g₂ _ v₁ v₂ _ E (I.base.grow (x₁.trans x₂)) (I.kp |> (x₁.trans x₂).kpIn) (w₁.mono x₂.gr.led) w₂ (fun v₃ g₃ s₃ x₃ w₃ => by cases w₃; exact wpAny_truthy_bool (c _ _ ((x₁.trans x₂).trans x₃)))) hm
theorem evb_not {e : Expr} {pos} {b : Bool} (h : EvB C A env ws σ e b) : EvB C A env ws σ (.UnaryOp .Not e pos) (!b) :=
  fun g s Q E I c => wpAny_isTrue_Not (h g s _ E I fun g₁ s₁ x₁ => c _ _ x₁)
theorem evb_bool {e : Expr} {b : Bool} (h : Ev C A env ws σ e (.bool b)) (he : ∀ whole, isTrue e env whole = (do let v ← whole; standAt e.pos; holding [v] (truthy v)) := by intro _; rfl) : EvB C A env ws σ e b :=
  fun g s Q E I c => wpAny_isTrue_value (h g s _ E I fun v₁ g₁ s₁ x₁ w₁ => by cases w₁; exact wpAny_truthy_bool (c _ _ x₁)) (he _)
theorem evb_str {e : Expr} {x : Str} (h : Ev C A env ws σ e (.str x)) (h63 : (x.length : Int) < 9223372036854775808) (he : ∀ whole, isTrue e env whole = (do let v ← whole; standAt e.pos; holding [v] (truthy v)) := by intro _; rfl) : EvB C A env ws σ e ((x.length : Int) != 0) :=
  fun g s Q E I c => wpAny_isTrue_value (h g s _ E I fun v₁ g₁ s₁ x₁ w₁ => by
    cases w₁
    exact SBL.truthy h63 (c g₁ _ (x₁.trans (GrowS.toks (by show s₁.toks ≤ s₁.toks + 1 + 1; omega))))) (he _)
/-- the tests of an and, an or: what is left of them -/
def EvAnd (C : Cx) (A : Around) (env : Env) (ws : List Addr) (σ : Sto) (es : List Expr) (b : Bool) : Prop :=
  ∀ (g : Gh) (s : Shared) (Q : Bool → Shared → Prop) (E : Value → Shared → Prop), InvS C env ws σ g s → ContB g s b Q → wpAny (model C.prog C.w) A (allTrue .And es env) Q E s
def EvOr (C : Cx) (A : Around) (env : Env) (ws : List Addr) (σ : Sto) (es : List Expr) (b : Bool) : Prop :=
  ∀ (g : Gh) (s : Shared) (Q : Bool → Shared → Prop) (E : Value → Shared → Prop), InvS C env ws σ g s → ContB g s b Q → wpAny (model C.prog C.w) A (allTrue .Or es env) Q E s
theorem evb_and {es : List Expr} {pos} {b : Bool} (h : EvAnd C A env ws σ es b) : EvB C A env ws σ (.BoolOp .And es pos) b := fun g s Q E I c => wpAny_isTrue_BoolOp (h g s Q E I c)
theorem evb_or {es : List Expr} {pos} {b : Bool} (h : EvOr C A env ws σ es b) : EvB C A env ws σ (.BoolOp .Or es pos) b := fun g s Q E I c => wpAny_isTrue_BoolOp (h g s Q E I c)
theorem evand_nil : EvAnd C A env ws σ [] true := fun g s Q E I c => wpAny_allTrue_And_nil (c g s (.refl _ _))
theorem evor_nil : EvOr C A env ws σ [] false := fun g s Q E I c => wpAny_allTrue_Or_nil (c g s (.refl _ _))
theorem evand_cons {e : Expr} {es : List Expr} {b b' : Bool} (h : EvB C A env ws σ e b) (hr : b = true → EvAnd C A env ws σ es b') : EvAnd C A env ws σ (e :: es) (b && b') :=
  fun g s Q E I c => wpAny_allTrue_And_cons (h g s _ E I fun g₁ s₁ x₁ => by
    cases b with
    | false => exact c _ _ x₁
    | true => exact hr rfl g₁ _ _ E (I.grow x₁) fun g₂ s₂ x₂ => c _ _ (x₁.trans x₂))
theorem evor_cons {e : Expr} {es : List Expr} {b b' : Bool} (h : EvB C A env ws σ e b) (hr : b = false → EvOr C A env ws σ es b') : EvOr C A env ws σ (e :: es) (b || b') :=
  fun g s Q E I c => wpAny_allTrue_Or_cons (h g s _ E I fun g₁ s₁ x₁ => by
    cases b with
    | true => exact c _ _ x₁
    | false => exact hr rfl g₁ _ _ E (I.grow x₁) fun g₂ s₂ x₂ => c _ _ (x₁.trans x₂))
theorem ev_ifexp {t b o : Expr} {pos} {c : Bool} {d : D} (ht : EvB C A env ws σ t c) (h₁ : c = true → Ev C A env ws σ b d) (h₂ : c = false → Ev C A env ws σ o d) : Ev C A env ws σ (.IfExp t b o pos) d :=
  fun g s Q E I k => wpAny_IfExp (ht g s _ E I fun g₁ s₁ x₁ => by
    cases c with
    | true => exact h₁ rfl g₁ _ _ E (I.grow x₁) fun v g' s' x hv => k _ _ _ (x₁.trans x) hv
    | false => exact h₂ rfl g₁ _ _ E (I.grow x₁) fun v g' s' x hv => k _ _ _ (x₁.trans x) hv)
theorem ev_usub {e : Expr} {pos} {i : Int} (h : Ev C A env ws σ e (.int i)) : Ev C A env ws σ (.UnaryOp .USub e pos) (.int (-i)) :=
  fun g s Q E I c => wpAny_UnaryOp (h g s _ E I fun v₁ g₁ s₁ x₁ w₁ => by cases w₁; exact neg_int (c _ g₁ _ (x₁.trans (GrowS.toks (Nat.le_succ _))) (.int _ _)))

theorem evl_nil : EvL C A env ws σ [] [] := fun pos g s Q E I c => wpAny_items_nil (c [] g s (.refl _ _) .nil)
theorem evl_cons {e : Expr} {es : List Expr} {d : D} {ds : List D} (h : Ev C A env ws σ e d) (hr : EvL C A env ws σ es ds) (he : starEach (e :: es) env = (false, eval e env) :: starEach es env := by rfl) : EvL C A env ws σ (e :: es) (d :: ds) :=
  fun pos g s Q E I c => wpAny_items_cons (h g s _ E I fun v₁ g₁ s₁ x₁ w₁ => hr pos g₁ _ _ E (I.grow x₁) fun vs g₂ s₂ x₂ w₂ => c _ _ _ (x₁.trans x₂) (.cons (w₁.mono x₂.gr.led) w₂)) he
theorem ev_list {es : List Expr} {ds : List D} {pos} (h : EvL C A env ws σ es ds) (hn : ds.length ≤ sizeLine := by decide) : Ev C A env ws σ (.List es pos) (.list ds) :=
  fun g s Q E I c => wpAny_List (h pos g s _ E I fun vs g₁ s₁ x₁ w₁ => ⟨by rw [w₁.length]; exact hn,
    Cont.push (fun v g' s' x hv => c _ _ _ (x₁.trans x) hv) (x₁.kpIn I.kp) _ rfl fun g' hl hn => .list hn rfl rfl (w₁.mono hl)⟩)
theorem ev_tuple {es : List Expr} {ds : List D} {k pos} (h : EvL C A env ws σ es ds) (hn : ds.length ≤ sizeLine := by decide) : Ev C A env ws σ (.Tuple es k pos) (.tuple ds) :=
  fun g s Q E I c => wpAny_Tuple (h pos g s _ E I fun vs g₁ s₁ x₁ w₁ => ⟨by rw [w₁.length]; exact hn,
    Cont.push (fun v g' s' x hv => c _ _ _ (x₁.trans x) hv) (x₁.kpIn I.kp) _ rfl fun g' hl hn => .tuple hn rfl rfl (w₁.mono hl)⟩)

/-! calls -/
theorem InvS.globals {g : Gh} {s : Shared} (I : InvS C env ws σ g s) (hg : env.globals = mainGlobals) : s.heap.Ns env.globals C.mg := hg ▸ C.G.keeps fun b ob q => I.1.led _ _ (I.1.base _ _ q)
theorem InvS.builtins {g : Gh} {s : Shared} (I : InvS C env ws σ g s) (hg : env.builtins = builtinsNs) : s.heap.Ns env.builtins C.mb := hg ▸ C.B.keeps fun b ob q => I.1.led _ _ (I.1.base _ _ q)
theorem InvS.old {g : Gh} {s : Shared} (I : InvS C env ws σ g s) {a : Addr} {o : Obj} (h : C.h₀.get? a = some o) : s.heap.get? a = some o := I.1.led _ _ (I.1.base _ _ h)

theorem ev_call_def {x : Str} {p pos : Pos} {e : Expr} {es : List Expr} {ds : List D} {d : D} {f : Addr} {o : Obj} {fd : FuncData}
    (hmg : C.mg x = some (.ref f)) (ho : C.h₀.get? f = some o) (hd : o.data = .func fd) (hk : env.scope.kind = .function) (hg : env.globals = mainGlobals) (hx : env.kindOf x = some .globalImplicit)
    (ha : EvL C A env ws σ (e :: es) ds) (hf : Fn C A (.ref f) ds d) (hb : (x == ("__debug__" : Str)) = false := by decide)
    (he : starEach (e :: es) env = (false, eval e env) :: starEach es env := by rfl) : Ev C A env ws σ (.Call (.Name x p) (e :: es) [] pos) d :=
  fun g s Q E I c => wpAny_Call_NameR (Calls.Name_function_global hk hx (Calls.loadGlobal_global (mg := C.mg) (I.globals hg) hmg
    (callWith_def hd (ha pos g s _ E I fun vs g₁ s₁ x₁ w₁ => ⟨(I.grow x₁).old ho,
      hf g₁ _ vs _ E (I.grow x₁).base (I.grow x₁).kp w₁ fun v g' s' x hv => c _ _ _ (x₁.trans x) hv⟩) he)) hb)
theorem ev_call_builtin {x : Str} {p pos : Pos} {e : Expr} {es : List Expr} {ds : List D} {d : D} {id : String}
    (hmg : C.mg x = none) (hbt : bootBuiltins x = some (.builtin id)) (hne : x ≠ "__name__") (hk : env.scope.kind = .function) (hg : env.globals = mainGlobals) (hgb : env.builtins = builtinsNs) (hx : env.kindOf x = some .globalImplicit)
    (ha : EvL C A env ws σ (e :: es) ds) (hf : Fn C A (.builtin id) ds d) (hb : (x == ("__debug__" : Str)) = false := by decide)
    (he : starEach (e :: es) env = (false, eval e env) :: starEach es env := by rfl) (hp : (backTo pos (starEach es env)).any (·.1) = false := by rfl) : Ev C A env ws σ (.Call (.Name x p) (e :: es) [] pos) d :=
  fun g s Q E I c => wpAny_Call_NameR (Calls.Name_function_global hk hx (Calls.loadGlobal_builtin (mg := C.mg) (mb := C.mb) (I.globals hg) hmg (I.builtins hgb) ((C.boot x hne).trans hbt)
    (callWith_builtin1 (ha pos g s _ E I fun vs g₁ s₁ x₁ w₁ => hf g₁ _ vs _ E (I.grow x₁).base (I.grow x₁).kp w₁ fun v g' s' x hv => c _ _ _ (x₁.trans x) hv) he hp)) hb)
theorem ev_call_type {x : Str} {p pos : Pos} {e : Expr} {es : List Expr} {ds : List D} {d : D} {T : String}
    (hmg : C.mg x = none) (hbt : bootBuiltins x = some (.type T)) (hne : x ≠ "__name__") (hk : env.scope.kind = .function) (hg : env.globals = mainGlobals) (hgb : env.builtins = builtinsNs) (hx : env.kindOf x = some .globalImplicit)
    (ha : EvL C A env ws σ (e :: es) ds) (hf : Fn C A (.type T) ds d) (hb : (x == ("__debug__" : Str)) = false := by decide)
    (he : starEach (e :: es) env = (false, eval e env) :: starEach es env := by rfl) (hp : (backTo pos (starEach es env)).any (·.1) = false := by rfl) : Ev C A env ws σ (.Call (.Name x p) (e :: es) [] pos) d :=
  fun g s Q E I c => wpAny_Call_NameR (Calls.Name_function_global hk hx (Calls.loadGlobal_builtin (mg := C.mg) (mb := C.mb) (I.globals hg) hmg (I.builtins hgb) ((C.boot x hne).trans hbt)
    (callWith_type1 (ha pos g s _ E I fun vs g₁ s₁ x₁ w₁ => hf g₁ _ vs _ E (I.grow x₁).base (I.grow x₁).kp w₁ fun v g' s' x hv => c _ _ _ (x₁.trans x) hv) he hp)) hb)

/-! subscripts -/
theorem ev_sub {value slice : Expr} {pos} {d₁ d₂ d : D} (h₁ : Ev C A env ws σ value d₁) (h₂ : Ev C A env ws σ slice d₂) (h : Op2 C A (subscriptTail value slice) d₁ d₂ d) : Ev C A env ws σ (.Subscript value slice pos) d :=
  fun g s Q E I c => Subscript_ (h₁ g s _ E I fun v₁ g₁ s₁ x₁ w₁ => h₂ g₁ _ _ E (I.grow x₁) fun v₂ g₂ s₂ x₂ w₂ =>
    h g₂ _ v₁ v₂ _ E (I.base.grow (x₁.trans x₂)) (I.kp |> (x₁.trans x₂).kpIn) (w₁.mono x₂.gr.led) w₂ fun v₃ g₃ s₃ x₃ w₃ => c _ _ _ ((x₁.trans x₂).trans x₃) w₃)
end
end Mine
namespace Mine

section
variable {C : Cx} {A : Around}
theorem ValL.toArr {led : Led} {v : Value} : True := trivial

/-! ints -/
theorem op_add {a b : Int} : Op2 C A (binaryOp .Add) (.int a) (.int b) (.int (a + b)) := fun g s v₁ v₂ Q E bs k w₁ w₂ c => by cases w₁; cases w₂; exact PyProof.Rows.add_int (c.tk (.int _ _))
theorem op_sub {a b : Int} : Op2 C A (binaryOp .Sub) (.int a) (.int b) (.int (a - b)) := fun g s v₁ v₂ Q E bs k w₁ w₂ c => by cases w₁; cases w₂; exact PyProof.Rows.sub_int (c.tk (.int _ _))
theorem intMulOk_small {a b : Int} (h1 : -(2 ^ 64) < a) (h2 : a < 2 ^ 64) : IntMulOk a b := by
  unfold IntMulOk
  have h3 := intBits_le_64 h1 h2
  have h4 : decide (Builtin.Int.intBits a > shortFactorBits) = false := decide_eq_false (Nat.not_lt.mpr h3)
  rw [h4, Bool.false_and, Bool.false_and]
  exact Bool.false_ne_true
theorem op_mul {a b : Int} (h1 : -(2 ^ 64) < a := by omega) (h2 : a < 2 ^ 64 := by omega) : Op2 C A (binaryOp .Mult) (.int a) (.int b) (.int (a * b)) := fun g s v₁ v₂ Q E bs k w₁ w₂ c => by
  cases w₁; cases w₂; exact PyProof.Rows.mul_int (c.tk (.int _ _)) (intMulOk_small h1 h2)
theorem noPylong_small {a b : Int} (h1 : -(2 ^ 64) < b) (h2 : b < 2 ^ 64) : Builtin.divisionGoesByPylong a b = false := by
  unfold Builtin.divisionGoesByPylong
  have h3 : b.natAbs < 2 ^ 64 := by omega
  have h4 : (if b == 0 then 0 else b.natAbs.log2 / 30 + 1) ≤ 300 := by
    split
    · omega
    · rename_i hb
      have hb' : b.natAbs ≠ 0 := by intro e; apply hb; have : b = 0 := by omega
                                    simp [this]
      have := (Nat.log2_lt hb').mpr h3
      omega
  have h5 : decide ((if b == 0 then 0 else b.natAbs.log2 / 30 + 1) > 300) = false := decide_eq_false (Nat.not_lt.mpr h4)
  simp only [h5, Bool.false_and]
theorem op_fdiv {a b : Int} (hb : b ≠ 0 := by omega) (h1 : -(2 ^ 64) < b := by omega) (h2 : b < 2 ^ 64 := by omega) : Op2 C A (binaryOp .FloorDiv) (.int a) (.int b) (.int (a.fdiv b)) := fun g s v₁ v₂ Q E bs k w₁ w₂ c => by
  cases w₁; cases w₂; exact PyProof.Rows.floordiv_int hb (c.tk (.int _ _)) (.inl (noPylong_small h1 h2))
theorem op_mod {a b : Int} (hb : b ≠ 0 := by omega) : Op2 C A (binaryOp .Mod) (.int a) (.int b) (.int (a.fmod b)) := fun g s v₁ v₂ Q E bs k w₁ w₂ c => by cases w₁; cases w₂; exact PyProof.Rows.mod_int' hb (c.tk (.int _ _))
theorem op_pow {a n : Int} (hn : 0 ≤ n) (hsz : (Builtin.Int.intBits a : Int) * n ≤ 2 ^ 27) : Op2 C A (binaryOp .Pow) (.int a) (.int n) (.int (a ^ n.toNat)) := fun g s v₁ v₂ Q E bs k w₁ w₂ c => by cases w₁; cases w₂; exact PyProof.Rows.pow_int hn hsz (c.tk (.int _ _))
theorem op_ieq {a b : Int} : Op2 C A (compareOp .Eq) (.int a) (.int b) (.bool (a == b)) := fun g s v₁ v₂ Q E bs k w₁ w₂ c => by cases w₁; cases w₂; exact PyProof.Rows.eq_int c.bool
theorem op_ine {a b : Int} : Op2 C A (compareOp .NotEq) (.int a) (.int b) (.bool (a != b)) := fun g s v₁ v₂ Q E bs k w₁ w₂ c => by cases w₁; cases w₂; exact PyProof.Rows.ne_int c.bool
theorem op_ilt {a b : Int} : Op2 C A (compareOp .Lt) (.int a) (.int b) (.bool (decide (a < b))) := fun g s v₁ v₂ Q E bs k w₁ w₂ c => by cases w₁; cases w₂; exact PyProof.Rows.lt_int c.bool
theorem op_igt {a b : Int} : Op2 C A (compareOp .Gt) (.int a) (.int b) (.bool (decide (b < a))) := fun g s v₁ v₂ Q E bs k w₁ w₂ c => by cases w₁; cases w₂; exact PyProof.Rows.gt_int c.bool
theorem op_ile {a b : Int} : Op2 C A (compareOp .LtE) (.int a) (.int b) (.bool (decide (a ≤ b))) := fun g s v₁ v₂ Q E bs k w₁ w₂ c => by cases w₁; cases w₂; exact PyProof.Rows.le_int c.bool
theorem op_ige {a b : Int} : Op2 C A (compareOp .GtE) (.int a) (.int b) (.bool (decide (b ≤ a))) := fun g s v₁ v₂ Q E bs k w₁ w₂ c => by cases w₁; cases w₂; exact PyProof.Rows.ge_int c.bool

/-! texts -/
theorem op_seq {x y : Str} : Op2 C A (compareOp .Eq) (.str x) (.str y) (.bool (x == y)) := fun g s v₁ v₂ Q E bs k w₁ w₂ c => by cases w₁; cases w₂; exact PyProof.Rows.eq_str c.bool
theorem op_sne {x y : Str} : Op2 C A (compareOp .NotEq) (.str x) (.str y) (.bool (x != y)) := fun g s v₁ v₂ Q E bs k w₁ w₂ c => by cases w₁; cases w₂; exact PyProof.Rows.ne_str c.bool
theorem op_sin {x y : Str} : Op2 C A (compareOp .In) (.str y) (.str x) (.bool !(Builtin.Str.occurrences x y 0 x.length 1).isEmpty) := fun g s v₁ v₂ Q E bs k w₁ w₂ c => by cases w₁; cases w₂; exact PyProof.Rows.in_str c.bool
theorem op_sadd {x y : Str} (hsz : x.length + y.length ≤ sizeLine) : Op2 C A (binaryOp .Add) (.str x) (.str y) (.str (x ++ y)) := fun g s v₁ v₂ Q E bs k w₁ w₂ c => by
  cases w₁; cases w₂
  exact lift fun _ => PyProof.Rows.add_str (fun t' tk h => c _ g _ (GrowS.toks h) (.str _ _)) hsz
theorem op_siadd {x y : Str} (hsz : x.length + y.length ≤ sizeLine) : Op2 C A (inplaceOp .Add) (.str x) (.str y) (.str (x ++ y)) := fun g s v₁ v₂ Q E bs k w₁ w₂ c => by
  cases w₁; cases w₂
  exact lift fun _ => PyProof.Rows.iadd_str (fun t' tk h => c _ g _ (GrowS.toks h) (.str _ _)) hsz
theorem op_smul {x : Str} {n : Int} (h : MulOk x n) : Op2 C A (binaryOp .Mult) (.str x) (.int n) (.str (Txt.mul x n)) := fun g s v₁ v₂ Q E bs k w₁ w₂ c => by
  cases w₁; cases w₂
  exact lift fun _ => SB.mul h fun t' tk h => c _ g _ (GrowS.toks h) (.str _ _)
theorem op_iiadd {a b : Int} : Op2 C A (inplaceOp .Add) (.int a) (.int b) (.int (a + b)) := fun g s v₁ v₂ Q E bs k w₁ w₂ c => by cases w₁; cases w₂; exact wpAny_iadd_int (c.tk (.int _ _))

/-! lists, tuples -/
theorem Val.isList {g : Gh} {s : Shared} {v : Value} {ds : List D} (k : KpIn g s) (h : Val g.led v (.list ds)) : ∃ a vs, v = .ref a ∧ s.heap.IsList a vs.toArray ∧ ValL g.led vs ds := by
  cases h with
  | list h1 h2 h3 h4 => exact ⟨_, _, rfl, ⟨_, k.2.1 _ _ h1, h2, _, h3⟩, h4⟩
theorem Val.isTuple {g : Gh} {s : Shared} {v : Value} {ds : List D} (k : KpIn g s) (h : Val g.led v (.tuple ds)) : ∃ a vs, v = .ref a ∧ IsTup s.heap a vs.toArray ∧ ValL g.led vs ds := by
  cases h with
  | tuple h1 h2 h3 h4 => exact ⟨_, _, rfl, ⟨_, k.2.1 _ _ h1, h2, _, h3⟩, h4⟩
theorem op_ladd {xs ys : List D} (hsz : xs.length + ys.length ≤ sizeLine) : Op2 C A (binaryOp .Add) (.list xs) (.list ys) (.list (xs ++ ys)) := fun g s v₁ v₂ Q E bs k w₁ w₂ c => by
  obtain ⟨a, vs, rfl, ha, hvs⟩ := w₁.isList k
  obtain ⟨b, ws, rfl, hb, hws⟩ := w₂.isList k
  obtain ⟨⟨cls, dd, data, sl⟩, ho, hc, n, hd⟩ := id ha
  obtain ⟨⟨cls2, dd2, data2, sl2⟩, ho2, hc2, n2, hd2⟩ := id hb
  simp only at hc hd hc2 hd2
  subst hc hd hc2 hd2
  have e : vs.toArray ++ ws.toArray = (vs ++ ws).toArray := by simp
  refine concat_meets ha.typeIs hb.typeIs noFill_list_add seq_list_add PySem.F.slot_list_add PySem.F.entry_list_add (PySem.F.args_list_add_2 _ _)
    (list_addW a b vs.toArray ws.toArray n n2 dd dd2 sl sl2 (by simpa [hvs.length, hws.length] using hsz)) ⟨ho, ho2, ?_⟩
  rw [e]
  exact c.push k _ rfl fun g' hl hn => .list hn rfl rfl ((hvs.mono hl).append (hws.mono hl))

mutual
def toP : D → PyData
  | .none => .none
  | .bool b => .bool b
  | .int i => .int i
  | .str x => .str x
  | .strn x => .str x
  | .strb x _ => .str x
  | .tuple ds => .tuple (toPs ds)
  | .list ds => .list (toPs ds)
def toPs : List D → List PyData
  | [] => []
  | d :: ds => toP d :: toPs ds
end
mutual
theorem Val.reads {g : Gh} {s : Shared} (k : KpIn g s) : ∀ {v : Value} {d : D}, Val g.led v d → ∃ as, Reads s.heap v (toP d) as
  | _, _, .none => ⟨_, Reads.none⟩
  | _, _, .bool b => ⟨_, Reads.bool b⟩
  | _, _, .int i t => ⟨_, Reads.int i t⟩
  | _, _, .str x t => ⟨_, Reads.str x t⟩
  | _, _, .strn x t _ => ⟨_, Reads.str x t⟩
  | _, _, .strb x t _ _ _ => ⟨_, Reads.str x t⟩
  | _, _, .tuple h1 h2 h3 r => by
    obtain ⟨as, q⟩ := ValL.reads k r
    rw [toP]
    exact ⟨as, reads_tuple_at (k.2.1 _ _ h1) h2 h3 (by simpa using q)⟩
  | _, _, .list h1 h2 h3 r => by
    obtain ⟨as, q⟩ := ValL.reads k r
    rw [toP]
    exact ⟨_, reads_list_at (k.2.1 _ _ h1) h2 h3 (by simpa using q)⟩
theorem ValL.reads {g : Gh} {s : Shared} (k : KpIn g s) : ∀ {vs : List Value} {ds : List D}, ValL g.led vs ds → ∃ as, ReadsAll s.heap vs (toPs ds) as
  | _, _, .nil => ⟨_, ReadsAll.nil⟩
  | _, _, .cons hd r => by
    obtain ⟨as, q⟩ := Val.reads k hd
    obtain ⟨bs, p⟩ := ValL.reads k r
    rw [toPs]
    exact ⟨_, ReadsAll.cons q p⟩
end
theorem op_eq {d e : D} (hd : SeqAt.shaped (toP d) = true) (he : SeqAt.shaped (toP e) = true) (hu : A.units + 64 < cLine) : Op2 C A (compareOp .Eq) d e (.bool (PyData.eqv (toP d) (toP e))) := fun g s v₁ v₂ Q E bs k w₁ w₂ c => by
  obtain ⟨as, q⟩ := w₁.reads k
  obtain ⟨as, p⟩ := w₂.reads k
  exact eq_dataH q p hd he hu c.bool
theorem op_ne {d e : D} (hd : SeqAt.shaped (toP d) = true) (he : SeqAt.shaped (toP e) = true) (hu : A.units + 64 < cLine) : Op2 C A (compareOp .NotEq) d e (.bool (!PyData.eqv (toP d) (toP e))) := fun g s v₁ v₂ Q E bs k w₁ w₂ c => by
  obtain ⟨as, q⟩ := w₁.reads k
  obtain ⟨as, p⟩ := w₂.reads k
  exact ne_dataH q p hd he hu c.bool

/-! items -/
abbrev PlainSub (slice : Expr) : Prop := ∀ o i, subscripted slice false o i = operate [o, i] (getItem o i)
theorem op_item {value slice : Expr} {ds : List D} {i : Int} {d : D} (hs : PlainSub slice) (h0 : 0 ≤ i) (h63 : i < 2 ^ 63) (hd : ds[i.toNat]? = some d) : Op2 C A (subscriptTail value slice) (.list ds) (.int i) d := fun g s v₁ v₂ Q E bs k w₁ w₂ c => by
  obtain ⟨a, vs, rfl, ha, hvs⟩ := w₁.isList k
  cases w₂
  obtain ⟨v, hv, hd'⟩ := hvs.get hd
  exact tail_any ha.typeIs slot_list_getitem.lookup (wpAny_getItem_list ha h0 h63 (by simpa using hv) (c.same hd')) (hs _ _)
theorem op_itemNeg {value slice : Expr} {ds : List D} {i : Int} {d : D} (hs : PlainSub slice) (h0 : i < 0) (h1 : -(ds.length : Int) ≤ i) (h63 : -(2 ^ 63) ≤ i) (hd : ds[(i + ds.length).toNat]? = some d) : Op2 C A (subscriptTail value slice) (.list ds) (.int i) d := fun g s v₁ v₂ Q E bs k w₁ w₂ c => by
  obtain ⟨a, vs, rfl, ha, hvs⟩ := w₁.isList k
  cases w₂
  obtain ⟨v, hv, hd'⟩ := hvs.get hd
  have hl : vs.toArray.size = ds.length := by simp [hvs.length]
  exact tail_any ha.typeIs slot_list_getitem.lookup (wpAny_getItem_list_neg ha h0 (by rw [hl]; exact h1) h63 (by rw [hl]; simpa using hv) (c.same hd')) (hs _ _)
theorem op_itemT {value slice : Expr} {ds : List D} {i : Int} {j : Nat} {d : D} (hs : PlainSub slice) (hlo : -(2 ^ 63) ≤ i) (hhi : i < 2 ^ 63) (hj : seqIndex? i ds.length = some j) (hd : ds[j]? = some d) : Op2 C A (subscriptTail value slice) (.tuple ds) (.int i) d := fun g s v₁ v₂ Q E bs k w₁ w₂ c => by
  obtain ⟨a, vs, rfl, ha, hvs⟩ := w₁.isTuple k
  cases w₂
  obtain ⟨v, hv, hd'⟩ := hvs.get hd
  exact item_tupleT ha hlo hhi (by rw [hvs.length]; exact hj) hv (c.same hd') (hs _ _)
theorem op_itemS {value slice : Expr} {x : Str} {i : Int} {n : Nat} (hs : PlainSub slice) (hlo : -(2 ^ 63) ≤ i) (hhi : i < 2 ^ 63) (hc : (seqIndex? i x.length).bind (x.cps[·]?) = some n) : Op2 C A (subscriptTail value slice) (.str x) (.int i) (.strn ⟨#[n]⟩) := fun g s v₁ v₂ Q E bs k w₁ w₂ c => by
  cases w₁; cases w₂
  refine tail_any (typeIs_str _ _ _) PySem.F.slot_str_getitem.lookup (getItem_str ?_ hc (c.tk (.strn _ _ (Nat.ne_of_gt k.2.2)))) (hs _ _)
  simp only [Bool.or_eq_false_iff, decide_eq_false_iff_not]; omega
theorem Op2.weak {f : Value → Value → Sem Value} {d e : D} {x : Str} (h : Op2 C A f d e (.strn x)) : Op2 C A f d e (.str x) := fun g s v₁ v₂ Q E bs k w₁ w₂ c => h g s v₁ v₂ Q E bs k w₁ w₂ fun v g' s' x hv => c v g' s' x hv.weak

/-! built-in functions -/
theorem fn_lenS {x : Str} (h : (x.length : Int) < 9223372036854775808) : Fn C A (.builtin "len") [.str x] (.int x.length) := fun g s vs Q E b k w c => by
  cases w with | cons w r => cases r; cases w; exact SBL.len h (c.tk (.int _ _))
theorem fn_lenL {ds : List D} (h : (ds.length : Int) < 2 ^ 63) : Fn C A (.builtin "len") [.list ds] (.int ds.length) := fun g s vs Q E b k w c => by
  cases w with
  | cons w r =>
    cases r
    obtain ⟨a, vs, rfl, ha, hvs⟩ := w.isList k
    refine Calls.call_len_list ha (by simpa [hvs.length] using h) ?_
    have e : (vs.toArray.size : Int) = ds.length := by simp [hvs.length]
    rw [e]; exact c.tk (.int _ _)
theorem ints_items : ∀ {led : Led} {vs : List Value} {ns : List Int}, ValL led vs (ns.map D.int) → ∃ xs : List (Int × Tok), vs = xs.map (fun p => Value.int p.1 p.2) ∧ xs.map (·.1) = ns
  | _, [], [], _ => ⟨[], rfl, rfl⟩
  | _, [], _ :: _, h => by cases h
  | _, _ :: _, [], h => by cases h
  | led, v :: vs, n :: ns, h => by
    cases h with
    | cons h r =>
      obtain ⟨xs, e1, e2⟩ := ints_items (ns := ns) r
      cases h with
      | int _ t => exact ⟨(n, t) :: xs, by rw [e1]; rfl, by rw [← e2]; rfl⟩
theorem preSum_is (xs : List (Int × Tok)) : ∀ k, k ≤ xs.length → preSum (numAt xs.toArray) k = ((xs.take k).map (·.1)).sum
  | 0, _ => by simp [preSum]
  | k + 1, h => by
    have ih := preSum_is xs k (by omega)
    have hk : k < xs.length := by omega
    rw [preSum, ih, List.take_add_one, List.getElem?_eq_getElem hk, List.map_append, List.sum_append]
    simp [numAt, hk]
theorem fn_sum {ns : List Int} (hh : A.handled = none) : Fn C A (.builtin "sum") [.list (ns.map .int)] (.int ns.sum) := fun g s vs Q E b k w c => by
  cases w with
  | cons w r =>
    cases r
    obtain ⟨a, vs, rfl, ha, hvs⟩ := w.isList k
    obtain ⟨xs, rfl, rfl⟩ := ints_items hvs
    refine lift fun _ => sum_intListG (xs := xs.toArray) hh (by simpa [intItems] using ha) fun h' tk t' hk htk => ?_
    have e : preSum (numAt xs.toArray) xs.toArray.size = (xs.map (·.1)).sum := by
      rw [List.size_toArray, preSum_is xs _ (Nat.le_refl _), List.take_length]
    rw [e]
    exact c _ g _ ⟨Grow.heap hk, rfl, htk⟩ (.int _ _)
theorem fn_chr {i : Int} (h0 : 0 ≤ i) (h1 : i ≤ 1114111) : Fn C A (.builtin "chr") [.int i] (.str ⟨#[i.toNat]⟩) := fun g s vs Q E b k w c => by
  cases w with | cons w r => cases r; cases w; exact chr_of_range h0 h1 (c.tk (.str _ _))
end
end Mine
namespace Mine

structure Step (g : Gh) (s : Shared) (g' : Gh) (s' : Shared) : Prop where
  le : g.Le g'
  eq : s' = { s with heap := s'.heap, toks := s'.toks }
  tk : s.toks ≤ s'.toks
theorem Step.refl (g : Gh) (s : Shared) : Step g s g s := ⟨.refl _, rfl, Nat.le_refl _⟩
theorem Step.trans {g g' g'' : Gh} {s s' s'' : Shared} (x : Step g s g' s') (y : Step g' s' g'' s'') : Step g s g'' s'' := ⟨x.le.trans y.le, by rw [y.eq, x.eq], Nat.le_trans x.tk y.tk⟩
theorem GrowS.step {g g' : Gh} {s s' : Shared} (x : GrowS g s g' s') (k : KpIn g s) : Step g s g' s' := ⟨x.gr.le k.1, x.eq, x.tk⟩
theorem Step.mk' {g g' : Gh} {s : Shared} {h' : Heap} {tk' : Nat} (x : g.Le g') (h : s.toks ≤ tk') : Step g s g' { s with heap := h', toks := tk' } := ⟨x, rfl, h⟩

inductive Out where
  | next (σ : Sto)
  | brk (σ : Sto)
  | cont (σ : Sto)
  | ret (d : D)

def Fits (C : Cx) (env : Env) (ws : List Addr) : Out → Gh → Flow → Shared → Prop
  | .next σ, g, fl, s => fl = .next ∧ InvS C env ws σ g s
  | .brk σ, g, fl, s => fl = .brk ∧ InvS C env ws σ g s
  | .cont σ, g, fl, s => fl = .cont ∧ InvS C env ws σ g s
  | .ret d, g, fl, s => ∃ v, fl = .ret v ∧ Val g.led v d ∧ KpIn g s ∧ Base C g s ∧ ∀ y B, d = .strb y B → B ≤ s.toks

section
variable (C : Cx) (A : Around) (env : Env) (ws : List Addr) (σ : Sto)
def Ex (ss : List Stmt) (P : Out → Prop) : Prop :=
  ∀ (g : Gh) (s : Shared) (Q : Flow → Shared → Prop) (E : Value → Shared → Prop), InvS C env ws σ g s →
    (∀ out fl g' s', P out → Step g s g' s' → Fits C env ws out g' fl s' → Q fl s') → wpAny (model C.prog C.w) A (execs ss env) Q E s
def Ex1 (st : Stmt) (P : Out → Prop) : Prop :=
  ∀ (g : Gh) (s : Shared) (Q : Flow → Shared → Prop) (E : Value → Shared → Prop), InvS C env ws σ g s →
    (∀ out fl g' s', P out → Step g s g' s' → Fits C env ws out g' fl s' → Q fl s') → wpAny (model C.prog C.w) A (exec st env) Q E s
/-- a target takes a value -/
def Asg (t : Expr) (d : D) (τ : Sto) : Prop :=
  ∀ (g : Gh) (s : Shared) (v : Value) (Q : Unit → Shared → Prop) (E : Value → Shared → Prop), InvS C env ws σ g s → Val g.led v d →
    (∀ g' s', Step g s g' s' → InvS C env ws τ g' s' → Q () s') → wpAny (model C.prog C.w) A (assign t env v) Q E s
end

def Wr (env : Env) (ws : List Addr) (x : Str) : Prop := env.kindOf x = some .local ∨ (env.kindOf x = some .cell ∧ ∃ c, env.cells.lookup x = some c ∧ c ∈ ws)

section
variable {C : Cx} {A : Around} {env : Env} {ws : List Addr} {σ τ : Sto}

theorem Ex1.mono {st : Stmt} {P P' : Out → Prop} (h : Ex1 C A env ws σ st P) (hp : ∀ o, P o → P' o) : Ex1 C A env ws σ st P' := fun g s Q E I c => h g s Q E I fun o fl g' s' p => c o fl g' s' (hp o p)
theorem Ex.mono {ss : List Stmt} {P P' : Out → Prop} (h : Ex C A env ws σ ss P) (hp : ∀ o, P o → P' o) : Ex C A env ws σ ss P' := fun g s Q E I c => h g s Q E I fun o fl g' s' p => c o fl g' s' (hp o p)
theorem ex_nil {P : Out → Prop} (h : P (.next σ)) : Ex C A env ws σ [] P := fun g s Q E I c => wpAny_execs_nil (c _ _ _ _ h (.refl _ _) ⟨rfl, I⟩)
theorem ex_cons {st : Stmt} {rest : List Stmt} {P : Out → Prop} (h : Ex1 C A env ws σ st fun o => match o with | .next τ => Ex C A env ws τ rest P | o => P o) : Ex C A env ws σ (st :: rest) P :=
  fun g s Q E I c => wpAny_execs_cons (h g s _ E I fun o fl g' s' p x f => by
    cases o with
    | next τ => obtain ⟨rfl, J⟩ := f; exact p g' s' Q E J fun o fl g₂ s₂ p₂ x₂ f₂ => c o fl g₂ s₂ p₂ (x.trans x₂) f₂
    | brk τ => obtain ⟨rfl, J⟩ := f; exact c _ _ _ _ p x ⟨rfl, J⟩
    | cont τ => obtain ⟨rfl, J⟩ := f; exact c _ _ _ _ p x ⟨rfl, J⟩
    | ret d => obtain ⟨v, rfl, hv⟩ := f; exact c _ _ _ _ p x ⟨v, rfl, hv⟩)
theorem ex_freeze {x : Str} {a : Addr} {ds : List D} {ss : List Stmt} {P : Out → Prop} (hx : σ x = some (.own a ds)) (h : Ex C A env ws (σ.set x (.val (.list ds))) ss P) : Ex C A env ws σ ss P :=
  fun g s Q E I c => by
    obtain ⟨g', le, J⟩ := I.1.freeze hx
    exact h g' s Q E ⟨J, I.2.set (fun _ _ e => by cases e)⟩ fun o fl g₂ s₂ p₂ x₂ f₂ => c o fl g₂ s₂ p₂ ⟨le.trans x₂.le, x₂.eq, x₂.tk⟩ f₂
theorem ex_sub {ss : List Stmt} {P : Out → Prop} (hs : ∀ x s, τ x = some s → σ x = some s) (h : Ex C A env ws τ ss P) : Ex C A env ws σ ss P := fun g s Q E I c => h g s Q E ⟨I.1.sub hs, I.2.sub hs⟩ c

theorem InvS.store {g : Gh} {s : Shared} {x : Str} {v : Value} {sl : Slot} {Q : Unit → Shared → Prop} {E : Value → Shared → Prop} (I : InvS C env ws σ g s) (hv : Holds g s.heap v sl) (hk : env.scope.kind = .function) (hx : Wr env ws x)
    (ho : ∀ y a ds es, sl = .own a ds → σ y = some (.own a es) → y = x) (hd : ∀ y B, sl = .val (.strb y B) → B ≤ s.toks) (h : ∀ s', Step g s g s' → InvS C env ws (σ.set x sl) g s' → Q () s') : wpAny (model C.prog C.w) A (storeName env x v) Q E s :=
  I.1.store hv hk hx ho fun h' tk' htk _ J => h _ ⟨.refl _, rfl, htk⟩ ⟨J, (I.2.set hd).up htk⟩

theorem ex_assign {x : Str} {px pos : Pos} {e : Expr} {d : D} {P : Out → Prop} (he : Ev C A env ws σ e d) (hk : env.scope.kind = .function) (hx : Wr env ws x) (h : P (.next (σ.set x (.val d)))) (hb : NoB d := by intro _ _ h; cases h)
    (hs : swapsWith e (some (.Name x px)) pos.line env = pure false := by rfl) : Ex1 C A env ws σ (.Assign [.Name x px] e pos) P :=
  fun g s Q E I c => wpAny_Assign_Name (he g s _ E I fun v g₁ s₁ x₁ w₁ => (I.grow x₁).store (sl := .val d) w₁ hk hx (fun _ _ _ _ q => by cases q) hb.slot fun s₂ x₂ J => c _ _ _ _ h ((x₁.step I.kp).trans x₂) ⟨rfl, J⟩) hs
/-- an empty list that the frame owns -/
theorem ex_assign_nil {x : Str} {px p pos : Pos} {P : Out → Prop} (hk : env.scope.kind = .function) (hx : Wr env ws x) (h : ∀ a, P (.next (σ.set x (.own a [])))) : Ex1 C A env ws σ (.Assign [.Name x px] (.List [] p) pos) P :=
  fun g s Q E I c => wpAny_Assign_Name (wpAny_List (wpAny_items_nil ⟨by decide, by
    have hn : s.heap.get? s.heap.objs.size = none := Heap.get?_none_of_le (Nat.le_refl _)
    have hkp : g.kp s.heap.objs.size = none := by
      cases q : g.kp s.heap.objs.size with
      | none => rfl
      | some o => exact ((I.1.kp _ _ q).no hn).elim
    have x₁ : GrowS g s g { s with heap := s.heap.push { cls := .type "list", data := .seq ([] : List Value).toArray } } := ⟨Grow.heap fun a o q => Heap.get?_push_of_some _ q, rfl, Nat.le_refl _⟩
    refine (I.grow x₁).store (sl := .own s.heap.objs.size []) ⟨rfl, hkp, [], 0, Heap.get?_push_size _ rfl, .nil⟩ hk hx (fun y a ds es q hy => ?_) (fun _ _ e => by cases e) fun s₂ x₂ J => c _ _ _ _ (h _) ((x₁.step I.kp).trans x₂) ⟨rfl, J⟩
    cases q
    exfalso
    by_cases hl : env.kindOf y = some .local
    · obtain ⟨m, _, hm⟩ := I.1.ns
      obtain ⟨w, _, _, _, vs, n, e, _⟩ := hm y _ hl hy
      rw [hn] at e; cases e
    · obtain ⟨_, _, w, _, _, ⟨_, _, vs, n, e, _⟩, _⟩ := I.1.cl y _ hl hy
      rw [hn] at e; cases e⟩)) rfl
theorem ex_aug {x : Str} {px pos : Pos} {op : Operator} {e : Expr} {d₁ d₂ d : D} {P : Out → Prop} (h₁ : σ x = some (.val d₁)) (he : Ev C A env ws σ e d₂) (hop : Op2 C A (inplaceOp op) d₁ d₂ d) (hk : env.scope.kind = .function) (hx : Wr env ws x)
    (h : P (.next (σ.set x (.val d)))) (hb : NoB d := by intro _ _ h; cases h) (hn : (x == ("__classdict__" : Str)) = false := by decide) : Ex1 C A env ws σ (.AugAssign (.Name x px) op e pos) P :=
  fun g s Q E I c => wpAny_AugAssign_Name (I.load h₁ hk (fun v₁ w₁ => he g s _ E I fun v₂ g₂ s₂ x₂ w₂ =>
    hop g₂ s₂ v₁ v₂ _ E (I.grow x₂).base (I.grow x₂).kp (Val.mono x₂.gr.led w₁) w₂ fun v₃ g₃ s₃ x₃ w₃ => ((I.grow x₂).grow x₃).store (sl := .val d) w₃ hk hx (fun _ _ _ _ q => by cases q) hb.slot fun s₄ x₄ J =>
      c _ _ _ _ h (((x₂.trans x₃).step I.kp).trans x₄) ⟨rfl, J⟩) hn)
theorem ex_if {t : Expr} {b o : List Stmt} {pos : Pos} {cb : Bool} {P : Out → Prop} (ht : EvB C A env ws σ t cb) (h₁ : cb = true → Ex C A env ws σ b P) (h₂ : cb = false → Ex C A env ws σ o P) : Ex1 C A env ws σ (.If t b o pos) P :=
  fun g s Q E I c => wpAny_If (ht g s _ E I fun g₁ s₁ x₁ => by
    cases cb with
    | true => exact h₁ rfl g₁ s₁ Q E (I.grow x₁) fun o fl g' s' p x f => c o fl g' s' p ((x₁.step I.kp).trans x) f
    | false => exact h₂ rfl g₁ s₁ Q E (I.grow x₁) fun o fl g' s' p x f => c o fl g' s' p ((x₁.step I.kp).trans x) f)
theorem ex_ret {e : Expr} {pos : Pos} {d : D} {P : Out → Prop} (he : Ev C A env ws σ e d) (h : P (.ret d)) (hb : NoB d := by intro _ _ h; cases h) : Ex1 C A env ws σ (.Return (some e) pos) P :=
  fun g s Q E I c => wpAny_Return_some (he g s _ E I fun v g₁ s₁ x₁ w₁ => c _ _ _ _ h (x₁.step I.kp) ⟨v, rfl, w₁, (I.grow x₁).kp, (I.grow x₁).base, fun y B e => absurd e (hb y B)⟩)
theorem ex_break {pos : Pos} {P : Out → Prop} (h : P (.brk σ)) : Ex1 C A env ws σ (.Break pos) P := fun g s Q E I c => wpAny_Break (c _ _ _ _ h (.refl _ _) ⟨rfl, I⟩)
theorem ex_continue {pos : Pos} {P : Out → Prop} (h : P (.cont σ)) : Ex1 C A env ws σ (.Continue pos) P := fun g s Q E I c => wpAny_Continue (c _ _ _ _ h (.refl _ _) ⟨rfl, I⟩)
theorem ex_pass {pos : Pos} {P : Out → Prop} (h : P (.next σ)) : Ex1 C A env ws σ (.Pass pos) P := fun g s Q E I c => wpAny_Pass (c _ _ _ _ h (.refl _ _) ⟨rfl, I⟩)

/-- an owned list of the frame is changed -/
theorem Inv.setOwn {g : Gh} {h h' : Heap} {x : Str} {a : Addr} {ds es : List D} (I : Inv C env ws σ g h) (hx : σ x = some (.own a ds)) (hs : Heap.SameBut a h h')
    (hv : ∃ vs n, h'.get? a = some { cls := .type "list", data := .seq (vs : List Value).toArray n } ∧ ValL g.led vs es) : Inv C env ws (σ.set x (.own a es)) g h' := by
  obtain ⟨m, hn, hm⟩ := I.ns
  obtain ⟨oL, es', ep, hL, hLd, hL2, hL3⟩ := id hn
  have hh : g.kp a = none ∧ ∃ vs n, h.get? a = some { cls := .type "list", data := .seq (vs : List Value).toArray n } := by
    by_cases hk : env.kindOf x = some .local
    · obtain ⟨v, e1, e2, e3, vs, n, e4, _⟩ := hm x _ hk hx
      exact ⟨e3, vs, n, e4⟩
    · obtain ⟨_, c, v, e1, e2, ⟨_, e3, vs, n, e4, _⟩, _⟩ := I.cl x _ hk hx
      exact ⟨e3, vs, n, e4⟩
  obtain ⟨hkp, vs₀, n₀, ha⟩ := hh
  have hLa : env.locals ≠ a := by rintro e; rw [e, ha] at hL; cases hL; cases hLd
  have keep : ∀ b o, b ≠ a → h.get? b = some o → h'.get? b = some o := fun b o hb e => (hs.2 b hb).trans e
  have up : ∀ y sl w, y ≠ x → σ y = some sl → Holds g h w sl → Holds g h' w sl := fun y sl w hy hsl k => by
    cases sl with
    | val d => exact k
    | own b bs =>
      obtain ⟨e, k1, vs', n', e2, k2⟩ := k
      exact ⟨e, k1, vs', n', keep b _ (by rintro rfl; exact hy (I.own _ _ _ _ _ hsl hx)) e2, k2⟩
  have here : ∀ w, Holds g h w (.own a ds) → Holds g h' w (.own a es) := fun w k => ⟨k.1, hkp, hv⟩
  have hka : ∀ b o, g.kp b = some o → b ≠ a := fun b o e q => by rw [q, hkp] at e; cases e
  refine ⟨I.base, I.ok, I.fr.but (xs := [a]) (fun b hb => by rw [List.mem_singleton.mp hb]; exact ⟨_, ha, plain_seq rfl⟩) (fun b o hb e => .of (keep b o (fun q => hb (by simp [q])) e)), fun b o e => keep b o (hka b o (g.sub _ _ e)) (I.led b o e), fun b o e => (I.kp b o e).trans fun o' e' => .of (keep b o' (hka b o e) e'), ⟨m, hn.sameBut hs hLa, fun y sl hy hsl => ?_⟩, fun y sl hy hsl => ?_, fun c hc => ?_, I.mt, I.inj, fun y z b bs cs h1 h2 => ?_⟩
  · unfold Sto.set at hsl
    by_cases hyx : y = x
    · simp only [hyx, if_true] at hsl; cases hsl
      rw [hyx] at hy ⊢
      obtain ⟨v, e1, e2⟩ := hm x _ hy hx
      exact ⟨v, e1, here v e2⟩
    · simp only [hyx, if_false] at hsl
      obtain ⟨v, e1, e2⟩ := hm y sl hy hsl
      exact ⟨v, e1, up y sl v hyx hsl e2⟩
  · unfold Sto.set at hsl
    by_cases hyx : y = x
    · simp only [hyx, if_true] at hsl; cases hsl
      rw [hyx] at hy ⊢
      obtain ⟨k, c, v, e1, ⟨oc, e2, e2'⟩, e3, e4⟩ := I.cl x _ hy hx
      exact ⟨k, c, v, e1, ⟨oc, keep c oc (by rintro rfl; rw [ha] at e2; cases e2; cases e2') e2, e2'⟩, here v e3, e4⟩
    · simp only [hyx, if_false] at hsl
      obtain ⟨k, c, v, e1, ⟨oc, e2, e2'⟩, e3, e4⟩ := I.cl y sl hy hsl
      exact ⟨k, c, v, e1, ⟨oc, keep c oc (by rintro rfl; rw [ha] at e2; cases e2; cases e2') e2, e2'⟩, up y sl v hyx hsl e3, e4⟩
  · obtain ⟨v, oc, e2, e2'⟩ := I.wc c hc
    exact ⟨v, oc, keep c oc (by rintro rfl; rw [ha] at e2; cases e2; cases e2') e2, e2'⟩
  · unfold Sto.set at h1 h2
    by_cases hy : y = x <;> by_cases hz : z = x
    · rw [hy, hz]
    · simp only [hy, hz, if_true, if_false] at h1 h2; cases h1; exact absurd (I.own _ _ _ _ _ h2 hx) hz
    · simp only [hy, hz, if_true, if_false] at h1 h2; cases h2; exact absurd (I.own _ _ _ _ _ h1 hx) hy
    · simp only [hy, hz, if_false] at h1 h2; exact I.own _ _ _ _ _ h1 h2

theorem ex_append {x : Str} {px apos cpos pos : Pos} {a : Addr} {ds : List D} {e : Expr} {d : D} {P : Out → Prop} (hx : σ x = some (.own a ds)) (he : Ev C A env ws σ e d) (hk : env.scope.kind = .function) (hsz : ds.length ≤ sizeLine)
    (h : P (.next (σ.set x (.own a (ds ++ [d])))))
    (hline : (apos.endLine == cpos.line) = true := by decide) (htrees : backTo cpos (starEach [e] env) = [(false, eval e env)] := by rfl) (hbase : attributeBase (.Name x px) "append" env (eval (.Name x px) env) = eval (.Name x px) env := by rfl) 
    (hb : (x == ("__debug__" : Str)) = false := by decide) (hn : (x == ("__classdict__" : Str)) = false := by decide) :
    Ex1 C A env ws σ (.Expr (.Call (.Attribute (.Name x px) "append" apos) [e] [] cpos) pos) P :=
  fun g s Q E I c => wpAny_Expr_any (wpAny_Call_append hbase (by rw [htrees]; rfl) hline htrees (wpAny_Name (I.load hx hk (fun v hv => by
    obtain ⟨rfl, hkp, vs, n, ho, hvs⟩ := id hv
    refine ⟨a, _, rfl, ⟨_, _, ho, rfl, rfl, rfl⟩, ?_⟩
    refine he g s _ E I fun v₁ g₁ s₁ x₁ w₁ => ?_
    have ho₁ := (x₁.gr.keep _ _ ho).get (plain_seq rfl)
    refine wpAny_list_append_plain (items := vs.toArray) ⟨n, ho₁⟩ (fun h' hp hs => ?_) (by simpa [hvs.length] using hsz)
    obtain ⟨n', hp⟩ := hp
    have J := (I.grow x₁)
    refine c _ _ g₁ _ h ((x₁.step I.kp).trans ⟨.refl _, rfl, Nat.le_refl _⟩) ⟨rfl, ?_⟩
    refine ⟨J.1.setOwn hx hs ⟨vs ++ [v₁], n', ?_, (hvs.mono x₁.gr.led).append (.cons w₁ .nil)⟩, (J.2.set (x := x) (sl := .own a (ds ++ [d])) (fun _ _ e => by cases e)).up (Nat.le_refl _)⟩
    rw [hp]; simp) hn) hb)) (by unfold interactive; rw [hk]; rfl) rfl
end
end Mine
namespace Mine

/-- all is kept but the objects of wr (an iterator's own) -/
structure GrowBut (wr : List Addr) (g : Gh) (s : Shared) (g' : Gh) (s' : Shared) : Prop where
  keep : ∀ a o, a ∉ wr → s.heap.get? a = some o → Up s'.heap a o
  ledk : ∀ a o, g.led a = some o → a ∉ wr → s.heap.get? a = some o → s'.heap.get? a = some o
  led : ∀ a o, g.led a = some o → g'.led a = some o
  kp : ∀ a o, g.kp a = some o → g'.kp a = some o
  new : ∀ a o, g'.kp a = some o → g.kp a = some o ∨ (s.heap.get? a = none ∧ Up s'.heap a o)
  newled : ∀ a o, g'.led a = some o → g.led a = some o ∨ (s.heap.get? a = none ∧ s'.heap.get? a = some o ∧ Plain o)
  eq : s' = { s with heap := s'.heap, toks := s'.toks }
  tk : s.toks ≤ s'.toks
theorem GrowS.but {wr : List Addr} {g g' : Gh} {s s' : Shared} (x : GrowS g s g' s') : GrowBut wr g s g' s' := ⟨fun a o _ => x.gr.keep a o, fun a o h _ => x.gr.ledk a o h, x.gr.led, x.gr.kp, x.gr.new, x.gr.newled, x.eq, x.tk⟩
theorem GrowBut.le {wr : List Addr} {g g' : Gh} {s s' : Shared} (x : GrowBut wr g s g' s') (k : KpIn g s) : g.Le g' := ⟨x.led, x.kp, fun a o e => by
  rcases x.newled a o e with e | ⟨e, _⟩
  · exact .inl e
  · right
    cases q : g.kp a with
    | none => rfl
    | some o' => exact ((k.1 a o' q).no e).elim⟩
theorem GrowBut.step {wr : List Addr} {g g' : Gh} {s s' : Shared} (x : GrowBut wr g s g' s') (k : KpIn g s) : Step g s g' s' := ⟨x.le k, x.eq, x.tk⟩
theorem GrowBut.kpIn {wr : List Addr} {g g' : Gh} {s s' : Shared} (x : GrowBut wr g s g' s') (k : KpIn g s) (hw : ∀ b ∈ wr, g.kp b = none) : KpIn g' s' := ⟨fun a o e => by
  rcases x.new a o e with e | e
  · exact (k.1 a o e).trans fun o' e' => x.keep a o' (fun h => by rw [hw a h] at e; cases e) e'
  · exact e.2, fun a o e => by
  rcases x.newled a o e with e | e
  · exact x.ledk a o e (fun h => by have := g.sub a o e; rw [hw a h] at this; cases this) (k.2.1 a o e)
  · exact e.2.1, Nat.le_trans k.2.2 x.tk⟩

def Off (C : Cx) (env : Env) (ws : List Addr) (σ : Sto) (wr : List Addr) : Prop := env.locals ∉ wr ∧ (∀ c ∈ ws, c ∉ wr) ∧ (∀ x a ds, σ x = some (.own a ds) → a ∉ wr) ∧ ∀ e ∈ C.fr, ∀ L, e.frame = some L → L ∉ wr
theorem FrOk.off {h₀ h h' : Heap} {l : List Env} {wr : List Addr} (f : FrOk h₀ h l) (hx : ∀ e ∈ l, ∀ L, e.frame = some L → L ∉ wr) (k : ∀ b o, b ∉ wr → h.get? b = some o → Up h' b o) : FrOk h₀ h' l := fun env he => by
  obtain ⟨hk, L, o, es, n, h1, h2, h3, h4⟩ := f env he
  obtain ⟨o', e', d', _⟩ := k L o (hx env he L h1) h3
  exact ⟨hk, L, o', es, n, h1, h2, e', d'.trans h4⟩

section
variable {C : Cx} {A : Around} {env : Env} {ws : List Addr} {σ τ : Sto}

theorem kp_none_but {wr : List Addr} {g g' : Gh} {s s' : Shared} (x : GrowBut wr g s g' s') {a : Addr} {o : Obj} (k : g.kp a = none) (e : s.heap.get? a = some o) : g'.kp a = none := by
  cases q : g'.kp a with
  | none => rfl
  | some o' =>
    rcases x.new a o' q with q | ⟨q, _⟩
    · rw [k] at q; cases q
    · rw [e] at q; cases q
theorem InvS.but {wr : List Addr} {g g' : Gh} {s s' : Shared} (I : InvS C env ws σ g s) (x : GrowBut wr g s g' s') (off : Off C env ws σ wr) (hw : ∀ b ∈ wr, g.kp b = none) : InvS C env ws σ g' s' := by
  obtain ⟨I, ht⟩ := I
  have hh : ∀ y sl v, σ y = some sl → Holds g s.heap v sl → Holds g' s'.heap v sl := fun y sl v hy k => by
    cases sl with
    | val d => exact k.mono x.led
    | own a ds =>
      obtain ⟨e, k1, vs, n, e2, kv⟩ := k
      exact ⟨e, kp_none_but x k1 e2, vs, n, (x.keep _ _ (off.2.2.1 _ _ _ hy) e2).get (plain_seq rfl), kv.mono x.led⟩
  have kpIn := x.kpIn ⟨I.kp, I.led, ht.one⟩ hw
  refine ⟨⟨fun a o e => x.led a o (I.base a o e), fun a o e => (x.newled a o e).elim (I.ok a o) (fun h => .inr h.2.2), I.fr.off off.2.2.2 x.keep, kpIn.2.1, kpIn.1, ?_, fun y sl hy hs => ?_, fun c hc => ?_, ⟨?_, fun c hc => ?_⟩, I.inj, I.own⟩, ht.up x.tk⟩
  · obtain ⟨m, hn, hm⟩ := I.ns
    refine ⟨m, Up.ns hn fun o e => x.keep _ o off.1 e, fun y sl hy hs => ?_⟩
    obtain ⟨v, h1, h2⟩ := hm y sl hy hs
    exact ⟨v, h1, hh y sl v hs h2⟩
  · obtain ⟨k, c, v, h1, ⟨o, h2, h2'⟩, h3, h4⟩ := I.cl y sl hy hs
    have hc : c ∉ wr := by
      rcases h4 with ⟨o', h4⟩ | h4
      · intro hc; rw [hw c hc] at h4; cases h4
      · exact off.2.1 c h4
    exact ⟨k, c, v, h1, ⟨o, (x.keep _ _ hc h2).get (plain_cell h2'), h2'⟩, hh y sl v hs h3, h4.imp (fun ⟨o, e⟩ => ⟨o, x.kp _ _ e⟩) id⟩
  · obtain ⟨v, o, h2, h2'⟩ := I.wc c hc
    exact ⟨v, o, (x.keep _ _ (off.2.1 c hc) h2).get (plain_cell h2'), h2'⟩
  · obtain ⟨m, ⟨o, es, ep, ho, _⟩, _⟩ := I.ns
    exact kp_none_but x I.mt.1 ho
  · obtain ⟨v, o, h2, _⟩ := I.wc c hc
    exact kp_none_but x (I.mt.2 c hc) h2

/-- an iterator over data -/
structure It (C : Cx) (A : Around) (target : Expr) (it : Value) (wr : List Addr) (St : Nat → Gh → Shared → Prop) (Sm : Nat → Value → Gh → Shared → Prop) (items : List D) : Prop where
  next : ∀ i d, items[i]? = some d → ∀ (g : Gh) (s : Shared) (Q : Option Value → Shared → Prop) (E : Value → Shared → Prop), KpIn g s → St i g s →
    (∀ v g' s', GrowBut wr g s g' s' → Sm (i + 1) v g' s' → Val g'.led v d → (∀ b ∈ wr, g'.kp b = none) → Q (some v) s') → wpAny (model C.prog C.w) A (pyNext it) Q E s
  done : ∀ (g : Gh) (s : Shared) (Q : Option Value → Shared → Prop) (E : Value → Shared → Prop), KpIn g s → St items.length g s →
    (∀ s', GrowBut wr g s g s' → Q none s') → wpAny (model C.prog C.w) A (pyNext it) Q E s
  go : ∀ i v d (g : Gh) (s : Shared) (Q : Unit → Shared → Prop) (E : Value → Shared → Prop), d ∈ items → KpIn g s → Sm i v g s → Val g.led v d →
    (∀ s', GrowBut wr g s g s' → St i g s' → Q () s') → wpAny (model C.prog C.w) A (letOwnedTupleGo target it v) Q E s
  frame : ∀ i g s g' s', St i g s → g.Le g' → KpIn g' s' → (∀ b ∈ wr, g'.kp b = none) → (∀ b ∈ wr, ∀ o, s.heap.get? b = some o → s'.heap.get? b = some o) → St i g' s'
  out : ∀ i g s, St i g s → ∀ b ∈ wr, (∃ o, s.heap.get? b = some o ∧ (∀ v, o.data ≠ .cell v) ∧ o.cls ≠ .type "list" ∧ Plain o) ∧ g.kp b = none
  self : ∀ i (g : Gh) (s : Shared) (Q : Value → Shared → Prop) (E : Value → Shared → Prop), St i g s → Q it s → wpAny (model C.prog C.w) A (pyIter it) Q E s

/-- what an expression hands to a loop -/
def EvIt (C : Cx) (A : Around) (env : Env) (ws : List Addr) (σ : Sto) (target e : Expr) (items : List D) : Prop :=
  ∀ (g : Gh) (s : Shared) (Q : Value → Shared → Prop) (E : Value → Shared → Prop), InvS C env ws σ g s →
    (∀ it wr St Sm g' s', GrowS g s g' s' → It C A target it wr St Sm items → St 0 g' s' → (∀ b ∈ wr, s.heap.get? b = none) → Q it s') →
    wpAny (model C.prog C.w) A (eval e env) (fun x s₁ => wpAny (model C.prog C.w) A (pyIter x) Q E s₁) E s

theorem InvS.fresh_off {g : Gh} {s : Shared} {wr : List Addr} (I : InvS C env ws σ g s) (h : ∀ b ∈ wr, s.heap.get? b = none) : Off C env ws σ wr := by
  obtain ⟨m, ⟨o, es, ep, ho, _⟩, hm⟩ := I.1.ns
  refine ⟨fun hL => (by rw [h _ hL] at ho; cases ho), fun c hc hw => ?_, fun x a ds hx hw => ?_, fun e he L hL hw => ?_⟩
  · obtain ⟨v, oc, e, _⟩ := I.1.wc c hc
    rw [h _ hw] at e; cases e
  · by_cases hk : env.kindOf x = some .local
    · obtain ⟨v, _, _, _, vs, n, e, _⟩ := hm x _ hk hx
      rw [h _ hw] at e; cases e
    · obtain ⟨_, c, v, _, _, ⟨_, _, vs, n, e, _⟩, _⟩ := I.1.cl x _ hk hx
      rw [h _ hw] at e; cases e
  · obtain ⟨_, L', o', _, _, e1, _, e2, _⟩ := I.1.fr e he
    rw [hL] at e1; cases e1
    rw [h _ hw] at e2; cases e2

def Gh.hold (g : Gh) (wr : List Addr) (h : Heap) (hw : ∀ b ∈ wr, g.kp b = none) : Gh where
  led := g.led
  kp a := if a ∈ wr then h.get? a else g.kp a
  sub a o e := by
    have := g.sub a o e
    by_cases q : a ∈ wr
    · rw [hw a q] at this; cases this
    · simp only [q, if_false]; exact this
def Gh.free (g : Gh) (wr : List Addr) (hw : ∀ b ∈ wr, g.led b = none) : Gh where
  led := g.led
  kp a := if a ∈ wr then none else g.kp a
  sub a o e := by
    by_cases q : a ∈ wr
    · rw [hw a q] at e; cases e
    · simp only [q, if_false]; exact g.sub a o e

theorem InvS.hold {g : Gh} {s : Shared} {wr : List Addr} (I : InvS C env ws σ g s) (hw : ∀ b ∈ wr, g.kp b = none) (off : Off C env ws σ wr) : InvS C env ws σ (g.hold wr s.heap hw) s := by
  obtain ⟨I, ht⟩ := I
  have hh : ∀ y sl v, σ y = some sl → Holds g s.heap v sl → Holds (g.hold wr s.heap hw) s.heap v sl := fun y sl v hy k => by
    cases sl with
    | val d => exact k
    | own a ds =>
      obtain ⟨e, k1, r⟩ := k
      exact ⟨e, by simp only [Gh.hold, off.2.2.1 _ _ _ hy, if_false]; exact k1, r⟩
  refine ⟨⟨I.base, I.ok, I.fr, I.led, fun a o e => ?_, ?_, fun y sl hy hs => ?_, I.wc, ⟨?_, fun c hc => ?_⟩, I.inj, I.own⟩, ht⟩
  · by_cases q : a ∈ wr
    · simp only [Gh.hold, q, if_true] at e; exact .of e
    · simp only [Gh.hold, q, if_false] at e; exact I.kp a o e
  · obtain ⟨m, hn, hm⟩ := I.ns
    refine ⟨m, hn, fun y sl hy hs => ?_⟩
    obtain ⟨v, h1, h2⟩ := hm y sl hy hs
    exact ⟨v, h1, hh y sl v hs h2⟩
  · obtain ⟨k, c, v, h1, h2, h3, h4⟩ := I.cl y sl hy hs
    refine ⟨k, c, v, h1, h2, hh y sl v hs h3, h4.imp (fun ⟨o, e⟩ => ?_) id⟩
    have q : c ∉ wr := fun q => by rw [hw c q] at e; cases e
    exact ⟨o, by simp only [Gh.hold, q, if_false]; exact e⟩
  · simp only [Gh.hold, off.1, if_false]; exact I.mt.1
  · simp only [Gh.hold, off.2.1 c hc, if_false]; exact I.mt.2 c hc

/-- from a ghost that held an iterator back to one that does not -/
theorem held_back {g g₂ : Gh} {s s₂ : Shared} {wr : List Addr} (hw : ∀ b ∈ wr, g.kp b = none) (out : ∀ b ∈ wr, ∃ o, s.heap.get? b = some o) (le : (g.hold wr s.heap hw).Le g₂) : ∀ b ∈ wr, g₂.led b = none := by
  intro b hb
  cases q : g₂.led b with
  | none => rfl
  | some o =>
    rcases le.2.2 b o q with e | e
    · have := g.sub b o e; rw [hw b hb] at this; cases this
    · obtain ⟨o', ho'⟩ := out b hb
      simp only [Gh.hold, hb, if_true] at e; rw [ho'] at e; cases e
theorem free_le {g g₂ : Gh} {s : Shared} {wr : List Addr} (hw : ∀ b ∈ wr, g.kp b = none) (out : ∀ b ∈ wr, ∃ o, s.heap.get? b = some o) (le : (g.hold wr s.heap hw).Le g₂) (hf : ∀ b ∈ wr, g₂.led b = none) : g.Le (g₂.free wr hf) := by
  refine ⟨le.1, fun a o e => ?_, fun a o e => ?_⟩
  · have q : a ∉ wr := fun q => by rw [hw a q] at e; cases e
    have := le.2.1 a o (by simp only [Gh.hold, q, if_false]; exact e)
    simp only [Gh.free, q, if_false]; exact this
  · rcases le.2.2 a o e with e | e
    · exact .inl e
    · right
      by_cases q : a ∈ wr
      · obtain ⟨o', ho'⟩ := out a q
        simp only [Gh.hold, q, if_true] at e; rw [ho'] at e; cases e
      · simpa only [Gh.hold, q, if_false] using e
theorem InvS.free {g g₂ : Gh} {s s₂ : Shared} {wr : List Addr} (hw : ∀ b ∈ wr, g.kp b = none) (out : ∀ b ∈ wr, ∃ o, s.heap.get? b = some o ∧ (∀ v, o.data ≠ .cell v) ∧ Plain o) (le : (g.hold wr s.heap hw).Le g₂) (hf : ∀ b ∈ wr, g₂.led b = none)
    (I : InvS C env ws σ g₂ s₂) : InvS C env ws σ (g₂.free wr hf) s₂ ∧ Off C env ws σ wr := by
  obtain ⟨I, ht⟩ := I
  have hkp : ∀ b ∈ wr, ∃ o, g₂.kp b = some o ∧ (∀ v, o.data ≠ .cell v) ∧ Plain o := fun b hb => by
    obtain ⟨o, ho, hd⟩ := out b hb
    exact ⟨o, le.2.1 b o (by simp only [Gh.hold, hb, if_true]; exact ho), hd⟩
  have hh : ∀ y sl v, σ y = some sl → Holds g₂ s₂.heap v sl → Holds (g₂.free wr hf) s₂.heap v sl := fun y sl v hy k => by
    cases sl with
    | val d => exact k
    | own a ds =>
      obtain ⟨e, k1, r⟩ := k
      refine ⟨e, ?_, r⟩
      by_cases q : a ∈ wr
      · simp only [Gh.free, q, if_true]
      · simp only [Gh.free, q, if_false]; exact k1
  refine ⟨⟨⟨I.base, I.ok, I.fr, I.led, fun a o e => ?_, ?_, fun y sl hy hs => ?_, I.wc, ⟨?_, fun c hc => ?_⟩, I.inj, I.own⟩, ht⟩, fun hL => ?_, fun c hc hcw => ?_, fun x a ds hx hxw => ?_, fun e he L hL hw' => ?_⟩
  · by_cases q : a ∈ wr
    · simp only [Gh.free, q, if_true] at e; cases e
    · simp only [Gh.free, q, if_false] at e; exact I.kp a o e
  · obtain ⟨m, hn, hm⟩ := I.ns
    refine ⟨m, hn, fun y sl hy hs => ?_⟩
    obtain ⟨v, h1, h2⟩ := hm y sl hy hs
    exact ⟨v, h1, hh y sl v hs h2⟩
  · obtain ⟨k, c, v, h1, ⟨oc, h2, h2'⟩, h3, h4⟩ := I.cl y sl hy hs
    refine ⟨k, c, v, h1, ⟨oc, h2, h2'⟩, hh y sl v hs h3, h4.imp (fun ⟨o, e⟩ => ?_) id⟩
    have q : c ∉ wr := fun q => by
      obtain ⟨o', e1, e2⟩ := hkp c q
      have := (I.kp _ _ e1).get e2.2
      rw [h2] at this; cases this
      exact e2.1 _ h2'
    exact ⟨o, by simp only [Gh.free, q, if_false]; exact e⟩
  · by_cases q : env.locals ∈ wr
    · simp only [Gh.free, q, if_true]
    · simp only [Gh.free, q, if_false]; exact I.mt.1
  · by_cases q : c ∈ wr
    · simp only [Gh.free, q, if_true]
    · simp only [Gh.free, q, if_false]; exact I.mt.2 c hc
  · obtain ⟨o, e, _⟩ := hkp _ hL; rw [I.mt.1] at e; cases e
  · obtain ⟨o, e, _⟩ := hkp _ hcw; rw [I.mt.2 c hc] at e; cases e
  · obtain ⟨o, e, _⟩ := hkp _ hxw
    obtain ⟨m, _, hm⟩ := I.ns
    by_cases hk : env.kindOf x = some .local
    · obtain ⟨v, _, _, k, _⟩ := hm x _ hk hx
      rw [k] at e; cases e
    · obtain ⟨_, c, v, _, _, ⟨_, k, _⟩, _⟩ := I.cl x _ hk hx
      rw [k] at e; cases e
  · obtain ⟨o, e1, _, hp⟩ := hkp _ hw'
    obtain ⟨_, L', o', es, n, q1, _, q2, q3⟩ := I.fr e he
    rw [hL] at q1; cases q1
    have := (I.kp _ _ e1).get hp
    rw [q2] at this; cases this
    exact hp es n q3

/-- for: J says what holds after i turns -/
theorem ex_for {target iter : Expr} {body : List Stmt} {pos : Pos} {items : List D} {P : Out → Prop} (J : Nat → Sto → Prop) (hi : EvIt C A env ws σ target iter items) (h0 : J 0 σ)
    (turn : ∀ i d τ, items[i]? = some d → J i τ → ∃ τ', Asg C A env ws τ target d τ' ∧ Ex C A env ws τ' body fun o => match o with | .next τ | .cont τ => J (i + 1) τ | .brk τ => P (.next τ) | .ret d => P (.ret d))
    (fin : ∀ τ, J items.length τ → P (.next τ)) (hs : ∀ x, foldedSetIterable iter env x = pure x := by intro _; rfl) : Ex1 C A env ws σ (.For target iter body [] pos) P := by
  intro g s Q E I c
  refine wpAny_For (hi g s _ E I fun it wr St Sm g₀ s₀ x₀ W st₀ fresh => ?_) hs
  refine codeAny_forLoop_any (fun k s' => ∃ i g' τ, k = items.length + 1 - i ∧ i ≤ items.length ∧ Step g s g' s' ∧ InvS C env ws τ g' s' ∧ St i g' s' ∧ J i τ ∧ Off C env ws τ wr) ?_ (items.length + 1)
    ⟨0, g₀, σ, rfl, Nat.zero_le _, x₀.step I.kp, I.grow x₀, st₀, h0, I.fresh_off fresh⟩
  rintro k s₁ ⟨i, g₁, τ, rfl, hle, y₁, I₁, st₁, hJ, off⟩
  have out₁ := W.out i g₁ s₁ st₁
  by_cases hlt : i < items.length
  · have hd : items[i]? = some (items[i]) := List.getElem?_eq_getElem hlt
    refine W.next i _ hd g₁ s₁ _ _ I₁.kp st₁ fun v g₂ s₂ x₂ sm₂ w₂ hw₂ => ?_
    have I₂ := I₁.but x₂ off (fun b hb => (out₁ b hb).2)
    refine W.go (i + 1) v _ g₂ s₂ _ _ (List.getElem_mem hlt) I₂.kp sm₂ w₂ fun s₃ x₃ st₃ => ?_
    have I₃ := I₂.but x₃ off hw₂
    have out₃ := W.out (i + 1) g₂ s₃ st₃
    obtain ⟨τ', hasg, hbody⟩ := turn i _ τ hd hJ
    have I₄ := I₃.hold hw₂ off
    have out₃' : ∀ b ∈ wr, ∃ o, s₃.heap.get? b = some o := fun b hb => let ⟨⟨o, e, _⟩, _⟩ := out₃ b hb; ⟨o, e⟩
    have out₃'' : ∀ b ∈ wr, ∃ o, s₃.heap.get? b = some o ∧ (∀ v, o.data ≠ .cell v) ∧ Plain o := fun b hb => let ⟨⟨o, e, h, _, h'⟩, _⟩ := out₃ b hb; ⟨o, e, h, h'⟩
    refine hasg _ s₃ v _ _ I₄ w₂ fun g₅ s₅ y₅ I₅ => ?_
    refine hbody g₅ s₅ _ _ I₅ fun o fl g₆ s₆ hP y₆ f₆ => ?_
    have le : (g₂.hold wr s₃.heap hw₂).Le g₆ := y₅.le.trans y₆.le
    have hf := held_back (s₂ := s₆) hw₂ out₃' le
    have Y : Step g s (g₆.free wr hf) s₆ := y₁.trans ((x₂.step I₁.kp).trans ((x₃.step I₂.kp).trans ⟨free_le hw₂ out₃' le hf, by rw [y₆.eq, y₅.eq], Nat.le_trans y₅.tk y₆.tk⟩))
    have held : KpIn g₆ s₆ → ∀ b ∈ wr, ∀ o, s₃.heap.get? b = some o → s₆.heap.get? b = some o := fun K b hb o e => (K.1 b o (le.2.1 b o (by simp only [Gh.hold, hb, if_true]; exact e))).get (by obtain ⟨⟨o', e', _, _, hp⟩, _⟩ := out₃ b hb; rw [e] at e'; cases e'; exact hp)
    have again : ∀ τ₂, InvS C env ws τ₂ g₆ s₆ → J (i + 1) τ₂ → ∃ m, m < items.length + 1 - i ∧ ∃ i g' τ, m = items.length + 1 - i ∧ i ≤ items.length ∧ Step g s g' s₆ ∧ InvS C env ws τ g' s₆ ∧ St i g' s₆ ∧ J i τ ∧ Off C env ws τ wr := fun τ₂ I₆ hJ' => by
      obtain ⟨I₇, off₇⟩ := InvS.free hw₂ out₃'' le hf I₆
      refine ⟨items.length + 1 - (i + 1), by omega, i + 1, _, τ₂, rfl, hlt, Y, I₇, ?_, hJ', off₇⟩
      exact W.frame (i + 1) g₂ s₃ _ s₆ st₃ (free_le hw₂ out₃' le hf) I₇.kp (fun b hb => by simp only [Gh.free, hb, if_true]) (held I₆.kp)
    cases o with
    | next τ₂ => obtain ⟨rfl, I₆⟩ := f₆; exact again τ₂ I₆ hP
    | cont τ₂ => obtain ⟨rfl, I₆⟩ := f₆; exact again τ₂ I₆ hP
    | brk τ₂ =>
      obtain ⟨rfl, I₆⟩ := f₆
      exact c _ _ _ _ hP Y ⟨rfl, (InvS.free hw₂ out₃'' le hf I₆).1⟩
    | ret d =>
      obtain ⟨v', rfl, w', k', kb⟩ := f₆
      refine c _ _ _ _ hP Y ⟨v', rfl, w', ⟨fun a o e => ?_, k'.2⟩, ⟨kb.1.base, kb.1.ok, kb.1.fr⟩, kb.2⟩
      by_cases q : a ∈ wr
      · simp only [Gh.free, q, if_true] at e; cases e
      · simp only [Gh.free, q, if_false] at e; exact k'.1 a o e
  · obtain rfl : i = items.length := by omega
    refine W.done g₁ s₁ _ _ I₁.kp st₁ fun s₂ x₂ => wpAny_execs_nil ?_
    exact c _ _ _ _ (fin τ hJ) (y₁.trans (x₂.step I₁.kp)) ⟨rfl, I₁.but x₂ off (fun b hb => (out₁ b hb).2)⟩

/-- while: J with a measure -/
theorem ex_while {test : Expr} {body : List Stmt} {pos : Pos} {P : Out → Prop} (J : Nat → Sto → Prop) (n : Nat) (h0 : J n σ)
    (turn : ∀ k τ, J k τ → ∃ b, EvB C A env ws τ test b ∧ (b = false → P (.next τ)) ∧ (b = true → Ex C A env ws τ body fun o => match o with | .next τ | .cont τ => ∃ m, m < k ∧ J m τ | .brk τ => P (.next τ) | .ret d => P (.ret d))) :
    Ex1 C A env ws σ (.While test body [] pos) P := by
  intro g s Q E I c
  refine wpAny_While ?_
  refine codeAny_whileLoop (fun k s' => ∃ g' τ, Step g s g' s' ∧ InvS C env ws τ g' s' ∧ J k τ) ?_ n ⟨g, σ, .refl _ _, I, h0⟩
  rintro k s₁ ⟨g₁, τ, y₁, I₁, hJ⟩
  obtain ⟨b, hb, hf, ht⟩ := turn k τ hJ
  refine hb g₁ s₁ _ _ I₁ fun g₂ s₂ x₂ => ?_
  have y₂ := y₁.trans (x₂.step I₁.kp)
  have I₂ := I₁.grow x₂
  cases b with
  | false =>
    simp only [Bool.false_eq_true, if_false]
    exact wpAny_execs_nil (c _ _ _ _ (hf rfl) y₂ ⟨rfl, I₂⟩)
  | true =>
    simp only [if_true]
    refine ht rfl g₂ s₂ _ _ I₂ fun o fl g₃ s₃ hP y₃ f₃ => ?_
    cases o with
    | next τ₂ => obtain ⟨rfl, I₃⟩ := f₃; obtain ⟨m, hm, hJ'⟩ := hP; exact ⟨m, hm, g₃, τ₂, y₂.trans y₃, I₃, hJ'⟩
    | cont τ₂ => obtain ⟨rfl, I₃⟩ := f₃; obtain ⟨m, hm, hJ'⟩ := hP; exact ⟨m, hm, g₃, τ₂, y₂.trans y₃, I₃, hJ'⟩
    | brk τ₂ => obtain ⟨rfl, I₃⟩ := f₃; exact c _ _ _ _ hP (y₂.trans y₃) ⟨rfl, I₃⟩
    | ret d => obtain ⟨v', rfl, r⟩ := f₃; exact c _ _ _ _ hP (y₂.trans y₃) ⟨v', rfl, r⟩
end
end Mine
namespace Mine

section
variable {C : Cx} {A : Around} {env : Env} {ws : List Addr} {σ τ : Sto}

/-- a library's walk is an iterator of ours -/
theorem It.ofWalks {target : Expr} {I : Addr} {fp wr : List Addr} {n : Nat} {Pv : Nat → Value → Prop} {St : Nat → Heap → Prop} {items : List D} (W : Walks C.prog C.w A I fp wr n Pv St) (hn : items.length = n) (G : Gh → Prop)
    (hG : ∀ g g' : Gh, (∀ a o, g.led a = some o → g'.led a = some o) → G g → G g') (hv : ∀ g i v d, G g → items[i]? = some d → Pv i v → Val g.led v d)
    (hout : ∀ i h, St i h → ∀ b ∈ wr, ∃ o, h.get? b = some o ∧ (∀ v, o.data ≠ .cell v) ∧ o.cls ≠ .type "list" ∧ Plain o)
    (hgo : ∀ i v d (g : Gh) (s : Shared) (Q : Unit → Shared → Prop) (E : Value → Shared → Prop), d ∈ items → St i s.heap → Val g.led v d → Q () s → wpAny (model C.prog C.w) A (letOwnedTupleGo target (.ref I) v) Q E s) :
    It C A target (.ref I) wr (fun i g s => St i s.heap ∧ (∀ b ∈ fp, b ∉ wr → ∃ o, g.kp b = some o ∧ s.heap.get? b = some o ∧ Plain o) ∧ (∀ b ∈ wr, g.kp b = none) ∧ G g)
      (fun i _ g s => St i s.heap ∧ (∀ b ∈ fp, b ∉ wr → ∃ o, g.kp b = some o ∧ s.heap.get? b = some o ∧ Plain o) ∧ (∀ b ∈ wr, g.kp b = none) ∧ G g) items where
  next i d hd g s Q E k st c := by
    obtain ⟨h1, h2, h3, h4⟩ := st
    have hlt : i < n := by rw [← hn]; exact (List.getElem?_eq_some_iff.mp hd).1
    refine lift fun _ => W.item i s _ _ hlt h1 fun v h' tk hp st' keep htk => ?_
    refine c v g _ ⟨fun a o ha e => .of (keep a o ha e), fun a o _ ha e => keep a o ha e, fun _ _ e => e, fun _ _ e => e, fun _ _ e => .inl e, fun _ _ e => .inl e, rfl, htk⟩ ⟨st', fun b hb hbw => ?_, h3, h4⟩ (hv g i v d h4 hd hp) h3
    obtain ⟨o, e1, e2, e3⟩ := h2 b hb hbw
    exact ⟨o, e1, keep b o hbw e2, e3⟩
  done g s Q E k st c := by
    obtain ⟨h1, h2, h3, h4⟩ := st
    refine lift fun _ => W.done s _ _ (by rw [hn] at h1; exact h1) fun h' tk keep htk => ?_
    exact c _ ⟨fun a o ha e => .of (keep a o ha e), fun a o _ ha e => keep a o ha e, fun _ _ e => e, fun _ _ e => e, fun _ _ e => .inl e, fun _ _ e => .inl e, rfl, htk⟩
  go i v d g s Q E hd k st hv' c := hgo i v d g s Q E hd st.1 hv' (c s (GrowS.but (GrowS.refl g s)) st)
  frame i g s g' s' st le k' hkp keep := by
    obtain ⟨h1, h2, h3, h4⟩ := st
    refine ⟨W.frame i _ _ h1 fun b hb o e => ?_, fun b hb hbw => ?_, hkp, hG g g' le.1 h4⟩
    · by_cases hbw : b ∈ wr
      · exact keep b hbw o e
      · obtain ⟨o', e1, e2, e3⟩ := h2 b hb hbw
        rw [e] at e2; cases e2
        exact (k'.1 _ _ (le.2.1 _ _ e1)).get e3
    · obtain ⟨o', e1, e2, e3⟩ := h2 b hb hbw
      exact ⟨o', le.2.1 _ _ e1, (k'.1 _ _ (le.2.1 _ _ e1)).get e3, e3⟩
  out i g s st b hb := ⟨hout i _ st.1 b hb, st.2.2.1 b hb⟩
  self i g s Q E st q := W.self i s Q E st.1 q

theorem go_name {x : Str} {px : Pos} {I : Addr} {v : Value} {s : Shared} {Q : Unit → Shared → Prop} {E : Value → Shared → Prop} (h : Q () s) : wpAny (model C.prog C.w) A (letOwnedTupleGo (.Name x px) (.ref I) v) Q E s := wpAny_pure h

theorem kp_fresh {g : Gh} {s : Shared} (k : KpIn g s) {a : Addr} (h : s.heap.objs.size ≤ a) : g.kp a = none := by
  cases q : g.kp a with
  | none => rfl
  | some o => exact ((k.1 a o q).no (Heap.get?_none_of_le h)).elim

/-- the target is a name, or the items are tuples -/
def GoOk (target : Expr) (items : List D) : Prop := (∃ x p, target = .Name x p) ∨ ((∃ es k p, target = .Tuple es k p) ∧ ∀ d ∈ items, ∃ ds, d = .tuple ds)

theorem evit_list {target e : Expr} {ds : List D} (h : Ev C A env ws σ e (.list ds)) (hh : A.handled = none) (ht : GoOk target ds) : EvIt C A env ws σ target e ds := fun g s Q E I c => h g s _ E I fun v g₁ s₁ x₁ w₁ => by
  have k₁ := (I.grow x₁).kp
  cases w₁ with
  | @list a o vs n _ h1 h2 h3 h4 =>
    have ha : s₁.heap.get? a = some o := k₁.2.1 _ _ h1
    have hl : s₁.heap.IsList a vs.toArray := ⟨_, ha, h2, _, h3⟩
    have hne : a ≠ s₁.heap.objs.size := Nat.ne_of_lt (Heap.lt_size ha)
    have hlen : vs.toArray.size = ds.length := by simp [h4.length]
    refine wpAny_pyIter_list hl ?_
    have W := Walks.list (prog := C.prog) (w := C.w) hh s₁.heap.objs.size a hne vs.toArray
    have x₂ : GrowS g₁ s₁ g₁ { s₁ with heap := s₁.heap.push { cls := .type "list_iterator", data := .fields #[.ref a, .int 0 0] } } := ⟨Grow.heap fun a o q => Heap.get?_push_of_some _ q, rfl, Nat.le_refl _⟩
    refine c _ [s₁.heap.objs.size] _ _ g₁ _ (x₁.trans x₂) (It.ofWalks W hlen.symm (fun g => ValL g.led vs ds) (fun g g' hl k => k.mono hl) (fun g i v d G hd hv => ?_) (fun i h st b hb => ?_) (fun i v d g s Q E hd st hv q => ?_)) ⟨⟨⟨_, Heap.get?_push_size _ rfl, rfl, rfl⟩, hl.push _⟩, fun b hb hbw => ?_, fun b hb => ?_, h4⟩ fun b hb => ?_
    · obtain ⟨v', e1, e2⟩ := G.get hd
      have : vs[i]? = some v := by simpa using hv
      rw [this] at e1; cases e1; exact e2
    · rw [List.mem_singleton.mp hb]
      obtain ⟨o, e1, e2, e3⟩ := st.1
      exact ⟨o, e1, fun v q => by (rw [e3] at q; cases q), by rw [e2]; decide, plain_fields e3⟩
    · rcases ht with ⟨x, p, rfl⟩ | ⟨⟨es, kk, p, rfl⟩, ht⟩
      · exact go_name q
      · obtain ⟨ds', rfl⟩ := ht d hd
        cases hv
        exact wpAny_letOwnedTupleGo_listiter st.1 q
    · rcases List.mem_cons.mp hb with rfl | hb
      · exact absurd (List.mem_singleton.mpr rfl) hbw
      · rw [List.mem_singleton.mp hb]
        exact ⟨o, g₁.sub _ _ h1, Heap.get?_push_of_some _ ha, plain_seq h3⟩
    · rw [List.mem_singleton.mp hb]; exact kp_fresh k₁ (Nat.le_refl _)
    · rw [List.mem_singleton.mp hb]; exact none_of_up x₁.gr.keep (Heap.get?_none_of_le (Nat.le_refl _))

/-- the signs of a text -/
def signs (x : Str) : List D := x.cps.toList.map fun c => .str ⟨#[c]⟩
theorem evit_str {x₀ : Str} {p₀ : Pos} {e : Expr} {x : Str} (h : Ev C A env ws σ e (.str x)) (hh : A.handled = none) : EvIt C A env ws σ (.Name x₀ p₀) e (signs x) := fun g s Q E I c => h g s _ E I fun v g₁ s₁ x₁ w₁ => by
  have k₁ := (I.grow x₁).kp
  cases w₁ with
  | str _ t =>
    have hlen : (signs x).length = x.cps.size := by simp [signs]
    have hv : ∀ (g : Gh) i v d, True → (signs x)[i]? = some d → SignAt x i v → Val g.led v d := fun g i v d _ hd hv => by
      obtain ⟨cc, u, e1, rfl⟩ := hv
      have e1' : x.cps.toList[i]? = some cc := by simpa using e1
      simp only [signs, List.getElem?_map, e1', Option.map_some] at hd
      cases hd; exact .str _ _
    cases ha : x.cps.all (· < 128) with
    | false =>
      refine wpAny_pyIter_wide ha ?_
      have x₂ : GrowS g₁ s₁ g₁ { s₁ with heap := s₁.heap.push { cls := .type "str_iterator", data := .fields #[.str x t, .int 0 0] } } := ⟨Grow.heap fun a o q => Heap.get?_push_of_some _ q, rfl, Nat.le_refl _⟩
      refine c _ [s₁.heap.objs.size] _ _ g₁ _ (x₁.trans x₂) (It.ofWalks (Walks.strWide hh s₁.heap.objs.size x t) hlen (fun _ => True) (fun _ _ _ _ => trivial) hv (fun i h st b hb => ?_) (fun i v d g s Q E hd st hv q => go_name q))
        ⟨⟨_, Heap.get?_push_size _ rfl, rfl, rfl⟩, fun b hb hbw => absurd hb hbw, fun b hb => ?_, trivial⟩ fun b hb => ?_
      · rw [List.mem_singleton.mp hb]
        obtain ⟨o, e1, e2, e3⟩ := st
        exact ⟨o, e1, fun v q => by (rw [e3] at q; cases q), by rw [e2]; decide, plain_fields e3⟩
      · rw [List.mem_singleton.mp hb]; exact kp_fresh k₁ (Nat.le_refl _)
      · rw [List.mem_singleton.mp hb]; exact none_of_up x₁.gr.keep (Heap.get?_none_of_le (Nat.le_refl _))
    | true =>
      refine wpAny_pyIter_ascii ha ?_
      have x₂ : GrowS g₁ s₁ g₁ { s₁ with heap := s₁.heap.push { cls := .type "str_ascii_iterator", data := .fields #[.str x t, .int 0 0] } } := ⟨Grow.heap fun a o q => Heap.get?_push_of_some _ q, rfl, Nat.le_refl _⟩
      refine c _ [s₁.heap.objs.size] _ _ g₁ _ (x₁.trans x₂) (It.ofWalks (Walks.strAscii hh s₁.heap.objs.size x t) hlen (fun _ => True) (fun _ _ _ _ => trivial) hv (fun i h st b hb => ?_) (fun i v d g s Q E hd st hv q => go_name q))
        ⟨⟨_, Heap.get?_push_size _ rfl, rfl, rfl⟩, fun b hb hbw => absurd hb hbw, fun b hb => ?_, trivial⟩ fun b hb => ?_
      · rw [List.mem_singleton.mp hb]
        obtain ⟨o, e1, e2, e3⟩ := st
        exact ⟨o, e1, fun v q => by (rw [e3] at q; cases q), by rw [e2]; decide, plain_fields e3⟩
      · rw [List.mem_singleton.mp hb]; exact kp_fresh k₁ (Nat.le_refl _)
      · rw [List.mem_singleton.mp hb]; exact none_of_up x₁.gr.keep (Heap.get?_none_of_le (Nat.le_refl _))

/-- range -/
def rangeD (a : Int) (n : Nat) : List D := (List.range n).map fun i => .int (a + (i : Nat))
theorem evit_of_range {x₀ : Str} {p₀ : Pos} {a b : Int} {t u v : Tok} {g₁ : Gh} {s₁ : Shared} {r : Addr} {Q : Value → Shared → Prop} {E : Value → Shared → Prop} (hr : IsRange s₁.heap r a b 1 t u v) (hh : A.handled = none) (k₁ : KpIn g₁ s₁)
    (ha : -(2 ^ 62) ≤ a) (ha' : a < 2 ^ 62) (hb : -(2 ^ 62) ≤ b) (hb' : b < 2 ^ 62)
    (c : ∀ it wr St Sm g' s', GrowS g₁ s₁ g' s' → It C A (.Name x₀ p₀) it wr St Sm (rangeD a (b - a).toNat) → St 0 g' s' → (∀ b ∈ wr, s₁.heap.get? b = none) → Q it s') : wpAny (model C.prog C.w) A (pyIter (.ref r)) Q E s₁ := by
  refine wpAny_pyIter_range hr (small_one ha ha' hb hb') ?_
  have hsz : Builtin.Range.rangeSize a b 1 = ((b - a).toNat : Int) := by rw [rangeSize_one]; split <;> omega
  rw [hsz]
  have x₂ : GrowS g₁ s₁ g₁ { s₁ with heap := s₁.heap.push { cls := .type "range_iterator", data := .fields #[rawInt a, rawInt ((b - a).toNat : Int), rawInt 1] } } := ⟨Grow.heap fun a o q => Heap.get?_push_of_some _ q, rfl, Nat.le_refl _⟩
  refine c _ [s₁.heap.objs.size] _ _ g₁ _ x₂ (It.ofWalks (Walks.range hh s₁.heap.objs.size a 1 (b - a).toNat) (by simp [rangeD]) (fun _ => True) (fun _ _ _ _ => trivial) (fun g i v d _ hd hv => ?_) (fun i h st b hb => ?_) (fun i v d g s Q E hd st hv q => go_name q))
    ⟨by simpa using Heap.get?_push_size s₁.heap (o := { cls := .type "range_iterator", data := .fields #[rawInt a, rawInt ((b - a).toNat : Int), rawInt 1] }) rfl, fun b hb hbw => absurd hb hbw, fun b hb => ?_, trivial⟩ fun b hb => ?_
  · obtain ⟨t, rfl⟩ := hv
    have hi : i < (b - a).toNat := by have := (List.getElem?_eq_some_iff.mp hd).1; simpa [rangeD] using this
    simp only [rangeD, List.getElem?_map, List.getElem?_range hi, Option.map_some] at hd
    cases hd
    rw [Int.mul_one]; exact .int _ _
  · rw [List.mem_singleton.mp hb]
    exact ⟨_, st, fun v q => (by cases q), show (Value.type "range_iterator" ≠ Value.type "list") by decide, plain_fields rfl⟩
  · rw [List.mem_singleton.mp hb]; exact kp_fresh k₁ (Nat.le_refl _)
  · rw [List.mem_singleton.mp hb]; exact Heap.get?_none_of_le (Nat.le_refl _)

theorem evit_range1 {x₀ : Str} {p₀ p pos : Pos} {e : Expr} {b : Int} (h : Ev C A env ws σ e (.int b)) (hh : A.handled = none) (hmg : C.mg "range" = none) (hk : env.scope.kind = .function) (hg : env.globals = mainGlobals) (hgb : env.builtins = builtinsNs)
    (hx : env.kindOf "range" = some .globalImplicit) (hb : -(2 ^ 62) ≤ b) (hb' : b < 2 ^ 62) (he : starEach [e] env = [(false, eval e env)] := by rfl) :
    EvIt C A env ws σ (.Name x₀ p₀) (.Call (.Name "range" p) [e] [] pos) (rangeD 0 b.toNat) := fun g s Q E I c =>
  wpAny_Call_NameR (Calls.Name_function_global hk hx (Calls.loadGlobal_builtin (mg := C.mg) (mb := C.mb) (I.globals hg) hmg (I.builtins hgb) ((C.boot "range" (by decide)).trans (by decide +kernel))
    (callWith_type1 (T := "range") (wpAny_items_cons (h g s _ E I fun v g₁ s₁ x₁ w₁ => wpAny_items_nil (by
      cases w₁ with
      | int _ t =>
        refine call_range_1 ?_
        have x₂ : GrowS g₁ s₁ g₁ { s₁ with heap := s₁.heap.push { cls := .type "range", data := .fields #[.int 0 s₁.toks, .int b t, .int 1 (s₁.toks + 1)] }, toks := s₁.toks + 2 } := ⟨Grow.heap fun a o q => Heap.get?_push_of_some _ q, rfl, by show s₁.toks ≤ s₁.toks + 2; omega⟩
        have x₃ := x₁.trans x₂
        refine evit_of_range (IsRange.new _ _ _ _ _ _ _) hh (I.grow x₃).kp (by omega) (by omega) hb hb' fun it wr St Sm g' s' x W st fr => c it wr St Sm g' s' (x₃.trans x) (by simpa using W) st fun b hb => none_of_up x₃.gr.keep (fr b hb))) he) he rfl))
    (by decide))
theorem evit_range2 {x₀ : Str} {p₀ p pos : Pos} {e₁ e₂ : Expr} {a b : Int} (h₁ : Ev C A env ws σ e₁ (.int a)) (h₂ : Ev C A env ws σ e₂ (.int b)) (hh : A.handled = none) (hmg : C.mg "range" = none) (hk : env.scope.kind = .function) (hg : env.globals = mainGlobals) (hgb : env.builtins = builtinsNs)
    (hx : env.kindOf "range" = some .globalImplicit) (ha : -(2 ^ 62) ≤ a) (ha' : a < 2 ^ 62) (hb : -(2 ^ 62) ≤ b) (hb' : b < 2 ^ 62) (he : starEach [e₁, e₂] env = [(false, eval e₁ env), (false, eval e₂ env)] := by rfl) (he₂ : starEach [e₂] env = [(false, eval e₂ env)] := by rfl) :
    EvIt C A env ws σ (.Name x₀ p₀) (.Call (.Name "range" p) [e₁, e₂] [] pos) (rangeD a (b - a).toNat) := fun g s Q E I c =>
  wpAny_Call_NameR (Calls.Name_function_global hk hx (Calls.loadGlobal_builtin (mg := C.mg) (mb := C.mb) (I.globals hg) hmg (I.builtins hgb) ((C.boot "range" (by decide)).trans (by decide +kernel))
    (callWith_type1 (T := "range") (wpAny_items_cons (h₁ g s _ E I fun v₁ g₁ s₁ x₁ w₁ => wpAny_items_cons (h₂ g₁ s₁ _ E (I.grow x₁) fun v₂ g₂ s₂ x₂ w₂ => wpAny_items_nil (by
      cases w₁ with
      | int _ t => cases w₂ with
        | int _ u =>
          refine call_range_2 ?_
          have x₃ : GrowS g₂ s₂ g₂ { s₂ with heap := s₂.heap.push { cls := .type "range", data := .fields #[.int a t, .int b u, .int 1 s₂.toks] }, toks := s₂.toks + 1 } := ⟨Grow.heap fun a o q => Heap.get?_push_of_some _ q, rfl, by show s₂.toks ≤ s₂.toks + 1; omega⟩
          have x₄ := (x₁.trans x₂).trans x₃
          refine evit_of_range (IsRange.new _ _ _ _ _ _ _) hh (I.grow x₄).kp ha ha' hb hb' fun it wr St Sm g' s' x W st fr => c it wr St Sm g' s' (x₄.trans x) W st fun b hb => none_of_up x₄.gr.keep (fr b hb))) he₂) (by rw [he, he₂])) (by rw [he, he₂]) (by rw [he₂]; rfl)))
    (by decide))

/-! targets -/
theorem asg_name {x : Str} {px : Pos} {d : D} (hk : env.scope.kind = .function) (hx : Wr env ws x) (hb : NoB d := by intro _ _ h; cases h) : Asg C A env ws σ (.Name x px) d (σ.set x (.val d)) := fun g s v Q E I w c =>
  wpAny_assign_Name (I.store (sl := .val d) w hk hx (fun _ _ _ _ q => by cases q) hb.slot fun s' x J => c g s' x J)
theorem asg_tuple2 {x y : Str} {px py p : Pos} {k : Nat} {d₁ d₂ : D} (hh : A.handled = none) (hk : env.scope.kind = .function) (hx : Wr env ws x) (hy : Wr env ws y) (hb₁ : NoB d₁ := by intro _ _ h; cases h) (hb₂ : NoB d₂ := by intro _ _ h; cases h) :
    Asg C A env ws σ (.Tuple [.Name x px, .Name y py] k p) (.tuple [d₁, d₂]) ((σ.set x (.val d₁)).set y (.val d₂)) := fun g s v Q E I w c => by
  obtain ⟨a, vs, rfl, ha, hvs⟩ := w.isTuple I.kp
  cases hvs with
  | cons w₁ r => cases r with
    | cons w₂ r =>
      cases r
      rename_i v₁ v₂
      refine wpAny_assign_Tuple hh ha rfl rfl fun h' hx' => ?_
      have x₁ : GrowS g s g { s with heap := h' } := ⟨Grow.heap fun b o e => hx' b o (Nat.ne_of_lt (Heap.lt_size e)) e, rfl, Nat.le_refl _⟩
      refine wpAny_assignInOrder_more (wpAny_assign_Name ((I.grow x₁).store (sl := .val d₁) w₁ hk hx (fun _ _ _ _ q => by cases q) hb₁.slot fun s₂ x₂ J₂ => ?_))
      exact wpAny_assignInOrder_more (wpAny_assign_Name (J₂.store (sl := .val d₂) w₂ hk hy (fun _ _ _ _ q => by cases q) hb₂.slot fun s₃ x₃ J₃ => wpAny_assignInOrder_none (c g s₃ ((x₁.step I.kp).trans (x₂.trans x₃)) J₃)))
end
end Mine
namespace Mine

structure EnvOk (sc : Scope) (env : Env) : Prop where
  k : env.scope.kind = .function
  at' : ∀ x k, k ≠ .free → sc.names.lookup x = some k → env.kindOf x = some k
  globals : env.globals = mainGlobals
  builtins : env.builtins = builtinsNs
theorem EnvOk.at {sc : Scope} {env : Env} (h : EnvOk sc env) {x : Str} {k : NameKind} (hx : sc.names.lookup x = some k) (hk : k ≠ .free := by decide) : env.kindOf x = some k := h.at' x k hk hx
theorem EnvOk.wl {sc : Scope} {env : Env} (h : EnvOk sc env) {ws : List Addr} {x : Str} (hx : sc.names.lookup x = some .local) : Wr env ws x := .inl (h.at hx)
def CellsOk' (sc : Scope) (env : Env) (ws : List Addr) : Prop := ∀ x, sc.names.lookup x = some .cell → Wr env ws x

def stoOf : List Str → List D → Sto
  | n :: ns, d :: ds => (stoOf ns ds).set n (.val d)
  | _, _ => Sto.nil

structure RoomA (A : Around) (k : Nat) : Prop where
  hd : A.handled = none
  dp : A.depth + k < recursionLimit
  un : A.units + 4 * k + 100 < cLine
theorem RoomA.deeper {A : Around} {k : Nat} (h : RoomA A (k + 1)) (env : Env) : RoomA (A.deeper env) k := by
  refine ⟨h.hd, ?_, ?_⟩
  · have := h.dp; show A.depth + 1 + k < recursionLimit; omega
  · have := h.un; show A.units + 3 + 4 * k + 100 < cLine; omega
theorem RoomA.less {A : Around} {k j : Nat} (h : RoomA A k) (hj : j ≤ k := by omega) : RoomA A j := ⟨h.hd, by have := h.dp; omega, by have := h.un; omega⟩

theorem cellsFrom_isSome : ∀ (names : List (Str × NameKind)) (n : Nat) (acc : List (Str × Addr)) (x : Str), (names.lookup x = some .cell ∨ (acc.lookup x).isSome = true) → ((cellsFrom n names acc).lookup x).isSome = true
  | [], n, acc, x, h => by
    rcases h with h | h
    · simp at h
    · exact h
  | (y, k) :: r, n, acc, x, h => by
    unfold cellsFrom
    cases hk : k == NameKind.cell with
    | true =>
      simp only [if_true]
      refine cellsFrom_isSome r _ _ x ?_
      cases hxy : x == y with
      | true => right; simp [List.lookup_cons, hxy]
      | false =>
        rcases h with h | h
        · left; simpa [List.lookup_cons, hxy] using h
        · right; simpa [List.lookup_cons, hxy] using h
    | false =>
      simp only [Bool.false_eq_true, if_false]
      refine cellsFrom_isSome r _ _ x ?_
      rcases h with h | h
      · cases hxy : x == y with
        | true =>
          simp only [List.lookup_cons, hxy, Option.some.injEq] at h
          subst h; simp at hk
        | false => left; simpa [List.lookup_cons, hxy] using h
      · exact .inr h

/-- the two maps of the arguments -/
theorem bind_maps (kindOf : Str → Option NameKind) : ∀ (names : List Str) (vs : List Value) (m cm : Str → Option Value), (∀ x ∈ names, kindOf x = some .local ∨ kindOf x = some .cell) → names.Nodup →
    (∀ x, x ∉ names → bindL kindOf (names.zip vs) m x = m x ∧ bindC kindOf (names.zip vs) cm x = cm x) ∧
    (∀ (i : Nat) (x : Str) (v : Value), names[i]? = some x → vs[i]? = some v → (kindOf x = some .local → bindL kindOf (names.zip vs) m x = some v) ∧ (kindOf x = some .cell → bindC kindOf (names.zip vs) cm x = some v))
  | [], vs, m, cm, _, _ => ⟨fun _ _ => ⟨rfl, rfl⟩, fun i x v h => by simp at h⟩
  | n :: ns, [], m, cm, _, _ => ⟨fun _ _ => ⟨rfl, rfl⟩, fun i x v _ h => by simp at h⟩
  | n :: ns, v :: vs, m, cm, hk, hnd => by
    obtain ⟨hn, hnd⟩ := List.nodup_cons.mp hnd
    have ih := bind_maps kindOf ns vs (if kindOf n = some .local then fun y => if y = n then some v else m y else m) (if kindOf n = some .local then cm else fun y => if y = n then some v else cm y) (fun x hx => hk x (List.mem_cons_of_mem _ hx)) hnd
    refine ⟨fun x hx => ?_, fun i x w hi hw => ?_⟩
    · have hxn : x ≠ n := fun e => hx (e ▸ List.mem_cons_self)
      obtain ⟨e1, e2⟩ := ih.1 x fun h => hx (List.mem_cons_of_mem _ h)
      rw [List.zip_cons_cons, bindL, bindC]
      rw [e1, e2]
      constructor <;> split <;> simp [hxn]
    · rw [List.zip_cons_cons, bindL, bindC]
      cases i with
      | zero =>
        simp only [List.getElem?_cons_zero, Option.some.injEq] at hi hw
        subst hi hw
        obtain ⟨e1, e2⟩ := ih.1 n hn
        rw [e1, e2]
        refine ⟨fun h => by simp [h], fun h => ?_⟩
        rw [if_neg (by rw [h]; decide)]; simp
      | succ i => exact ih.2 i x w (by simpa using hi) (by simpa using hw)
theorem stoOf_at : ∀ (names : List Str) (ds : List D) (x : Str) (sl : Slot), names.Nodup → stoOf names ds x = some sl → ∃ (i : Nat) (d : D), names[i]? = some x ∧ ds[i]? = some d ∧ sl = .val d
  | [], _, _, _, _, h => by simp [stoOf, Sto.nil] at h
  | n :: ns, [], _, _, _, h => by simp [stoOf, Sto.nil] at h
  | n :: ns, d :: ds, x, sl, hnd, h => by
    obtain ⟨hn, hnd⟩ := List.nodup_cons.mp hnd
    unfold stoOf Sto.set at h
    by_cases hx : x = n
    · simp only [hx, if_true, Option.some.injEq] at h
      exact ⟨0, d, by simp [hx], rfl, h.symm⟩
    · simp only [hx, if_false] at h
      obtain ⟨i, d', h1, h2, h3⟩ := stoOf_at ns ds x sl hnd h
      exact ⟨i + 1, d', by simpa using h1, by simpa using h2, h3⟩

section
variable {C : Cx} {A : Around}

/-- a callable whose answer is told by a predicate -/
def FnP (C : Cx) (A : Around) (f : Value) (ds : List D) (R : D → Prop) : Prop :=
  ∀ (g : Gh) (s : Shared) (vs : List Value) (Q : Value → Shared → Prop) (E : Value → Shared → Prop), Base C g s → KpIn g s → ValL g.led vs ds →
    (∀ v g' s' d, R d → GrowS g s g' s' → Val g'.led v d → (∀ y B, d = .strb y B → B ≤ s'.toks) → Q v s') → wpAny (model C.prog C.w) A (call f vs) Q E s
theorem FnP.fn {f : Value} {ds : List D} {d : D} {R : D → Prop} (h : FnP C A f ds R) (hr : ∀ led v d', R d' → Val led v d' → Val led v d) : Fn C A f ds d := fun g s vs Q E b k w c => h g s vs Q E b k w fun v g' s' d' r x hv _ => c v g' s' x (hr _ _ _ r hv)
/-- from a callee's end back to the caller -/
theorem frame_back {g g₂ : Gh} {s s₂ : Shared} (k : KpIn g s) (hb : Base C g s) (l1 : ∀ a o, g.led a = some o → g₂.led a = some o) (l2 : ∀ a o, s.heap.get? a = some o → g₂.kp a = some o) (l3 : ∀ a o, g₂.led a = some o → g.led a = some o ∨ s.heap.get? a = none)
    (k₂ : KpIn g₂ s₂) (ok : ∀ a o, g₂.led a = some o → C.h₀.get? a = some o ∨ Plain o) (eq : s₂ = { s with heap := s₂.heap, toks := s₂.toks }) (tk : s.toks ≤ s₂.toks) :
    ∃ g' : Gh, g'.led = g₂.led ∧ (∀ a, g'.kp a = (g₂.led a).or (g.kp a)) ∧ GrowS g s g' s₂ := by
  have old : ∀ a o, C.h₀.get? a = some o → s.heap.get? a = some o := fun a o e => k.2.1 _ _ (hb.base _ _ e)
  refine ⟨⟨g₂.led, fun a => (g₂.led a).or (g.kp a), fun a o e => by rw [e]; rfl⟩, rfl, fun _ => rfl, ⟨fun a o e => k₂.1 a o (l2 a o e), fun a o l e => k₂.2.1 a o (l1 a o l), fun a o e => l1 a o e, fun a o e => ?_, fun a o e => ?_, fun a o e => ?_⟩, eq, tk⟩
  · show (g₂.led a).or (g.kp a) = some o
    cases q : g₂.led a with
    | none => exact e
    | some o' =>
      rcases l3 a o' q with h | h
      · have := g.sub a o' h; rw [e] at this; cases this; rfl
      · exact ((k.1 a o e).no h).elim
  · have e' : (g₂.led a).or (g.kp a) = some o := e
    cases q : g₂.led a with
    | none => rw [q] at e'; exact .inl e'
    | some o' =>
      rw [q] at e'
      cases e'
      rcases l3 a o q with h | h
      · exact .inl (g.sub a o h)
      · exact .inr ⟨h, .of (k₂.2.1 a o q)⟩
  · rcases l3 a o e with h | h
    · exact .inl h
    · refine .inr ⟨h, k₂.2.1 a o e, ?_⟩
      rcases ok a o e with q | q
      · have := old a o q; rw [show s.heap.get? a = none from h] at this; cases this
      · exact q
theorem fn_core {f : Addr} {o : Obj} {name : Str} {params : Arguments} {body : List Stmt} {sc : Scope} {pm cd doc : Value} {ds : List D} (names : List Str)
    (ho : C.h₀.get? f = some o) (hdt : o.data = .func (Calls.docDef name params body sc pm cd doc)) (hcd : C.h₀.CodeRec cd name) (hroom : A.depth < recursionLimit)
    (hbind : ∀ vs : List Value, vs.length = names.length → bindArgs (Calls.docDef name params body sc pm cd doc) ⟨vs, []⟩ = pure (names.zip vs))
    (hnames : ∀ x ∈ names, sc.names.lookup x = some .local ∨ sc.names.lookup x = some .cell) (hnd : names.Nodup) (hlen : ds.length = names.length)
    (hk : sc.kind = .function) (hco : sc.isCoroutine = false) (hgen : sc.isGenerator = false) (hnb : ∀ d ∈ ds, NoB d)
    {g : Gh} {s : Shared} {vs : List Value} {Q : Value → Shared → Prop} {E : Value → Shared → Prop} (hb : Base C g s) (k : KpIn g s) (w : ValL g.led vs ds)
    (hbody : ∀ env ws g₀ s₁, EnvOk sc env → CellsOk' sc env ws → InvS (C.push env) env ws (stoOf names ds) g₀ s₁ → g₀.led = g.led → g₀.kp = s.heap.get? → (∀ a o, s.heap.get? a = some o → s₁.heap.get? a = some o) →
      s₁ = { s with heap := s₁.heap, toks := s₁.toks } → s.toks ≤ s₁.toks →
      wpAny (model C.prog C.w) (A.deeper env) (execs body env) (fun f s' => Q (match f with | .ret v => v | _ => .none) s')
        (fun e s' => wpAny (model C.prog C.w) (A.deeper env) (leaving env e) (fun _ s'' => E e s'') (fun e' s'' => E e' s'') s') s₁) : wpAny (model C.prog C.w) A (call (.ref f) vs) Q E s := by
  have old : ∀ a o, C.h₀.get? a = some o → s.heap.get? a = some o := fun a o e => k.2.1 _ _ (hb.base _ _ e)
  have hvl : vs.length = names.length := by rw [w.length, hlen]
  refine wpAny_call (codeAny_call_function hroom (old _ _ ho) hdt hco hgen rfl (hcd.keeps old) ?_)
  rw [hbind vs hvl]
  refine wpAny_pure (lift fun E'' => wpAny_newFunctionEnv_cells hk (fun x hx => ?_) fun env henv s₁ x htk₁ => ?_)
  · have hxn : x.1 ∈ names := (List.of_mem_zip hx).1
    rcases hnames _ hxn with h | h
    · exact .inl h
    · exact .inr ⟨h, cellsFrom_isSome _ _ _ _ (.inl h)⟩
  · have hL : env.locals = s.heap.objs.size := by rw [henv]; rfl
    have K : EnvOk sc env := by rw [henv]; exact ⟨hk, fun _ _ _ h => h, rfl, rfl⟩
    have hesc : env.scope = sc := by rw [henv]; rfl
    have hfr : env.frame = some s.heap.objs.size := by rw [henv]; rfl
    have hcells : ∀ x, sc.names.lookup x = some .cell → ∃ cc, env.cells.lookup x = some cc := fun x hx => by rw [henv]; exact Option.isSome_iff_exists.mp (cellsFrom_isSome sc.names _ [] x (.inl hx))
    clear henv
    let ws := (sc.names.map (·.1)).filterMap fun n => env.cells.lookup n
    have hws : ∀ cc ∈ ws, ∃ n, env.cells.lookup n = some cc := fun cc hc => by
      obtain ⟨n, _, h⟩ := List.mem_filterMap.mp hc
      exact ⟨n, h⟩
    have hmem : ∀ x cc, sc.names.lookup x = some .cell → env.cells.lookup x = some cc → cc ∈ ws := fun x cc hx hc =>
      List.mem_filterMap.mpr ⟨x, List.mem_map.mpr ⟨(x, .cell), mem_of_lookup hx, rfl⟩, hc⟩
    have W : CellsOk' sc env ws := fun x hx => by
      obtain ⟨cc, hc⟩ := hcells x hx
      exact .inr ⟨K.at hx, cc, hc, hmem x cc hx hc⟩
    have hkinds : ∀ x ∈ names, env.kindOf x = some .local ∨ env.kindOf x = some .cell := fun x hx => (hnames x hx).imp (fun h => K.at h) (fun h => K.at h)
    have maps := bind_maps env.kindOf names vs (fun _ => none) (fun _ => none) hkinds hnd
    obtain ⟨h₁, tk, hs₁, keep⟩ := x.done
    have htk : True := trivial
    have fresh : s.heap.get? s.heap.objs.size = none := Heap.get?_none_of_le (Nat.le_refl _)
    have hval : ∀ y sl, stoOf names ds y = some sl → ∃ i d v, names[i]? = some y ∧ vs[i]? = some v ∧ Val g.led v d ∧ sl = .val d := fun y sl hy => by
      obtain ⟨i, d, h1, h2, h3⟩ := stoOf_at names ds y sl hnd hy
      obtain ⟨v, h4, h5⟩ := w.get h2
      exact ⟨i, d, v, h1, h4, h5, h3⟩
    let g₀ : Gh := ⟨g.led, s.heap.get?, fun a o e => k.2.1 _ _ e⟩
    have INV : Inv (C.push env) env ws (stoOf names ds) g₀ s₁.heap := by
      have FR : FrOk C.h₀ s₁.heap (env :: C.fr) := fun e' he' => by
        rcases List.mem_cons.mp he' with rfl | he'
        · obtain ⟨o', es, ep, e1, e2, _⟩ := x.toInCall.ns
          refine ⟨by rw [hesc, hk]; decide, s.heap.objs.size, o', es, ep, hfr, none_of_keep old fresh, by rw [← hL]; exact e1, e2⟩
        · exact hb.fr.up (fun a o _ _ e _ => .of (x.toInCall.keep a o e)) e' he'
      refine ⟨hb.base, hb.ok, FR, fun a o e => x.toInCall.keep a o (k.2.1 a o e), fun a o e => .of (x.toInCall.keep a o e), ⟨_, x.toInCall.ns, fun y sl hy hsl => ?_⟩, fun y sl hy hsl => ?_, fun cc hc => ?_, ⟨?_, fun cc hc => ?_⟩, fun y z cc hy hz _ => ?_, fun y z a ds' es h1 h2 => ?_⟩
      · obtain ⟨i, d, v, h1, h2, h3, rfl⟩ := hval y sl hsl
        exact ⟨v, (maps.2 i y v h1 h2).1 hy, h3⟩
      · obtain ⟨i, d, v, h1, h2, h3, rfl⟩ := hval y sl hsl
        have hyn : y ∈ names := List.mem_of_getElem? h1
        have hyc : env.kindOf y = some .cell := (hkinds y hyn).resolve_left hy
        have hyc' : sc.names.lookup y = some .cell := by unfold Env.kindOf at hyc; rw [hesc] at hyc; exact hyc
        obtain ⟨cc, hcc⟩ := hcells y hyc'
        refine ⟨.inl hyc, cc, v, hcc, ?_, h3, .inr (hmem y cc hyc' hcc)⟩
        have := x.cell y cc hcc
        rw [(maps.2 i y v h1 h2).2 hyc] at this
        exact this
      · obtain ⟨n, hn⟩ := hws cc hc
        exact ⟨_, x.cell n cc hn⟩
      · show s.heap.get? env.locals = none
        rw [hL]; exact fresh
      · obtain ⟨n, hn⟩ := hws cc hc
        have := x.above n cc (mem_of_lookup hn)
        rw [hL] at this
        exact Heap.get?_none_of_le (Nat.le_of_lt this)
      · exact name_of_addr x.apart (mem_of_lookup hy) (mem_of_lookup hz)
      · obtain ⟨_, _, _, _, _, _, h⟩ := hval y _ h1
        cases h
    refine ⟨(C.nolimit.keeps old).keeps x.toInCall.keep, codeAny_func ?_⟩
    refine hbody env ws g₀ s₁ K W ⟨INV, ⟨Nat.le_trans k.2.2 htk₁, fun x y B e => by
      obtain ⟨i, d, v, _, _, _, h⟩ := hval x _ e
      cases h
      rename_i h1 _ h2
      obtain ⟨i', d', h3, h4, h5⟩ := stoOf_at names ds x _ hnd e
      cases h5
      exact absurd rfl (hnb _ (List.mem_of_getElem? h4) y B)⟩⟩ rfl rfl x.toInCall.keep (by rw [hs₁]) htk₁
theorem fn_def {f : Addr} {o : Obj} {name : Str} {params : Arguments} {body : List Stmt} {sc : Scope} {pm cd doc : Value} {ds : List D} {R : D → Prop} (names : List Str)
    (ho : C.h₀.get? f = some o) (hdt : o.data = .func (Calls.docDef name params body sc pm cd doc)) (hcd : C.h₀.CodeRec cd name) (hroom : A.depth < recursionLimit)
    (hbind : ∀ vs : List Value, vs.length = names.length → bindArgs (Calls.docDef name params body sc pm cd doc) ⟨vs, []⟩ = pure (names.zip vs))
    (hnames : ∀ x ∈ names, sc.names.lookup x = some .local ∨ sc.names.lookup x = some .cell) (hnd : names.Nodup) (hlen : ds.length = names.length)
    (hk : sc.kind = .function) (hco : sc.isCoroutine = false) (hgen : sc.isGenerator = false)
    (hnb : ∀ d ∈ ds, NoB d) (hbody : ∀ env ws, EnvOk sc env → CellsOk' sc env ws → Ex (C.push env) (A.deeper env) env ws (stoOf names ds) body fun o => ∃ d, R d ∧ o = .ret d) : FnP C A (.ref f) ds R := by
  intro g s vs Q E hb k w c
  have old : ∀ a o, C.h₀.get? a = some o → s.heap.get? a = some o := fun a o e => k.2.1 _ _ (hb.base _ _ e)
  refine lift fun E' => fn_core names ho hdt hcd hroom hbind hnames hnd hlen hk hco hgen hnb hb k w fun env ws g₀ s₁ K W I₁ hgl hgk hkeep hs₁ htk => ?_
  obtain ⟨led₀, kp₀, sub₀⟩ := g₀
  dsimp only at hgl hgk
  subst hgl hgk
  refine hbody env ws K W _ s₁ _ _ I₁ fun o fl g₂ s₂ hP y f₂ => ?_
  obtain ⟨d, hR, rfl⟩ := hP
  obtain ⟨v, rfl, hv, k₂, hkb⟩ := f₂
  intro htk₂
  obtain ⟨g', e1, e2, x⟩ := frame_back k hb y.le.1 y.le.2.1 y.le.2.2 k₂ hkb.1.ok (by rw [y.eq, hs₁]) htk₂
  exact c v g' s₂ d hR x (by rw [e1]; exact hv) hkb.2
end
end Mine
namespace Mine

structure KeepBut (xs : List Addr) (s s' : Shared) : Prop where
  keep : ∀ a o, a ∉ xs → s.heap.get? a = some o → Up s'.heap a o
  eq : s' = { s with heap := s'.heap, toks := s'.toks }
  tk : s.toks ≤ s'.toks
theorem KeepBut.refl (xs : List Addr) (s : Shared) : KeepBut xs s s := ⟨fun _ _ _ e => .of e, rfl, Nat.le_refl _⟩
theorem KeepBut.trans {xs : List Addr} {s s' s'' : Shared} (x : KeepBut xs s s') (y : KeepBut xs s' s'') : KeepBut xs s s'' := ⟨fun a o h e => (x.keep a o h e).trans fun o' e' => y.keep a o' h e', by rw [y.eq, x.eq], Nat.le_trans x.tk y.tk⟩
theorem KeepBut.more {xs ys : List Addr} {s s' : Shared} (x : KeepBut xs s s') (h : ∀ a ∈ xs, a ∈ ys) : KeepBut ys s s' := ⟨fun a o ha e => x.keep a o (fun q => ha (h a q)) e, x.eq, x.tk⟩
theorem GrowS.keepBut {g g' : Gh} {s s' : Shared} (x : GrowS g s g' s') (xs : List Addr) : KeepBut xs s s' := ⟨fun a o _ e => x.gr.keep a o e, x.eq, x.tk⟩
theorem GrowBut.keepBut {wr : List Addr} {g g' : Gh} {s s' : Shared} (x : GrowBut wr g s g' s') : KeepBut wr s s' := ⟨x.keep, x.eq, x.tk⟩

/-- the ghost grows by what is new to the heap, off xs -/
def LeN (xs : List Addr) (g : Gh) (s : Shared) (g' : Gh) : Prop := g.Le g' ∧ ∀ a o, a ∉ xs → s.heap.get? a = some o → g.kp a = none → g'.kp a = none
theorem LeN.refl (xs : List Addr) (g : Gh) (s : Shared) : LeN xs g s g := ⟨.refl _, fun _ _ _ _ h => h⟩
theorem LeN.trans {xs : List Addr} {g g' g'' : Gh} {s s' : Shared} (x : LeN xs g s g') (k : KeepBut xs s s') (y : LeN xs g' s' g'') : LeN xs g s g'' := ⟨x.1.trans y.1, fun a o h e q => by obtain ⟨o', e', _⟩ := k.keep a o h e; exact y.2 a o' h e' (x.2 a o h e q)⟩
theorem LeN.more {xs ys : List Addr} {g g' : Gh} {s : Shared} (x : LeN xs g s g') (h : ∀ a ∈ xs, a ∈ ys) : LeN ys g s g' := ⟨x.1, fun a o ha e q => x.2 a o (fun q => ha (h a q)) e q⟩
theorem GrowBut.leN {wr : List Addr} {g g' : Gh} {s s' : Shared} (x : GrowBut wr g s g' s') (k : KpIn g s) (xs : List Addr) : LeN xs g s g' := ⟨x.le k, fun a o _ e q => by
  cases h : g'.kp a with
  | none => rfl
  | some o' =>
    rcases x.new a o' h with h | ⟨h, _⟩
    · rw [q] at h; cases h
    · rw [e] at h; cases h⟩
theorem GrowS.leN {g g' : Gh} {s s' : Shared} (x : GrowS g s g' s') (k : KpIn g s) (xs : List Addr) : LeN xs g s g' := (x.but (wr := [])).leN k xs

def Acc (g : Gh) (s : Shared) (Da : Addr) (rs : List D) : Prop := g.kp Da = none ∧ ∃ vs n, s.heap.get? Da = some { cls := .type "list", data := .seq (vs : List Value).toArray n } ∧ ValL g.led vs rs
theorem Acc.grow {g g' : Gh} {s s' : Shared} {Da : Addr} {rs : List D} (h : Acc g s Da rs) (x : GrowS g s g' s') : Acc g' s' Da rs := by
  obtain ⟨k, vs, n, e, v⟩ := h
  exact ⟨kp_none_grow x.gr k e, vs, n, (x.gr.keep _ _ e).get (plain_seq rfl), v.mono x.gr.led⟩
theorem Acc.but {wr : List Addr} {g g' : Gh} {s s' : Shared} {Da : Addr} {rs : List D} (h : Acc g s Da rs) (x : GrowBut wr g s g' s') (hD : Da ∉ wr) : Acc g' s' Da rs := by
  obtain ⟨k, vs, n, e, v⟩ := h
  exact ⟨kp_none_but x k e, vs, n, (x.keep _ _ hD e).get (plain_seq rfl), v.mono x.led⟩
theorem Acc.keep {xs : List Addr} {g : Gh} {s s' : Shared} {Da : Addr} {rs : List D} (h : Acc g s Da rs) (x : KeepBut xs s s') (hD : Da ∉ xs) : Acc g s' Da rs := by
  obtain ⟨k, vs, n, e, v⟩ := h
  exact ⟨k, vs, n, (x.keep _ _ hD e).get (plain_seq rfl), v⟩

section
variable (C : Cx) (A : Around)
/-- a local target takes a value -/
def AsgL (env : Env) (ws : List Addr) (σ : Sto) (t : Expr) (d : D) (τ : Sto) : Prop :=
  ∀ (g : Gh) (s : Shared) (v : Value) (Q : Unit → Shared → Prop) (E : Value → Shared → Prop), InvS C env ws σ g s → Val g.led v d →
    (∀ s', KeepBut [env.locals] s s' → InvS C env ws τ g s' → Q () s') → wpAny (model C.prog C.w) A (assign t env v) Q E s
abbrev Bwp := (Shared → Prop) → (Value → Shared → Prop) → Shared → Prop
def BodyOk (cenv : Env) (σ' σc : Sto) (Da : Addr) (B : Bwp) (rs' : List D) : Prop :=
  ∀ (g : Gh) (s : Shared) (rs : List D) (K : Shared → Prop) (E : Value → Shared → Prop), InvS C cenv [] σ' g s → Acc g s Da rs → rs.length + rs'.length ≤ sizeLine →
    (∀ g' s', LeN [Da, cenv.locals] g s g' → KeepBut [Da, cenv.locals] s s' → InvS C cenv [] σc g' s' → Acc g' s' Da (rs ++ rs') → K s') → B K E s
end

section
variable {C : Cx} {A : Around} {env : Env} {ws : List Addr} {σ τ : Sto}

theorem InvS.storeL {g : Gh} {s : Shared} {x : Str} {v : Value} {d : D} {Q : Unit → Shared → Prop} {E : Value → Shared → Prop} (I : InvS C env [] σ g s) (hv : Val g.led v d) (hk : env.scope.kind = .function) (hx : env.kindOf x = some .local) (hb : NoB d)
    (h : ∀ s', KeepBut [env.locals] s s' → InvS C env [] (σ.set x (.val d)) g s' → Q () s') : wpAny (model C.prog C.w) A (storeName env x v) Q E s :=
  I.1.store (sl := .val d) hv hk (.inl hx) (fun _ _ _ _ q => by cases q) fun h' tk' htk keep J => h _ ⟨fun a o ha e => .of (keep a o (fun q => ha (q ▸ List.mem_cons_self)) (fun q => nomatch q) e), rfl, htk⟩ ⟨J, (I.2.set hb.slot).up htk⟩
theorem asgl_name {x : Str} {px : Pos} {d : D} (hk : env.scope.kind = .function) (hx : env.kindOf x = some .local) (hb : NoB d := by intro _ _ h; cases h) : AsgL C A env [] σ (.Name x px) d (σ.set x (.val d)) := fun g s v Q E I w c =>
  wpAny_assign_Name (I.storeL w hk hx hb c)
theorem asgl_tuple2 {x y : Str} {px py p : Pos} {k : Nat} {d₁ d₂ : D} (hh : A.handled = none) (hk : env.scope.kind = .function) (hx : env.kindOf x = some .local) (hy : env.kindOf y = some .local) (hb₁ : NoB d₁ := by intro _ _ h; cases h) (hb₂ : NoB d₂ := by intro _ _ h; cases h) :
    AsgL C A env [] σ (.Tuple [.Name x px, .Name y py] k p) (.tuple [d₁, d₂]) ((σ.set x (.val d₁)).set y (.val d₂)) := fun g s v Q E I w c => by
  obtain ⟨a, vs, rfl, ha, hvs⟩ := w.isTuple I.kp
  cases hvs with
  | cons w₁ r => cases r with
    | cons w₂ r =>
      cases r
      refine wpAny_assign_Tuple hh ha rfl rfl fun h' hx' => ?_
      have x₁ : GrowS g s g { s with heap := h' } := ⟨Grow.heap fun b o e => hx' b o (Nat.ne_of_lt (Heap.lt_size e)) e, rfl, Nat.le_refl _⟩
      refine wpAny_assignInOrder_more (wpAny_assign_Name ((I.grow x₁).storeL w₁ hk hx hb₁ fun s₂ x₂ J₂ => ?_))
      exact wpAny_assignInOrder_more (wpAny_assign_Name (J₂.storeL w₂ hk hy hb₂ fun s₃ x₃ J₃ => wpAny_assignInOrder_none (c s₃ ((x₁.keepBut _).trans (x₂.trans x₃)) J₃)))

theorem comp_loop {cenv : Env} {target : Expr} {it : Value} {wr : List Addr} {St : Nat → Gh → Shared → Prop} {Sm : Nat → Value → Gh → Shared → Prop} {items : List D} {σc : Sto} {Da : Addr} {e : Expr} {depth : Nat} {B : Bwp} {F : D → List D} (W : It C A target it wr St Sm items)
    (hturn : ∀ (s : Shared) (Q : Fin → Shared → Prop) (E : Value → Shared → Prop), wpAny (model C.prog C.w) A (pyNext it) (fun r s₁ => match r with
        | none => Q (.done .next) s₁
        | some v => wpAny (model C.prog C.w) A (letOwnedTupleGo target it v) (fun _ s₂ => wpAny (model C.prog C.w) A (assign target cenv v) (fun _ s₃ => B (fun s₄ => Q (.again (.compLoop e depth it (.ref Da) cenv)) s₄) E s₃) E s₂) E s₁) E s →
      wpAny (model C.prog C.w) A (compTurn e depth it (.ref Da) cenv) Q E s)
    (hfr : (Code.compLoop e depth it (.ref Da) cenv).isFrame = false) (hund : A.under (.compLoop e depth it (.ref Da) cenv) = A) (hqu : (Code.compLoop e depth it (.ref Da) cenv).quiet = true)
    (turn : ∀ d ∈ items, ∃ σ', AsgL C A cenv [] σc target d σ' ∧ BodyOk C cenv σ' σc Da B (F d))
    (hDL : Da ≠ cenv.locals) (hDw : Da ∉ wr) (hLw : cenv.locals ∉ wr) (hfw : ∀ e ∈ C.fr, ∀ L, e.frame = some L → L ∉ wr) (hown : ∀ x a ds, σc x ≠ some (.own a ds))
    {g : Gh} {s : Shared} {rs : List D} {R : Result → Shared → Prop} (I : InvS C cenv [] σc g s) (st : St 0 g s) (ac : Acc g s Da rs) (hsz : rs.length + (items.flatMap F).length ≤ sizeLine)
    (c : ∀ g' s', LeN (Da :: cenv.locals :: wr) g s g' → KeepBut (Da :: cenv.locals :: wr) s s' → InvS C cenv [] σc g' s' → Acc g' s' Da (rs ++ items.flatMap F) → (∀ b ∈ wr, g'.kp b = none) → R (.ok .next) s') :
    codeAny (model C.prog C.w) A (.compLoop e depth it (.ref Da) cenv) R s := by
  refine codeAny_loop hqu (fun k s' => ∃ i g', k = items.length + 1 - i ∧ i ≤ items.length ∧ LeN (Da :: cenv.locals :: wr) g s g' ∧ KeepBut (Da :: cenv.locals :: wr) s s' ∧ InvS C cenv [] σc g' s' ∧ St i g' s' ∧ Acc g' s' Da (rs ++ (items.take i).flatMap F)) ?_ (items.length + 1)
    ⟨0, g, rfl, Nat.zero_le _, .refl _ _ _, .refl _ _, I, st, by simpa using ac⟩
  rintro k s₁ ⟨i, g₁, rfl, hle, le₁, kb₁, I₁, st₁, ac₁⟩
  rw [hund]
  show wpAny _ A (if (Code.compLoop e depth it (.ref Da) cenv).isFrame then (compTurn e depth it (.ref Da) cenv).onRaise (leaving cenv) else (compTurn e depth it (.ref Da) cenv).onRaise (fun x => do noteFrame x cenv; theTreesLotGoes x)) _ _ s₁
  rw [hfr]
  simp only [Bool.false_eq_true, if_false]
  refine wpAny_noted (hturn _ _ _ ?_)
  have out₁ := W.out i g₁ s₁ st₁
  have off : Off C cenv [] σc wr := ⟨hLw, fun _ h => (nomatch h), fun x a ds h => absurd h (hown x a ds), hfw⟩
  by_cases hlt : i < items.length
  · have hd : items[i]? = some (items[i]) := List.getElem?_eq_getElem hlt
    refine W.next i _ hd g₁ s₁ _ _ I₁.kp st₁ fun v g₂ s₂ x₂ sm₂ w₂ hw₂ => ?_
    have I₂ := I₁.but x₂ off (fun b hb => (out₁ b hb).2)
    refine W.go (i + 1) v _ g₂ s₂ _ _ (List.getElem_mem hlt) I₂.kp sm₂ w₂ fun s₃ x₃ st₃ => ?_
    have I₃ := I₂.but x₃ off hw₂
    obtain ⟨σ', hasg, hbody⟩ := turn _ (List.getElem_mem hlt)
    have ac₃ := (ac₁.but x₂ hDw).but x₃ hDw
    refine hasg g₂ s₃ v _ _ I₃ w₂ fun s₄ k₄ I₄ => ?_
    have ac₄ := ac₃.keep k₄ (by simpa using hDL)
    have hlen : (rs ++ (items.take i).flatMap F).length + (F items[i]).length ≤ sizeLine := by
      have h1 : items.flatMap F = (items.take i).flatMap F ++ (F items[i] ++ (items.drop (i + 1)).flatMap F) := by
        conv => lhs; rw [← List.take_append_drop i items, List.drop_eq_getElem_cons hlt]
        rw [List.flatMap_append, List.flatMap_cons]
      rw [h1, List.length_append, List.length_append] at hsz
      rw [List.length_append]; omega
    refine hbody g₂ s₄ _ _ _ I₄ ac₄ hlen fun g₅ s₅ le₅ k₅ I₅ ac₅ => ⟨rfl, items.length + 1 - (i + 1), by omega, i + 1, g₅, rfl, hlt, ?_, ?_, I₅, ?_, ?_⟩
    · have z₂ : KeepBut (Da :: cenv.locals :: wr) s₁ s₂ := x₂.keepBut.more fun a h => List.mem_cons_of_mem _ (List.mem_cons_of_mem _ h)
      have z₃ : KeepBut (Da :: cenv.locals :: wr) s₂ s₃ := x₃.keepBut.more fun a h => List.mem_cons_of_mem _ (List.mem_cons_of_mem _ h)
      have z₄ : KeepBut (Da :: cenv.locals :: wr) s₃ s₄ := k₄.more fun a h => by simp at h; simp [h]
      exact le₁.trans kb₁ ((x₂.leN I₁.kp _).trans z₂ ((LeN.refl _ g₂ s₂).trans (z₃.trans z₄) (le₅.more fun a h => by simp at h; rcases h with h | h <;> simp [h])))
    · exact kb₁.trans ((x₂.keepBut.more fun a h => List.mem_cons_of_mem _ (List.mem_cons_of_mem _ h)).trans ((x₃.keepBut.more fun a h => List.mem_cons_of_mem _ (List.mem_cons_of_mem _ h)).trans
        ((k₄.more fun a h => by simp at h; simp [h]).trans (k₅.more fun a h => by simp at h; rcases h with h | h <;> simp [h]))))
    · have out₃ := W.out (i + 1) g₂ s₃ st₃
      refine W.frame (i + 1) g₂ s₃ g₅ s₅ st₃ le₅.1 I₅.kp (fun b hb => ?_) fun b hb o e => ?_
      · obtain ⟨⟨o, e, h1, h2⟩, h3⟩ := out₃ b hb
        have hbD : b ≠ Da := fun q => hDw (q ▸ hb)
        have hbL : b ≠ cenv.locals := fun q => hLw (q ▸ hb)
        obtain ⟨o₄, e₄, _⟩ := k₄.keep b o (by simp [hbL]) e
        exact le₅.2 b o₄ (by simp [hbD, hbL]) e₄ h3
      · have hbD : b ≠ Da := fun q => hDw (q ▸ hb)
        have hbL : b ≠ cenv.locals := fun q => hLw (q ▸ hb)
        refine ((k₄.keep b o (by simp [hbL]) e).trans fun o₄ e₄ => k₅.keep b o₄ (by simp [hbD, hbL]) e₄).get ?_
        obtain ⟨⟨o', e', _, _, hp⟩, _⟩ := out₃ b hb
        rw [e] at e'; cases e'; exact hp
    · rw [List.append_assoc] at ac₅
      have : (items.take (i + 1)).flatMap F = (items.take i).flatMap F ++ F items[i] := by rw [List.take_add_one, hd, List.flatMap_append]; simp
      rw [this]; exact ac₅
  · obtain rfl : i = items.length := by omega
    refine W.done g₁ s₁ _ _ I₁.kp st₁ fun s₂ x₂ => ?_
    refine c g₁ s₂ le₁ (kb₁.trans (x₂.keepBut.more fun a h => List.mem_cons_of_mem _ (List.mem_cons_of_mem _ h))) (I₁.but x₂ off (fun b hb => (out₁ b hb).2)) ?_ (fun b hb => (out₁ b hb).2)
    have := ac₁.but x₂ hDw
    rwa [List.take_length] at this
end
end Mine
namespace Mine

theorem closure_loop (env : Env) (f : Str × NameKind → List (Str × Addr) → Sem (ForInStep (List (Str × Addr))))
    (hf : ∀ name kind cs, f (name, kind) cs = if kind == .free then (do let a ← cellOf env name; pure (.yield ((name, a) :: cs))) else pure (.yield cs)) :
    ∀ (names : List (Str × NameKind)) (acc : List (Str × Addr)), (∀ x ∈ names, x.2 = .free → ∃ c, env.cells.lookup x.1 = some c) → (∀ p ∈ acc, env.cells.lookup p.1 = some p.2) →
      ∃ cl, forIn names acc f = pure cl ∧ (∀ p ∈ cl, env.cells.lookup p.1 = some p.2) ∧ (∀ p ∈ acc, p ∈ cl) ∧ ∀ x ∈ names, x.2 = .free → ∃ c, (x.1, c) ∈ cl
  | [], acc, _, ha => ⟨acc, by rw [List.forIn_nil], ha, fun _ h => h, fun _ h => nomatch h⟩
  | (n, k) :: r, acc, hr, ha => by
    rw [List.forIn_cons, hf]
    cases hk : k == NameKind.free with
    | false =>
      simp only [Bool.false_eq_true, if_false, pure_bind]
      obtain ⟨cl, h1, h2, h3, h4⟩ := closure_loop env f hf r acc (fun x hx => hr x (List.mem_cons_of_mem _ hx)) ha
      refine ⟨cl, h1, h2, h3, fun x hx hxf => ?_⟩
      rcases List.mem_cons.mp hx with rfl | hx
      · simp only at hxf; subst hxf; simp at hk
      · exact h4 x hx hxf
    | true =>
      have hk' : k = .free := by simpa using hk
      subst hk'
      obtain ⟨c, hc⟩ := hr (n, .free) List.mem_cons_self rfl
      have e : cellOf env n = pure c := by unfold cellOf; rw [hc]
      simp only [if_true, e, pure_bind]
      obtain ⟨cl, h1, h2, h3, h4⟩ := closure_loop env f hf r ((n, c) :: acc) (fun x hx => hr x (List.mem_cons_of_mem _ hx)) (fun p hp => by
        rcases List.mem_cons.mp hp with rfl | hp
        · exact hc
        · exact ha p hp)
      refine ⟨cl, h1, h2, fun p hp => h3 p (List.mem_cons_of_mem _ hp), fun x hx hxf => ?_⟩
      rcases List.mem_cons.mp hx with rfl | hx
      · exact ⟨c, h3 _ List.mem_cons_self⟩
      · exact h4 x hx hxf
theorem lookup_of_all {env : Env} : ∀ {cl : List (Str × Addr)} {n : Str} {c : Addr}, (∀ p ∈ cl, env.cells.lookup p.1 = some p.2) → (n, c) ∈ cl → cl.lookup n = env.cells.lookup n
  | (k, v) :: r, n, c, ha, hm => by
    rw [List.lookup_cons]
    cases hb : n == k with
    | true =>
      have : n = k := beq_iff_eq.mp hb
      subst this
      exact (ha _ List.mem_cons_self).symm
    | false =>
      rcases List.mem_cons.mp hm with h | h
      · cases h; simp at hb
      · exact lookup_of_all (fun p hp => ha p (List.mem_cons_of_mem _ hp)) h
theorem closure_is {scope : Scope} {env : Env} (hr : ∀ x ∈ scope.names, x.2 = .free → ∃ c, env.cells.lookup x.1 = some c) :
    ∃ cl, closureFor scope env = pure cl ∧ ∀ n, scope.names.lookup n = some .free → cl.lookup n = env.cells.lookup n := by
  obtain ⟨cl, h1, h2, _, h4⟩ := closure_loop env (fun x cs => match x with | (name, kind) => if kind == .free then (do let a ← cellOf env name; pure (.yield ((name, a) :: cs))) else pure (.yield cs)) (fun _ _ _ => rfl) scope.names [] hr (fun _ h => nomatch h)
  refine ⟨cl, ?_, fun n hn => ?_⟩
  · refine Eq.trans ?_ h1
    unfold closureFor
    first
      | rfl
      | simp only [bind_pure]
  · obtain ⟨c, hc⟩ := h4 (n, .free) (mem_of_lookup hn) rfl
    exact lookup_of_all h2 hc

/-- what a comprehension sees of the frame's names -/
def compSto (scope : Scope) (σ : Sto) : Sto := fun x => if scope.names.lookup x = some .free then (match σ x with | some (.val d) => some (.val d) | _ => none) else none
theorem compSto_at {scope : Scope} {σ : Sto} {x : Str} {sl : Slot} (h : compSto scope σ x = some sl) : scope.names.lookup x = some .free ∧ ∃ d, sl = .val d ∧ σ x = some (.val d) := by
  unfold compSto at h
  split at h
  · rename_i hx
    refine ⟨hx, ?_⟩
    split at h
    · rename_i d hd; cases h; exact ⟨d, rfl, hd⟩
    · cases h
  · cases h

theorem relabel_lookup {scope : Scope} {env : Env} {x : Str} {k : NameKind} (h : scope.names.lookup x = some k) : (relabel scope env).names.lookup x = some (if (k == .free && env.scope.kind == .function && env.kindOf x == some .cell) then .cell else k) := by
  unfold relabel
  show (scope.names.map _).lookup x = _
  generalize scope.names = names at h
  induction names with
  | nil => simp at h
  | cons p r ih =>
    obtain ⟨n, kk⟩ := p
    rw [List.map_cons]
    cases hx : x == n with
    | true =>
      have : x = n := beq_iff_eq.mp hx
      subst this
      simp only [List.lookup_cons, beq_self_eq_true] at h
      cases h
      show List.lookup x ((if (k == NameKind.free && env.scope.kind == .function && env.kindOf x == some .cell) = true then (x, NameKind.cell) else (x, k)) :: _) = _
      split <;> simp [List.lookup_cons]
    | false =>
      have h' : List.lookup x r = some k := by simpa [List.lookup_cons, hx] using h
      show List.lookup x ((if (kk == NameKind.free && env.scope.kind == .function && env.kindOf n == some .cell) = true then (n, NameKind.cell) else (n, kk)) :: _) = _
      split <;> simp only [List.lookup_cons, hx] <;> exact ih h'

section
variable {C : Cx} {A : Around} {env : Env} {ws : List Addr} {σ τ : Sto}

theorem EnvOk.comp {sc scope : Scope} {env : Env} {cl : List (Str × Addr)} {Ca : Addr} (K : EnvOk sc env) (hk : scope.kind = .function) : EnvOk scope (compEnvC scope cl Ca env) := by
  refine ⟨by show (relabel scope env).kind = .function; exact hk, fun x k hkf h => ?_, K.globals, K.builtins⟩
  show (relabel scope env).names.lookup x = some k
  rw [relabel_lookup h]
  have : (k == NameKind.free) = false := by simpa using hkf
  simp [this]

theorem comp_core {sc : Scope} {elt target iter : Expr} {ifs : List Expr} {rest : List Comprehension} {scope : Scope} {pos : Pos} {it : Value} {wr : List Addr} {St : Nat → Gh → Shared → Prop} {Sm : Nat → Value → Gh → Shared → Prop} {items : List D} {cl : List (Str × Addr)}
    {B : Addr → Env → Bwp} {F : D → List D} {RR : Value → Addr → Result → Shared → Prop} {E : Value → Shared → Prop} {g₀ g : Gh} {s₀ s : Shared} (K : EnvOk sc env)
    (hk : scope.kind = .function) (hcell : ∀ y ∈ scope.names, y.2 ≠ .cell) (I : InvS C env ws σ g₀ s₀) (x₁ : GrowS g₀ s₀ g s) (W : It C A target it wr St Sm items) (st : St 0 g s) (fresh : ∀ b ∈ wr, s₀.heap.get? b = none)
    (hcl : ∀ n, scope.names.lookup n = some .free → cl.lookup n = env.cells.lookup n) (hpar : ∀ n, scope.names.lookup n = some .free → env.kindOf n ≠ some .local)
    (hturn : ∀ (Da : Addr) (cenv : Env) (s : Shared) (Q : Fin → Shared → Prop) (E : Value → Shared → Prop), wpAny (model C.prog C.w) A (pyNext it) (fun r s₁ => match r with
        | none => Q (.done .next) s₁
        | some v => wpAny (model C.prog C.w) A (letOwnedTupleGo target it v) (fun _ s₂ => wpAny (model C.prog C.w) A (assign target cenv v) (fun _ s₃ => B Da cenv (fun s₄ => Q (.again (.compLoop (.ListComp elt (⟨target, iter, ifs, 0⟩ :: rest) scope pos) 0 it (.ref Da) cenv)) s₄) E s₃) E s₂) E s₁) E s →
      wpAny (model C.prog C.w) A (compTurn (.ListComp elt (⟨target, iter, ifs, 0⟩ :: rest) scope pos) 0 it (.ref Da) cenv) Q E s)
    (turn : ∀ (Da : Addr) (cenv : Env), EnvOk scope cenv → ∀ d ∈ items, ∃ σ', AsgL C A cenv [] (compSto scope σ) target d σ' ∧ BodyOk C cenv σ' (compSto scope σ) Da (B Da cenv) (F d))
    (hsz : (items.flatMap F).length ≤ sizeLine)
    (c : ∀ Da Ca g' s', GrowS g₀ s₀ g' s' → Val g'.led (.ref Da) (.list (items.flatMap F)) → (∃ m, s'.heap.Ns Ca m) → s₀.heap.get? Ca = none → g'.kp Ca = none → RR (.ref Da) Ca (.ok .next) s') :
    wpAny (model C.prog C.w) A (newList []) (fun acc s₃ => wpAny (model C.prog C.w) A (newFunctionEnv scope env.globals cl [] env.qual none .none (some env)) (fun cenv s₄ =>
      codeAny (model C.prog C.w) A (.compStart (.ListComp elt (⟨target, iter, ifs, 0⟩ :: rest) scope pos) 0 it acc { cenv with scope := relabel scope env }) (RR acc cenv.locals) s₄) E s₃) E s := by
  have I₁ := I.grow x₁
  have out := W.out 0 g s st
  refine wpAny_newObj_type (wpAny_newFunctionEnv hcell (by intro y hy; simp at hy) (fun h₁ hns₁ hsb₁ => ?_) hk)
  dsimp only at hns₁ hsb₁ ⊢
  generalize hH2 : s.heap.push { cls := .type "list", dict := none, data := .seq ([] : List Value).toArray } = H2 at hns₁ hsb₁ ⊢
  have hC : H2.objs.size = s.heap.objs.size + 1 := by rw [← hH2, Heap.size_push]
  have hDC : s.heap.objs.size ≠ H2.objs.size := by rw [hC]; exact Nat.ne_of_lt (Nat.lt_succ_self _)
  have below : ∀ b, b < s.heap.objs.size → b ≠ H2.objs.size ∧ b ≠ s.heap.objs.size := fun b hb => ⟨by rw [hC]; exact Nat.ne_of_lt (Nat.lt_succ_of_lt hb), Nat.ne_of_lt hb⟩
  have old : ∀ b o, s.heap.get? b = some o → h₁.get? b = some o := fun b o e => hsb₁.extBut b o (below b (Heap.lt_size e)).1 (Heap.get?_push_of_some _ (hH2 ▸ Heap.get?_push_of_some _ e))
  have hacc : h₁.get? s.heap.objs.size = some { cls := .type "list", data := .seq ([] : List Value).toArray } := hsb₁.extBut _ _ hDC (Heap.get?_push_of_some _ (hH2 ▸ Heap.get?_push_size _ rfl))
  have freshA : ∀ a, s.heap.objs.size ≤ a → s.heap.get? a = none := fun a ha => Heap.get?_none_of_le ha
  have fresh₀ : ∀ a, s.heap.objs.size ≤ a → s₀.heap.get? a = none := fun a ha => none_of_up x₁.gr.keep (freshA a ha)
  have hDw : s.heap.objs.size ∉ wr := fun h => by obtain ⟨⟨o, e, _⟩, _⟩ := out _ h; rw [freshA _ (Nat.le_refl _)] at e; cases e
  have hCw : H2.objs.size ∉ wr := fun h => by obtain ⟨⟨o, e, _⟩, _⟩ := out _ h; rw [freshA _ (by rw [hC]; exact Nat.le_succ _)] at e; cases e
  let gc : Gh := ⟨g.led, fun a => if a ∈ wr then none else (g.kp a).or (s.heap.get? a), fun a o e => by
    have h1 := g.sub a o e
    by_cases q : a ∈ wr
    · rw [(out a q).2] at h1; cases h1
    · simp only [q, if_false, h1, Option.some_or]⟩
  have le₀ : g.Le gc := ⟨fun _ _ e => e, fun a o e => by
    have q : a ∉ wr := fun q => by rw [(out a q).2] at e; cases e
    show (if a ∈ wr then none else (g.kp a).or (s.heap.get? a)) = some o
    simp only [q, if_false, e, Option.some_or], fun _ _ e => .inl e⟩
  generalize hcE : compEnvC scope cl H2.objs.size env = cenv
  have hcl' : cenv.cells = cl := by rw [← hcE]; rfl
  have hloc : cenv.locals = H2.objs.size := by rw [← hcE]; rfl
  have KC : EnvOk scope cenv := by rw [← hcE]; exact K.comp hk
  have hkc : ∀ y, scope.names.lookup y = some .free → cenv.kindOf y = some .cell ∨ cenv.kindOf y = some .free := fun y hy => by
    have : cenv.kindOf y = (relabel scope env).names.lookup y := by rw [← hcE]; rfl
    rw [this, relabel_lookup hy]
    split
    · exact .inl rfl
    · exact .inr rfl
  have INV : Inv C cenv [] (compSto scope σ) gc h₁ := by
    refine ⟨I₁.1.base, I₁.1.ok, I₁.1.fr.up fun a o _ _ e _ => .of (old a o e), fun a o e => old a o (I₁.1.led a o e), fun a o e => ?_, ⟨_, hloc ▸ hns₁, fun y sl hy hs => ?_⟩, fun y sl hy hs => ?_, fun _ h => (nomatch h), ⟨?_, fun _ h => (nomatch h)⟩, fun _ _ _ _ _ h => (nomatch h), fun y z a ds es h1 h2 => ?_⟩
    · by_cases q : a ∈ wr
      · have e' : (if a ∈ wr then none else (g.kp a).or (s.heap.get? a)) = some o := e
        simp only [q, if_true] at e'; cases e'
      · have e' : (if a ∈ wr then none else (g.kp a).or (s.heap.get? a)) = some o := e
        simp only [q, if_false] at e'
        cases hg : g.kp a with
        | some o' => rw [hg] at e'; cases e'; exact (I₁.1.kp a o hg).trans fun o' e' => .of (old _ _ e')
        | none => rw [hg] at e'; exact .of (old _ _ e')
    · obtain ⟨h, d, rfl, h2⟩ := compSto_at hs
      rcases hkc y h with q | q <;> rw [q] at hy <;> cases hy
    · obtain ⟨h, d, rfl, h2⟩ := compSto_at hs
      refine ⟨hkc y h, ?_⟩
      obtain ⟨_, cc, v, e1, ⟨oc, e2, e2'⟩, e3, _⟩ := I₁.1.cl y _ (hpar y h) h2
      refine ⟨cc, v, by rw [hcl', hcl y h]; exact e1, ⟨oc, old _ _ e2, e2'⟩, e3, .inl ?_⟩
      have q : cc ∉ wr := fun q => by
        obtain ⟨⟨o, e, h, _⟩, _⟩ := out cc q
        rw [e2] at e; cases e; exact h _ e2'
      show ∃ o, (if cc ∈ wr then none else (g.kp cc).or (s.heap.get? cc)) = some o
      simp only [q, if_false]
      cases g.kp cc with
      | some o => exact ⟨o, rfl⟩
      | none => exact ⟨oc, e2⟩
    · show (if cenv.locals ∈ wr then none else (g.kp cenv.locals).or (s.heap.get? cenv.locals)) = none
      rw [hloc]
      simp only [hCw, if_false]
      rw [kp_fresh I₁.kp (by rw [hC]; exact Nat.le_succ _), freshA _ (by rw [hC]; exact Nat.le_succ _)]; rfl
    · obtain ⟨_, d, h, _⟩ := compSto_at h1; cases h
  have loop : ∀ s₃ : Shared, s₃ = { s with heap := h₁, toks := s.toks + ([] : List (Str × Value)).length } →
      codeAny (model C.prog C.w) A (.compLoop (.ListComp elt (⟨target, iter, ifs, 0⟩ :: rest) scope pos) 0 it (.ref s.heap.objs.size) cenv) (RR (.ref s.heap.objs.size) H2.objs.size) s₃ := by
    rintro s₃ rfl
    have INV' : InvS C cenv [] (compSto scope σ) gc { s with heap := h₁, toks := s.toks + ([] : List (Str × Value)).length } := ⟨INV, ⟨Nat.le_trans I₁.2.one (Nat.le_add_right _ _), fun x y B e => by
      obtain ⟨_, d, h, h2⟩ := compSto_at e
      cases h
      exact Nat.le_trans (I₁.2.all x y B h2) (Nat.le_add_right _ _)⟩⟩
    have ac₀ : Acc gc { s with heap := h₁, toks := s.toks + ([] : List (Str × Value)).length } s.heap.objs.size [] := ⟨by
      show (if s.heap.objs.size ∈ wr then none else (g.kp s.heap.objs.size).or (s.heap.get? s.heap.objs.size)) = none
      simp only [hDw, if_false]
      rw [kp_fresh I₁.kp (Nat.le_refl _), freshA _ (Nat.le_refl _)]; rfl, [], 0, hacc, .nil⟩
    refine comp_loop W (hturn _ _) rfl (Around.under_of_weight rfl) rfl (turn s.heap.objs.size cenv KC) (by rw [hloc]; exact hDC) hDw (by rw [hloc]; exact hCw) ((I.fresh_off fresh).2.2.2) (fun x a ds h => by obtain ⟨_, d, h, _⟩ := compSto_at h; cases h) INV'
      (W.frame 0 g s gc _ st le₀ INV'.kp (fun b hb => by show (if b ∈ wr then none else _) = none; simp only [hb, if_true]) fun b hb o e => old b o e) ac₀ (by simpa using hsz) fun g₂ s₂ le₂ kb₂ I₂ ac₂ hw₂ => ?_
    rw [List.nil_append] at ac₂
    obtain ⟨hkD, vs, n, hD, hvs⟩ := ac₂
    have hlD : g₂.led s.heap.objs.size = none := by
      cases q : g₂.led s.heap.objs.size with
      | none => rfl
      | some o => have := g₂.sub _ _ q; rw [hkD] at this; cases this
    have hkC : g₂.kp H2.objs.size = none := hloc ▸ I₂.1.mt.1
    have hlC : g₂.led H2.objs.size = none := by
      cases q : g₂.led H2.objs.size with
      | none => rfl
      | some o => have := g₂.sub _ _ q; rw [hkC] at this; cases this
    let led' : Led := fun a => if a = s.heap.objs.size then some { cls := .type "list", data := .seq vs.toArray n } else g₂.led a
    have hled : ∀ a o, g₂.led a = some o → led' a = some o := fun a o e => by
      have q : a ≠ s.heap.objs.size := by rintro rfl; rw [hlD] at e; cases e
      show (if a = s.heap.objs.size then _ else g₂.led a) = some o
      simp only [q, if_false]; exact e
    have hgcnew : ∀ a o, g₂.led a = some o → g.led a = some o ∨ s₀.heap.get? a = none := fun a o e => by
      rcases le₂.1.2.2 a o e with h | h
      · exact .inl h
      · right
        have h' : (if a ∈ wr then none else (g.kp a).or (s.heap.get? a)) = none := h
        by_cases q : a ∈ wr
        · exact fresh a q
        · simp only [q, if_false] at h'
          exact none_of_up x₁.gr.keep (Option.or_eq_none_iff.mp h').2
    have keep₂ : ∀ a o, s₀.heap.get? a = some o → Up s₂.heap a o := fun a o e => by
      refine (x₁.gr.keep a o e).trans fun o' hs => ?_
      have hlt := Heap.lt_size hs
      refine kb₂.keep a o' ?_ (old a o' hs)
      rw [hloc]
      intro q
      rcases List.mem_cons.mp q with q | q
      · exact (below a hlt).2 q
      · rcases List.mem_cons.mp q with q | q
        · exact (below a hlt).1 q
        · rw [fresh a q] at e; cases e
    let g' : Gh := ⟨led', fun a => (led' a).or (g₀.kp a), fun a o e => by rw [e]; rfl⟩
    have base0 : ∀ a o, g₀.led a = some o → g₂.led a = some o := fun a o e => le₂.1.1 a o (x₁.gr.led a o e)
    have new0 : ∀ a o, g₂.led a = some o → g₀.led a = some o ∨ (s₀.heap.get? a = none ∧ s₂.heap.get? a = some o ∧ Plain o) := fun a o q' => by
      have fin : s₀.heap.get? a = none → s₀.heap.get? a = none ∧ s₂.heap.get? a = some o ∧ Plain o := fun hn => by
        refine ⟨hn, I₂.1.led a o q', ?_⟩
        rcases I₂.1.ok a o q' with z | z
        · have := I.1.led a o (I.1.base a o z); rw [hn] at this; cases this
        · exact z
      rcases hgcnew a o q' with h | h
      · rcases x₁.gr.newled a o h with h | h
        · exact .inl h
        · exact .inr (fin h.1)
      · exact .inr (fin h)
    have X : GrowS g₀ s₀ g' s₂ := by
      refine ⟨⟨keep₂, fun a o l e => I₂.1.led a o (base0 a o l), fun a o e => hled a o (base0 a o e), fun a o e => ?_, fun a o e => ?_, fun a o e => ?_⟩, by rw [kb₂.eq, x₁.eq], Nat.le_trans x₁.tk (Nat.le_trans (Nat.le_add_right _ _) kb₂.tk)⟩
      · show (led' a).or (g₀.kp a) = some o
        cases q : led' a with
        | none => exact e
        | some o' =>
          have hs₀ := I.1.kp a o e
          have ha : a ≠ s.heap.objs.size := fun q => hs₀.no (by rw [q]; exact fresh₀ _ (Nat.le_refl _))
          have q' : (if a = s.heap.objs.size then _ else g₂.led a) = some o' := q
          simp only [ha, if_false] at q'
          rcases new0 a o' q' with h | h
          · have := g₀.sub a o' h; rw [e] at this; cases this; rfl
          · exact (hs₀.no h.1).elim
      · have e' : (led' a).or (g₀.kp a) = some o := e
        cases q : led' a with
        | none => rw [q] at e'; exact .inl e'
        | some o' =>
          rw [q] at e'; cases e'
          by_cases ha : a = s.heap.objs.size
          · right
            have q' : (if a = s.heap.objs.size then some ({ cls := .type "list", data := .seq vs.toArray n } : Obj) else g₂.led a) = some o := q
            simp only [ha, if_true] at q'
            cases q'
            exact ⟨ha ▸ fresh₀ _ (Nat.le_refl _), .of (ha ▸ hD)⟩
          · have q' : (if a = s.heap.objs.size then _ else g₂.led a) = some o := q
            simp only [ha, if_false] at q'
            rcases new0 a o q' with h | h
            · exact .inl (g₀.sub a o h)
            · exact .inr ⟨h.1, .of h.2.1⟩
      · have e' : (if a = s.heap.objs.size then some ({ cls := .type "list", data := .seq vs.toArray n } : Obj) else g₂.led a) = some o := e
        by_cases ha : a = s.heap.objs.size
        · simp only [ha, if_true] at e'
          cases e'
          exact .inr ⟨ha ▸ fresh₀ _ (Nat.le_refl _), ha ▸ hD, plain_seq rfl⟩
        · simp only [ha, if_false] at e'
          exact new0 a o e'
    refine c s.heap.objs.size H2.objs.size g' s₂ X (.list (o := { cls := .type "list", data := .seq vs.toArray n }) ?_ rfl rfl (hvs.mono hled)) ?_ (fresh₀ _ (by rw [hC]; exact Nat.le_succ _)) ?_
    · show (if s.heap.objs.size = s.heap.objs.size then _ else _) = _
      simp only [if_true]
    · obtain ⟨m, hm, _⟩ := I₂.1.ns
      exact ⟨m, hloc ▸ hm⟩
    · show ((if H2.objs.size = s.heap.objs.size then _ else g₂.led H2.objs.size)).or (g₀.kp H2.objs.size) = none
      simp only [Ne.symm hDC, if_false, hlC]
      have : g₀.kp H2.objs.size = none := by
        cases q : g₀.kp H2.objs.size with
        | none => rfl
        | some o => exact ((I.1.kp _ _ q).no (fresh₀ _ (by rw [hC]; exact Nat.le_succ _))).elim
      rw [this]; rfl
  have hst : St 0 gc { s with heap := h₁, toks := s.toks + ([] : List (Str × Value)).length } :=
    W.frame 0 g s gc _ st le₀ ⟨INV.kp, INV.led, Nat.le_trans I₁.2.one (Nat.le_add_right _ _)⟩ (fun b hb => by show (if b ∈ wr then none else _) = none; simp only [hb, if_true]) fun b hb o e => old b o e
  show codeAny _ _ (.compStart _ 0 it _ (compEnvC scope cl H2.objs.size env)) (RR _ H2.objs.size) _
  rw [hcE]
  exact codeAny_compStart_list (loop _ rfl) (W.self 0 gc _ _ _ hst (loop _ rfl))
end
end Mine
namespace Mine

structure CompScope (sc scope : Scope) : Prop where
  kind : scope.kind = .function
  nocell : ∀ y ∈ scope.names, y.2 ≠ .cell
  names : ∀ y ∈ scope.names, y.2 = .local → scope.names.lookup y.1 = some .local
  free : ∀ y ∈ scope.names, y.2 = .free → sc.names.lookup y.1 = some .cell

section
variable {C : Cx} {A : Around} {env : Env} {ws : List Addr} {σ τ : Sto}

/-- how a turn of a comprehension runs its body -/
def TurnOk (C : Cx) (A : Around) (e : Expr) (depth : Nat) (target : Expr) (B : Addr → Env → Bwp) : Prop :=
  ∀ (it : Value) (Da : Addr) (cenv : Env) (s : Shared) (Q : Fin → Shared → Prop) (E : Value → Shared → Prop), wpAny (model C.prog C.w) A (pyNext it) (fun r s₁ => match r with
        | none => Q (.done .next) s₁
        | some v => wpAny (model C.prog C.w) A (letOwnedTupleGo target it v) (fun _ s₂ => wpAny (model C.prog C.w) A (assign target cenv v) (fun _ s₃ => B Da cenv (fun s₄ => Q (.again (.compLoop e depth it (.ref Da) cenv)) s₄) E s₃) E s₂) E s₁) E s →
      wpAny (model C.prog C.w) A (compTurn e depth it (.ref Da) cenv) Q E s

theorem clear_comp {g₀ g' : Gh} {s₀ s' : Shared} {Ca : Addr} {h' : Heap} (X : GrowS g₀ s₀ g' s') (h0 : s₀.heap.get? Ca = none) (hk : g'.kp Ca = none) (hs : Heap.SameBut Ca s'.heap h') : GrowS g₀ s₀ g' { s' with heap := h' } := by
  have hl : ∀ a o, g'.led a = some o → a ≠ Ca := fun a o e q => by have := g'.sub a o e; rw [q, hk] at this; cases this
  refine ⟨⟨fun a o e => ?_, fun a o l e => ?_, X.gr.led, X.gr.kp, fun a o e => ?_, fun a o e => ?_⟩, by rw [X.eq], X.tk⟩
  · refine (X.gr.keep a o e).trans fun o' e' => .of ((hs.2 a (by rintro rfl; rw [h0] at e; cases e)).trans e')
  · exact (hs.2 a (hl a o (X.gr.led a o l))).trans (X.gr.ledk a o l e)
  · rcases X.gr.new a o e with h | ⟨h1, h2⟩
    · exact .inl h
    · exact .inr ⟨h1, h2.trans fun o' e' => .of ((hs.2 a (by rintro rfl; rw [hk] at e; cases e)).trans e')⟩
  · rcases X.gr.newled a o e with h | ⟨h1, h2, h3⟩
    · exact .inl h
    · exact .inr ⟨h1, (hs.2 a (hl a o e)).trans h2, h3⟩

theorem comp_frees {sc scope : Scope} (K : EnvOk sc env) (Wc : CellsOk' sc env ws) (S : CompScope sc scope) :
    (∀ x ∈ scope.names, x.2 = .free → ∃ c, env.cells.lookup x.1 = some c) ∧ ∀ n, scope.names.lookup n = some .free → env.kindOf n ≠ some .local := by
  refine ⟨fun x hx hf => ?_, fun n hn => ?_⟩
  · have h := S.free x hx hf
    rcases Wc _ h with q | ⟨_, c, q, _⟩
    · rw [K.at h] at q; cases q
    · exact ⟨c, q⟩
  · have h := S.free (n, .free) (mem_of_lookup hn) rfl
    rw [K.at h]; decide

theorem ev_comp {sc : Scope} {elt target iter : Expr} {ifs : List Expr} {rest : List Comprehension} {scope : Scope} {pos : Pos} {items : List D} {B : Addr → Env → Bwp} {F : D → List D}
    (K : EnvOk sc env) (Wc : CellsOk' sc env ws) (S : CompScope sc scope) (hit : EvIt C A env ws σ target iter items)
    (hturn : TurnOk C A (.ListComp elt (⟨target, iter, ifs, 0⟩ :: rest) scope pos) 0 target B)
    (turn : ∀ (Da : Addr) (cenv : Env), EnvOk scope cenv → ∀ d ∈ items, ∃ σ', AsgL C A cenv [] (compSto scope σ) target d σ' ∧ BodyOk C cenv σ' (compSto scope σ) Da (B Da cenv) (F d))
    (hsz : (items.flatMap F).length ≤ sizeLine) (hs : ∀ x, foldedSetIterable iter env x = pure x := by intro _; rfl) :
    Ev C A env ws σ (.ListComp elt (⟨target, iter, ifs, 0⟩ :: rest) scope pos) (.list (items.flatMap F)) := by
  intro g s Q E I c
  obtain ⟨hr, hpar⟩ := comp_frees K Wc S
  obtain ⟨cl, hclos, hcl⟩ := closure_is hr
  rw [eval_ListComp]
  refine wpAny_comprehension_free (use := none) rfl hs hclos S.kind S.names (hit g s _ E I fun it wr St Sm g₁ s₁ x₁ W st fresh => ?_)
  refine comp_core (B := B) (F := F) (RR := fun acc Ca => compPost (model C.prog C.w) A E none Q acc Ca) K S.kind S.nocell I x₁ W st fresh hcl hpar (hturn it) turn hsz fun Da Ca g' s' X hv hn h0 hk => ?_
  obtain ⟨m, hn⟩ := hn
  exact ⟨m, hn, fun h' hs' => c _ g' _ (clear_comp X h0 hk hs') hv⟩

theorem swaps_comp {sc : Scope} {elt : Expr} {gens : List Comprehension} {scope : Scope} {pos py : Pos} {y : Str} {line : Nat} (K : EnvOk sc env) (hy : sc.names.lookup y = some .local) (hl : (py.line == pos.line) = true)
    (hn : (scope.names.any fun p => p.1 == y && (p.2 == .local || p.2 == .cell)) = false) : swapsWith (.ListComp elt gens scope pos) (some (.Name y py)) line env = pure true := by
  have hb : (env.blockKind == ScopeKind.function) = true := by unfold Env.blockKind; rw [K.k]; rfl
  have hk : (env.kindOf y == some NameKind.local) = true := by rw [K.at hy]; rfl
  show (pure (env.blockKind == .function && env.kindOf y == some .local && py.line == pos.line && !(scope.names.any fun p => p.1 == y && (p.2 == .local || p.2 == .cell))) : Sem Bool) = pure true
  rw [hb, hk, hl, hn]; rfl
theorem swaps_comp_cell {sc : Scope} {elt : Expr} {gens : List Comprehension} {scope : Scope} {pos py : Pos} {y : Str} {line : Nat} (K : EnvOk sc env) (hy : sc.names.lookup y = some .cell) : swapsWith (.ListComp elt gens scope pos) (some (.Name y py)) line env = pure false := by
  have hk : (env.kindOf y == some NameKind.local) = false := by rw [K.at hy]; rfl
  show (pure (env.blockKind == .function && env.kindOf y == some .local && py.line == pos.line && !(scope.names.any fun p => p.1 == y && (p.2 == .local || p.2 == .cell))) : Sem Bool) = pure false
  rw [hk]; simp

theorem ex_assign_comp {sc : Scope} {y : Str} {py spos : Pos} {elt target iter : Expr} {ifs : List Expr} {rest : List Comprehension} {scope : Scope} {pos : Pos} {items : List D} {B : Addr → Env → Bwp} {F : D → List D} {P : Out → Prop}
    (K : EnvOk sc env) (Wc : CellsOk' sc env ws) (S : CompScope sc scope) (hit : EvIt C A env ws σ target iter items)
    (hturn : TurnOk C A (.ListComp elt (⟨target, iter, ifs, 0⟩ :: rest) scope pos) 0 target B)
    (turn : ∀ (Da : Addr) (cenv : Env), EnvOk scope cenv → ∀ d ∈ items, ∃ σ', AsgL C A cenv [] (compSto scope σ) target d σ' ∧ BodyOk C cenv σ' (compSto scope σ) Da (B Da cenv) (F d))
    (hsz : (items.flatMap F).length ≤ sizeLine) (h : P (.next (σ.set y (.val (.list (items.flatMap F))))))
    (hy : sc.names.lookup y = some .local) (hl : (py.line == pos.line) = true) (hn : (scope.names.any fun p => p.1 == y && (p.2 == .local || p.2 == .cell)) = false) (hs : ∀ x, foldedSetIterable iter env x = pure x := by intro _; rfl) :
    Ex1 C A env ws σ (.Assign [.Name y py] (.ListComp elt (⟨target, iter, ifs, 0⟩ :: rest) scope pos) spos) P := by
  intro g s Q E I c
  obtain ⟨hr, hpar⟩ := comp_frees K Wc S
  obtain ⟨cl, hclos, hcl⟩ := closure_is hr
  rw [exec_Assign_Name_used _ _ _ _ (swaps_comp K hy hl hn)]
  refine wpAny_bind (wpAny_standAt (wpAny_bind ?_))
  show wpAny _ A (do let _ ← comprehension (.ListComp elt (⟨target, iter, ifs, 0⟩ :: rest) scope pos) scope env _ (newList []) false (eval iter env) (some (assign (.Name y py) env))) _ _ s
  refine wpAny_bind (wpAny_mono (wpAny_comprehension_free (use := some (assign (.Name y py) env)) (Q := fun _ s' => Q .next s') rfl hs hclos S.kind S.names (hit g s _ E I fun it wr St Sm g₁ s₁ x₁ W st fresh => ?_))
    (fun _ s' hq => wpAny_pure (wpAny_pure hq)) fun _ _ e => e)
  refine comp_core (B := B) (F := F) (RR := fun acc Ca => compPost (model C.prog C.w) A E (some (assign (.Name y py) env)) (fun _ s' => Q .next s') acc Ca) K S.kind S.nocell I x₁ W st fresh hcl hpar (hturn it) turn hsz fun Da Ca g' s' X hv hn h0 hk => ?_
  have I' := I.grow X
  have off : ∀ σ', (∀ x a ds, σ' x = some (.own a ds) → ∃ y, σ y = some (.own a ds)) → Off C env ws σ' [Ca] := fun σ' hσ => by
    have o := I.fresh_off (wr := [Ca]) (fun b hb => by rw [List.mem_singleton.mp hb]; exact h0)
    exact ⟨o.1, o.2.1, fun x a ds hx => by obtain ⟨y, hy⟩ := hσ x a ds hx; exact o.2.2.1 y a ds hy, o.2.2.2⟩
  obtain ⟨m, hnC⟩ := hn
  show wpAny _ A (assign (.Name y py) env (.ref Da)) _ E s'
  refine wpAny_assign_Name (I'.1.store (sl := .val (.list (items.flatMap F))) hv K.k (.inl (K.at hy)) (fun _ _ _ _ q => by cases q) fun h₂ tk₂ htk keep J => ?_)
  have hLC : Ca ≠ env.locals := fun q => (I.fresh_off (wr := [Ca]) (fun b hb => by rw [List.mem_singleton.mp hb]; exact h0)).1 (by rw [q]; exact List.mem_singleton.mpr rfl)
  have hwC : Ca ∉ ws := fun q => (I.fresh_off (wr := [Ca]) (fun b hb => by rw [List.mem_singleton.mp hb]; exact h0)).2.1 Ca q (List.mem_singleton.mpr rfl)
  refine ⟨m, hnC.at fun o e => keep Ca o hLC hwC e, fun h₃ hs₃ => ?_⟩
  have J₂ : InvS C env ws (σ.set y (.val (.list (items.flatMap F)))) g' { s' with heap := h₂, toks := tk₂ } := ⟨J, (I'.2.set (fun _ _ e => by cases e)).up htk⟩
  have xb : GrowBut [Ca] g' { s' with heap := h₂, toks := tk₂ } g' { s' with heap := h₃, toks := tk₂ } :=
    ⟨fun a o ha e => .of ((hs₃.2 a (by simpa using ha)).trans e), fun a o _ ha e => (hs₃.2 a (by simpa using ha)).trans e, fun _ _ e => e, fun _ _ e => e, fun _ _ e => .inl e, fun _ _ e => .inl e, rfl, Nat.le_refl _⟩
  have J₃ := J₂.but xb (off _ fun x a ds hx => by
    unfold Sto.set at hx
    by_cases q : x = y
    · simp only [q, if_true] at hx; cases hx
    · simp only [q, if_false] at hx; exact ⟨x, hx⟩) (fun b hb => by rw [List.mem_singleton.mp hb]; exact hk)
  exact c _ _ g' _ h ((X.step I.kp).trans ⟨.refl _, rfl, htk⟩) ⟨rfl, J₃⟩

/-! the bodies -/
def bEmit (C : Cx) (A : Around) (elt : Expr) (Da : Addr) (cenv : Env) : Bwp := fun K E s => wpAny (model C.prog C.w) A (eval elt cenv) (fun x s₁ => wpAny (model C.prog C.w) A (call (.builtin "list.append") [.ref Da, x]) (fun _ s₂ => K s₂) E s₁) E s
def bIf (C : Cx) (A : Around) (t : Expr) (B : Addr → Env → Bwp) (Da : Addr) (cenv : Env) : Bwp := fun K E s => wpAny (model C.prog C.w) A (isTrue t cenv (eval t cenv)) (fun b s₁ => if b = true then B Da cenv K E s₁ else K s₁) E s

theorem body_emit {elt : Expr} {cenv : Env} {Da : Addr} {σ' σc : Sto} {r : D} (h : Ev C A cenv [] σ' elt r) (hsub : ∀ x s, σc x = some s → σ' x = some s) (hown : ∀ x a ds, σ' x ≠ some (.own a ds)) : BodyOk C cenv σ' σc Da (bEmit C A elt Da cenv) [r] :=
  fun g s rs K E I ac hsz c => h g s _ E I fun v g₁ s₁ x₁ w₁ => by
    have ac₁ := ac.grow x₁
    obtain ⟨hk, vs, n, hD, hvs⟩ := ac₁
    have I₁ := I.grow x₁
    have hlen : vs.toArray.size ≤ sizeLine := by
      have : vs.length = rs.length := hvs.length
      simp only [List.size_toArray]; simp only [List.length_cons, List.length_nil] at hsz; omega
    refine wpAny_list_append_plain (items := vs.toArray) ⟨n, hD⟩ (fun h' hp hs => ?_) hlen
    obtain ⟨n', hp⟩ := hp
    have hLD : cenv.locals ≠ Da := fun q => by
      obtain ⟨m, ⟨o, es, ep, ho, hd, _⟩, _⟩ := I₁.1.ns
      rw [q, hD] at ho; cases ho; cases hd
    have xb : GrowBut [Da] g₁ s₁ g₁ { s₁ with heap := h' } := ⟨fun a o ha e => .of ((hs.2 a (by simpa using ha)).trans e), fun a o _ ha e => (hs.2 a (by simpa using ha)).trans e, fun _ _ e => e, fun _ _ e => e, fun _ _ e => .inl e, fun _ _ e => .inl e, rfl, Nat.le_refl _⟩
    have I₂ := I₁.but xb ⟨by simpa using hLD, fun _ h => (nomatch h), fun x a ds h => absurd h (hown x a ds), fun e he L hL q => by
      obtain ⟨_, L', o', es, m', q1, _, q2, q3⟩ := I₁.1.fr e he
      rw [hL] at q1; cases q1
      rw [List.mem_singleton.mp q, hD] at q2; cases q2; cases q3⟩ (fun b hb => by rw [List.mem_singleton.mp hb]; exact hk)
    refine c g₁ _ (x₁.leN I.kp _) ((x₁.keepBut _).trans (xb.keepBut.more fun a h => by simp at h; simp [h])) ⟨I₂.1.sub hsub, I₂.2.sub hsub⟩ ⟨hk, vs ++ [v], n', ?_, hvs.append (.cons w₁ .nil)⟩
    rw [hp]; simp
theorem body_if {t : Expr} {b : Bool} {cenv : Env} {Da : Addr} {σ' σc : Sto} {B : Addr → Env → Bwp} {rs' : List D} (ht : EvB C A cenv [] σ' t b) (h₁ : b = true → BodyOk C cenv σ' σc Da (B Da cenv) rs') (h₂ : b = false → rs' = [])
    (hsub : ∀ x s, σc x = some s → σ' x = some s) : BodyOk C cenv σ' σc Da (bIf C A t B Da cenv) rs' :=
  fun g s rs K E I ac hsz c => ht g s _ E I fun g₁ s₁ x₁ => by
    cases b with
    | true =>
      simp only [if_true]
      refine h₁ rfl g₁ s₁ rs K E (I.grow x₁) (ac.grow x₁) hsz fun g₂ s₂ le kb I₂ ac₂ => c g₂ s₂ ((x₁.leN I.kp _).trans (x₁.keepBut _) le) ((x₁.keepBut _).trans kb) I₂ ac₂
    | false =>
      have e := h₂ rfl; subst e
      simp only [Bool.false_eq_true, if_false]
      refine c g₁ s₁ (x₁.leN I.kp _) (x₁.keepBut _) ⟨(I.grow x₁).1.sub hsub, (I.grow x₁).2.sub hsub⟩ (by rw [List.append_nil]; exact ac.grow x₁)

theorem turn_plain {elt target iter : Expr} {scope : Scope} {pos : Pos} : TurnOk C A (.ListComp elt [⟨target, iter, [], 0⟩] scope pos) 0 target (bEmit C A elt) := fun it Da cenv s Q E h => by
  rw [compTurn_list1]
  refine wpAny_bind (wpAny_standAt (wpAny_bind (wpAny_mono h (fun r s₁ h₁ => ?_) fun _ _ e => e)))
  cases r with
  | none => exact wpAny_pure h₁
  | some v =>
    refine wpAny_bind (wpAny_mono h₁ (fun _ s₂ h₂ => wpAny_bind (wpAny_mono h₂ (fun _ s₃ h₃ => ?_) fun _ _ e => e)) fun _ _ e => e)
    exact wpAny_bind (wpAny_bind (wpAny_mono h₃ (fun x s₄ h₄ => wpAny_bind (wpAny_mono h₄ (fun _ s₅ h₅ => wpAny_pure (wpAny_pure h₅)) fun _ _ e => e)) fun _ _ e => e))
theorem turn_if {elt target iter t : Expr} {scope : Scope} {pos : Pos} : TurnOk C A (.ListComp elt [⟨target, iter, [t], 0⟩] scope pos) 0 target (bIf C A t (bEmit C A elt)) := fun it Da cenv s Q E h => by
  rw [compTurn_list]
  refine wpAny_bind (wpAny_standAt (wpAny_bind (wpAny_mono h (fun r s₁ h₁ => ?_) fun _ _ e => e)))
  cases r with
  | none => exact wpAny_pure h₁
  | some v =>
    refine wpAny_bind (wpAny_mono h₁ (fun _ s₂ h₂ => wpAny_bind (wpAny_mono h₂ (fun _ s₃ h₃ => wpAny_bind (wpAny_tests_one (wpAny_mono h₃ (fun b s₄ h₄ => ?_) fun _ _ e => e))) fun _ _ e => e)) fun _ _ e => e)
    cases b with
    | false => exact wpAny_pure h₄
    | true => exact wpAny_bind (wpAny_bind (wpAny_mono h₄ (fun x s₄ h₄ => wpAny_bind (wpAny_mono h₄ (fun _ s₅ h₅ => wpAny_pure (wpAny_pure h₅)) fun _ _ e => e)) fun _ _ e => e))
end
end Mine
namespace Mine

section
variable {C : Cx} {A : Around} {env : Env} {ws : List Addr} {σ τ : Sto}

/-! two targets -/
theorem asg_list2 {x y : Str} {px py p : Pos} {k : Nat} {d₁ d₂ : D} (hh : A.handled = none) (hk : env.scope.kind = .function) (hx : Wr env ws x) (hy : Wr env ws y) (hb₁ : NoB d₁ := by intro _ _ h; cases h) (hb₂ : NoB d₂ := by intro _ _ h; cases h) :
    Asg C A env ws σ (.Tuple [.Name x px, .Name y py] k p) (.list [d₁, d₂]) ((σ.set x (.val d₁)).set y (.val d₂)) := fun g s v Q E I w c => by
  obtain ⟨a, vs, rfl, ha, hvs⟩ := w.isList I.kp
  cases hvs with
  | cons w₁ r => cases r with
    | cons w₂ r =>
      cases r
      rename_i v₁ v₂
      rw [assign_Tuple]
      refine wpAny_bind (wpAny_standAt ?_)
      refine wpAny_bind (wpAny_holding (kun_itemsOf (items := #[v₁, v₂]) hh ha fun h' hx' => ?_))
      have x₁ : GrowS g s g { s with heap := h' } := ⟨Grow.heap fun b o e => hx' b o (Nat.ne_of_lt (Heap.lt_size e)) e, rfl, Nat.le_refl _⟩
      refine wpAny_assignInOrder_more (wpAny_assign_Name ((I.grow x₁).store (sl := .val d₁) w₁ hk hx (fun _ _ _ _ q => by cases q) hb₁.slot fun s₂ x₂ J₂ => ?_))
      exact wpAny_assignInOrder_more (wpAny_assign_Name (J₂.store (sl := .val d₂) w₂ hk hy (fun _ _ _ _ q => by cases q) hb₂.slot fun s₃ x₃ J₃ => wpAny_assignInOrder_none (c g s₃ ((x₁.step I.kp).trans (x₂.trans x₃)) J₃)))
theorem ex_assign2 {elts : List Expr} {k : Nat} {tpos pos : Pos} {e : Expr} {d : D} {P : Out → Prop} (he : Ev C A env ws σ e d) (ha : Asg C A env ws σ (.Tuple elts k tpos) d τ) (h : P (.next τ))
    (hs : swapsWithSole [.Tuple elts k tpos] e pos.line env = pure false := by rfl) (hw : swappedStores [.Tuple elts k tpos] e env = pure none := by rfl) : Ex1 C A env ws σ (.Assign [.Tuple elts k tpos] e pos) P :=
  fun g s Q E I c => Assign_Tuple (he g s _ E I fun v g₁ s₁ x₁ w₁ => ha g₁ s₁ v _ E (I.grow x₁) w₁ fun g₂ s₂ x₂ J => c _ _ _ _ h ((x₁.step I.kp).trans x₂) ⟨rfl, J⟩) hs hw

theorem swapped_two {sc : Scope} {x y : Str} {px py tpos : Pos} {k j : Nat} {e₁ e₂ : Expr} {vpos : Pos} (K : EnvOk sc env) (hx : sc.names.lookup x = some .local) (hy : sc.names.lookup y = some .local) (hxy : x ≠ y) (hl : (py.line == px.line) = true)
    (h1 : ([e₁, e₂].any fun | .Starred .. => true | _ => false) = false) (h2 : ([e₁, e₂].all (foldedForSure 8)) = false) (h3 : ([e₁, e₂].all (constantsAlone 8)) = false) :
    swappedStores [.Tuple [.Name x px, .Name y py] k tpos] (.Tuple [e₁, e₂] j vpos) env = pure (some [x, y]) := by
  have hb : (env.blockKind != ScopeKind.function) = false := by unfold Env.blockKind; rw [K.k]; rfl
  have hkx : (env.kindOf x == some NameKind.local && px.line == px.line) = true := by rw [K.at hx]; simp
  have hky : (env.kindOf y == some NameKind.local && py.line == px.line) = true := by rw [K.at hy, hl]; rfl
  have hkx' : env.kindOf x == some NameKind.local := by rw [K.at hx]; rfl
  have hky' : env.kindOf y == some NameKind.local := by rw [K.at hy]; rfl
  have hf : [Expr.Name x px, Expr.Name y py].filterMap (fun | .Name id pos => if env.kindOf id == some .local && pos.line == px.line then some id else none | _ => none) = [x, y] := by
    simp only [List.filterMap_cons, List.filterMap_nil, hkx, hky, if_true]
  have hd : [x, y].eraseDups.length = 2 := by
    have e : (y == x) = false := beq_false_of_ne (Ne.symm hxy)
    simp [List.eraseDups, List.eraseDupsBy, List.eraseDupsBy.loop, e]
  unfold swappedStores
  show (if (!true || false || env.blockKind != ScopeKind.function) = true then pure none else (if ([e₁, e₂].any fun | .Starred .. => true | _ => false) = true then pure none else
    (let names := [Expr.Name x px, Expr.Name y py].filterMap (fun | .Name id pos => if env.kindOf id == some .local && pos.line == px.line then some id else none | _ => none)
     if (names.length != 2 || names.eraseDups.length != names.length) = true then pure none else if [e₁, e₂].all (foldedForSure 8) = true then pure none else if [e₁, e₂].all (constantsAlone 8) = true then _ else _))) = _
  rw [hb, h1, h2, h3]
  simp only [hf, hd]
  exact congrArg (fun z => (pure (some z) : Sem (Option (List Str)))) hf
/-- two names change places: the last name is stored first -/
theorem ex_assign_swap {sc : Scope} {x y : Str} {px py tpos : Pos} {k j : Nat} {e₁ e₂ : Expr} {vpos pos : Pos} {d₁ d₂ : D} {P : Out → Prop} (K : EnvOk sc env) (he : EvL C A env ws σ [e₁, e₂] [d₁, d₂]) (hh : A.handled = none)
    (hx : sc.names.lookup x = some .local) (hy : sc.names.lookup y = some .local) (hxy : x ≠ y) (hl : (py.line == px.line) = true)
    (h1 : ([e₁, e₂].any fun | .Starred .. => true | _ => false) = false) (h2 : ([e₁, e₂].all (foldedForSure 8)) = false) (h3 : ([e₁, e₂].all (constantsAlone 8)) = false)
    (h : P (.next ((σ.set y (.val d₂)).set x (.val d₁)))) (hb₁ : NoB d₁ := by intro _ _ h; cases h) (hb₂ : NoB d₂ := by intro _ _ h; cases h) (hs : swapsWithSole [.Tuple [.Name x px, .Name y py] k tpos] (.Tuple [e₁, e₂] j vpos) pos.line env = pure false := by rfl) :
    Ex1 C A env ws σ (.Assign [.Tuple [.Name x px, .Name y py] k tpos] (.Tuple [e₁, e₂] j vpos) pos) P := fun g s Q E I c => by
  refine Assign_Tuple_swapped (names := [x, y]) (ev_tuple (ds := [d₁, d₂]) he (by show 2 ≤ sizeLine; decide) g s _ E I fun v g₁ s₁ x₁ w₁ => ?_) hs (swapped_two K hx hy hxy hl h1 h2 h3)
  obtain ⟨a, vs, rfl, ha, hvs⟩ := w₁.isTuple (I.grow x₁).kp
  cases hvs with
  | cons w₁ r => cases r with
    | cons w₂ r =>
      cases r
      rename_i v₁ v₂
      refine unpackItems_tuple (items := #[v₁, v₂]) hh ha fun h' hx' => ?_
      have x₂ : GrowS g₁ s₁ g₁ { s₁ with heap := h' } := ⟨Grow.heap fun b o e => hx' b o (Nat.ne_of_lt (Heap.lt_size e)) e, rfl, Nat.le_refl _⟩
      have x₃ := x₁.trans x₂
      show wpAny _ A (assignInOrder [bindName env y, bindName env x] [v₂, v₁]) _ _ _
      refine wpAny_assignInOrder_more (wpAny_bindName ((I.grow x₃).store (sl := .val d₂) w₂ K.k (K.wl hy) (fun _ _ _ _ q => by cases q) hb₂.slot fun s₂ y₂ J₂ => ?_))
      exact wpAny_assignInOrder_more (wpAny_bindName (J₂.store (sl := .val d₁) w₁ K.k (K.wl hx) (fun _ _ _ _ q => by cases q) hb₁.slot fun s₃ y₃ J₃ => wpAny_assignInOrder_none (c _ _ g₁ s₃ h ((x₃.step I.kp).trans (y₂.trans y₃)) ⟨rfl, J₃⟩)))
end
end Mine
namespace Mine
section
variable {C : Cx} {A : Around} {env : Env} {ws : List Addr} {σ τ : Sto}

/-! slices -/
def EvPart (C : Cx) (A : Around) (env : Env) (ws : List Addr) (σ : Sto) (e : Option Expr) (i : Option Int) : Prop :=
  ∀ (g : Gh) (s : Shared) (Q : Value → Shared → Prop) (E : Value → Shared → Prop), InvS C env ws σ g s → (∀ p g' s', GrowS g s g' s' → p.map (·.1) = i → Q (partValue p) s') → wpAny (model C.prog C.w) A (evalPart e env) Q E s
theorem part_none : EvPart C A env ws σ none none := fun g s Q E I c => wpAny_pure (c none g s (.refl _ _) rfl)
theorem part_some {e : Expr} {i : Int} (h : Ev C A env ws σ e (.int i)) : EvPart C A env ws σ (some e) (some i) := fun g s Q E I c =>
  h g s _ E I fun v g' s' x w => by cases w with | int _ t => exact c (some (i, t)) g' s' x rfl
theorem isPart_of (p : Option (Int × Tok)) : IsPart (partValue p) (p.map (·.1)) := by
  cases p with
  | none => exact .none
  | some p => exact .int p.1 p.2
def pickD (ds : List D) (lo hi st : Option Int) : List D := (sliceRange (sliceBounds lo hi st ds.length).1 (sliceBounds lo hi st ds.length).2.1 (sliceBounds lo hi st ds.length).2.2).filterMap (ds[·]?)
theorem ValL.picks {led : Led} {vs : List Value} {ds : List D} (h : ValL led vs ds) : ∀ l : List Nat, ValL led (l.filterMap (vs[·]?)) (l.filterMap (ds[·]?))
  | [] => .nil
  | k :: l => by
    rw [List.filterMap_cons, List.filterMap_cons]
    cases hd : ds[k]? with
    | none =>
      have hv : vs[k]? = none := by
        cases hv : vs[k]? with
        | none => rfl
        | some v => obtain ⟨d, e, _⟩ := h.get' hv; rw [hd] at e; cases e
      rw [hv]; exact h.picks l
    | some d =>
      obtain ⟨v, e, w⟩ := h.get hd
      rw [e]; exact .cons w (h.picks l)
theorem slice_ops (lower upper : Option Expr) (step : Option Expr) (p : Pos) (o i : Value) : ∃ ops, subscripted (.Slice lower upper step p) false o i = operate ops (getItem o i) := by
  cases step with
  | none => exact ⟨_, rfl⟩
  | some e => exact ⟨_, rfl⟩
theorem ev_sliceL {value : Expr} {lower upper step : Option Expr} {p pos : Pos} {ds : List D} {lo hi st : Option Int} (hv : Ev C A env ws σ value (.list ds)) (h₁ : EvPart C A env ws σ lower lo) (h₂ : EvPart C A env ws σ upper hi) (h₃ : EvPart C A env ws σ step st)
    (h0 : st ≠ some 0) (hsz : ds.length ≤ sizeLine) : Ev C A env ws σ (.Subscript value (.Slice lower upper step p) pos) (.list (pickD ds lo hi st)) :=
  fun g s Q E I c => Subscript_ (hv g s _ E I fun v g₁ s₁ x₁ w₁ => wpAny_Slice (h₁ g₁ s₁ _ E (I.grow x₁) fun pl g₂ s₂ x₂ e₂ => h₂ g₂ s₂ _ E ((I.grow x₁).grow x₂) fun pu g₃ s₃ x₃ e₃ => h₃ g₃ s₃ _ E (((I.grow x₁).grow x₂).grow x₃) fun ps g₄ s₄ x₄ e₄ => by
    have X := ((x₁.trans x₂).trans x₃).trans x₄
    have w₄ := ((w₁.mono x₂.gr.led).mono x₃.gr.led).mono x₄.gr.led
    obtain ⟨a, vs, rfl, ha, hvs⟩ := w₄.isList (I.grow X).kp
    obtain ⟨ops, hops⟩ := slice_ops lower upper step p (.ref a) (.ref s₄.heap.objs.size)
    have Y : GrowS g₄ s₄ g₄ { s₄ with heap := s₄.heap.push { cls := .type "slice", data := .fields #[partValue pl, partValue pu, partValue ps] } } := ⟨Grow.heap fun a o q => Heap.get?_push_of_some _ q, rfl, Nat.le_refl _⟩
    subst e₂ e₃ e₄
    refine tail_any (ops := ops) (ha.push _).typeIs slot_list_getitem.lookup (wpAny_getItem_list_slice (ha.push _) (Heap.IsSliceOf.new ..) (isPart_of pl) (isPart_of pu) (isPart_of ps) h0 ?_ (by simpa [hvs.length] using hsz)) hops
    refine Cont.push (g := g₄) (d := .list (pickD ds _ _ _)) (fun v g' s' x hv => c _ _ _ ((X.trans Y).trans x) hv) ((I.grow X).grow Y).kp _ rfl fun g' hl hn => .list hn rfl (vs := (slicePick vs.toArray (pl.map (·.1)) (pu.map (·.1)) (ps.map (·.1))).toList) rfl ?_
    have e : (slicePick vs.toArray (pl.map (·.1)) (pu.map (·.1)) (ps.map (·.1))).toList = (sliceRange (sliceBounds (pl.map (·.1)) (pu.map (·.1)) (ps.map (·.1)) ds.length).1 (sliceBounds (pl.map (·.1)) (pu.map (·.1)) (ps.map (·.1)) ds.length).2.1 (sliceBounds (pl.map (·.1)) (pu.map (·.1)) (ps.map (·.1)) ds.length).2.2).filterMap (vs[·]?) := by
      unfold slicePick
      simp [hvs.length]
    rw [e]
    exact (hvs.mono hl).picks _))
/-- a slice of a text -/
theorem ev_sliceS {value : Expr} {lower upper : Option Expr} {p pos : Pos} {x : Str} {lo hi : Option Int} (hv : Ev C A env ws σ value (.str x)) (h₁ : EvPart C A env ws σ lower lo) (h₂ : EvPart C A env ws σ upper hi) (hsz : x.length ≤ sizeLine) :
    Ev C A env ws σ (.Subscript value (.Slice lower upper none p) pos) (.str (Txt.slice x lo hi)) :=
  fun g s Q E I c => Subscript_ (hv g s _ E I fun v g₁ s₁ x₁ w₁ => wpAny_Slice (h₁ g₁ s₁ _ E (I.grow x₁) fun pl g₂ s₂ x₂ e₂ => h₂ g₂ s₂ _ E ((I.grow x₁).grow x₂) fun pu g₃ s₃ x₃ e₃ => wpAny_pure (by
    have X := (x₁.trans x₂).trans x₃
    cases w₁ with
    | str _ t =>
      have Y : GrowS g₃ s₃ g₃ { s₃ with heap := s₃.heap.push { cls := .type "slice", data := .fields #[partValue pl, partValue pu, .none] } } := ⟨Grow.heap fun a o q => Heap.get?_push_of_some _ q, rfl, Nat.le_refl _⟩
      subst e₂ e₃
      refine lift fun _ => tail_any (ops := [.ref s₃.heap.objs.size, .str x t]) (typeIs_str _ x t) PySem.F.slot_str_getitem.lookup (wpAny_getItem_str_slice (l := pl) (u := pu) (st := none) ⟨_, Heap.get?_push_size _ rfl, rfl, rfl⟩ rfl (post_val_or_str ?_)) rfl
      have hlen := sliceIndices_le (pl.map (·.1)) (pu.map (·.1)) x.length
      refine ⟨?_, fun t' k hk => c _ g₃ _ ((X.trans Y).trans (GrowS.toks hk)) (.str _ _)⟩
      refine Nat.le_trans ?_ hsz
      split
      · exact Nat.le_refl _
      · show (List.filterMap (x.cps[·]?) (slicePicked x pl pu none)).toArray.size ≤ _
        rw [List.size_toArray]
        exact Nat.le_trans (List.length_filterMap_le ..) hlen)))

/-! methods of a text -/
theorem ev_meth {o e : Expr} {es : List Expr} {name : Str} {id : String} {apos pos : Pos} {x : Str} {ds : List D} {d : D} (slot : PySem.Slot "str" name id) (ty : typeOf (.builtin id) = pure (.type "method_descriptor"))
    (ho : Ev C A env ws σ o (.str x)) (ha : EvL C A env ws σ (e :: es) ds) (hf : Fn C A (.builtin id) (.str x :: ds) d)
    (hbase : attributeBase o name env (eval o env) = eval o env := by rfl)
    (hfew : ((backTo pos (starEach (e :: es) env)).all (fun x => !x.1) && (backToKw pos (keywordEach [] env)).all (fun x => x.1.isSome) && decide ((e :: es).length + ([] : List Keyword).length + (if ([] : List Keyword).isEmpty then 0 else 1) < 30)) = true := by rfl)
    (hline : (apos.endLine == pos.line) = true := by decide) (he : starEach (e :: es) env = (false, eval e env) :: starEach es env := by rfl) (hp : (backTo pos (starEach es env)).any (·.1) = false := by rfl) : Ev C A env ws σ (.Call (.Attribute o name apos) (e :: es) [] pos) d :=
  fun g s Q E I c => wpAny_Call_method_lateS hbase hfew hline (ho g s _ E I fun v g₁ s₁ x₁ w₁ => by
    cases w₁ with
    | str _ t =>
      have ha' := ha pos
      rw [he] at ha' ⊢
      refine ⟨"str", id, PySem.F.plainAttrs_str, slot, ty, typeIs_str _ _ _, (fun _ e => nomatch e), Calls.callWith_builtin (by show (false || (backTo pos (starEach es env)).any (·.1)) = false; rw [hp]; rfl) (Calls.evalArgs_plain (ha' g₁ s₁ _ E (I.grow x₁) fun vs g₂ s₂ x₂ w₂ => ?_))⟩
      exact hf g₂ s₂ _ _ E ((I.grow x₁).grow x₂).base ((I.grow x₁).grow x₂).kp (.cons (.str _ _) w₂) fun v g₃ s₃ x₃ w₃ => c _ _ _ ((x₁.trans x₂).trans x₃) w₃)
theorem ev_meth0 {o : Expr} {name : Str} {id : String} {apos pos : Pos} {x : Str} {d : D} (slot : PySem.Slot "str" name id) (ty : typeOf (.builtin id) = pure (.type "method_descriptor"))
    (ho : Ev C A env ws σ o (.str x)) (hf : Fn C A (.builtin id) [.str x] d) (hbase : attributeBase o name env (eval o env) = eval o env := by rfl) (hline : (apos.endLine == pos.line) = true := by decide) :
    Ev C A env ws σ (.Call (.Attribute o name apos) [] [] pos) d :=
  fun g s Q E I c => wpAny_Call_method_lateS hbase rfl hline (ho g s _ E I fun v g₁ s₁ x₁ w₁ => by
    cases w₁ with
    | str _ t =>
      refine ⟨"str", id, PySem.F.plainAttrs_str, slot, ty, typeIs_str _ _ _, (fun _ e => nomatch e), Calls.callWith_builtin rfl (PySem.evalArgs_none ?_)⟩
      exact hf g₁ s₁ _ _ E (I.grow x₁).base (I.grow x₁).kp (.cons (.str _ _) .nil) fun v g₃ s₃ x₃ w₃ => c _ _ _ (x₁.trans x₃) w₃)
theorem fn_strip {x : Str} (hsz : x.length ≤ sizeLine) : Fn C A (.builtin "str.strip") [.str x] (.str (Txt.strip x)) := fun g s vs Q E b k w c => by
  cases w with | cons w r => cases r; cases w; exact lift fun _ => SC.strip (fun t' k h => c _ g _ (GrowS.toks h) (.str _ _)) hsz
theorem strs_items : ∀ {led : Led} {vs : List Value} {ys : List Str}, ValL led vs (ys.map D.str) → StrsAre vs ys
  | _, [], [], _ => .nil
  | _, [], _ :: _, h => by cases h
  | _, _ :: _, [], h => by cases h
  | led, v :: vs, y :: ys, h => by
    cases h with
    | cons h r => cases h with | str _ t => exact .cons _ _ (strs_items r)
theorem fn_join {x : Str} {ys : List Str} (hok : (ys.map (·.length)).sum + ys.length * x.length ≤ 16777216) : Fn C A (.builtin "str.join") [.str x, .list (ys.map .str)] (.str (Txt.join x ys)) := fun g s vs Q E b k w c => by
  cases w with
  | cons w r =>
    cases w
    cases r with
    | cons w r =>
      cases r
      obtain ⟨a, vs, rfl, ha, hvs⟩ := w.isList k
      exact lift fun _ => join_list ha (by simpa using strs_items hvs) hok fun t' k h => c _ g _ (GrowS.toks h) (.str _ _)
end
end Mine
namespace Mine
section
variable {C : Cx} {A : Around} {env : Env} {ws : List Addr} {σ τ : Sto}

/-- a text whose token is bounded -/
def EvK (C : Cx) (A : Around) (env : Env) (ws : List Addr) (σ : Sto) (e : Expr) (x : Str) : Prop :=
  ∀ (g : Gh) (s : Shared) (Q : Value → Shared → Prop) (E : Value → Shared → Prop), InvS C env ws σ g s → (∀ v g' s' B, GrowS g s g' s' → Val g'.led v (.strb x B) → B ≤ s'.toks → Q v s') → wpAny (model C.prog C.w) A (eval e env) Q E s
theorem EvK.ev {e : Expr} {x : Str} (h : EvK C A env ws σ e x) : Ev C A env ws σ e (.str x) := fun g s Q E I c => h g s Q E I fun v g' s' B x w _ => c v g' s' x w.weakb
theorem evk_str {x k pos} : EvK C A env ws σ (.Constant (.str x) k pos) x := fun g s Q E I c =>
  wpAny_Constant_str (c _ g _ (s.toks + 1) (GrowS.toks (Nat.le_succ _)) (.strb _ _ _ (Nat.ne_of_gt I.2.one) (Nat.lt_succ_self _)) (Nat.le_refl _))
theorem evk_name {n : Str} {pos} {x : Str} {B : Nat} (hs : σ n = some (.val (.strb x B))) (hk : env.scope.kind = .function) (hd : (n == ("__debug__" : Str)) = false := by decide)
    (hn : (n == ("__classdict__" : Str)) = false := by decide) : EvK C A env ws σ (.Name n pos) x :=
  fun g s Q E I c => wpAny_Name (I.load hs hk (fun v hv => c v g s B (.refl _ _) hv (I.2.all _ _ _ hs)) hn) hd
theorem evk_item {value slice : Expr} {pos : Pos} {x : Str} {i : Int} {n : Nat} (hs : PlainSub slice) (hv : Ev C A env ws σ value (.str x)) (hi : Ev C A env ws σ slice (.int i)) (hlo : -(2 ^ 63) ≤ i) (hhi : i < 2 ^ 63) (hc : (seqIndex? i x.length).bind (x.cps[·]?) = some n) :
    EvK C A env ws σ (.Subscript value slice pos) ⟨#[n]⟩ := fun g s Q E I c => Subscript_ (hv g s _ E I fun v₁ g₁ s₁ x₁ w₁ => hi g₁ _ _ E (I.grow x₁) fun v₂ g₂ s₂ x₂ w₂ => by
  cases w₁; cases w₂
  refine tail_any (typeIs_str _ _ _) PySem.F.slot_str_getitem.lookup (getItem_str ?_ hc (c _ g₂ _ (s₂.toks + 1) ((x₁.trans x₂).trans (GrowS.toks (Nat.le_succ _))) (.strb _ _ _ (Nat.ne_of_gt ((I.grow x₁).grow x₂).2.one) (Nat.lt_succ_self _)) (Nat.le_refl _))) (hs _ _)
  simp only [Bool.or_eq_false_iff, decide_eq_false_iff_not]; omega)
theorem evk_add {l r : Expr} {pos : Pos} {x y : Str} (h₁ : EvK C A env ws σ l x) (h₂ : EvK C A env ws σ r y) (hsz : x.length + y.length ≤ sizeLine) : EvK C A env ws σ (.BinOp l .Add r pos) (x ++ y) := fun g s Q E I c =>
  wpAny_BinOp (h₁ g s _ E I fun v₁ g₁ s₁ B₁ x₁ w₁ b₁ => h₂ g₁ _ _ E (I.grow x₁) fun v₂ g₂ s₂ B₂ x₂ w₂ b₂ => by
    have X := x₁.trans x₂
    cases w₁ with
    | strb _ t B₁ ht hB =>
      cases w₂ with
      | strb _ u B₂ hu hB' =>
        refine PySem.P.add_str ?_
        by_cases hx : (x.length == 0) = true
        · rw [if_pos hx]
          have e := Str.append_left_empty (y := y) hx
          exact c _ g₂ _ B₂ X (by rw [e]; exact .strb _ _ _ hu hB') b₂
        · rw [if_neg hx]
          by_cases hy : (y.length == 0) = true
          · rw [if_pos hy]
            have e := Str.append_right_empty (x := x) hy
            exact c _ g₂ _ B₁ X (by rw [e]; exact .strb _ _ _ ht hB) (Nat.le_trans b₁ x₂.tk)
          · rw [if_neg hy]
            refine ⟨?_, c _ g₂ _ (s₂.toks + 1) (X.trans (GrowS.toks (Nat.le_succ _))) (.strb _ _ _ (Nat.ne_of_gt ((I.grow x₁).grow x₂).2.one) (Nat.lt_succ_self _)) (Nat.le_refl _)⟩
            show (x.cps ++ y.cps).size ≤ _
            rw [Array.size_append]
            exact hsz)
theorem ex_assign_k {x : Str} {px pos : Pos} {e : Expr} {y : Str} {P : Out → Prop} (he : EvK C A env ws σ e y) (hk : env.scope.kind = .function) (hx : Wr env ws x) (h : ∀ B, P (.next (σ.set x (.val (.strb y B)))))
    (hs : swapsWith e (some (.Name x px)) pos.line env = pure false := by rfl) : Ex1 C A env ws σ (.Assign [.Name x px] e pos) P :=
  fun g s Q E I c => wpAny_Assign_Name (he g s _ E I fun v g₁ s₁ B x₁ w₁ b₁ => (I.grow x₁).store (sl := .val (.strb y B)) w₁ hk hx (fun _ _ _ _ q => by cases q) (fun _ _ e => by cases e; exact b₁) fun s₂ x₂ J => c _ _ _ _ (h B) ((x₁.step I.kp).trans x₂) ⟨rfl, J⟩) hs
theorem ex_ret_k {e : Expr} {pos : Pos} {y : Str} {P : Out → Prop} (he : EvK C A env ws σ e y) (h : ∀ B, P (.ret (.strb y B))) : Ex1 C A env ws σ (.Return (some e) pos) P :=
  fun g s Q E I c => wpAny_Return_some (he g s _ E I fun v g₁ s₁ B x₁ w₁ b₁ => c _ _ _ _ (h B) (x₁.step I.kp) ⟨v, rfl, w₁, (I.grow x₁).kp, (I.grow x₁).base, fun y B e => by cases e; exact b₁⟩)

/-- text.replace(constant, text made earlier) -/
theorem ev_replace_k {o : Expr} {apos pos p₁ p₂ : Pos} {k : Nat} {n : Str} {x y z : Str} {B : Nat} (ho : Ev C A env ws σ o (.str x)) (hn : σ n = some (.val (.strb z B))) (hk : env.scope.kind = .function) (hb : x.length + (x.length + 1) * z.length ≤ 16777216)
    (hbase : attributeBase o "replace" env (eval o env) = eval o env := by rfl) (hline : (apos.endLine == pos.line) = true := by decide) (hd : (n == ("__debug__" : Str)) = false := by decide) (hnn : (n == ("__classdict__" : Str)) = false := by decide) :
    Ev C A env ws σ (.Call (.Attribute o "replace" apos) [.Constant (.str y) k p₁, .Name n p₂] [] pos) (.str (Txt.replace x y z)) :=
  fun g s Q E I c => wpAny_Call_method_lateS hbase rfl hline (ho g s _ E I fun v g₁ s₁ x₁ w₁ => by
    have I₁ := I.grow x₁
    cases w₁ with
    | str _ t =>
      refine ⟨"str", "str.replace", PySem.F.plainAttrs_str, PySem.F.slot_str_replace, PySem.F.type_str_replace, typeIs_str _ _ _, (fun _ e => nomatch e), Calls.callWith_builtin rfl (Calls.evalArgs_plain ?_)⟩
      refine wpAny_items_cons (pos := pos) (env := env) (e := .Constant (.str y) k p₁) (rest := [.Name n p₂]) (wpAny_Constant_str (wpAny_items_cons (wpAny_Name ?_ hd) (by rfl))) (by rfl)
      have x₂ : GrowS g₁ s₁ g₁ { s₁ with toks := s₁.toks + 1 } := GrowS.toks (Nat.le_succ _)
      have I₂ := I₁.grow x₂
      refine I₂.load hn hk (fun v hv => wpAny_items_nil ?_) hnn
      have hB := I₁.2.all _ _ _ hn
      cases hv with
      | strb _ u _ hu hlt =>
        refine lift fun _ => SC.replaceA (Nat.ne_of_gt I₁.2.one) hu (by have : u < s₁.toks := Nat.lt_of_lt_of_le hlt hB; exact fun e => absurd e (Nat.ne_of_gt this)) hb (fun t' k hk => c _ g₁ _ ((x₁.trans x₂).trans (GrowS.toks hk)) (.str _ _)) ?_
        exact let ⟨mc, hn, hk⟩ := C.booked; ⟨mc, hn.keeps fun a o e => I₂.old e, hk⟩)
/-- text.replace(constant, constant) -/
theorem ev_replace_c {o : Expr} {apos pos p₁ p₂ : Pos} {k k₂ : Nat} {x y z : Str} (ho : Ev C A env ws σ o (.str x)) (hb : x.length + (x.length + 1) * z.length ≤ 16777216)
    (hbase : attributeBase o "replace" env (eval o env) = eval o env := by rfl) (hline : (apos.endLine == pos.line) = true := by decide) :
    Ev C A env ws σ (.Call (.Attribute o "replace" apos) [.Constant (.str y) k p₁, .Constant (.str z) k₂ p₂] [] pos) (.str (Txt.replace x y z)) :=
  fun g s Q E I c => wpAny_Call_method_lateS hbase rfl hline (ho g s _ E I fun v g₁ s₁ x₁ w₁ => by
    have I₁ := I.grow x₁
    cases w₁ with
    | str _ t =>
      refine ⟨"str", "str.replace", PySem.F.plainAttrs_str, PySem.F.slot_str_replace, PySem.F.type_str_replace, typeIs_str _ _ _, (fun _ e => nomatch e), Calls.callWith_builtin rfl (Calls.evalArgs_plain ?_)⟩
      refine wpAny_items_cons (pos := pos) (env := env) (e := .Constant (.str y) k p₁) (rest := [.Constant (.str z) k₂ p₂]) (wpAny_Constant_str (wpAny_items_cons (wpAny_Constant_str (wpAny_items_nil ?_)) (by rfl))) (by rfl)
      have x₂ : GrowS g₁ s₁ g₁ { s₁ with toks := s₁.toks + 1 + 1 } := GrowS.toks (by show s₁.toks ≤ s₁.toks + 1 + 1; omega)
      have I₂ := I₁.grow x₂
      have h1 := I₁.2.one
      refine lift fun _ => SC.replaceA (Nat.ne_of_gt h1) (Nat.succ_ne_zero _) (Nat.ne_of_lt (Nat.lt_succ_self _)) hb (fun t' k hk => c _ g₁ _ ((x₁.trans x₂).trans (GrowS.toks hk)) (.str _ _)) ?_
      exact let ⟨mc, hn, hk⟩ := C.booked; ⟨mc, hn.keeps fun a o e => I₂.old e, hk⟩)
end
end Mine
namespace Mine
section
variable {C : Cx} {A : Around} {env : Env} {ws : List Addr} {σ τ : Sto}

def enumFrom (k : Nat) : List D → List D
  | [] => []
  | d :: ds => .tuple [.int (k : Nat), d] :: enumFrom (k + 1) ds
theorem enumFrom_get : ∀ (ds : List D) (k i : Nat) (e : D), (enumFrom k ds)[i]? = some e → ∃ d, ds[i]? = some d ∧ e = .tuple [.int ((k + i : Nat) : Int), d]
  | [], k, i, e, h => by simp [enumFrom] at h
  | d :: ds, k, 0, e, h => by simp [enumFrom] at h; exact ⟨d, rfl, h.symm⟩
  | d :: ds, k, i + 1, e, h => by
    obtain ⟨d', h1, h2⟩ := enumFrom_get ds (k + 1) i e (by simpa [enumFrom] using h)
    exact ⟨d', by simpa using h1, by rw [h2]; congr 3; congr 1; omega⟩
theorem enumFrom_length : ∀ (ds : List D) (k : Nat), (enumFrom k ds).length = ds.length
  | [], _ => rfl
  | d :: ds, k => by rw [enumFrom, List.length_cons, enumFrom_length ds, List.length_cons]

def EnumSt (e it l : Addr) (vs : List Value) (ds : List D) (n : Nat) (i : Nat) (g : Gh) (s : Shared) : Prop :=
  s.heap.IsListIter it l i ∧ (∃ o, g.kp l = some o ∧ o.cls = .type "list" ∧ o.data = .seq vs.toArray n) ∧ ValL g.led vs ds ∧ g.kp e = none ∧ g.kp it = none

theorem it_enum {elts : List Expr} {k : Nat} {tp : Pos} {e it l : Addr} {vs : List Value} {ds : List D} {n : Nat} (hh : A.handled = none) (hei : e ≠ it) (hl : e ≠ l ∧ it ≠ l) :
    It C A (.Tuple elts k tp) (.ref e) [e, it] (fun i g s => (∃ old, IsEnum s.heap e it i old) ∧ EnumSt e it l vs ds n i g s) (fun i v g s => (∃ a x, v = .ref a ∧ IsEnumOut s.heap e it i x a) ∧ EnumSt e it l vs ds n i g s) (enumFrom 0 ds) where
  next i d hd g s Q E k st c := by
    obtain ⟨⟨old, he⟩, hit, ⟨o, hk, hc, hdt⟩, hvs, ke, ki⟩ := st
    obtain ⟨d', hd', rfl⟩ := enumFrom_get ds 0 i d hd
    obtain ⟨v, hv, w⟩ := hvs.get hd'
    have hL : s.heap.IsList l vs.toArray := ⟨o, (k.1 _ _ hk).get (plain_seq hdt), hc, n, hdt⟩
    refine lift fun _ => wpAny_pyNext_enum_item he hit hL (x := v) (by simpa using hv) hei fun h' heo hit' htup hsz keep => ?_
    intro htk
    have hn : s.heap.get? s.heap.objs.size = none := Heap.get?_none_of_le (Nat.le_refl _)
    have hkn : g.kp s.heap.objs.size = none := kp_fresh k (Nat.le_refl _)
    have hel : e < s.heap.objs.size := Heap.lt_size he
    have hil : it < s.heap.objs.size := by obtain ⟨o, ho, _⟩ := hit; exact Heap.lt_size ho
    have hll : l < s.heap.objs.size := Heap.lt_size ((k.1 _ _ hk).get (plain_seq hdt))
    have X : GrowBut [e, it] g s (g.add s.heap.objs.size { cls := .type "tuple", data := .seq #[.int i s.toks, v] } hkn) { s with heap := h', toks := s.toks + 1 } := by
      refine ⟨fun a o ha h => .of (keep a o (fun q => ha (by simp [q])) (fun q => ha (by simp [q])) h), fun a o _ ha h => keep a o (fun q => ha (by simp [q])) (fun q => ha (by simp [q])) h, fun a o h => ?_, fun a o h => ?_, fun a o h => ?_, fun a o h => ?_, rfl, Nat.le_succ _⟩
      · by_cases q : a = s.heap.objs.size
        · have := g.sub _ _ h; rw [q, hkn] at this; cases this
        · simp only [Gh.add, q, if_false]; exact h
      · by_cases q : a = s.heap.objs.size
        · rw [q, hkn] at h; cases h
        · simp only [Gh.add, q, if_false]; exact h
      · by_cases q : a = s.heap.objs.size
        · simp only [Gh.add, q, if_true] at h; cases h; rw [q]; exact .inr ⟨hn, .of htup⟩
        · simp only [Gh.add, q, if_false] at h; exact .inl h
      · by_cases q : a = s.heap.objs.size
        · simp only [Gh.add, q, if_true] at h; cases h; rw [q]; exact .inr ⟨hn, htup, plain_seq rfl⟩
        · simp only [Gh.add, q, if_false] at h; exact .inl h
    have hke : (g.add s.heap.objs.size { cls := .type "tuple", data := .seq #[.int i s.toks, v] } hkn).kp e = none := by
      simp only [Gh.add, Nat.ne_of_lt hel, if_false]; exact ke
    have hki : (g.add s.heap.objs.size { cls := .type "tuple", data := .seq #[.int i s.toks, v] } hkn).kp it = none := by
      simp only [Gh.add, Nat.ne_of_lt hil, if_false]; exact ki
    refine c _ _ _ X ⟨⟨_, _, rfl, by simpa using heo⟩, hit', ⟨o, X.kp _ _ hk, hc, hdt⟩, hvs.mono X.led, hke, hki⟩ ?_ fun b hb => ?_
    · refine .tuple (n := 0) (vs := [.int i s.toks, v]) (Gh.add_led g hkn) rfl rfl (.cons ?_ (.cons (w.mono X.led) .nil))
      rw [show ((0 + i : Nat) : Int) = (i : Int) by simp]
      exact .int _ _
    · rcases List.mem_cons.mp hb with rfl | hb
      · exact hke
      · rw [List.mem_singleton.mp hb]; exact hki
  done g s Q E k st c := by
    obtain ⟨⟨old, he⟩, hit, ⟨o, hk, hc, hdt⟩, hvs, ke, ki⟩ := st
    have hL : s.heap.IsList l vs.toArray := ⟨o, (k.1 _ _ hk).get (plain_seq hdt), hc, n, hdt⟩
    refine wpAny_pyNext_enum_end hh he hit hL ?_ fun h' hx => c _ ⟨fun a o ha h => .of (hx a o (fun q => ha (by simp [q])) h), fun a o _ ha h => hx a o (fun q => ha (by simp [q])) h, fun _ _ e => e, fun _ _ e => e, fun _ _ e => .inl e, fun _ _ e => .inl e, rfl, Nat.le_refl _⟩
    have : vs.length = ds.length := hvs.length
    rw [enumFrom_length]
    simp [this]
  go i v d g s Q E hd k st hv c := by
    obtain ⟨⟨a, x, rfl, heo⟩, hit, ⟨o, hk, hc, hdt⟩, hvs, ke, ki⟩ := st
    refine wpAny_letOwnedTupleGo_enum heo fun h' he' hs => c _ ⟨fun a o ha h => .of ((hs.2 a (fun q => ha (by simp [q]))).trans h), fun a o _ ha h => (hs.2 a (fun q => ha (by simp [q]))).trans h, fun _ _ e => e, fun _ _ e => e, fun _ _ e => .inl e, fun _ _ e => .inl e, rfl, Nat.le_refl _⟩ ⟨⟨_, he'⟩, ?_, ⟨o, hk, hc, hdt⟩, hvs, ke, ki⟩
    obtain ⟨oi, e1, e2, e3⟩ := hit
    exact ⟨oi, (hs.2 it (Ne.symm hei)).trans e1, e2, e3⟩
  frame i g s g' s' st le k' hkp keep := by
    obtain ⟨⟨old, he⟩, hit, ⟨o, hk, hc, hdt⟩, hvs, ke, ki⟩ := st
    obtain ⟨oi, e1, e2, e3⟩ := hit
    exact ⟨⟨old, keep e (by simp) _ he⟩, ⟨oi, keep it (by simp) _ e1, e2, e3⟩, ⟨o, le.2.1 _ _ hk, hc, hdt⟩, hvs.mono le.1, hkp e (by simp), hkp it (by simp)⟩
  out i g s st b hb := by
    obtain ⟨⟨old, he⟩, hit, ⟨o, hk, hc, hdt⟩, hvs, ke, ki⟩ := st
    obtain ⟨oi, e1, e2, e3⟩ := hit
    rcases List.mem_cons.mp hb with rfl | hb
    · exact ⟨⟨_, he, fun v q => (by cases q), show (Value.type "enumerate" ≠ Value.type "list") by decide, plain_fields rfl⟩, ke⟩
    · rw [List.mem_singleton.mp hb]
      exact ⟨⟨oi, e1, fun v q => (by rw [e3] at q; cases q), by rw [e2]; decide, plain_fields e3⟩, ki⟩
  self i g s Q E st q := by
    obtain ⟨⟨old, he⟩, _⟩ := st
    exact wpAny_pyIter_enum he q

theorem evit_enum {elts : List Expr} {kk : Nat} {tp p pos : Pos} {e : Expr} {ds : List D} (h : Ev C A env ws σ e (.list ds)) (hh : A.handled = none) (hmg : C.mg "enumerate" = none) (hk : env.scope.kind = .function) (hg : env.globals = mainGlobals) (hgb : env.builtins = builtinsNs)
    (hx : env.kindOf "enumerate" = some .globalImplicit) (he : starEach [e] env = [(false, eval e env)] := by rfl) :
    EvIt C A env ws σ (.Tuple elts kk tp) (.Call (.Name "enumerate" p) [e] [] pos) (enumFrom 0 ds) := fun g s Q E I c =>
  wpAny_Call_NameR (Calls.Name_function_global hk hx (Calls.loadGlobal_builtin (mg := C.mg) (mb := C.mb) (I.globals hg) hmg (I.builtins hgb) ((C.boot "enumerate" (by decide)).trans (by decide +kernel))
    (callWith_type1 (T := "enumerate") (wpAny_items_cons (h g s _ E I fun v g₁ s₁ x₁ w₁ => wpAny_items_nil (by
      have k₁ := (I.grow x₁).kp
      cases w₁ with
      | @list a o vs n _ h1 h2 h3 h4 =>
        have ha : s₁.heap.get? a = some o := k₁.2.1 _ _ h1
        have hl : s₁.heap.IsList a vs.toArray := ⟨_, ha, h2, _, h3⟩
        have hal : a < s₁.heap.objs.size := Heap.lt_size ha
        refine call_enumerate_list hl fun h' hen hit hsz keep => ?_
        refine wpAny_pyIter_enum hen ?_
        have x₂ : GrowS g₁ s₁ g₁ { s₁ with heap := h' } := ⟨Grow.heap keep, rfl, Nat.le_refl _⟩
        refine c _ _ _ _ g₁ _ (x₁.trans x₂) (it_enum (vs := vs) (ds := ds) (n := n) (l := a) (e := s₁.heap.objs.size + 1) (it := s₁.heap.objs.size) hh (Nat.succ_ne_self _) ⟨Nat.ne_of_gt (Nat.lt_succ_of_lt hal), Nat.ne_of_gt hal⟩) ⟨⟨_, hen⟩, hit, ⟨o, g₁.sub _ _ h1, h2, h3⟩, h4, kp_fresh k₁ (Nat.le_succ _), kp_fresh k₁ (Nat.le_refl _)⟩ fun b hb => ?_
        refine none_of_up x₁.gr.keep ?_
        rcases List.mem_cons.mp hb with rfl | hb
        · exact Heap.get?_none_of_le (Nat.le_succ _)
        · rw [List.mem_singleton.mp hb]; exact Heap.get?_none_of_le (Nat.le_refl _))) he) he rfl))
    (by decide))
end
end Mine
namespace Mine
section
variable {C : Cx} {A : Around} {env : Env} {ws : List Addr} {σ τ : Sto}

/-! a comprehension with two clauses -/
def bGen (C : Cx) (A : Around) (e iter₂ : Expr) (Da : Addr) (cenv : Env) : Bwp := fun K E s =>
  wpAny (model C.prog C.w) A (eval iter₂ cenv) (fun x s₁ => wpAny (model C.prog C.w) A (pyIter x) (fun it s₂ =>
    codeAny (model C.prog C.w) A (.compStart e 1 it (.ref Da) cenv) (fun r s' => match r with | .ok _ => K s' | .error x => cameBackBy (model C.prog C.w) A cenv E x s') s₂) E s₁) E s

theorem compTurn_two0 (elt t₁ i₁ t₂ i₂ c₂ : Expr) (scope : Scope) (pos : Pos) (it acc : Value) (env : Env) :
    compTurn (.ListComp elt [⟨t₁, i₁, [], 0⟩, ⟨t₂, i₂, [c₂], 0⟩] scope pos) 0 it acc env = (standAt i₁.pos >>= fun _ => pyNext it >>= fun r => match r with
      | none => pure (.done .next)
      | some v => letOwnedTupleGo t₁ it v >>= fun _ => assign t₁ env v >>= fun _ =>
        (eval i₂ env >>= fun x => standAt i₂.pos >>= fun _ => foldedSetIterable i₂ env x >>= fun x => holding [x] (pyIter x) >>= fun it₂ =>
          runOwn (.compStart (.ListComp elt [⟨t₁, i₁, [], 0⟩, ⟨t₂, i₂, [c₂], 0⟩] scope pos) 1 it₂ acc env) env >>= fun _ =>
          again (.compLoop (.ListComp elt [⟨t₁, i₁, [], 0⟩, ⟨t₂, i₂, [c₂], 0⟩] scope pos) 0 it acc env))) := by rfl
theorem compTurn_two1 (elt t₁ i₁ t₂ i₂ c₂ : Expr) (scope : Scope) (pos : Pos) (it acc : Value) (env : Env) :
    compTurn (.ListComp elt [⟨t₁, i₁, [], 0⟩, ⟨t₂, i₂, [c₂], 0⟩] scope pos) 1 it acc env = (do
      standAt i₂.pos
      match ← pyNext it with
      | none => pure (.done .next)
      | some v =>
        letOwnedTupleGo t₂ it v
        assign t₂ env v
        let mut ok := true
        for c in [c₂] do
          if ok then ok ← isTrue c env (eval c env)
        if ok then
          (do let _ ← call (.builtin "list.append") [acc, ← eval elt env])
        again (.compLoop (.ListComp elt [⟨t₁, i₁, [], 0⟩, ⟨t₂, i₂, [c₂], 0⟩] scope pos) 1 it acc env)) := by rfl

theorem turn_two0 {elt t₁ i₁ t₂ i₂ c₂ : Expr} {scope : Scope} {pos : Pos} (hs : ∀ (env : Env) x, foldedSetIterable i₂ env x = pure x := by intro _ _; rfl) :
    TurnOk C A (.ListComp elt [⟨t₁, i₁, [], 0⟩, ⟨t₂, i₂, [c₂], 0⟩] scope pos) 0 t₁ (bGen C A (.ListComp elt [⟨t₁, i₁, [], 0⟩, ⟨t₂, i₂, [c₂], 0⟩] scope pos) i₂) := fun it Da cenv s Q E h => by
  rw [compTurn_two0]
  refine wpAny_bind (wpAny_standAt (wpAny_bind (wpAny_mono h (fun r s₁ h₁ => ?_) fun _ _ e => e)))
  cases r with
  | none => exact wpAny_pure h₁
  | some v =>
    refine wpAny_bind (wpAny_mono h₁ (fun _ s₂ h₂ => wpAny_bind (wpAny_mono h₂ (fun _ s₃ h₃ => wpAny_bind (wpAny_mono h₃ (fun x s₄ h₄ => wpAny_bind (wpAny_standAt ?_)) fun _ _ e => e)) fun _ _ e => e)) fun _ _ e => e)
    rw [hs]
    refine wpAny_bind (wpAny_pure (wpAny_bind (wpAny_holding (wpAny_mono h₄ (fun it₂ s₅ h₅ => wpAny_bind (wpAny_runOwn ?_)) fun _ _ e => e))))
    rw [Around.mark_none]
    refine codeAny_mono h₅ fun r s₆ h₆ => ?_
    cases r with
    | ok f => exact wpAny_pure h₆
    | error x => exact h₆
theorem turn_two1 {elt t₁ i₁ t₂ i₂ c₂ : Expr} {scope : Scope} {pos : Pos} : TurnOk C A (.ListComp elt [⟨t₁, i₁, [], 0⟩, ⟨t₂, i₂, [c₂], 0⟩] scope pos) 1 t₂ (bIf C A c₂ (bEmit C A elt)) := fun it Da cenv s Q E h => by
  rw [compTurn_two1]
  refine wpAny_bind (wpAny_standAt (wpAny_bind (wpAny_mono h (fun r s₁ h₁ => ?_) fun _ _ e => e)))
  cases r with
  | none => exact wpAny_pure h₁
  | some v =>
    refine wpAny_bind (wpAny_mono h₁ (fun _ s₂ h₂ => wpAny_bind (wpAny_mono h₂ (fun _ s₃ h₃ => wpAny_bind (wpAny_tests_one (wpAny_mono h₃ (fun b s₄ h₄ => ?_) fun _ _ e => e))) fun _ _ e => e)) fun _ _ e => e)
    cases b with
    | false => exact wpAny_pure h₄
    | true => exact wpAny_bind (wpAny_bind (wpAny_mono h₄ (fun x s₄ h₄ => wpAny_bind (wpAny_mono h₄ (fun _ s₅ h₅ => wpAny_pure (wpAny_pure h₅)) fun _ _ e => e)) fun _ _ e => e))

theorem start_two1 {elt t₁ i₁ t₂ i₂ c₂ : Expr} {scope : Scope} {pos : Pos} {it acc : Value} {env : Env} {R : Result → Shared → Prop} {s : Shared}
    (h0 : codeAny (model C.prog C.w) A (.compLoop (.ListComp elt [⟨t₁, i₁, [], 0⟩, ⟨t₂, i₂, [c₂], 0⟩] scope pos) 1 it acc env) R s)
    (h : wpAny (model C.prog C.w) A (pyIter it) (fun it' s' => codeAny (model C.prog C.w) A (.compLoop (.ListComp elt [⟨t₁, i₁, [], 0⟩, ⟨t₂, i₂, [c₂], 0⟩] scope pos) 1 it' acc env) R s')
      (notedBy (model C.prog C.w) A env fun x s' => R (.error x) s') s) :
    codeAny (model C.prog C.w) A (.compStart (.ListComp elt [⟨t₁, i₁, [], 0⟩, ⟨t₂, i₂, [c₂], 0⟩] scope pos) 1 it acc env) R s := by
  refine codeAny_of_tree ?_
  show wpAny _ _ ((compStart (.ListComp elt [⟨t₁, i₁, [], 0⟩, ⟨t₂, i₂, [c₂], 0⟩] scope pos) 1 it acc env).onRaise (fun x => do noteFrame x env; standAt theWindowsPlace)) _ _ s
  refine wpAny_notedAt ?_
  unfold compStart
  show wpAny _ _ (ask >>= _) _ _ s
  refine wpAny_bind (wpAny_askSetting (wpAny_ite ?_))
  split
  · exact wpAny_pure (And.intro rfl h0)
  · refine wpAny_bind (wpAny_rule ?_)
    show wpAny _ _ (standAt i₂.pos >>= _) _ _ s
    exact wpAny_bind (wpAny_standAt (wpAny_bind (wpAny_mono h (fun it' s' h' => wpAny_pure (And.intro rfl h')) fun _ _ x => x)))

theorem body_gen {elt t₁ i₁ t₂ i₂ c₂ : Expr} {scope : Scope} {pos : Pos} {cenv : Env} {σ' σc : Sto} {Da : Addr} {items : List D} {F : D → List D}
    (hit : EvIt C A cenv [] σ' t₂ i₂ items)
    (turn : ∀ d ∈ items, ∃ σ'', AsgL C A cenv [] σ' t₂ d σ'' ∧ BodyOk C cenv σ'' σ' Da (bIf C A c₂ (bEmit C A elt) Da cenv) (F d))
    (hsub : ∀ x s, σc x = some s → σ' x = some s) (hown : ∀ x a ds, σ' x ≠ some (.own a ds)) :
    BodyOk C cenv σ' σc Da (bGen C A (.ListComp elt [⟨t₁, i₁, [], 0⟩, ⟨t₂, i₂, [c₂], 0⟩] scope pos) i₂ Da cenv) (items.flatMap F) :=
  fun g s rs K E I ac hsz c => hit g s _ E I fun it wr St Sm g₁ s₁ x₁ W st fresh => by
    have I₁ := I.grow x₁
    have ac₁ := ac.grow x₁
    obtain ⟨hkD, vs, n, hD, hvs⟩ := id ac
    have hDw : Da ∉ wr := fun q => by rw [fresh Da q] at hD; cases hD
    have hLs : ∃ o, s.heap.get? cenv.locals = some o := by obtain ⟨m, ⟨o, es, ep, ho, _⟩, _⟩ := I.1.ns; exact ⟨o, ho⟩
    have hLw : cenv.locals ∉ wr := fun q => by obtain ⟨o, ho⟩ := hLs; rw [fresh _ q] at ho; cases ho
    have hDL : Da ≠ cenv.locals := fun q => by
      obtain ⟨m, ⟨o, es, ep, ho, hd, _⟩, _⟩ := I.1.ns
      rw [← q, hD] at ho; cases ho; cases hd
    have loop : ∀ R : Result → Shared → Prop, (∀ s', K s' → R (.ok .next) s') → codeAny (model C.prog C.w) A (.compLoop (.ListComp elt [⟨t₁, i₁, [], 0⟩, ⟨t₂, i₂, [c₂], 0⟩] scope pos) 1 it (.ref Da) cenv) R s₁ := fun R hR => by
      refine comp_loop W (fun s Q E h => turn_two1 it Da cenv s Q E h) rfl (Around.under_of_weight rfl) rfl turn hDL hDw hLw ((I.fresh_off fresh).2.2.2) hown I₁ st ac₁ hsz fun g₂ s₂ le₂ kb₂ I₂ ac₂ hw₂ => hR _ ?_
      have hx : ∀ a o, a ∉ [Da, cenv.locals] → s.heap.get? a = some o → a ∉ Da :: cenv.locals :: wr := fun a o ha e => by
        intro q
        simp only [List.mem_cons] at q
        rcases q with q | q | q
        · exact ha (by simp [q])
        · exact ha (by simp [q])
        · rw [fresh a q] at e; cases e
      refine c g₂ s₂ ⟨(x₁.gr.le I.1.kp).trans le₂.1, fun a o ha e q => by obtain ⟨o', e', _⟩ := x₁.gr.keep a o e; exact le₂.2 a o' (hx a o ha e) e' (kp_none_grow x₁.gr q e)⟩ ⟨fun a o ha e => (x₁.gr.keep a o e).trans fun o' e' => kb₂.keep a o' (hx a o ha e) e', by rw [kb₂.eq, x₁.eq], Nat.le_trans x₁.tk kb₂.tk⟩ ⟨I₂.1.sub hsub, I₂.2.sub hsub⟩ ac₂
    exact start_two1 (loop _ fun s' h => h) (W.self 0 g₁ s₁ _ _ st (loop _ fun s' h => h))
end
end Mine
namespace Mine

/-! the defs of a program -/
def defAt (p : Program) (i : Nat) : Option (Str × Arguments × List Stmt × Scope × Pos) := match p.main.body[i]? with
  | some (.FunctionDef n a b _ _ _ sc _ _ pos) => some (n, a, b, sc, pos)
  | _ => none
def nameAt (p : Program) (i : Nat) : Str := match p.main.body[i]? with | some (.FunctionDef n a b _ _ _ sc _ _ pos) => n | _ => ""
def argsAt (p : Program) (i : Nat) : Arguments := match p.main.body[i]? with | some (.FunctionDef n a b _ _ _ sc _ _ pos) => a | _ => ⟨[], [], none, [], [], none, []⟩
def bodyAt (p : Program) (i : Nat) : List Stmt := match p.main.body[i]? with | some (.FunctionDef n a b _ _ _ sc _ _ pos) => b | _ => []
def scAt (p : Program) (i : Nat) : Scope := match p.main.body[i]? with | some (.FunctionDef n a b _ _ _ sc _ _ pos) => sc | _ => { kind := .module, names := [], isGenerator := false, isCoroutine := false }
def posAt (p : Program) (i : Nat) : Pos := match p.main.body[i]? with | some (.FunctionDef n a b _ _ _ sc _ _ pos) => pos | _ => ⟨0, 0, 0, 0⟩

/-- a def of the program is a global of the context -/
structure DefIn (C : Cx) (p : Program) (i : Nat) (x : Str) (f : Addr) : Prop where
  mg : C.mg x = some (.ref f)
  at' : ∃ o pm code doc, C.h₀.get? f = some o ∧ o.data = .func (Calls.docDef x (argsAt p i) (bodyAt p i) (scAt p i) pm code doc) ∧ C.h₀.CodeRec code x

theorem DefIn.push {C : Cx} {p : Program} {i : Nat} {x : Str} {f : Addr} {env : Env} (D : DefIn C p i x f) : DefIn (C.push env) p i x f := ⟨D.mg, D.at'⟩
theorem Sto.at_same {σ : Sto} {x : Str} {s : Slot} : (σ.set x s) x = some s := by simp [Sto.set]
theorem Sto.at_sameE {σ : Sto} {x : Str} {s t : Slot} (h : s = t) : (σ.set x s) x = some t := by simp [Sto.set, h]
theorem Sto.at_other {σ : Sto} {x y : Str} {s : Slot} {t : Option Slot} (h : (y == x) = false) (k : σ y = t) : (σ.set x s) y = t := by
  have : y ≠ x := by intro e; subst e; simp at h
  simp [Sto.set, this, k]
def Sub (σ τ : Sto) : Prop := ∀ x s, σ x = some s → τ x = some s
theorem Sub.nil {τ : Sto} : Sub Sto.nil τ := fun _ _ h => by cases h
theorem Sub.refl {τ : Sto} : Sub τ τ := fun _ _ h => h
theorem Sub.set {σ τ : Sto} {x : Str} {s : Slot} (h : Sub σ τ) (e : τ x = some s) : Sub (σ.set x s) τ := fun y t k => by
  unfold Sto.set at k
  by_cases q : y = x
  · simp only [q, if_true] at k; rw [← k, q]; exact e
  · simp only [q, if_false] at k; exact h y t k

section
variable {C : Cx} {A : Around} {env : Env} {ws : List Addr} {σ τ : Sto}
theorem Ev.conv {e : Expr} {d d' : D} (h : Ev C A env ws σ e d) (q : d = d') : Ev C A env ws σ e d' := q ▸ h
theorem EvB.conv {e : Expr} {b b' : Bool} (h : EvB C A env ws σ e b) (q : b = b') : EvB C A env ws σ e b' := q ▸ h
theorem ex_sub' {ss : List Stmt} {P : Out → Prop} (hs : Sub τ σ) (h : Ex C A env ws τ ss P) : Ex C A env ws σ ss P := ex_sub hs h
theorem fn_at {p : Program} {i : Nat} {x : Str} {f : Addr} {ds : List D} {R : D → Prop} {k : Nat} (D : DefIn C p i x f) (hr : RoomA A (k + 1)) (names : List Str)
    (hbind : ∀ (pm code doc : Value) (vs : List Value), vs.length = names.length → bindArgs (Calls.docDef x (argsAt p i) (bodyAt p i) (scAt p i) pm code doc) ⟨vs, []⟩ = pure (names.zip vs))
    (hlen : ds.length = names.length) (hnb : ∀ d ∈ ds, NoB d)
    (hbody : ∀ A' env ws, RoomA A' k → (A.frames = some C.fr → A'.frames = some (C.push env).fr) → EnvOk (scAt p i) env → CellsOk' (scAt p i) env ws → Ex (C.push env) A' env ws (stoOf names ds) (bodyAt p i) fun o => ∃ d, R d ∧ o = .ret d)
    (hnames : (names.all fun x => (scAt p i).names.lookup x == some .local || (scAt p i).names.lookup x == some .cell) = true := by decide +kernel) (hnd : names.Nodup := by decide +kernel)
    (hk : (scAt p i).kind = .function := by decide +kernel) (hco : (scAt p i).isCoroutine = false := by decide +kernel) (hgen : (scAt p i).isGenerator = false := by decide +kernel) : FnP C A (.ref f) ds R := by
  obtain ⟨o, pm, code, doc, h1, h2, h3⟩ := D.at'
  refine fn_def names h1 h2 h3 (by have := hr.dp; omega) (hbind pm code doc) (fun x hx => ?_) hnd hlen hk hco hgen hnb fun env ws K W => hbody _ env ws (hr.deeper env) (fun h => Around.frames_deeper h) K W
  have := List.all_eq_true.mp hnames x hx
  simpa using this
/-- a call of a def -/
theorem ev_call {p : Program} {i : Nat} {x : Str} {f : Addr} {pp pos : Pos} {e : Expr} {es : List Expr} {ds : List D} {d : D} (D : DefIn C p i x f) {sc : Scope} (K : EnvOk sc env) (hx : sc.names.lookup x = some .globalImplicit)
    (ha : EvL C A env ws σ (e :: es) ds) (hf : Fn C A (.ref f) ds d) (hb : (x == ("__debug__" : Str)) = false := by decide)
    (he : starEach (e :: es) env = (false, eval e env) :: starEach es env := by rfl) : Ev C A env ws σ (.Call (.Name x pp) (e :: es) [] pos) d := by
  obtain ⟨o, pm, code, doc, h1, h2, h3⟩ := D.at'
  exact ev_call_def D.mg h1 h2 K.k K.globals (K.at hx) ha hf hb he
/-- a call whose answer is a text with a token of its own -/
theorem evk_call {p : Program} {i : Nat} {x : Str} {f : Addr} {pp pos : Pos} {e : Expr} {es : List Expr} {ds : List D} {y : Str} (D : DefIn C p i x f) {sc : Scope} (K : EnvOk sc env) (hx : sc.names.lookup x = some .globalImplicit)
    (ha : EvL C A env ws σ (e :: es) ds) (hf : FnP C A (.ref f) ds fun d => ∃ B, d = .strb y B) (hb : (x == ("__debug__" : Str)) = false := by decide)
    (he : starEach (e :: es) env = (false, eval e env) :: starEach es env := by rfl) : EvK C A env ws σ (.Call (.Name x pp) (e :: es) [] pos) y := by
  obtain ⟨o, pm, code, doc, h1, h2, h3⟩ := D.at'
  intro g s Q E I c
  exact wpAny_Call_NameR (Calls.Name_function_global K.k (K.at hx) (Calls.loadGlobal_global (mg := C.mg) (I.globals K.globals) D.mg
    (callWith_def h2 (ha pos g s _ E I fun vs g₁ s₁ x₁ w₁ => ⟨(I.grow x₁).old h1,
      hf g₁ _ vs _ E (I.grow x₁).base (I.grow x₁).kp w₁ fun v g' s' d r x hv hB => by
        obtain ⟨B, rfl⟩ := r
        exact c _ _ _ B (x₁.trans x) hv (hB _ _ rfl)⟩) he)) hb)
/-- a call of a built-in function -/
theorem ev_bi {x : Str} {p pos : Pos} {e : Expr} {es : List Expr} {ds : List D} {d : D} {id : String} {sc : Scope} (K : EnvOk sc env) (hx : sc.names.lookup x = some .globalImplicit) (hmg : C.mg x = none)
    (ha : EvL C A env ws σ (e :: es) ds) (hf : Fn C A (.builtin id) ds d) (hbt : bootBuiltins x = some (.builtin id) := by decide +kernel) (hne : x ≠ "__name__" := by decide) (hb : (x == ("__debug__" : Str)) = false := by decide)
    (he : starEach (e :: es) env = (false, eval e env) :: starEach es env := by rfl) (hp : (backTo pos (starEach es env)).any (·.1) = false := by rfl) : Ev C A env ws σ (.Call (.Name x p) (e :: es) [] pos) d :=
  ev_call_builtin hmg hbt hne K.k K.globals K.builtins (K.at hx) ha hf hb he hp
theorem ex_assign_same2 {x y : Str} {px py pos : Pos} {e : Expr} {d : D} {P : Out → Prop} (he : Ev C A env ws σ e d) (hk : env.scope.kind = .function) (hx : Wr env ws x) (hy : Wr env ws y) (h : P (.next ((σ.set x (.val d)).set y (.val d)))) (hb : NoB d := by intro _ _ h; cases h) :
    Ex1 C A env ws σ (.Assign [.Name x px, .Name y py] e pos) P :=
  fun g s Q E I c => wpAny_Assign_two (he g s _ E I fun v g₁ s₁ x₁ w₁ => asg_name hk hx hb g₁ s₁ v _ E (I.grow x₁) w₁ fun g₂ s₂ x₂ J₂ => asg_name hk hy hb g₂ s₂ v _ E J₂ (w₁.mono x₂.le.1) fun g₃ s₃ x₃ J₃ => c _ _ g₃ s₃ h ((x₁.step I.kp).trans (x₂.trans x₃)) ⟨rfl, J₃⟩)
end
end Mine
namespace Mine

/-! texts as lists -/
def S (l : List Nat) : Str := ⟨l.toArray⟩
theorem S_len (l : List Nat) : (S l).length = l.length := by simp [S, Str.length]
theorem S_append (l m : List Nat) : S l ++ S m = S (l ++ m) := by
  show Str.mk (l.toArray ++ m.toArray) = _
  simp [S]
theorem S_inj {l m : List Nat} : S l = S m ↔ l = m := by
  constructor
  · intro h; have := congrArg (fun s => s.cps.toList) h; simpa [S] using this
  · rintro rfl; rfl
theorem S_beq (l m : List Nat) : (S l == S m) = (l == m) := by
  by_cases h : l = m
  · subst h; simp
  · have h1 : ¬ S l = S m := fun e => h (S_inj.mp e)
    rw [beq_eq_false_iff_ne.mpr h, beq_eq_false_iff_ne.mpr h1]
theorem S_bne (l m : List Nat) : (S l != S m) = (l != m) := by unfold bne; rw [S_beq]
theorem of_S (x : Str) : x = S x.cps.toList := by cases x; simp [S]

theorem range_picks {α : Type} (l : List α) : ∀ (m a : Nat), ((List.range m).map fun (k : Nat) => ((a : Int) + 1 * (k : Int)).toNat).filterMap (l[·]?) = (l.drop a).take m := by
  intro m
  induction m with
  | zero => intro a; simp
  | succ m ih =>
    intro a
    rw [List.range_succ_eq_map, List.map_cons, List.map_map, List.filterMap_cons]
    have e : (List.map ((fun (k : Nat) => ((a : Int) + 1 * (k : Int)).toNat) ∘ Nat.succ) (List.range m)) = (List.range m).map fun (k : Nat) => (((a + 1 : Nat) : Int) + 1 * (k : Int)).toNat := by
      apply List.map_congr_left
      intro k _
      simp only [Function.comp]
      omega
    rw [e, ih (a + 1)]
    have ha : ((a : Int) + 1 * ((0 : Nat) : Int)).toNat = a := by omega
    rw [ha]
    cases h : l[a]? with
    | none =>
      have : l.length ≤ a := List.getElem?_eq_none_iff.mp h
      rw [List.drop_eq_nil_of_le this, List.drop_eq_nil_of_le (by omega)]; simp
    | some c =>
      obtain ⟨hlt, hc⟩ := List.getElem?_eq_some_iff.mp h
      rw [List.drop_eq_getElem_cons hlt, List.take_succ_cons, hc]

/-- the bounds of a slice -/
def loOf (l : Option Int) (n : Nat) : Nat := match l with
  | none => 0
  | some i => (max 0 (min (if i < 0 then i + n else i) (n : Int))).toNat
def hiOf (u : Option Int) (n : Nat) : Nat := match u with
  | none => n
  | some i => (max 0 (min (if i < 0 then i + n else i) (n : Int))).toNat
theorem slice_S (l : List Nat) (lo hi : Option Int) : Txt.slice (S l) lo hi = S ((l.drop (loOf lo l.length)).take (hiOf hi l.length - loOf lo l.length)) := by
  have hidx : Builtin.Str.strSliceIndices lo hi 1 l.length = (List.range (hiOf hi l.length - loOf lo l.length)).map fun (k : Nat) => (((loOf lo l.length : Nat) : Int) + 1 * (k : Int)).toNat := by
    have hl : (match lo with | none => (0 : Int) | some i => max 0 (min (if i < 0 then i + (l.length : Int) else i) (l.length : Int))) = ((loOf lo l.length : Nat) : Int) := by
      cases lo with
      | none => rfl
      | some i => simp only [loOf]; omega
    have hu : (match hi with | none => ((l.length : Nat) : Int) | some i => max 0 (min (if i < 0 then i + (l.length : Int) else i) (l.length : Int))) = ((hiOf hi l.length : Nat) : Int) := by
      cases hi with
      | none => rfl
      | some i => simp only [hiOf]; omega
    have key : ∀ a b : Int, sliceRange a b 1 = (List.range (b - a).toNat).map fun (k : Nat) => (a + 1 * (k : Int)).toNat := by
      intro a b
      unfold sliceRange
      have : (if (1 : Int) > 0 then if a < b then (b - a + 1 - 1) / 1 else 0 else if a > b then (a - b - 1 - 1) / -1 else 0).toNat = (b - a).toNat := by
        rw [if_pos (by decide)]
        split
        · rw [Int.ediv_one]; omega
        · omega
      dsimp only
      rw [this]
    have e : Builtin.Str.strSliceIndices lo hi 1 l.length = sliceRange ((loOf lo l.length : Nat) : Int) ((hiOf hi l.length : Nat) : Int) 1 := by
      rw [← hl, ← hu]
      cases lo <;> cases hi <;> rfl
    rw [e, key]
    congr 2
    omega
  unfold Txt.slice
  rw [S_len, hidx]
  have hp := range_picks l (hiOf hi l.length - loOf lo l.length) (loOf lo l.length)
  have hg : ∀ i : Nat, (S l).cps[i]? = l[i]? := fun i => by simp [S]
  simp only [hg, hp]
  split
  · rename_i h
    simp only [beq_self_eq_true, Bool.true_and, List.length_map, List.length_range, beq_iff_eq] at h
    have hh : hiOf hi l.length ≤ l.length := by
      cases hi with
      | none => exact Nat.le_refl _
      | some i => simp only [hiOf]; omega
    have h0 : loOf lo l.length = 0 ∨ l.length = 0 := by omega
    rw [h]
    rcases h0 with h0 | h0
    · rw [h0]; simp
    · have : l = [] := List.length_eq_zero_iff.mp h0
      subst this; simp
  · rfl

/-! what parse257 tells of what stands behind the first quote -/
def p257 : List Nat → List Nat
  | [] => []
  | [c] => if c = 34 then [] else [c]
  | c :: c' :: r => if c = 34 then (if c' = 34 then 34 :: p257 r else []) else c :: p257 (c' :: r)
theorem p257_quote_end {r : List Nat} (h : r.head? ≠ some 34) : p257 (34 :: r) = [] := by
  cases r with
  | nil => simp [p257]
  | cons c r =>
    have : c ≠ 34 := by simpa using h
    simp [p257, this]
theorem p257_quote2 (r : List Nat) : p257 (34 :: 34 :: r) = 34 :: p257 r := by simp [p257]
theorem p257_other {c : Nat} (r : List Nat) (h : c ≠ 34) : p257 (c :: r) = c :: p257 r := by
  cases r with
  | nil => simp [p257, h]
  | cons c' r => simp [p257, h]
theorem seq_ix {i n : Nat} (h : i < n) : seqIndex? (i : Int) n = some i := by
  unfold seqIndex?
  simp only [show ¬ ((i : Int) < 0) by omega, if_false]
  simp
  omega
theorem S_item {l : List Nat} {i c : Nat} (h : l[i]? = some c) : (seqIndex? (i : Int) (S l).length).bind ((S l).cps[·]?) = some c := by
  have hlt := (List.getElem?_eq_some_iff.mp h).1
  rw [S_len, seq_ix hlt]
  simp [S, h]
theorem one_S (c : Nat) : (⟨#[c]⟩ : Str) = S [c] := rfl
end Mine
namespace Mine
section
variable {C : Cx} {A : Around} {env : Env} {ws : List Addr} {σ τ : Sto}

theorem compSto_free {scope : Scope} {x : Str} {d : D} (h : scope.names.lookup x = some .free) (hs : σ x = some (.val d)) : compSto scope σ x = some (.val d) := by
  unfold compSto; rw [if_pos h, hs]
theorem compSto_sub {scope : Scope} {y : Str} {s : Slot} (h : scope.names.lookup y = some .local) : ∀ x t, compSto scope σ x = some t → ((compSto scope σ).set y s) x = some t := fun x t e => by
  have := (compSto_at e).1
  have hne : x ≠ y := by rintro rfl; rw [h] at this; cases this
  simp [Sto.set, hne, e]
theorem compSto_own {scope : Scope} : ∀ x a ds, compSto scope σ x ≠ some (.own a ds) := fun x a ds h => by obtain ⟨_, d, h, _⟩ := compSto_at h; cases h
theorem set_own {τ : Sto} {y : Str} {d : D} (h : ∀ x a ds, τ x ≠ some (.own a ds)) : ∀ x a ds, (τ.set y (.val d)) x ≠ some (.own a ds) := fun x a ds e => by
  unfold Sto.set at e
  by_cases q : x = y
  · simp only [q, if_true] at e; cases e
  · simp only [q, if_false] at e; exact h x a ds e

theorem flatMap_one {α β : Type} (f : α → β) (l : List α) : l.flatMap (fun d => [f d]) = l.map f := by induction l <;> simp_all
theorem flatMap_if {α β : Type} (b : α → Bool) (f : α → β) (l : List α) : l.flatMap (fun d => if b d then [f d] else []) = (l.filter b).map f := by
  induction l with
  | nil => rfl
  | cons a l ih => rw [List.flatMap_cons, ih, List.filter_cons]; cases b a <;> simp

theorem ev_comp1 {sc scope : Scope} {y : Str} {py pos : Pos} {elt iter : Expr} {items : List D} (f : D → D) (K : EnvOk sc env) (Wc : CellsOk' sc env ws) (hit : EvIt C A env ws σ (.Name y py) iter items)
    (helt : ∀ cenv, EnvOk scope cenv → ∀ d ∈ items, Ev C A cenv [] ((compSto scope σ).set y (.val d)) elt (f d)) (hnb : ∀ d ∈ items, NoB d) (hsz : items.length ≤ sizeLine)
    (S : CompScope sc scope) (hy : scope.names.lookup y = some .local) (hs : ∀ x, foldedSetIterable iter env x = pure x := by intro _; rfl) :
    Ev C A env ws σ (.ListComp elt [⟨.Name y py, iter, [], 0⟩] scope pos) (.list (items.map f)) := by
  rw [← flatMap_one]
  refine ev_comp (F := fun d => [f d]) K Wc S hit turn_plain (fun Da cenv KC d hd => ⟨_, asgl_name KC.k (KC.at hy) (hnb d hd), body_emit (helt cenv KC d hd) (compSto_sub hy) (set_own compSto_own)⟩) ?_ hs
  rw [flatMap_one, List.length_map]; exact hsz
theorem ev_comp1_if {sc scope : Scope} {y : Str} {py pos : Pos} {elt iter t : Expr} {items : List D} (b : D → Bool) (f : D → D) (K : EnvOk sc env) (Wc : CellsOk' sc env ws) (hit : EvIt C A env ws σ (.Name y py) iter items)
    (ht : ∀ cenv, EnvOk scope cenv → ∀ d ∈ items, EvB C A cenv [] ((compSto scope σ).set y (.val d)) t (b d))
    (helt : ∀ cenv, EnvOk scope cenv → ∀ d ∈ items, b d = true → Ev C A cenv [] ((compSto scope σ).set y (.val d)) elt (f d)) (hnb : ∀ d ∈ items, NoB d) (hsz : items.length ≤ sizeLine)
    (S : CompScope sc scope) (hy : scope.names.lookup y = some .local) (hs : ∀ x, foldedSetIterable iter env x = pure x := by intro _; rfl) :
    Ev C A env ws σ (.ListComp elt [⟨.Name y py, iter, [t], 0⟩] scope pos) (.list ((items.filter b).map f)) := by
  rw [← flatMap_if]
  refine ev_comp (F := fun d => if b d then [f d] else []) K Wc S hit turn_if (fun Da cenv KC d hd => ⟨_, asgl_name KC.k (KC.at hy) (hnb d hd), body_if (ht cenv KC d hd) (fun hb => ?_) (fun hb => by simp [hb]) (compSto_sub hy)⟩) ?_ hs
  · have := body_emit (Da := Da) (helt cenv KC d hd hb) (compSto_sub hy) (set_own compSto_own)
    simpa [hb] using this
  · rw [flatMap_if, List.length_map]; exact Nat.le_trans (List.length_filter_le ..) hsz
/-- a target of two names -/
theorem compSto_sub2 {scope : Scope} {y z : Str} {s t : Slot} (h : scope.names.lookup y = some .local) (h' : scope.names.lookup z = some .local) : ∀ x u, compSto scope σ x = some u → (((compSto scope σ).set y s).set z t) x = some u := fun x u e => by
  have := (compSto_at e).1
  have hne : x ≠ y := by rintro rfl; rw [h] at this; cases this
  have hne' : x ≠ z := by rintro rfl; rw [h'] at this; cases this
  simp [Sto.set, hne, hne', e]
def pairF (f : D → D → D) : D → List D
  | .tuple [p, q] => [f p q]
  | _ => []
theorem flatMap_pair {α : Type} (a b : α → D) (f : D → D → D) (l : List α) : (l.map fun x => D.tuple [a x, b x]).flatMap (pairF f) = l.map fun x => f (a x) (b x) := by
  induction l with
  | nil => rfl
  | cons x l ih => rw [List.map_cons, List.flatMap_cons, ih]; rfl
theorem ev_comp2 {sc scope : Scope} {y z : Str} {py pz pt pos : Pos} {k : Nat} {elt iter : Expr} {α : Type} {l : List α} (a b : α → D) (f : D → D → D) (K : EnvOk sc env) (Wc : CellsOk' sc env ws) (hit : EvIt C A env ws σ (.Tuple [.Name y py, .Name z pz] k pt) iter (l.map fun x => .tuple [a x, b x]))
    (hh : A.handled = none) (helt : ∀ cenv, EnvOk scope cenv → ∀ x ∈ l, Ev C A cenv [] (((compSto scope σ).set y (.val (a x))).set z (.val (b x))) elt (f (a x) (b x))) (hnb : ∀ x ∈ l, NoB (a x) ∧ NoB (b x)) (hsz : l.length ≤ sizeLine)
    (S : CompScope sc scope) (hy : scope.names.lookup y = some .local) (hz : scope.names.lookup z = some .local) (hs : ∀ x, foldedSetIterable iter env x = pure x := by intro _; rfl) :
    Ev C A env ws σ (.ListComp elt [⟨.Tuple [.Name y py, .Name z pz] k pt, iter, [], 0⟩] scope pos) (.list (l.map fun x => f (a x) (b x))) := by
  rw [← flatMap_pair]
  refine ev_comp (F := pairF f) K Wc S hit turn_plain (fun Da cenv KC d hd => ?_) ?_ hs
  · obtain ⟨x, hx, rfl⟩ := List.mem_map.mp hd
    exact ⟨_, asgl_tuple2 hh KC.k (KC.at hy) (KC.at hz) (hnb x hx).1 (hnb x hx).2, body_emit (helt cenv KC x hx) (compSto_sub2 hy hz) (set_own (set_own compSto_own))⟩
  · rw [flatMap_pair, List.length_map]; exact hsz
theorem ex_assign_comp2 {sc scope : Scope} {v y z : Str} {pv py pz pt pos spos : Pos} {k : Nat} {elt iter : Expr} {α : Type} {l : List α} {P : Out → Prop} (a b : α → D) (f : D → D → D) (K : EnvOk sc env) (Wc : CellsOk' sc env ws) (hit : EvIt C A env ws σ (.Tuple [.Name y py, .Name z pz] k pt) iter (l.map fun x => .tuple [a x, b x]))
    (hh : A.handled = none) (helt : ∀ cenv, EnvOk scope cenv → ∀ x ∈ l, Ev C A cenv [] (((compSto scope σ).set y (.val (a x))).set z (.val (b x))) elt (f (a x) (b x))) (hnb : ∀ x ∈ l, NoB (a x) ∧ NoB (b x)) (hsz : l.length ≤ sizeLine)
    (h : P (.next (σ.set v (.val (.list (l.map fun x => f (a x) (b x)))))))
    (S : CompScope sc scope) (hy : scope.names.lookup y = some .local) (hz : scope.names.lookup z = some .local) 
    (hv : sc.names.lookup v = some .local) (hl : (pv.line == pos.line) = true) (hn : (scope.names.any fun p => p.1 == v && (p.2 == .local || p.2 == .cell)) = false) (hs : ∀ x, foldedSetIterable iter env x = pure x := by intro _; rfl) :
    Ex1 C A env ws σ (.Assign [.Name v pv] (.ListComp elt [⟨.Tuple [.Name y py, .Name z pz] k pt, iter, [], 0⟩] scope pos) spos) P := by
  rw [← flatMap_pair] at h
  refine ex_assign_comp (F := pairF f) K Wc S hit turn_plain (fun Da cenv KC d hd => ?_) ?_ h hv hl hn hs
  · obtain ⟨x, hx, rfl⟩ := List.mem_map.mp hd
    exact ⟨_, asgl_tuple2 hh KC.k (KC.at hy) (KC.at hz) (hnb x hx).1 (hnb x hx).2, body_emit (helt cenv KC x hx) (compSto_sub2 hy hz) (set_own (set_own compSto_own))⟩
  · rw [flatMap_pair, List.length_map]; exact hsz
theorem ex_assign_comp1 {sc scope : Scope} {v y : Str} {pv py pos spos : Pos} {elt iter : Expr} {items : List D} {P : Out → Prop} (f : D → D) (K : EnvOk sc env) (Wc : CellsOk' sc env ws) (hit : EvIt C A env ws σ (.Name y py) iter items)
    (helt : ∀ cenv, EnvOk scope cenv → ∀ d ∈ items, Ev C A cenv [] ((compSto scope σ).set y (.val d)) elt (f d)) (hnb : ∀ d ∈ items, NoB d) (hsz : items.length ≤ sizeLine)
    (h : P (.next (σ.set v (.val (.list (items.map f))))))
    (S : CompScope sc scope) (hy : scope.names.lookup y = some .local)
    (hv : sc.names.lookup v = some .local) (hl : (pv.line == pos.line) = true) (hn : (scope.names.any fun p => p.1 == v && (p.2 == .local || p.2 == .cell)) = false) (hs : ∀ x, foldedSetIterable iter env x = pure x := by intro _; rfl) :
    Ex1 C A env ws σ (.Assign [.Name v pv] (.ListComp elt [⟨.Name y py, iter, [], 0⟩] scope pos) spos) P := by
  rw [← flatMap_one] at h
  refine ex_assign_comp (F := fun d => [f d]) K Wc S hit turn_plain (fun Da cenv KC d hd => ⟨_, asgl_name KC.k (KC.at hy) (hnb d hd), body_emit (helt cenv KC d hd) (compSto_sub hy) (set_own compSto_own)⟩) ?_ h hv hl hn hs
  rw [flatMap_one, List.length_map]; exact hsz
/-- the same when the name is a cell: the list is made first, then stored -/
theorem ex_assign_comp1_cell {sc scope : Scope} {v y : Str} {pv py pos spos : Pos} {elt iter : Expr} {items : List D} {P : Out → Prop} (f : D → D) (K : EnvOk sc env) (Wc : CellsOk' sc env ws) (hit : EvIt C A env ws σ (.Name y py) iter items)
    (helt : ∀ cenv, EnvOk scope cenv → ∀ d ∈ items, Ev C A cenv [] ((compSto scope σ).set y (.val d)) elt (f d)) (hnb : ∀ d ∈ items, NoB d) (hsz : items.length ≤ sizeLine)
    (h : P (.next (σ.set v (.val (.list (items.map f))))))
    (S : CompScope sc scope) (hy : scope.names.lookup y = some .local)
    (hv : sc.names.lookup v = some .cell) (hs : ∀ x, foldedSetIterable iter env x = pure x := by intro _; rfl) :
    Ex1 C A env ws σ (.Assign [.Name v pv] (.ListComp elt [⟨.Name y py, iter, [], 0⟩] scope pos) spos) P :=
  ex_assign (ev_comp1 f K Wc hit helt hnb hsz S hy hs) K.k (Wc _ hv) h (by intro _ _ h; cases h) (swaps_comp_cell K hv)
end
end Mine
namespace Mine

theorem q257 : Str.ofString "257" = S [50, 53, 55] := by decide +kernel
theorem qbq : Str.ofString " \"" = S [32, 34] := by decide +kernel
theorem qq : Str.ofString "\"" = S [34] := by decide +kernel
theorem qe : Str.ofString "" = S [] := by decide +kernel
theorem qb : Str.ofString "\\" = S [92] := by decide +kernel
theorem qc : Str.ofString "," = S [44] := by decide +kernel
theorem beq_one (c d : Nat) : ([c] == [d]) = decide (c = d) := by by_cases q : c = d <;> simp [q]

def b257 (l : List Nat) (i : Nat) (dn : List Nat) (B : Nat) : Sto := (((Sto.nil.set "resp" (.val (.str (S l)))).set "dirname" (.val (.strb (S dn) B))).set "i" (.val (.int (i : Nat)))).set "n" (.val (.int (l.length : Nat)))
def J257 (l : List Nat) (k : Nat) (τ : Sto) : Prop := ∃ (i : Nat) (dn : List Nat) (B : Nat), k = l.length - i ∧ i ≤ l.length ∧ dn ++ p257 (l.drop i) = p257 (l.drop 5) ∧ dn.length ≤ i ∧ Sub (b257 l i dn B) τ

/-! what parse_http_list tells -/
structure Ph where
  res : List (List Nat)
  part : List Nat
  esc : Bool
  quo : Bool
def phStep (s : Ph) (c : Nat) : Ph :=
  if s.esc then { s with part := s.part ++ [c], esc := false }
  else if s.quo then (if c = 92 then { s with esc := true } else { s with part := s.part ++ [c], quo := decide (c ≠ 34) })
  else if c = 44 then { s with res := s.res ++ [s.part], part := [] }
  else { s with part := s.part ++ [c], quo := decide (c = 34) }
def ph0 : Ph := ⟨[], [], false, false⟩
def phEnd (s : Ph) : List (List Nat) := if s.part.length = 0 then s.res else s.res ++ [s.part]
def phRes (l : List Nat) : List (List Nat) := phEnd (l.foldl phStep ph0)

theorem phStep_size (s : Ph) (c : Nat) : (phStep s c).part.length ≤ s.part.length + 1 ∧ (phStep s c).res.length ≤ s.res.length + 1 := by
  unfold phStep
  split
  · simp
  · split
    · split <;> simp
    · split <;> simp
theorem phFold_size (l : List Nat) : ∀ s : Ph, (l.foldl phStep s).part.length ≤ s.part.length + l.length ∧ (l.foldl phStep s).res.length ≤ s.res.length + l.length := by
  induction l with
  | nil => intro s; simp
  | cons c l ih =>
    intro s
    have h1 := ih (phStep s c)
    have h2 := phStep_size s c
    simp only [List.foldl_cons, List.length_cons]
    omega
def partOk (n : Nat) (s : Ph) : Prop := s.part.length ≤ n ∧ ∀ x ∈ s.res, x.length ≤ n
theorem phStep_ok {n : Nat} {s : Ph} (c : Nat) (h : partOk n s) : partOk (n + 1) (phStep s c) := by
  obtain ⟨h1, h2⟩ := h
  have h3 : ∀ x ∈ s.res, x.length ≤ n + 1 := fun x hx => Nat.le_succ_of_le (h2 x hx)
  unfold phStep
  split
  · exact ⟨by simp; omega, h3⟩
  · split
    · split
      · exact ⟨by simp; omega, h3⟩
      · exact ⟨by simp; omega, h3⟩
    · split
      · refine ⟨by simp, fun x hx => ?_⟩
        rcases List.mem_append.mp hx with hx | hx
        · exact h3 x hx
        · rw [List.mem_singleton.mp hx]; omega
      · exact ⟨by simp; omega, h3⟩
theorem phFold_ok (l : List Nat) : ∀ (n : Nat) (s : Ph), partOk n s → partOk (n + l.length) (l.foldl phStep s) := by
  induction l with
  | nil => intro n s h; exact h
  | cons c l ih =>
    intro n s h
    have := ih (n + 1) _ (phStep_ok c h)
    rw [List.foldl_cons, List.length_cons, show n + (l.length + 1) = n + 1 + l.length by omega]
    exact this

def bPh (a : Addr) (s : Ph) : Sto := (((Sto.nil.set "res" (.own a (s.res.map fun x => .str (S x)))).set "part" (.val (.str (S s.part)))).set "escape" (.val (.bool s.esc))).set "quote" (.val (.bool s.quo))
def JPh (a : Addr) (l : List Nat) (i : Nat) (τ : Sto) : Prop := Sub (bPh a ((l.take i).foldl phStep ph0)) τ
theorem take_fold {l : List Nat} {i c : Nat} (h : l[i]? = some c) : (l.take (i + 1)).foldl phStep ph0 = phStep ((l.take i).foldl phStep ph0) c := by
  rw [List.take_add_one, h, List.foldl_append]; rfl
theorem signs_S (l : List Nat) : signs (S l) = l.map fun c => .str (S [c]) := by simp [signs, S]
end Mine
namespace Mine

theorem foldl_one (c : Nat) : ∀ (k : Nat) (acc : Array Nat), (List.replicate k #[c]).foldl (· ++ ·) acc = acc ++ (List.replicate k c).toArray
  | 0, acc => by simp
  | k + 1, acc => by
    rw [List.replicate_succ, List.foldl_cons, foldl_one c k]
    apply Array.toList_inj.mp
    simp [List.replicate_succ]
theorem mul_S (c : Nat) (n : Int) : Txt.mul (S [c]) n = S (List.replicate n.toNat c) := by
  unfold Txt.mul
  by_cases h : n < 1
  · rw [if_pos h]
    have : n.toNat = 0 := by omega
    rw [this]; rfl
  · rw [if_neg h]
    by_cases h1 : n = 1
    · subst h1; rfl
    · have : (n == 1 || (S [c]).length == 0) = false := by
        rw [S_len]
        simp [h1]
      rw [this]
      simp only [Bool.false_eq_true, if_false]
      show Str.mk _ = Str.mk _
      congr 1
      have := foldl_one c n.toNat #[]
      simpa [S] using this
theorem mulOk_one (c : Nat) {n : Int} (h0 : -100000 ≤ n) (h1 : n ≤ 100000) : MulOk (S [c]) n := by
  refine ⟨?_, fun h _ => ?_, fun h _ => ?_⟩
  · rw [Bool.or_eq_false_iff]
    exact ⟨decide_eq_false (by omega), decide_eq_false (by omega)⟩
  · have hn : 0 < n := by omega
    have : (1 : Int) ≤ (2 ^ 63 - 1) / n := by
      apply Int.le_ediv_of_mul_le hn
      omega
    rw [S_len]
    simp only [List.length_cons, List.length_nil]
    omega
  · rw [S_len]
    simp only [List.length_cons, List.length_nil]
    show decide (1 * n.toNat > sizeLine) = false
    rw [sizeLine_eq]
    exact decide_eq_false (by omega)
end Mine
namespace Mine

/-! strip, shapes, equality of lists of texts -/
theorem takeWhile_head {p : Nat → Bool} {l : List Nat} (h : ∀ c, l.head? = some c → p c = false) : l.takeWhile p = [] := by
  cases l with
  | nil => rfl
  | cons c l => rw [List.takeWhile_cons, h c rfl]; rfl
theorem strip_S {l : List Nat} (h : ∀ c, l.head? = some c → Unicode.isSpace c = false) (h' : ∀ c, l.getLast? = some c → Unicode.isSpace c = false) : Txt.strip (S l) = S l := by
  unfold Txt.strip Txt.stripBy
  have e : (S l).cps.toList = l := by simp [S]
  have hlo : stripLo Unicode.isSpace true (S l) = 0 := by
    unfold stripLo
    rw [if_pos rfl, e, takeWhile_head h]; rfl
  have hhi : stripHi Unicode.isSpace true (S l) 0 = (S l).length := by
    unfold stripHi
    rw [if_pos rfl, e, List.drop_zero, takeWhile_head (by rw [List.head?_reverse]; exact h')]; rfl
  have : stripSame Unicode.isSpace true true (S l) = true := by
    unfold stripSame
    rw [hlo, hhi]; simp
  rw [if_pos this]

theorem toPs_map {α : Type} (f : α → D) : ∀ l : List α, toPs (l.map f) = l.map fun x => toP (f x)
  | [] => by rw [List.map_nil, toPs, List.map_nil]
  | a :: l => by rw [List.map_cons, toPs, toPs_map f l, List.map_cons]
theorem canLayAll_map {α : Type} (f : α → PyData) : ∀ l : List α, (∀ x ∈ l, (f x).canLay0 = true) → PyData.canLayAll0 (l.map f) = true
  | [], _ => by rw [List.map_nil, PyData.canLayAll0]
  | a :: l, h => by rw [List.map_cons, PyData.canLayAll0, h a List.mem_cons_self, canLayAll_map f l fun x hx => h x (List.mem_cons_of_mem _ hx)]; rfl
theorem depthAll_map {α : Type} (f : α → PyData) (n : Nat) : ∀ l : List α, (∀ x ∈ l, (f x).depth ≤ n) → PyData.depthAll (l.map f) ≤ n
  | [], _ => by rw [List.map_nil, PyData.depthAll]; exact Nat.zero_le _
  | a :: l, h => by
    rw [List.map_cons, PyData.depthAll]
    exact Nat.max_le.mpr ⟨h a List.mem_cons_self, depthAll_map f n l fun x hx => h x (List.mem_cons_of_mem _ hx)⟩
theorem shaped_map {α : Type} (f : α → D) (n : Nat) (hn : n ≤ 63) (l : List α) (h1 : ∀ x ∈ l, (toP (f x)).canLay0 = true) (h2 : ∀ x ∈ l, (toP (f x)).depth ≤ n) : SeqAt.shaped (toP (.list (l.map f))) = true := by
  unfold SeqAt.shaped
  rw [toP, toPs_map, Bool.and_eq_true]
  refine ⟨?_, decide_eq_true ?_⟩
  · rw [PyData.canLay0]; exact canLayAll_map _ l h1
  · rw [PyData.depth]
    have := depthAll_map _ n l h2
    omega
theorem shaped_ints (ns : List Int) : SeqAt.shaped (toP (.list (ns.map .int))) = true :=
  shaped_map D.int 0 (by omega) ns (fun x _ => by rw [toP, PyData.canLay0]) (fun x _ => by rw [toP, PyData.depth]; exact Nat.le_refl _)
theorem strOk_S {l : List Nat} (h : ∀ c ∈ l, c < 0x110000) : PyData.strOk (S l) = true := by
  unfold PyData.strOk S
  rw [Array.all_eq_true]
  intro i hi
  simp only [List.size_toArray] at hi
  simpa using h _ (List.getElem_mem hi)
theorem shaped_strs (xs : List (List Nat)) (h : ∀ x ∈ xs, ∀ c ∈ x, c < 0x110000) : SeqAt.shaped (toP (.list (xs.map fun x => .str (S x)))) = true :=
  shaped_map (fun x => D.str (S x)) 0 (by omega) xs (fun x hx => by rw [toP, PyData.canLay0]; exact strOk_S (h x hx)) (fun x _ => by rw [toP, PyData.depth]; exact Nat.le_refl _)
theorem eqvAll_strs : ∀ xs : List Str, PyData.eqvAll (xs.map .str) (xs.map .str) = true
  | [] => by rw [List.map_nil, PyData.eqvAll]
  | x :: xs => by rw [List.map_cons, PyData.eqvAll, PyData.eqv, eqvAll_strs xs]; simp
theorem eqv_strs (xs : List (List Nat)) : PyData.eqv (toP (.list (xs.map fun x => .str (S x)))) (toP (.list (xs.map fun x => .str (S x)))) = true := by
  rw [toP, toPs_map, PyData.eqv]
  have := eqvAll_strs (xs.map S)
  rw [List.map_map] at this
  exact this
theorem eqv_nil {α : Type} (f : α → D) (l : List α) : PyData.eqv (toP (.list (l.map f))) (toP (.list [])) = l.isEmpty := by
  rw [toP, toPs_map, toP, toPs, PyData.eqv]
  cases l with
  | nil => rw [List.map_nil, PyData.eqvAll]; rfl
  | cons a l => rw [List.map_cons, PyData.eqvAll]; rfl
theorem shaped_nil : SeqAt.shaped (toP (.list [])) = true := shaped_ints []
theorem pickD_take (ds : List D) (i : Nat) (h : i ≤ ds.length) : pickD ds none (some (i : Int)) none = ds.take i := by
  have e : sliceRange (sliceBounds none (some (i : Int)) none ds.length).1 (sliceBounds none (some (i : Int)) none ds.length).2.1 (sliceBounds none (some (i : Int)) none ds.length).2.2 = (List.range i).map fun (k : Nat) => (((0 : Nat) : Int) + 1 * (k : Int)).toNat := by
    have h2 : (sliceBounds none (some (i : Int)) none ds.length).2.1 = (i : Int) := by
      show max 0 (min (if (i : Int) < 0 then (i : Int) + (ds.length : Int) else (i : Int)) (ds.length : Int)) = _
      omega
    rw [h2]
    show sliceRange 0 (i : Int) 1 = _
    unfold sliceRange
    have : (if (1 : Int) > 0 then if (0 : Int) < (i : Int) then ((i : Int) - 0 + 1 - 1) / 1 else 0 else if (0 : Int) > (i : Int) then (0 - (i : Int) - 1 - 1) / -1 else 0).toNat = i := by
      rw [if_pos (by decide)]
      split
      · rw [Int.ediv_one]; omega
      · omega
    dsimp only
    rw [this]
    rfl
  unfold pickD
  rw [e, range_picks, List.drop_zero]
theorem pickD_ints (ns : List Int) (lo hi st : Option Int) : ∃ ms : List Int, pickD (ns.map .int) lo hi st = ms.map .int := by
  unfold pickD
  generalize sliceRange _ _ _ = idx
  refine ⟨idx.filterMap (ns[·]?), ?_⟩
  induction idx with
  | nil => rfl
  | cons k idx ih =>
    rw [List.filterMap_cons, List.filterMap_cons, List.getElem?_map]
    cases ns[k]? with
    | none => exact ih
    | some v => show D.int v :: _ = D.int v :: _; rw [ih]
theorem sum_ones : ∀ n : Nat, (List.replicate n (1 : Int)).sum = n
  | 0 => rfl
  | n + 1 => by rw [List.replicate_succ, List.sum_cons, sum_ones n]; omega
theorem flatMap_ones {α β : Type} (b : α → Bool) (x : β) (l : List α) : l.flatMap (fun d => if b d then [x] else []) = List.replicate (l.filter b).length x := by
  rw [flatMap_if b (fun _ => x), List.map_const']
theorem flatMap_reps {α β : Type} (f : α → Nat) (x : β) : ∀ l : List α, l.flatMap (fun d => List.replicate (f d) x) = List.replicate ((l.map f).sum) x
  | [] => rfl
  | a :: l => by rw [List.flatMap_cons, flatMap_reps f x l, List.map_cons, List.sum_cons, List.replicate_append_replicate]
theorem evit_conv {C : Cx} {A : Around} {env : Env} {ws : List Addr} {σ : Sto} {t e : Expr} {items items' : List D} (h : EvIt C A env ws σ t e items) (q : items = items') : EvIt C A env ws σ t e items' := q ▸ h
theorem flatMap_cong {α β : Type} {f g : α → List β} : ∀ {l : List α}, (∀ x ∈ l, f x = g x) → l.flatMap f = l.flatMap g
  | [], _ => rfl
  | a :: l, h => by rw [List.flatMap_cons, List.flatMap_cons, h a List.mem_cons_self, flatMap_cong fun x hx => h x (List.mem_cons_of_mem _ hx)]
theorem wc_of {sc : Scope} {env : Env} {ws : List Addr} {x : Str} (W : CellsOk' sc env ws) (h : sc.names.lookup x = some .cell) : Wr env ws x := W x h
theorem fmodN (a b : Nat) : Int.fmod (a : Int) (b : Int) = ((a % b : Nat) : Int) := by rw [Int.fmod_eq_emod_of_nonneg _ (by omega)]; rfl
theorem fdivN (a b : Nat) : Int.fdiv (a : Int) (b : Int) = ((a / b : Nat) : Int) := by rw [Int.fdiv_eq_ediv_of_nonneg _ (by omega)]; rfl
end Mine
namespace Mine

/-! an exception under way -/
def ExcAt (h : Heap) (e t : Addr) (Cl tb : Value) : Prop := h.get? e = some { cls := Cl, data := .fields #[.ref t, tb, .none, .none, .bool false, .none] }
def TbOk (h : Heap) (e : Addr) (tb : Value) : Prop := tb = .none ∨ ∃ T oT ts, tb = .ref T ∧ T ≠ e ∧ h.get? T = some oT ∧ oT.data = .fields ts ∧ ts[3]? = some .none

theorem up_of_slots {base h h' : Heap} {l : List Env} (hl : h.FunFrames base l) (hf : ∀ b ∈ l.filterMap (·.frame), ∃ o, h.get? b = some o ∧ ¬ Plain o) (x : Heap.SlotsOnly (l.filterMap (·.frame)) h h') {a : Addr} {o : Obj} (e : h.get? a = some o) : Up h' a o := by
  obtain ⟨sl, hs⟩ := x.2.2 a o e
  refine ⟨_, hs, rfl, fun hp => ?_⟩
  have hn : a ∉ l.filterMap (·.frame) := fun hm => by
    obtain ⟨o', e', np⟩ := hf a hm
    rw [e] at e'; cases e'; exact np hp
  have := x.2.1 a hn
  rw [hs, e] at this
  exact Option.some.inj this
theorem frames_fun {h₀ h : Heap} {l : List Env} (F : FrOk h₀ h l) : h.FunFrames h₀ l ∧ ∀ b ∈ l.filterMap (·.frame), ∃ o, h.get? b = some o ∧ ¬ Plain o := by
  induction l with
  | nil => exact ⟨trivial, fun b hb => by simp at hb⟩
  | cons env l ih =>
    obtain ⟨i1, i2⟩ := ih fun e he => F e (List.mem_cons_of_mem _ he)
    obtain ⟨hk, L, o, es, n, e1, e2, e3, e4⟩ := F env List.mem_cons_self
    refine ⟨⟨hk, ⟨L, o, e1, e2, e3, fun vs q => by rw [e4] at q; cases q⟩, i1⟩, fun b hb => ?_⟩
    rw [List.filterMap_cons, e1] at hb
    rcases List.mem_cons.mp hb with rfl | hb
    · exact ⟨o, e3, fun hp => hp es n e4⟩
    · exact i2 b hb

/-- an object stands as it stood; exactly so, if it is no frame's name space -/
def Upx (l : List Env) (h' : Heap) (a : Addr) (o : Obj) : Prop := Up h' a o ∧ ((∀ e ∈ l, e.frame ≠ some a) → h'.get? a = some o)
theorem upx_of_slots {base h h' : Heap} {l : List Env} (hl : h.FunFrames base l) (hf : ∀ b ∈ l.filterMap (·.frame), ∃ o, h.get? b = some o ∧ ¬ Plain o) (x : Heap.SlotsOnly (l.filterMap (·.frame)) h h') {a : Addr} {o : Obj} (e : h.get? a = some o) : Upx l h' a o :=
  ⟨up_of_slots hl hf x e, fun hn => (x.2.1 a fun hm => by obtain ⟨e', he, hq⟩ := List.mem_filterMap.mp hm; exact hn e' he hq).trans e⟩
theorem Upx.step {l : List Env} {h' h'' : Heap} {a : Addr} {o : Obj} (u : Upx l h' a o) (k : ∀ o', h'.get? a = some o' → h''.get? a = some o') : Upx l h'' a o := ⟨u.1.trans fun o' e => .of (k o' e), fun hn => k o (u.2 hn)⟩
section
variable {M : Model} {A : Around} {s : Shared} {E : Value → Shared → Prop} {Q : Unit → Shared → Prop}
theorem entry_ok {h₀ : Heap} {env : Env} {outer : List Env} {L e t : Addr} {Cl tb head : Value} {hadNext : Bool} (hfr : A.frames = some (env :: outer)) (F : FrOk h₀ s.heap (env :: outer)) (hf : env.frame = some L) (he : ExcAt s.heap e t Cl tb)
    (h : ∀ h' T', ExcAt h' e t Cl (.ref T') → TbOk h' e (.ref T') → (∀ a o, a ≠ e → s.heap.get? a = some o → Upx (env :: outer) h' a o) → s.heap.get? T' = none → Q () { s with heap := h' }) :
    wpAny M A (do let a ← frameOf env; let pl ← entryPlaceOf L hadNext; let b ← EntryCells.newEntry head a .none (rawInt L) .none pl; setField (.ref e) 1 b) (fun _ s' => wpAny M A (setFlight (.ref e) none) Q E s') E s := by
  obtain ⟨hl, hnp⟩ := frames_fun F
  unfold ExcAt at he
  refine wpAny_bind (wpAny_frameOf_fun hfr hl hf fun h₁ hs₁ => ?_)
  refine wpAny_bind (wpAny_entryPlaceOf fun pl hpl => ?_)
  have up₁ : ∀ a o, s.heap.get? a = some o → Up h₁ a o := fun a o q => up_of_slots hl hnp hs₁ q
  have upx₁ : ∀ a o, s.heap.get? a = some o → Upx (env :: outer) h₁ a o := fun a o q => upx_of_slots hl hnp hs₁ q
  have he₁ := (up₁ e _ he).get (plain_fields rfl)
  unfold EntryCells.newEntry newFields
  generalize hob : ({ cls := .type "traceback", dict := none, data := .fields ([head, .ref L, .none, rawInt L, .none] ++ (if pl.isEmpty then List.replicate 6 Value.none else pl)).toArray } : Obj) = ob
  refine wpAny_bind (wpAny_newObj_type ?_ (hpl.sizeOk5 _ _ _ _ _))
  rw [hob]
  have he₂ := Heap.get?_push_of_some ob he₁
  refine wpAny_setField he₂ rfl (by simp) ?_
  have hTe : h₁.objs.size ≠ e := Nat.ne_of_gt (Heap.lt_size he₁)
  have he₃ := Heap.get?_update_self (Obj.mapFields (·.setIfInBounds 1 (Value.ref h₁.objs.size))) he₂ rfl
  have hfree : ob.isFreed = false := by rw [← hob]; rfl
  have hT₃ := (Heap.get?_update_other (h₁.push ob) (Obj.mapFields (·.setIfInBounds 1 (Value.ref h₁.objs.size))) (Ne.symm hTe)).trans (Heap.get?_push_size h₁ hfree)
  have hTd : ob.data = .fields ([head, .ref L, .none, rawInt L, .none] ++ (if pl.isEmpty then List.replicate 6 Value.none else pl)).toArray := by rw [← hob]
  unfold setFlight
  refine wpAny_bind (wpAny_field he₃ rfl (x := .ref h₁.objs.size) rfl ?_)
  rw [if_pos (show (Value.ref h₁.objs.size != Value.none) = true from by simp)]
  refine wpAny_setField hT₃ hTd (by simp only [List.size_toArray, List.length_append, List.length_cons, List.length_nil]; omega) ?_
  refine h _ h₁.objs.size ?_ (.inr ⟨h₁.objs.size, _, _, rfl, hTe, Heap.get?_update_self _ hT₃ ?_, Obj.data_mapFields hTd _, ?_⟩) (fun a o hae q => ?_) (Heap.get?_none_of_le (by rw [hs₁.1]; exact Nat.le_refl _))
  · show Heap.get? _ e = _
    rw [Heap.get?_update_other _ _ hTe]
    exact he₃
  · exact Obj.isFreed_of_fields (Obj.data_mapFields hTd _)
  · simp
  · refine (upx₁ a o q).step fun o' q' => ?_
    have haT : h₁.objs.size ≠ a := Nat.ne_of_gt (Heap.lt_size q')
    rw [Heap.get?_update_other _ _ haT, Heap.get?_update_other _ _ (Ne.symm hae)]
    exact Heap.get?_push_of_some _ q'

/-- the exception passes a frame -/
theorem passes {h₀ : Heap} {env : Env} {outer : List Env} {e t : Addr} {Cl tb : Value} (hfr : A.frames = some (env :: outer)) (F : FrOk h₀ s.heap (env :: outer)) (he : ExcAt s.heap e t Cl tb) (ht : TbOk s.heap e tb)
    (h : ∀ h' T', ExcAt h' e t Cl (.ref T') → TbOk h' e (.ref T') → (∀ a o, a ≠ e → tb ≠ .ref a → s.heap.get? a = some o → Upx (env :: outer) h' a o) → s.heap.get? T' = none → Q () { s with heap := h' }) :
    wpAny M A (noteFrame (.ref e) env) (fun _ s' => wpAny M A (setFlight (.ref e) none) Q E s') E s := by
  obtain ⟨hk, L, oL, es, n, hf, e2, e3, e4⟩ := F env List.mem_cons_self
  unfold noteFrame
  simp only [hf]
  rcases ht with rfl | ⟨T, oT, ts, rfl, hTe, hT, hdT, h3⟩
  · refine wpAny_bind (wpAny_field he rfl (x := .none) rfl ?_)
    rw [if_neg (by decide)]
    exact entry_ok hfr F hf he fun h' T' a b c d => h h' T' a b (fun x o hx _ q => c x o hx q) d
  · refine wpAny_bind (wpAny_field he rfl (x := .ref T) rfl ?_)
    rw [if_pos (show (Value.ref T != Value.none) = true from by simp)]
    refine wpAny_bind (wpAny_field hT hdT h3 ?_)
    rw [if_neg (show ¬ ((Value.none == rawInt L) = true) from by simp [rawInt])]
    refine wpAny_bind (wpAny_setField hT hdT (Array.getElem?_eq_some_iff.mp h3).1 ?_)
    have other : ∀ b, b ≠ T → (s.heap.update T (Obj.mapFields (·.setIfInBounds 3 Value.none))).get? b = s.heap.get? b := fun b hb => Heap.get?_update_other _ _ (Ne.symm hb)
    have F' : FrOk h₀ (s.heap.update T (Obj.mapFields (·.setIfInBounds 3 Value.none))) (env :: outer) := F.up fun a o es' n' q d => .of ((other a (by rintro rfl; rw [hT] at q; cases q; rw [hdT] at d; cases d)).trans q)
    have he' : ExcAt (s.heap.update T (Obj.mapFields (·.setIfInBounds 3 Value.none))) e t Cl (.ref T) := (other e (Ne.symm hTe)).trans he
    refine entry_ok (s := { s with heap := s.heap.update T (Obj.mapFields (·.setIfInBounds 3 Value.none)) }) hfr F' hf he' fun h' T' a b c d => h h' T' a b (fun x o hx hx' q => c x o hx ((other x (fun q => hx' (by rw [q]))).trans q)) ?_
    by_cases q : T' = T
    · subst q
      have hT' := Heap.get?_update_self (Obj.mapFields (·.setIfInBounds 3 Value.none)) hT (Obj.isFreed_of_fields (Obj.data_mapFields hdT _))
      rw [hT'] at d; cases d
    · exact (other T' q).symm.trans d
end
end Mine
namespace Mine

/-! the str of an own exception -/
inductive TailN (h : Heap) (bmB : List Value) (n : Str) : List Value → Prop
  | base : TailN h bmB n bmB
  | own {A : Addr} {c0 : Value} {dd : Option Addr} {cd : ClassData} {sl : Array (Option Value)} {mA : Str → Option Value} {tl : List Value} :
      h.get? A = some { cls := c0, dict := dd, data := .cls cd, slots := sl } → h.Ns cd.ns mA → mA n = none → TailN h bmB n tl → TailN h bmB n (.ref A :: tl)
theorem TailN.keeps {h h' : Heap} {bmB tl : List Value} {n : Str} (T : TailN h bmB n tl) (hk : ∀ b o, h.get? b = some o → h'.get? b = some o) : TailN h' bmB n tl := by
  induction T with
  | base => exact .base
  | own hA hN hq _ ih => exact .own (hk _ _ hA) (hN.keeps hk) hq ih
abbrev excB : List Value := [.type "Exception", .type "BaseException", .type "object"]
structure ExcCls (mg : Str → Option Value) (h : Heap) (x : Str) (C : Addr) : Prop where
  bound : mg x = some (.ref C)
  obj : ∃ bm N nm q bs hdct sn sub ab col dd k0 k1 k2 k3 k5 mN, h.get? C = some (excClassObj nm q C N bs bm hdct sn sub ab col dd k0 k1 k2 k3 k5 "Exception.__new__") ∧ h.Ns N mN ∧ mN "__init__" = none ∧ mN "__str__" = none ∧ OwnTail h excB bm ∧ TailN h excB "__str__" bm
theorem ExcCls.keeps {mg : Str → Option Value} {h h' : Heap} {x : Str} {C : Addr} (O : ExcCls mg h x C) (hk : ∀ b o, h.get? b = some o → h'.get? b = some o) : ExcCls mg h' x C :=
  let ⟨bm, N, nm, q, bs, hdct, sn, sub, ab, col, dd, k0, k1, k2, k3, k5, mN, hC, hN, hi, hs, T, T'⟩ := O.obj
  ⟨O.bound, bm, N, nm, q, bs, hdct, sn, sub, ab, col, dd, k0, k1, k2, k3, k5, mN, hk _ _ hC, hN.keeps hk, hi, hs, T.keeps hk, T'.keeps hk⟩

section
variable {M : Model} {A : Around} {E : Value → Shared → Prop} {h : Heap} {g : Array GenState} {d : Drawn} {t : Nat} {os : OsState}
theorem lookupAlong_tailN {bmB tl : List Value} {n : Str} {y : Option Value} {Q : Option Value → Shared → Prop} (T : TailN h bmB n tl) (hrest : lookupAlong bmB n = pure y) (hq : Q y ⟨h, g, d, t, os⟩) :
    wpAny M A (lookupAlong tl n) Q E ⟨h, g, d, t, os⟩ := by
  induction T with
  | base => rw [hrest]; exact wpAny_pure hq
  | own hA hN hni _ ih =>
    rw [lookupAlong_cons]
    refine wpAny_bind (wpAny_classOwn_cls hA hN ?_)
    rw [hni]
    exact ih
variable {nm q : Str} {C N : Addr} {bs bm bmB : List Value} {hdct : Bool} {sn : List Str} {sub : List Value} {ab : Bool} {col : Option Bool} {dd : Option Addr} {k0 k1 k2 k3 k5 : Option Value} {B newId : String}
theorem typeLookup_tailN {mN : Str → Option Value} {n : Str} {y : Option Value} {Q : Option Value → Shared → Prop}
    (hC : h.get? C = some (excClassObj nm q C N bs bm hdct sn sub ab col dd k0 k1 k2 k3 k5 newId)) (hN : h.Ns N mN) (hmN : mN n = none) (T : TailN h bmB n bm) (hbm : mroOf (.type B) = pure bmB)
    (hB : typeLookup (.type B) n = pure y) (hq : Q y ⟨h, g, d, t, os⟩) : wpAny M A (typeLookup (.ref C) n) Q E ⟨h, g, d, t, os⟩ := by
  have hrest : lookupAlong bmB n = pure y := by rw [typeLookup_eq, hbm] at hB; exact hB
  rw [typeLookup_eq]
  refine wpAny_bind (wpAny_mroOf_exc hC ?_)
  rw [lookupAlong_cons]
  refine wpAny_bind (wpAny_classOwn_exc hC hN ?_)
  rw [hmN]
  exact lookupAlong_tailN T hrest hq
end

section
variable {prog : Program} {w : World} {A : Around} {E : Value → Shared → Prop} {h : Heap} {g : Array GenState} {d : Drawn} {t : Nat} {os : OsState} {e t0 C : Addr} {mg : Str → Option Value} {X : Str}
open Builtin Builtin.Str Builtin.BaseException Builtin.Exceptions

theorem check_str_own {M : Model} {oe : Obj} {Q : Unit → Shared → Prop} (O : ExcCls mg h X C) (hx : h.get? e = some oe) (hc : oe.cls = .ref C) (hq : Q () ⟨h, g, d, t, os⟩) :
    wpAny M A (checkBuiltinCall "BaseException.__str__" ⟨[.ref e], []⟩) Q E ⟨h, g, d, t, os⟩ := by
  obtain ⟨bm, N, nm, q, bs, hdct, sn, sub, ab, col, dd, k0, k1, k2, k3, k5, mN, hC, hN, hi, hs, T, T'⟩ := O.obj
  have hk : builtinKind "BaseException.__str__" = some .slot := by decide +kernel
  have hsplit : splitId "BaseException.__str__" = some ("BaseException", "__str__") := by decide +kernel
  have hcB : (Value.ref C :: bm).contains (.type "BaseException") = true := by rw [List.contains_cons, T.hasType (by rfl)]; rfl
  have ha := F.args_bexc_str (.ref e)
  simp only [checkBuiltinCall, hk, hsplit]
  refine wpAny_bind ?_
  · unfold isInstance
    repeat (first | (with_reducible refine wpAny_loadPart_at hx ?_; rw [hc]) | (with_reducible refine wpAny_isSubtype_exc hC ?_; rw [hcB]) | wp_step)
    exact hq

theorem bexcArgs_at {M : Model} {oe : Obj} {ws : Array Value} {items : List Value} {Q : Value × List Value → Shared → Prop} (hx : h.get? e = some oe) (hd : oe.data = .fields ws) (h0 : ws[0]? = some (.ref t0)) (ht : h.TupAt t0 items) (hq : Q (.ref t0, items) ⟨h, g, d, t, os⟩) :
    wpAny M A (bexcArgs (.ref e)) Q E ⟨h, g, d, t, os⟩ := by
  obtain ⟨ot, k, hto, _, htd⟩ := ht
  unfold bexcArgs
  refine wpAny_bind (wpAny_field hx hd h0 (wpAny_bind (wpAny_seqItems hto htd ?_)))
  have : items.toArray.toList = items := by simp
  show wpAny M A (pure (Value.ref t0, items.toArray.toList)) Q E _
  rw [this]; exact wpAny_pure hq
theorem bexcStr_one {oe : Obj} {ws : Array Value} {m : Str} {tk : Tok} {Q : Fin → Shared → Prop} (hx : h.get? e = some oe) (hd : oe.data = .fields ws) (h0 : ws[0]? = some (.ref t0)) (ht : h.TupAt t0 [.str m tk]) (hq : Q (.done (.ret (.str m tk))) ⟨h, g, d, t, os⟩) :
    wpAny (model prog w) A (Builtin.«BaseException.__str__» ⟨[.ref e], []⟩) Q E ⟨h, g, d, t, os⟩ := by
  unfold Builtin.«BaseException.__str__»
  repeat (first | with_reducible refine bexcArgs_at hx hd h0 ht ?_ | wp_step)
  exact hq
theorem callSpecial_str {oe : Obj} {ws : Array Value} {m : Str} {tk : Tok} {Q : Option Value → Shared → Prop} (O : ExcCls mg h X C) (hx : h.get? e = some oe) (hc : oe.cls = .ref C) (hd : oe.data = .fields ws) (h0 : ws[0]? = some (.ref t0)) (ht : h.TupAt t0 [.str m tk])
    (hq : Q (some (.str m tk)) ⟨h, g, d, t, os⟩) : wpAny (model prog w) A (callSpecial? (.ref e) "__str__") Q E ⟨h, g, d, t, os⟩ := by
  obtain ⟨bm, N, nm, q, bs, hdct, sn, sub, ab, col, dd, k0, k1, k2, k3, k5, mN, hC, hN, hi, hs, T, T'⟩ := id O.obj
  have FX := PySem.F.excStr_Exception
  have hspec : ∀ {Q' : Option Value → Shared → Prop}, Q' (some (.builtin "BaseException.__str__")) ⟨h, g, d, t, os⟩ → wpAny (model prog w) A (specialOf (.ref e) "__str__") Q' E ⟨h, g, d, t, os⟩ := fun hq' => by
    unfold specialOf
    repeat (first | (with_reducible refine wpAny_loadPart_at hx ?_; rw [hc]) | with_reducible refine typeLookup_tailN hC hN hs T' PySem.F.excBase_Exception.mroIs FX.str.lookup ?_ | wp_step)
    exact hq'
  simp only [callSpecial?]
  refine wpAny_bind (hspec ?_)
  simp only [FX.str.bind]
  refine wpAny_holding (wpAny_bind (wpAny_pure (wpAny_bind (wpAny_call (codeAny_call_builtin FX.str.plain F.entry_bexc_str (check_str_own O hx hc ?_))))))
  exact bexcStr_one hx hd h0 ht (wpAny_pure hq)
theorem strOf_own {oe : Obj} {ws : Array Value} {m : Str} {tk : Tok} {Q : Value → Shared → Prop} (hu : A.units < cLine) (O : ExcCls mg h X C) (hx : h.get? e = some oe) (hc : oe.cls = .ref C) (hd : oe.data = .fields ws) (h0 : ws[0]? = some (.ref t0)) (ht : h.TupAt t0 [.str m tk])
    (hq : Q (.str m tk) ⟨h, g, d, t, os⟩) : wpAny (model prog w) A (PySem.Builtin.Str.strOf (.ref e)) Q E ⟨h, g, d, t, os⟩ := by
  unfold PySem.Builtin.Str.strOf
  repeat (first | with_reducible refine wpAny_cRoomFor hu ?_ | with_reducible refine callSpecial_str O hx hc hd h0 ht ?_ | wp_step)
  exact hq
end
end Mine
namespace Mine

section
open Builtin Builtin.Str Builtin.BaseException Builtin.Exceptions
variable {prog : Program} {w : World} {A : Around} {E : Value → Shared → Prop} {s : Shared} {e t0 C : Addr} {mg : Str → Option Value} {X : Str}
theorem str_of_own {oe : Obj} {ws : Array Value} {m : Str} {tk : Tok} {Q : Value → Shared → Prop} (hu : A.units + 2 < cLine) (O : ExcCls mg s.heap X C) (hx : s.heap.get? e = some oe) (hc : oe.cls = .ref C) (hd : oe.data = .fields ws) (h0 : ws[0]? = some (.ref t0)) (ht : s.heap.TupAt t0 [.str m tk])
    (hq : Q (.str m tk) s) : wpAny (model prog w) A (call (.type "str") [.ref e]) Q E s :=
  PySem.callType_new F.called_str (by decide) (F.typeCall_str_1 _) (F.newCall_str_1 _) (fun obj => F.args_object_init_2 obj _) F.entry_str_new
    (meets_str_new (S := fun A' R s' => A'.units + 1 < cLine ∧ (ExcCls mg s'.heap X C ∧ s'.heap.get? e = some oe ∧ s'.heap.TupAt t0 [.str m tk]) ∧ R (.ok (.ret (.str m tk))) s')
      fun _ _ A' R s' hq => by
        obtain ⟨h1, ⟨h2, h3, h4⟩, h5⟩ := hq
        obtain ⟨hp, g, d, tk', os⟩ := s'
        exact strOf_own (A := A'.in1) h1 h2 h3 hc hd h0 h4 h5)
    ⟨(show A.units + 1 + 1 < cLine from hu), ⟨O, hx, ht⟩, typeIs_str _ _ _, hq⟩
end

/-- an own exception with one text is under way; it and its traces are new since s -/
def Flown (s : Shared) (g' : Gh) (s' : Shared) (e : Addr) (Cl : Value) (x : Str) : Prop :=
  s.heap.get? e = none ∧ g'.kp e = none ∧ ∃ t tb tk o n, ExcAt s'.heap e t Cl tb ∧ TbOk s'.heap e tb ∧ (∀ T, tb = .ref T → s.heap.get? T = none ∧ g'.kp T = none) ∧ s'.heap.get? t = some o ∧ o.cls = .type "tuple" ∧ o.data = .seq #[.str x tk] n
theorem Flown.back {s₀ s : Shared} {g' : Gh} {s' : Shared} {e : Addr} {Cl : Value} {x : Str} (h : Flown s g' s' e Cl x) (k : ∀ a o, s₀.heap.get? a = some o → Up s.heap a o) : Flown s₀ g' s' e Cl x := by
  obtain ⟨h1, h2, t, tb, tk, o, n, h3, h4, h5, h6⟩ := h
  exact ⟨none_of_up k h1, h2, t, tb, tk, o, n, h3, h4, fun T q => ⟨none_of_up k (h5 T q).1, (h5 T q).2⟩, h6⟩

abbrev ContX (g : Gh) (s : Shared) (Cl : Value) (x : Str) (E : Value → Shared → Prop) : Prop := ∀ e g' s', GrowS g s g' s' → Flown s g' s' e Cl x → E (.ref e) s'
theorem ContX.grow {g g₁ : Gh} {s s₁ : Shared} {Cl : Value} {x : Str} {E : Value → Shared → Prop} (c : ContX g s Cl x E) (X : GrowS g s g₁ s₁) : ContX g₁ s₁ Cl x E := fun e g' s' y f => c e g' s' (X.trans y) (f.back X.gr.keep)
section
variable (C : Cx) (A : Around) (env : Env) (ws : List Addr) (σ : Sto)
def EvX (e : Expr) (Cl : Value) (x : Str) : Prop :=
  ∀ (g : Gh) (s : Shared) (Q : Value → Shared → Prop) (E : Value → Shared → Prop), InvS C env ws σ g s → ContX g s Cl x E → wpAny (model C.prog C.w) A (eval e env) Q E s
def Ex1X (st : Stmt) (Cl : Value) (x : Str) : Prop :=
  ∀ (g : Gh) (s : Shared) (Q : Flow → Shared → Prop) (E : Value → Shared → Prop), InvS C env ws σ g s → ContX g s Cl x E → wpAny (model C.prog C.w) A (exec st env) Q E s
def ExX (ss : List Stmt) (Cl : Value) (x : Str) : Prop :=
  ∀ (g : Gh) (s : Shared) (Q : Flow → Shared → Prop) (E : Value → Shared → Prop), InvS C env ws σ g s → ContX g s Cl x E → wpAny (model C.prog C.w) A (execs ss env) Q E s
def FnX (f : Value) (ds : List D) (Cl : Value) (x : Str) : Prop :=
  ∀ (g : Gh) (s : Shared) (vs : List Value) (Q : Value → Shared → Prop) (E : Value → Shared → Prop), Base C g s → KpIn g s → ValL g.led vs ds → ContX g s Cl x E → wpAny (model C.prog C.w) A (call f vs) Q E s
end

section
variable {C : Cx} {A : Around} {env : Env} {ws : List Addr} {σ τ : Sto} {Cl : Value} {x : Str}
theorem exX_now {st : Stmt} {rest : List Stmt} (h : Ex1X C A env ws σ st Cl x) : ExX C A env ws σ (st :: rest) Cl x := fun g s Q E I c => wpAny_execs_cons (h g s _ E I c)
theorem ex1X_if {t : Expr} {b o : List Stmt} {pos : Pos} {cb : Bool} (ht : EvB C A env ws σ t cb) (hb : cb = true) (h₁ : ExX C A env ws σ b Cl x) : Ex1X C A env ws σ (.If t b o pos) Cl x :=
  fun g s Q E I c => wpAny_If (ht g s _ E I fun g₁ s₁ x₁ => by
    subst hb
    exact h₁ g₁ s₁ Q E (I.grow x₁) (c.grow x₁))
theorem ex1X_ret {e : Expr} {pos : Pos} (h : EvX C A env ws σ e Cl x) : Ex1X C A env ws σ (.Return (some e) pos) Cl x := fun g s Q E I c => wpAny_Return_some (h g s _ E I c)
theorem evX_list2 {e₁ e₂ : Expr} {pos : Pos} {d₁ : D} (h₁ : Ev C A env ws σ e₁ d₁) (h₂ : EvX C A env ws σ e₂ Cl x) (he₁ : starEach [e₁, e₂] env = (false, eval e₁ env) :: starEach [e₂] env := by rfl) (he₂ : starEach [e₂] env = (false, eval e₂ env) :: starEach [] env := by rfl) :
    EvX C A env ws σ (.List [e₁, e₂] pos) Cl x :=
  fun g s Q E I c => wpAny_List (wpAny_items_cons (h₁ g s _ E I fun v₁ g₁ s₁ x₁ w₁ => wpAny_items_cons (h₂ g₁ s₁ _ E (I.grow x₁) (c.grow x₁)) he₂) he₁)
theorem evX_call {p : Program} {i : Nat} {y : Str} {f : Addr} {pp pos : Pos} {e : Expr} {es : List Expr} {ds : List D} (D : DefIn C p i y f) {sc : Scope} (K : EnvOk sc env) (hx : sc.names.lookup y = some .globalImplicit)
    (ha : EvL C A env ws σ (e :: es) ds) (hf : FnX C A (.ref f) ds Cl x) (hb : (y == ("__debug__" : Str)) = false := by decide)
    (he : starEach (e :: es) env = (false, eval e env) :: starEach es env := by rfl) : EvX C A env ws σ (.Call (.Name y pp) (e :: es) [] pos) Cl x := by
  obtain ⟨o, pm, code, doc, h1, h2, h3⟩ := D.at'
  intro g s Q E I c
  exact wpAny_Call_NameR (Calls.Name_function_global K.k (K.at hx) (Calls.loadGlobal_global (mg := C.mg) (I.globals K.globals) D.mg
    (callWith_def h2 (ha pos g s _ E I fun vs g₁ s₁ x₁ w₁ => ⟨(I.grow x₁).old h1,
      hf g₁ _ vs _ E (I.grow x₁).base (I.grow x₁).kp w₁ (c.grow x₁)⟩) he)) hb)

theorem ex1X_raise {y : Str} {a : Addr} {np cpos pos : Pos} {e : Expr} {sc : Scope} (O : ExcCls C.mg C.h₀ y a) (K : EnvOk sc env) (hx : sc.names.lookup y = some .globalImplicit) (hh : A.handled = none) (h : Ev C A env ws σ e (.str x))
    (hd : (y == ("__debug__" : Str)) = false := by decide) (he : starEach [e] env = (false, eval e env) :: starEach [] env := by rfl) : Ex1X C A env ws σ (.Raise (some (.Call (.Name y np) [e] [] cpos)) none pos) (.ref a) x := by
  intro g s Q E I c
  obtain ⟨tl, N, nm, q, bs, hdct, sn, sub, ab, col, dd, k0, k1, k2, k3, k5, mN, hC, hN, hni, hns, T, T'⟩ := O.obj
  have FB := PySem.F.excBase_Exception
  refine wpAny_Raise_call_subT (C := a) (nm := nm) (q := q) (N := N) (bs := bs) (bm := tl) (hdct := hdct) (sn := sn) (sub := sub) (ab := ab) (col := col) (dd := dd) (k0 := k0) (k1 := k1) (k2 := k2) (k3 := k3) (k5 := k5)
    FB (mN := mN) (T.hasType FB.hasBase) hh (by rw [he]; rfl) hni (Calls.Name_function_global K.k (K.at hx) (Calls.loadGlobal_global (mg := C.mg) (I.globals K.globals) O.bound ⟨rfl, ?_⟩) hd)
  have hl : EvL C A env ws σ [e] [.str x] := evl_cons h evl_nil he
  have hl' := fun Q' => hl cpos g s Q' E I
  rw [he] at hl' ⊢
  refine Calls.evalArgs_plain (hl' _ fun vs g₁ s₁ x₁ w₁ => ?_)
  have old : ∀ b o, C.h₀.get? b = some o → s₁.heap.get? b = some o := fun b o q => (I.grow x₁).old q
  cases w₁ with
  | cons w r =>
    cases r
    cases w with
    | str _ tk =>
      refine ⟨rfl, by show 1 ≤ sizeLine; decide, old _ _ hC, hN.keeps old, T.keeps old, fun h' ea hm => ?_⟩
      obtain ⟨t, h1, h2, h3⟩ := hm.there
      have x₂ : GrowS g₁ s₁ g₁ { s₁ with heap := h' } := ⟨Grow.heap hm.keeps, rfl, Nat.le_refl _⟩
      refine c ea g₁ _ (x₁.trans x₂) ⟨none_of_up x₁.gr.keep hm.new, ?_, t, .none, tk, _, _, h1, .inl rfl, (fun T q => by cases q), h3, rfl, rfl⟩
      cases hq : g₁.kp ea with
      | none => rfl
      | some o' => exact (((I.grow x₁).1.kp ea o' hq).no hm.new).elim

/-- no object that values speak of is a frame -/
theorem led_off {g : Gh} {s : Shared} (b : Base C g s) (k : KpIn g s) {a : Addr} {o : Obj} (h : g.led a = some o) : ∀ e' ∈ C.fr, e'.frame ≠ some a := fun e' he hq => by
  obtain ⟨_, L, oL, es, n, h1, h2, h3, h4⟩ := b.fr e' he
  rw [hq] at h1; cases h1
  have := k.2.1 _ _ h
  rw [h3] at this; cases this
  rcases b.ok _ _ h with q | q
  · rw [h2] at q; cases q
  · exact q es n h4
theorem tup_off {h : Heap} {e t : Addr} {Cl tb : Value} {o : Obj} {vs : Array Value} {n : Nat} (he : ExcAt h e t Cl tb) (ht : TbOk h e tb) (ho : h.get? t = some o) (hd : o.data = .seq vs n) : t ≠ e ∧ tb ≠ .ref t := by
  refine ⟨?_, ?_⟩
  · rintro rfl
    rw [he] at ho; cases ho; cases hd
  · rintro rfl
    rcases ht with q | ⟨T, oT, ts, q, _, hT, hdT, _⟩
    · cases q
    · cases q
      rw [ho] at hT; cases hT
      rw [hd] at hdT; cases hdT

theorem fn_raise {f : Addr} {o : Obj} {name : Str} {params : Arguments} {body : List Stmt} {sc : Scope} {pm cd doc : Value} {ds : List D} (names : List Str)
    (ho : C.h₀.get? f = some o) (hdt : o.data = .func (Calls.docDef name params body sc pm cd doc)) (hcd : C.h₀.CodeRec cd name) (hroom : A.depth < recursionLimit)
    (hbind : ∀ vs : List Value, vs.length = names.length → bindArgs (Calls.docDef name params body sc pm cd doc) ⟨vs, []⟩ = pure (names.zip vs))
    (hnames : ∀ x ∈ names, sc.names.lookup x = some .local ∨ sc.names.lookup x = some .cell) (hnd : names.Nodup) (hlen : ds.length = names.length)
    (hk : sc.kind = .function) (hco : sc.isCoroutine = false) (hgen : sc.isGenerator = false) (hfr : A.frames = some C.fr)
    (hnb : ∀ d ∈ ds, NoB d) (hbody : ∀ env ws, EnvOk sc env → CellsOk' sc env ws → ExX (C.push env) (A.deeper env) env ws (stoOf names ds) body Cl x) : FnX C A (.ref f) ds Cl x := by
  intro g s vs Q E hb k w c
  refine fn_core names ho hdt hcd hroom hbind hnames hnd hlen hk hco hgen hnb hb k w fun env ws g₀ s₁ K W I₁ hgl hgk hkeep hs₁ htk => ?_
  refine hbody env ws K W g₀ s₁ _ _ I₁ fun e g₂ s₂ x₂ fl => ?_
  obtain ⟨e1, e2, t, tb, tk, ot, n, h3, h4, h5, h6, h7, h8⟩ := fl
  have I₂ := I₁.grow x₂
  have hfr' : (A.deeper env).frames = some (env :: C.fr) := Around.frames_deeper hfr
  have FR : FrOk C.h₀ s₂.heap (env :: C.fr) := I₂.1.fr
  unfold leaving
  refine wpAny_bind (passes hfr' FR h3 h4 fun h' T' he' ht' hup hnew => ?_)
  have hne : ∀ a o, g₂.kp a = some o → a ≠ e ∧ tb ≠ .ref a := fun a o q => ⟨(by rintro rfl; rw [e2] at q; cases q), (by rintro rfl; rw [(h5 a rfl).2] at q; cases q)⟩
  have tof := tup_off h3 h4 h6 h8
  have k₂ : KpIn g₂ { s₂ with heap := h' } := by
    refine ⟨fun a o q => ?_, fun a o q => ?_, I₂.2.one⟩
    · obtain ⟨n1, n2⟩ := hne a o q
      exact (I₂.1.kp a o q).trans fun o' e' => (hup a o' n1 n2 e').1
    · obtain ⟨n1, n2⟩ := hne a o (g₂.sub _ _ q)
      exact (hup a o n1 n2 (I₂.1.led a o q)).2 (led_off I₂.base I₂.kp q)
  have up1 : ∀ a o, s.heap.get? a = some o → Up s₁.heap a o := fun a o q => .of (hkeep a o q)
  have up2 : ∀ a o, s.heap.get? a = some o → Up s₂.heap a o := fun a o q => (up1 a o q).trans fun o' e' => x₂.gr.keep a o' e'
  obtain ⟨g', f1, f2, x⟩ := frame_back (g₂ := g₂) (s₂ := { s₂ with heap := h' }) k hb (fun a o q => x₂.gr.led a o (by rw [hgl]; exact q)) (fun a o q => x₂.gr.kp a o (by rw [hgk]; exact q))
    (fun a o q => (x₂.gr.newled a o q).elim (fun q => .inl (by rw [hgl] at q; exact q)) fun q => .inr (none_of_up up1 q.1)) k₂ I₂.base.ok (by
      show { s₂ with heap := h' } = _
      rw [x₂.eq, hs₁]) (Nat.le_trans htk x₂.tk)
  have gone : ∀ a, s.heap.get? a = none → g₂.kp a = none → g'.kp a = none := fun a q1 q2 => by
    rw [f2]
    have : g₂.led a = none := by
      cases q : g₂.led a with
      | none => rfl
      | some o => have := g₂.sub _ _ q; rw [q2] at this; cases this
    rw [this]
    show g.kp a = none
    cases q : g.kp a with
    | none => rfl
    | some o => exact ((k.1 a o q).no q1).elim
  have new' : s.heap.get? T' = none := none_of_up up2 hnew
  refine c e g' _ x ⟨none_of_up up1 e1, gone e (none_of_up up1 e1) e2, t, .ref T', tk, ot, n, he', ht', fun T q => ?_, (hup t ot tof.1 tof.2 h6).1.get (plain_seq h8), h7, h8⟩
  cases q
  refine ⟨new', gone T' new' ?_⟩
  cases q : g₂.kp T' with
  | none => rfl
  | some o => exact ((I₂.1.kp T' o q).no hnew).elim
end
end Mine
namespace Mine

section
variable {C : Cx} {A : Around} {env : Env} {ws : List Addr} {σ τ : Sto} {Cl : Value} {x : Str}

/-- the frame's name space is written anew -/
theorem InvS.newNs {g : Gh} {s : Shared} {h' : Heap} {tk' : Nat} {m' : Str → Option Value} (I : InvS C env ws σ g s) (hn' : h'.Ns env.locals m') (hs : Heap.SameBut env.locals s.heap h') (htk : s.toks ≤ tk')
    (hm' : ∀ x sl, env.kindOf x = some .local → τ x = some sl → ∃ v, m' x = some v ∧ Holds g s.heap v sl) (hτ : Sub τ σ) : InvS C env ws τ g { s with heap := h', toks := tk' } := by
  obtain ⟨J, ht⟩ := I
  obtain ⟨m, hn, hm⟩ := J.ns
  obtain ⟨oL, es, ep, hL, hLd, hL2, hL3⟩ := id hn
  have but : ∀ {w sl'}, Holds g s.heap w sl' → Holds g h' w sl' := fun k => k.but hL hs (.inr fun vs n => by rw [hLd]; exact fun e => by cases e)
  have keep : ∀ b o, b ≠ env.locals → s.heap.get? b = some o → h'.get? b = some o := fun b o hb e => (hs.2 b hb).trans e
  have hkL : ∀ a o, g.kp a = some o → a ≠ env.locals := fun a o e q => by rw [q, J.mt.1] at e; cases e
  refine ⟨⟨J.base, J.ok, J.fr.own hn' keep, fun a o e => keep a o (hkL a o (g.sub _ _ e)) (J.led a o e), fun a o e => (J.kp a o e).trans fun o' e' => .of (keep a o' (hkL a o e) e'), ⟨m', hn', fun y sl hy hs' => ?_⟩, fun y sl hy hs' => ?_, fun c hc => ?_, J.mt, J.inj, fun y z a ds es h1 h2 => J.own y z a ds es (hτ _ _ h1) (hτ _ _ h2)⟩, (ht.sub hτ).up htk⟩
  · obtain ⟨v, e1, e2⟩ := hm' y sl hy hs'
    exact ⟨v, e1, but e2⟩
  · obtain ⟨k, c, w, e1, ⟨oc, e2, e2'⟩, e3, e4⟩ := J.cl y sl hy (hτ _ _ hs')
    refine ⟨k, c, w, e1, ⟨oc, keep c oc ?_ e2, e2'⟩, but e3, e4⟩
    rintro rfl; rw [hL] at e2; cases e2; rw [hLd] at e2'; cases e2'
  · obtain ⟨w, oc, e2, e2'⟩ := J.wc c hc
    refine ⟨w, oc, keep c oc ?_ e2, e2'⟩
    rintro rfl; rw [hL] at e2; cases e2; rw [hLd] at e2'; cases e2'

theorem flight_off {M : Model} {s : Shared} {e t T : Addr} {Q : Unit → Shared → Prop} {E : Value → Shared → Prop} (he : ExcAt s.heap e t Cl (.ref T)) (ht : TbOk s.heap e (.ref T))
    (h : ∀ h', ExcAt h' e t Cl (.ref T) → (∀ a o, a ≠ T → s.heap.get? a = some o → h'.get? a = some o) → Q () { s with heap := h' }) : wpAny M A (setFlight (.ref e) none) Q E s := by
  rcases ht with q | ⟨T', oT, ts, q, hTe, hT, hdT, h3⟩
  · cases q
  cases q
  unfold setFlight
  refine wpAny_bind (wpAny_field he rfl (x := .ref T) rfl ?_)
  rw [if_pos (show (Value.ref T != Value.none) = true from by simp)]
  refine wpAny_setField hT hdT (Array.getElem?_eq_some_iff.mp h3).1 (h _ ?_ fun a o ha q => (Heap.get?_update_other _ _ (Ne.symm ha)).trans q)
  exact (Heap.get?_update_other _ _ hTe).trans he

/-- a step that writes objects of wr alone, none of which values speak of -/
theorem InvS.wrote {g : Gh} {s : Shared} {h' : Heap} (wr : List Addr) (I : InvS C env ws σ g s) (off : Off C env ws σ wr) (hw : ∀ b ∈ wr, g.kp b = none) (k : ∀ a o, a ∉ wr → s.heap.get? a = some o → Upx C.fr h' a o) : GrowBut wr g s g { s with heap := h' } ∧ InvS C env ws σ g { s with heap := h' } := by
  have b : GrowBut wr g s g { s with heap := h' } := ⟨fun a o ha e => (k a o ha e).1, fun a o l ha e => (k a o ha e).2 (led_off I.base I.kp l), fun _ _ e => e, fun _ _ e => e, fun _ _ e => .inl e, fun _ _ e => .inl e, rfl, Nat.le_refl _⟩
  exact ⟨b, I.but b off hw⟩

theorem ex_try_ok {body orelse : List Stmt} {h₀ : ExceptHandler} {hs : List ExceptHandler} {pos : Pos} {P : Out → Prop} (h : Ex C A env ws σ body fun o => match o with | .next τ => Ex C A env ws τ orelse P | o => P o) :
    Ex1 C A env ws σ (.Try body (h₀ :: hs) orelse [] pos) P :=
  fun g s Q E I c => wpAny_Try_except (h g s _ _ I fun o fl g' s' p x f => by
    cases o with
    | next τ => obtain ⟨rfl, J⟩ := f; exact p g' s' Q E J fun o fl g₂ s₂ p₂ x₂ f₂ => c o fl g₂ s₂ p₂ (x.trans x₂) f₂
    | brk τ => obtain ⟨rfl, J⟩ := f; exact c _ _ _ _ p x ⟨rfl, J⟩
    | cont τ => obtain ⟨rfl, J⟩ := f; exact c _ _ _ _ p x ⟨rfl, J⟩
    | ret d => obtain ⟨v, rfl, hv⟩ := f; exact c _ _ _ _ p x ⟨v, rfl, hv⟩)

/-- try: .. except OWN as n: return [e, str(n)] -/
theorem ex_try_refused {outer : List Env} {a : Addr} {X n : Str} {body orelse : List Stmt} {hs : List ExceptHandler} {np sp rp cp lp tp hp pos : Pos} {e₁ : Expr} {d₁ : D} {sc : Scope} {P : Out → Prop}
    (K : EnvOk sc env) (hCfr : C.fr = env :: outer) (hfr : A.frames = some C.fr) (hu : A.units + 100 < cLine) (O : ExcCls C.mg C.h₀ X a) (hbody : ExX C A env ws σ body (.ref a) x)
    (h₁ : ∀ e, Ev C (A.mark (some (.ref e))) env ws Sto.nil e₁ d₁) (hX : sc.names.lookup X = some .globalImplicit) (hn : sc.names.lookup n = some .local) (hstr : C.mg "str" = none) (hS : sc.names.lookup ("str" : Str) = some .globalImplicit)
    (h : P (.ret (.list [d₁, .str x])))
    (hXd : (X == ("__debug__" : Str)) = false := by decide) (hnd : (n == ("__debug__" : Str)) = false := by decide)
    (he₁ : ∀ env, starEach [e₁, .Call (.Name "str" sp) [.Name n rp] [] cp] env = (false, eval e₁ env) :: starEach [.Call (.Name "str" sp) [.Name n rp] [] cp] env := by intro _; rfl) :
    Ex1 C A env ws σ (.Try body (.ExceptHandler (some (.Name X np)) (some n) [.Return (some (.List [e₁, .Call (.Name "str" sp) [.Name n rp] [] cp] lp)) tp] hp :: hs) orelse [] pos) P := by
  intro g s Q E I c
  refine wpAny_Try_except (hbody g s _ _ I fun e g₁ s₁ x₁ fl => ?_)
  obtain ⟨e1, e2, t, tb, tk, ot, nn, h3, h4, h5, h6, h7, h8⟩ := fl
  have I₁ := I.grow x₁
  have tof := tup_off h3 h4 h6 h8
  have FR : FrOk C.h₀ s₁.heap (env :: outer) := hCfr ▸ I₁.1.fr
  refine passes (hCfr ▸ hfr) FR h3 h4 fun h' T' he' ht' hup hnew => ?_
  have h6' := (hup t ot tof.1 tof.2 h6).1.get (plain_seq h8)
  obtain ⟨wr, hwr, hwr1, hwr2⟩ : ∃ wr : List Addr, (∀ a, a ∉ wr → a ≠ e ∧ tb ≠ .ref a) ∧ (∀ b ∈ wr, s.heap.get? b = none) ∧ (∀ b ∈ wr, g₁.kp b = none) := by
    cases tb with
    | ref T =>
      refine ⟨[e, T], fun b hb => ?_, fun b hb => ?_, fun b hb => ?_⟩
      · simp only [List.mem_cons, List.not_mem_nil, or_false, not_or] at hb
        exact ⟨hb.1, fun q => by cases q; exact hb.2 rfl⟩
      · simp only [List.mem_cons, List.not_mem_nil, or_false] at hb
        rcases hb with rfl | rfl
        · exact e1
        · exact (h5 _ rfl).1
      · simp only [List.mem_cons, List.not_mem_nil, or_false] at hb
        rcases hb with rfl | rfl
        · exact e2
        · exact (h5 _ rfl).2
    | _ =>
      refine ⟨[e], fun b hb => ⟨fun q => hb (by simp [q]), fun q => by cases q⟩, fun b hb => ?_, fun b hb => ?_⟩
      · rw [List.mem_singleton.mp hb]; exact e1
      · rw [List.mem_singleton.mp hb]; exact e2
  have off₁ := I.fresh_off hwr1
  obtain ⟨b₂, I₂⟩ := I₁.wrote wr off₁ hwr2 fun b o hb q => hCfr ▸ hup b o (hwr b hb).1 (hwr b hb).2 q
  have off₂ : Off C env ws σ [T'] := I₁.fresh_off fun b hb => by rw [List.mem_singleton.mp hb]; exact hnew
  have kT : ∀ b ∈ [T'], g₁.kp b = none := fun b hb => by
    rw [List.mem_singleton.mp hb]
    cases q : g₁.kp T' with
    | none => rfl
    | some o => exact ((I₁.1.kp T' o q).no hnew).elim
  have hkl : env.kindOf n = some .local := K.at hn
  have hp : (env.scope.kind == .class || (env.scope.kind == .module && env.locals != env.globals)) = false := by rw [K.k]; rfl
  refine wpAny_handleBy_cons (codeAny_handlers_test (Calls.Name_function_global K.k (K.at hX) (Calls.loadGlobal_global (mg := C.mg) (I₂.globals K.globals) O.bound ?_) hXd)) (by intro q; cases q)
  have O₂ := O.keeps (h' := h') fun b o q => I₂.old q
  obtain ⟨tl, N, nm, q, bs, hdct, sn, sub, ab, col, dd, k0, k1, k2, k3, k5, mN, hC, hN, hni, hns, T, T''⟩ := id O₂.obj
  refine wpAny_excMatches_sub_self hC he' rfl (T.hasType (by rfl)) (codeAny_handlers_suite_as ?_)
  refine flight_off he' ht' fun h₃ he₃ hk₃ => ?_
  obtain ⟨b₃, I₃⟩ := I₂.wrote (h' := h₃) [T'] off₂ kT fun b o hb q => ⟨.of (hk₃ b o (fun z => hb (by simp [z])) q), fun _ => hk₃ b o (fun z => hb (by simp [z])) q⟩
  have tne : t ≠ T' := (tup_off he' ht' h6' h8).2 ∘ fun q => by rw [q]
  have h6₃ := hk₃ t ot tne h6'
  obtain ⟨m, hm, hml⟩ := I₃.1.ns
  refine wpAny_storeName_local hkl hm (fun h₄ hn₄ hs₄ => ?_) hp
  have I₄' := InvS.newNs (τ := Sto.nil) (tk' := s₁.toks + 1) I₃ hn₄ hs₄ (Nat.le_succ _) (fun _ _ _ q => by cases q) Sub.nil
  have I₄ : InvS C env ws Sto.nil g₁ { s₁ with heap := h₄, toks := s₁.toks + 1 } := I₄'
  obtain ⟨oL, es, ep, hL, hLd, _⟩ := id hm
  have eL : e ≠ env.locals := by
    rintro rfl
    have he₃' : h₃.get? env.locals = _ := he₃
    have hL' : h₃.get? env.locals = _ := hL
    rw [he₃'] at hL'; cases hL'; cases hLd
  have tL : t ≠ env.locals := by
    rintro rfl
    have hL' : h₃.get? env.locals = _ := hL
    rw [h6₃] at hL'; cases hL'; rw [h8] at hLd; cases hLd
  have he₄ : h₄.get? e = _ := (hs₄.2 e eL).trans he₃
  have h6₄ : h₄.get? t = _ := (hs₄.2 t tL).trans h6₃
  refine wpAny_execs_cons (wpAny_Return_some (wpAny_List (wpAny_items_cons (h₁ e g₁ _ _ _ I₄ fun v₅ g₅ s₅ x₅ w₅ => ?_) (he₁ env))))
  have I₅ := I₄.grow x₅
  have hn₅ : s₅.heap.Ns env.locals _ := Up.ns hn₄ fun o q => x₅.gr.keep _ o q
  have he₅ := (x₅.gr.keep _ _ he₄).get (plain_fields rfl)
  have h6₅ := (x₅.gr.keep _ _ h6₄).get (plain_seq h8)
  refine wpAny_items_cons (wpAny_Call_NameR (Calls.Name_function_global K.k (K.at hS) (Calls.loadGlobal_builtin (mg := C.mg) (mb := C.mb) (I₅.globals K.globals) hstr (I₅.builtins K.builtins) ((C.boot "str" (by decide)).trans (by decide +kernel))
    (callWith_type1 (T := "str") (wpAny_items_cons (wpAny_Name (wpAny_loadName_local K.k hkl hn₅ (v := .ref e) (by simp) (wpAny_items_nil ?_)) hnd) rfl) rfl rfl)) (by decide))) rfl
  refine str_of_own (by show A.units + 2 < cLine; omega) (O.keeps (h' := s₅.heap) fun b o q => I₅.old q) he₅ rfl rfl rfl ⟨ot, nn, h6₅, h7, h8⟩ (wpAny_items_nil ?_)
  refine ⟨by show 2 ≤ sizeLine; decide, ?_⟩
  have push := Cont.push (g := g₅) (s := s₅) (d := .list [d₁, .str x]) (Q := fun v s' => ∃ g', GrowS g₅ s₅ g' s' ∧ Val g'.led v (.list [d₁, .str x])) (fun v g' s' x hv => ⟨g', x, hv⟩) I₅.kp { cls := .type "list", data := .seq [v₅, .str x tk].toArray } rfl fun g' hl hn => .list hn rfl rfl (.cons (w₅.mono hl) (.cons (.str _ _) .nil))
  obtain ⟨g₆, x₆, w₆⟩ := push
  have I₆ := I₅.grow x₆
  have hn₆ := Up.ns hn₅ fun o q => x₆.gr.keep _ o q
  refine wpAny_nameGoes hkl hn₆ hp fun h₇ m₇ hn₇ hs₇ => ?_
  have I₇ := InvS.newNs (τ := Sto.nil) (tk' := s₅.toks + 1) I₆ hn₇ hs₇ (Nat.le_succ _) (fun _ _ _ q => by cases q) Sub.nil
  have X := x₅.trans x₆
  refine c _ _ g₆ _ h ((x₁.step I.kp).trans ((b₂.step I₁.kp).trans ((b₃.step I₂.kp).trans ((?_ : Step g₁ _ g₁ _).trans ((X.step I₄.kp).trans ?_))))) ⟨_, rfl, w₆, I₇.kp, I₇.base, fun y B q => by cases q⟩
  · exact ⟨.refl _, rfl, Nat.le_succ _⟩
  · refine ⟨.refl _, ?_, Nat.le_succ _⟩
    rfl
theorem fnx_at {p : Program} {i : Nat} {y : Str} {f : Addr} {ds : List D} {k : Nat} (D : DefIn C p i y f) (hr : RoomA A (k + 1)) (hfr : A.frames = some C.fr) (names : List Str)
    (hbind : ∀ (pm code doc : Value) (vs : List Value), vs.length = names.length → bindArgs (Calls.docDef y (argsAt p i) (bodyAt p i) (scAt p i) pm code doc) ⟨vs, []⟩ = pure (names.zip vs))
    (hlen : ds.length = names.length) (hnb : ∀ d ∈ ds, NoB d)
    (hbody : ∀ A' env ws, RoomA A' k → EnvOk (scAt p i) env → CellsOk' (scAt p i) env ws → ExX (C.push env) A' env ws (stoOf names ds) (bodyAt p i) Cl x)
    (hnames : (names.all fun x => (scAt p i).names.lookup x == some .local || (scAt p i).names.lookup x == some .cell) = true := by decide +kernel) (hnd : names.Nodup := by decide +kernel)
    (hk : (scAt p i).kind = .function := by decide +kernel) (hco : (scAt p i).isCoroutine = false := by decide +kernel) (hgen : (scAt p i).isGenerator = false := by decide +kernel) : FnX C A (.ref f) ds Cl x := by
  obtain ⟨o, pm, code, doc, h1, h2, h3⟩ := D.at'
  refine fn_raise names h1 h2 h3 (by have := hr.dp; omega) (hbind pm code doc) (fun x hx => ?_) hnd hlen hk hco hgen hfr hnb fun env ws K W => hbody _ env ws (hr.deeper env) K W
  have := List.all_eq_true.mp hnames x hx
  simpa using this
end
end Mine
namespace Mine

theorem Sub.both {σ τ : Sto} {x : Str} {s : Slot} (h : Sub σ τ) : Sub (σ.set x s) (τ.set x s) := fun y t k => by
  unfold Sto.set at k ⊢
  by_cases q : y = x
  · simp only [q, if_true] at k ⊢; exact k
  · simp only [q, if_false] at k ⊢; exact h y t k
theorem Sub.trans {σ τ υ : Sto} (h : Sub σ τ) (k : Sub τ υ) : Sub σ υ := fun x s e => k x s (h x s e)
section
variable {C : Cx} {A : Around} {env : Env} {ws : List Addr} {σ τ : Sto}
theorem evb_sub {e : Expr} {b : Bool} (hs : Sub τ σ) (h : EvB C A env ws τ e b) : EvB C A env ws σ e b := fun g s Q E I => h g s Q E ⟨I.1.sub hs, I.2.sub hs⟩
theorem ev_subs {e : Expr} {d : D} (hs : Sub τ σ) (h : Ev C A env ws τ e d) : Ev C A env ws σ e d := fun g s Q E I => h g s Q E ⟨I.1.sub hs, I.2.sub hs⟩
end

section
variable {C : Cx} {A : Around} {env : Env} {ws : List Addr} {σ : Sto}
theorem evl_str {x : Str} {k : Nat} {pos : Pos} {es : List Expr} {ds : List D} (hr : EvL C A env ws σ es ds) : EvL C A env ws σ (.Constant (.str x) k pos :: es) (.str x :: ds) := evl_cons ev_str hr rfl
theorem evl_int {i : Int} {k : Nat} {pos : Pos} {es : List Expr} {ds : List D} (hr : EvL C A env ws σ es ds) : EvL C A env ws σ (.Constant (.int i) k pos :: es) (.int i :: ds) := evl_cons ev_int hr rfl
theorem evl_tup {ts : List Expr} {k : Nat} {pos : Pos} {es : List Expr} {d : D} {ds : List D} (h : Ev C A env ws σ (.Tuple ts k pos) d) (hr : EvL C A env ws σ es ds) : EvL C A env ws σ (.Tuple ts k pos :: es) (d :: ds) := evl_cons h hr rfl
theorem evl_name {x : Str} {pos : Pos} {es : List Expr} {d : D} {ds : List D} (h : Ev C A env ws σ (.Name x pos) d) (hr : EvL C A env ws σ es ds) : EvL C A env ws σ (.Name x pos :: es) (d :: ds) := evl_cons h hr rfl
theorem evl_bin {l r : Expr} {op : Operator} {pos : Pos} {es : List Expr} {d : D} {ds : List D} (h : Ev C A env ws σ (.BinOp l op r pos) d) (hr : EvL C A env ws σ es ds) : EvL C A env ws σ (.BinOp l op r pos :: es) (d :: ds) := evl_cons h hr rfl
end
def pickL {α : Type} (l : List α) (lo hi st : Option Int) : List α := (sliceRange (sliceBounds lo hi st l.length).1 (sliceBounds lo hi st l.length).2.1 (sliceBounds lo hi st l.length).2.2).filterMap (l[·]?)
theorem pickD_map {α : Type} (f : α → D) (l : List α) (lo hi st : Option Int) : pickD (l.map f) lo hi st = (pickL l lo hi st).map f := by
  unfold pickD pickL
  rw [List.length_map]
  generalize sliceRange _ _ _ = idx
  induction idx with
  | nil => rfl
  | cons k idx ih =>
    rw [List.filterMap_cons, List.filterMap_cons, List.getElem?_map]
    cases l[k]? with
    | none => exact ih
    | some v => show f v :: _ = f v :: _; rw [ih]

mutual
theorem eqv_toP : ∀ d : D, PyData.eqv (toP d) (toP d) = true
  | .none => by rw [toP, PyData.eqv]
  | .bool b => by rw [toP, PyData.eqv]; simp
  | .int i => by rw [toP, PyData.eqv]; simp
  | .str x => by rw [toP, PyData.eqv]; simp
  | .strn x => by rw [toP, PyData.eqv]; simp
  | .strb x B => by rw [toP, PyData.eqv]; simp
  | .tuple ds => by rw [toP, PyData.eqv]; exact eqv_toPs ds
  | .list ds => by rw [toP, PyData.eqv]; exact eqv_toPs ds
theorem eqv_toPs : ∀ ds : List D, PyData.eqvAll (toPs ds) (toPs ds) = true
  | [] => by rw [toPs, PyData.eqvAll]
  | d :: ds => by rw [toPs, PyData.eqvAll, eqv_toP d, eqv_toPs ds]; rfl
end

/-- no white space from 12289 on -/
theorem within_last : ∀ (l : List (Nat × Nat)) (m c : Nat), (l.all fun p => decide (p.1 ≤ m) && decide (p.2 < m)) = true → m ≤ c → Unicode.within l c = false
  | [], m, c, _, _ => rfl
  | (a, b) :: r, m, c, h, hc => by
    rw [List.all_cons, Bool.and_eq_true, Bool.and_eq_true] at h
    have h1 := of_decide_eq_true h.1.1
    have h2 := of_decide_eq_true h.1.2
    dsimp only at h1 h2
    unfold Unicode.within
    rw [if_neg (by omega), decide_eq_false (by omega), within_last r m c h.2 hc]; rfl
theorem noSpace {c : Nat} (h : 19968 ≤ c) : Unicode.isSpace c = false := within_last _ 12289 c (by decide +kernel) (by omega)

theorem slice_tail1 (l : List Nat) : Txt.slice (S l) (some (-1)) none = S (l.drop (l.length - 1)) := by
  rw [slice_S]
  have h1 : loOf (some (-1)) l.length = l.length - 1 := by simp only [loOf]; omega
  have h2 : hiOf none l.length = l.length := rfl
  rw [h1, h2, List.take_of_length_le (by rw [List.length_drop]; omega)]
theorem p257_len : ∀ l : List Nat, (p257 l).length ≤ l.length
  | [] => by simp [p257]
  | [c] => by
    unfold p257
    split <;> simp
  | c :: c' :: r => by
    unfold p257
    split
    · split
      · have := p257_len r
        simp only [List.length_cons]; omega
      · simp
    · have := p257_len (c' :: r)
      simp only [List.length_cons] at this ⊢; omega
def rp (n : Nat) : List Nat := List.replicate n 34
theorem rp_len (n : Nat) : (rp n).length = n := List.length_replicate
theorem mulOk_q {n : Nat} (hn : n ≤ 1000) : MulOk (Str.ofString "\"") ((n : Nat) : Int) := by rw [qq]; exact mulOk_one 34 (by omega) (by omega)
theorem mul_q (n : Nat) : Txt.mul (Str.ofString "\"") ((n : Nat) : Int) = S (rp n) := by rw [qq, mul_S]; rfl
theorem qz : Str.ofString "z" = S [122] := by decide +kernel
theorem q257q : Str.ofString "257 \"" = S [50, 53, 55, 32, 34] := by decide +kernel
end Mine
namespace Mine
open PySem.StrLaws PySem.Builtin.Str

/-! replace, split, join, strip, in plain lists -/
theorem S_toList (l : List Nat) : (S l).cps.toList = l := by show l.toArray.toList = l; rw [List.toList_toArray]
def repK (y z : List Nat) : Nat → List Nat → List Nat
  | _, [] => []
  | k + 1, c :: r => repK y z k r
  | 0, c :: r => if y.isPrefixOf (c :: r) then z ++ repK y z (y.length - 1) r else c :: repK y z 0 r
theorem repK_skip (y z : List Nat) : ∀ (k : Nat) (l : List Nat), repK y z k l = repK y z 0 (l.drop k)
  | 0, l => rfl
  | k + 1, [] => by simp [repK]
  | k + 1, c :: r => by
    show repK y z k r = _
    rw [repK_skip y z k r]; rfl
theorem prefix_at {l y : List Nat} {k : Nat} (hk : k + y.length ≤ l.length) : y.isPrefixOf (l.drop k) = subAt (S l) (S y) k := by
  rw [subAt_eq, S_toList, S_toList, S_len, Bool.eq_iff_iff, beq_iff_eq, List.isPrefixOf_iff_prefix, List.prefix_iff_eq_take]
  exact eq_comm
theorem not_prefix {l y : List Nat} {k : Nat} (hy : 1 ≤ y.length) (h : ¬ At (S l) (S y) l.length k) : y.isPrefixOf (l.drop k) = false := by
  cases q : y.isPrefixOf (l.drop k) with
  | false => rfl
  | true =>
    exfalso
    have hp := List.isPrefixOf_iff_prefix.mp q
    have hle := hp.length_le
    rw [List.length_drop] at hle
    have hk : k + y.length ≤ l.length := by omega
    exact h ⟨by rw [S_len]; exact hk, by rw [← prefix_at hk]; exact q⟩
theorem repK_gap {l y z : List Nat} {b : Nat} (hy : 1 ≤ y.length) (hb : b ≤ l.length) : ∀ (m a : Nat), a + m = b → (∀ k, a ≤ k → k < b → ¬ At (S l) (S y) l.length k) → repK y z 0 (l.drop a) = (l.drop a).take m ++ repK y z 0 (l.drop b)
  | 0, a, e, _ => by
    have : a = b := by omega
    subst this; simp
  | m + 1, a, e, h => by
    have hlt : a < l.length := by omega
    have hd := List.drop_eq_getElem_cons hlt
    have hn := not_prefix hy (h a (Nat.le_refl _) (by omega))
    have ih := repK_gap (z := z) hy hb m (a + 1) (by omega) fun k h1 h2 => h k (by omega) h2
    rw [hd] at hn ⊢
    rw [repK, hn]
    simp only [Bool.false_eq_true, if_false, List.take_succ_cons, List.cons_append]
    rw [ih]
theorem repK_at {l y z : List Nat} {c : Nat} (hy : 1 ≤ y.length) (h : At (S l) (S y) l.length c) : repK y z 0 (l.drop c) = z ++ repK y z 0 (l.drop (c + y.length)) := by
  have hk : c + y.length ≤ l.length := by have := h.1; rw [S_len] at this; exact this
  have hlt : c < l.length := by omega
  have hp : y.isPrefixOf (l.drop c) = true := by rw [prefix_at hk]; exact h.2
  have hd := List.drop_eq_getElem_cons hlt
  rw [hd] at hp ⊢
  rw [repK, hp, if_pos rfl, repK_skip, List.drop_drop]
  congr 2
  have : c + 1 + (y.length - 1) = c + y.length := by omega
  rw [this]
theorem join_S (z p q : Str) (r : List Str) : Str.join z (p :: q :: r) = p ++ z ++ Str.join z (q :: r) := rfl
theorem sub_S (l : List Nat) (a b : Nat) : strSub (S l) a b = S ((l.drop a).take (b - a)) := by
  apply Str.ext'
  apply Array.toList_inj.mp
  rw [strSub_toList, S_toList, S_toList]
theorem join_parts {l y z : List Nat} (hy : 1 ≤ y.length) : ∀ (cuts : List Nat) (a f : Nat), a ≤ l.length → ChainG (S l) (S y) l.length a cuts f → (∀ k, f ≤ k → ¬ At (S l) (S y) l.length k) →
    Str.join (S z) (partsFrom (S l) y.length a cuts) = S (repK y z 0 (l.drop a))
  | [], a, f, ha, h, hn => by
    have e : f = a := h
    subst e
    show strSub (S l) f (S l).length = _
    rw [S_len, sub_S]
    have := repK_gap (z := z) hy (Nat.le_refl l.length) (l.length - f) f (by omega) fun k h1 _ => hn k h1
    rw [this]
    have e2 : l.drop l.length = [] := List.drop_eq_nil_of_le (Nat.le_refl _)
    rw [e2]
    simp [repK]
  | c :: r, a, f, ha, h, hn => by
    obtain ⟨h1, h2, h3, h4⟩ := h
    have hk : c + y.length ≤ l.length := by have := h2.1; rw [S_len] at this; exact this
    rw [S_len] at h4
    obtain ⟨p, q, hpq⟩ := partsFrom_ne (S l) y.length (c + y.length) r
    have ih := join_parts (z := z) hy r (c + y.length) f hk h4 hn
    show Str.join (S z) (strSub (S l) a c :: partsFrom (S l) y.length (c + y.length) r) = _
    rw [hpq] at ih ⊢
    rw [join_S, ih, sub_S, repK_gap (z := z) hy (show c ≤ l.length by omega) (c - a) a (by omega) h3, repK_at hy h2]
    rw [S_append, S_append, List.append_assoc]
theorem replace_S (l y z : List Nat) (hy : 1 ≤ y.length) : Txt.replace (S l) (S y) (S z) = S (repK y z 0 l) := by
  obtain ⟨f, hG, hn⟩ := occ_tight (S l) (S y) (by rw [S_len]; exact hy)
  have key := join_parts (z := z) hy _ 0 f (Nat.zero_le _) (by rw [S_len] at hG; exact hG) (fun k h => by have := hn k h; rw [S_len] at this; exact this)
  rw [List.drop_zero] at key
  unfold Txt.replace
  rw [glued_eq_join, partsBetween_eq]
  split
  · rename_i hc
    rw [S_len, S_len, S_len, Bool.or_eq_true] at hc
    rcases hc with hc | hc
    · rw [List.isEmpty_iff] at hc
      rw [← key, hc]
      show S l = strSub (S l) 0 (S l).length
      rw [S_len, sub_S]; simp
    · simp at hc
      have := hc.1
      subst this
      simp at hy
  · rw [S_len, S_len] at *
    exact key
/-- one sign for a text -/
theorem repK_one (a : Nat) (z : List Nat) : ∀ l : List Nat, repK [a] z 0 l = l.flatMap fun c => if c = a then z else [c]
  | [] => rfl
  | c :: r => by
    rw [repK, List.flatMap_cons]
    have h1 : ([a].isPrefixOf (c :: r)) = decide (c = a) := by
      simp [List.isPrefixOf]
      by_cases q : a = c
      · simp [q]
      · simp [q, Ne.symm q]
    rw [h1]
    have ih := repK_one a z r
    by_cases q : c = a
    · rw [decide_eq_true q, if_pos rfl, if_pos q]
      show z ++ repK [a] z 0 r = _
      rw [ih]
    · rw [decide_eq_false q, if_neg q, ih]; rfl
theorem replace_one (l z : List Nat) (a : Nat) : Txt.replace (S l) (S [a]) (S z) = S (l.flatMap fun c => if c = a then z else [c]) := by
  rw [replace_S l [a] z (Nat.le_refl 1), repK_one]

theorem takeWhile_all {p : Nat → Bool} : ∀ {l : List Nat}, (∀ c ∈ l, p c = true) → l.takeWhile p = l
  | [], _ => rfl
  | c :: r, h => by rw [List.takeWhile_cons, h c List.mem_cons_self, if_pos rfl, takeWhile_all fun d hd => h d (List.mem_cons_of_mem _ hd)]
/-- the first part of a cut at one sign -/
theorem split_head (l : List Nat) (a : Nat) (ha : a < 256) : (Txt.split (S l) (S [a]))[0]? = some (S (l.takeWhile fun c => decide (c ≠ a))) := by
  obtain ⟨f, hG, hn⟩ := occ_tight (S l) (S [a]) (Nat.le_refl 1)
  rw [S_len] at hG
  have free : ∀ b, b ≤ l.length → (∀ k, k < b → ¬ At (S l) (S [a]) l.length k) → ∀ c ∈ l.take b, decide (c ≠ a) = true := by
    intro b hb hk c hc
    apply decide_eq_true
    rintro rfl
    obtain ⟨j, hj⟩ := List.getElem?_of_mem hc
    have hjb : j < b := by
      have := (List.getElem?_eq_some_iff.mp hj).1
      rw [List.length_take] at this; omega
    rw [List.getElem?_take_of_lt hjb] at hj
    have hj' : (S l).cps.toList[j]? = some c := by rw [S_toList]; exact hj
    have hA : At (S l) (S [c]) (S l).length j := (subAt_one (S l) c j).mpr hj'
    rw [S_len] at hA
    exact hk j hjb hA
  unfold Txt.split
  have hkind : Builtin.Str.strKind (S [a]) = 1 := by
    unfold Builtin.Str.strKind
    rw [if_pos (by show ([a].toArray).all (fun c => decide (c < 256)) = true; simp [ha])]
  split
  · rename_i hc
    rw [hkind, Bool.or_eq_true, decide_eq_true_eq, decide_eq_true_eq, S_len, S_len] at hc
    rcases hc with h | h
    · have : l = [] := List.eq_nil_of_length_eq_zero (by rw [List.length_singleton] at h; omega)
      subst this; rfl
    · exfalso
      unfold Builtin.Str.strKind at h
      split at h
      · omega
      · split at h <;> omega
  · split
    · rename_i he
      rw [List.isEmpty_iff] at he
      rw [S_len] at he
      rw [he] at hG
      have ef : f = 0 := hG
      subst ef
      have := free l.length (Nat.le_refl _) fun k _ => by have := hn k (Nat.zero_le _); rw [S_len] at this; exact this
      rw [List.take_length] at this
      rw [takeWhile_all this]; rfl
    · rename_i he
      rw [S_len] at he ⊢
      rw [partsBetween_eq]
      revert hG he
      generalize occurrences (S l) (S [a]) 0 l.length (l.length + 1) = cuts
      intro hG he
      cases cuts with
      | nil => exact absurd rfl he
      | cons c r =>
        obtain ⟨h1, h2, h3, h4⟩ := hG
        have hk : c + 1 ≤ l.length := by have := h2.1; exact this
        show some (strSub (S l) 0 c) = _
        rw [sub_S, List.drop_zero, Nat.sub_zero]
        have hc : l[c]? = some a := by
          have hA : At (S l) (S [a]) (S l).length c := by rw [S_len]; exact h2
          have := (subAt_one (S l) a c).mp hA
          rw [S_toList] at this; exact this
        have hpre := free c (by omega) fun k hk => h3 k (Nat.zero_le _) hk
        have e : l = l.take c ++ a :: l.drop (c + 1) := by
          conv => lhs; rw [← List.take_append_drop c l, List.drop_eq_getElem_cons (show c < l.length by omega)]
          rw [(List.getElem?_eq_some_iff.mp hc).2]
        congr 2
        conv => rhs; rw [e]
        rw [List.takeWhile_append_of_pos hpre, List.takeWhile_cons, decide_eq_false (by simp)]
        simp
theorem join_ones : ∀ l : List Nat, Txt.join (S []) (l.map fun c => S [c]) = S l
  | [] => rfl
  | [c] => rfl
  | c :: d :: r => by
    have ih := join_ones (d :: r)
    unfold Txt.join at ih ⊢
    rw [glued_eq_join] at ih ⊢
    show S [c] ++ S [] ++ Str.join (S []) ((d :: r).map fun c => S [c]) = _
    rw [ih, S_append, S_append]; rfl
theorem join_cons (z p q : List Nat) (r : List (List Nat)) : Txt.join (S z) ((p :: q :: r).map S) = S (p ++ z) ++ Txt.join (S z) ((q :: r).map S) := by
  unfold Txt.join
  rw [glued_eq_join, glued_eq_join]
  show S p ++ S z ++ Str.join (S z) ((q :: r).map S) = _
  rw [S_append]
theorem join_single (z p : List Nat) : Txt.join (S z) ([p].map S) = S p := rfl

/-! strip -/
def stripL (l : List Nat) : List Nat := ((l.dropWhile Unicode.isSpace).reverse.dropWhile Unicode.isSpace).reverse
theorem drop_takeWhile (p : Nat → Bool) : ∀ l : List Nat, l.drop (l.takeWhile p).length = l.dropWhile p
  | [] => rfl
  | c :: r => by
    rw [List.takeWhile_cons, List.dropWhile_cons]
    cases p c with
    | true => simp [drop_takeWhile p r]
    | false => rfl
theorem take_rev (p : Nat → Bool) (m : List Nat) : m.take (m.length - (m.reverse.takeWhile p).length) = (m.reverse.dropWhile p).reverse := by
  have h := drop_takeWhile p m.reverse
  rw [← h, List.drop_reverse, List.reverse_reverse]
theorem strip_is (l : List Nat) : Txt.strip (S l) = S (stripL l) := by
  unfold Txt.strip Txt.stripBy
  have hlo : stripLo Unicode.isSpace true (S l) = (l.takeWhile Unicode.isSpace).length := by
    unfold stripLo; rw [if_pos rfl, S_toList]
  have hle : (l.takeWhile Unicode.isSpace).length ≤ l.length := by
    have := List.IsPrefix.length_le (List.takeWhile_prefix (p := Unicode.isSpace) (l := l)); exact this
  have hhi : stripHi Unicode.isSpace true (S l) (stripLo Unicode.isSpace true (S l)) = l.length - ((l.dropWhile Unicode.isSpace).reverse.takeWhile Unicode.isSpace).length := by
    unfold stripHi; rw [if_pos rfl, hlo, S_len, S_toList, drop_takeWhile]
  have hdl : (l.dropWhile Unicode.isSpace).length = l.length - (l.takeWhile Unicode.isSpace).length := by
    rw [← drop_takeWhile, List.length_drop]
  have hst : PySem.stripped Unicode.isSpace true true (S l) = S (stripL l) := by
    unfold PySem.stripped stripL
    rw [hhi, hlo, sub_S, drop_takeWhile, ← take_rev, hdl]
    congr 2
    omega
  split
  · rename_i h
    rw [← hst]
    unfold stripSame at h
    rw [Bool.and_eq_true, beq_iff_eq, beq_iff_eq] at h
    unfold PySem.stripped
    rw [h.2, h.1, S_len, sub_S]; simp
  · exact hst
end Mine
namespace Mine

theorem strs_val {led : Led} : ∀ (l : List (Str × Tok)), ValL led (strValues l) ((l.map (·.1)).map D.str)
  | [] => .nil
  | p :: l => .cons (.str _ _) (strs_val l)
section
open PySem.Builtin PySem.Builtin.Str
variable {C : Cx} {A : Around}
theorem split_end {g : Gh} {s : Shared} {x y : Str} {Q : Value → Shared → Prop} (k : KpIn g s) (c : Cont g s (.list ((Txt.split x y).map .str)) Q) (l : List (Str × Tok)) (hl : l.map (·.1) = Txt.split x y) (tk' : Nat) (htk : s.toks ≤ tk') :
    Q (.ref s.heap.objs.size) { s with heap := s.heap.push { cls := .type "list", data := .seq (strValues l).toArray }, toks := tk' } := by
  obtain ⟨g', X, hled⟩ := Grow.push (g := g) (h := s.heap) { cls := .type "list", data := .seq (strValues l).toArray } rfl (plain_seq rfl) k.1
  refine c _ g' _ ⟨X, rfl, htk⟩ (.list hled rfl rfl ?_)
  rw [← hl]
  exact strs_val l
theorem fn_split {x y : Str} (hy : (y.length == 0) = false) (hsz : x.length ≤ sizeLine) (hsz2 : (partsBetween x (occurrences x y 0 x.length (x.length + 1)) y.length).length ≤ sizeLine) :
    Fn C A (.builtin "str.split") [.str x, .str y] (.list ((Txt.split x y).map .str)) := fun g s vs Q E b k w c => by
  cases w with
  | cons w r => cases r with
    | cons w₂ r =>
      cases r; cases w; cases w₂
      rename_i t u
      refine lift fun E' => ?_
      cases h1 : (decide (x.length < y.length) || decide (Builtin.Str.strKind x < Builtin.Str.strKind y))
      · cases hf : (occurrences x y 0 x.length (x.length + 1)).isEmpty
        · refine call_meets PySem.F.slot_str_split (typeIs_str _ _ _) PySem.F.entry_str_split (PySem.F.args_str_split_2 _ _) (meets_str_split_sep x y t u h1 hy hf hsz hsz2) ?_
          show wants (fun v s' => s.toks ≤ s'.toks → Q v s') E' _ { s with toks := _, heap := s.heap.push { cls := .type "list", data := .seq (strsFrom s.toks (partsBetween x (occurrences x y 0 x.length (x.length + 1)) y.length)).toArray } }
          rw [strsFrom_eq]
          intro htk
          exact split_end k c (numbered s.toks _) ((numbered_texts _ _).trans ((if_neg (ne_true_of_eq_false h1)).trans (if_neg (ne_true_of_eq_false hf))).symm) _ htk
        · refine call_meets PySem.F.slot_str_split (typeIs_str _ _ _) PySem.F.entry_str_split (PySem.F.args_str_split_2 _ _) (meets_str_split_not_found x y t u h1 hy hf) ?_
          intro htk
          exact split_end k c [(x, t)] ((if_neg (ne_true_of_eq_false h1)).trans (if_pos hf)).symm _ htk
      · refine call_meets PySem.F.slot_str_split (typeIs_str _ _ _) PySem.F.entry_str_split (PySem.F.args_str_split_2 _ _) (meets_str_split_cannot_occur x y t u h1) ?_
        intro htk
        exact split_end k c [(x, t)] (if_pos h1).symm _ htk
end
end Mine
namespace Mine

def dbl (a : Nat) (l : List Nat) : List Nat := l.flatMap fun c => if c = a then [a, a] else [c]
def esc (t : List Nat) (q s : Bool) : List Nat := if q then dbl 34 (if s then dbl 92 t else t) else (if s then dbl 92 t else t)
def dress (t : List Nat) (q s : Bool) : List Nat := [32, 34] ++ esc t q s ++ [34]
def cutN (n : List Nat) : List Nat := ((repK [34, 34] [122] 0 (n ++ [34])).takeWhile fun c => decide (c ≠ 34)).flatMap fun c => if c = 122 then [34] else [c]
def askN (n : List Nat) (q s : Bool) : List Nat := [50, 53, 55] ++ dress n q s
def firstN (n : List Nat) (q s : Bool) : List Nat := stripL ((phRes (askN n q s)).headD [])
def toldN (n : List Nat) (q s : Bool) : List Nat := p257 ((firstN n q s).drop 5)
def lets : List Nat := [34, 92, 44, 32, 65]
def names65 : List (List Nat) := [[]] ++ (lets.map fun a => [a]) ++ (lets.flatMap fun a => lets.map fun b => [a, b]) ++ (lets.flatMap fun a => lets.flatMap fun b => lets.map fun c => [a, b, c])
def chk (n : List Nat) (q s : Bool) : Bool :=
  !(phRes (askN n q s)).isEmpty && ((firstN n q s).take 5 == [50, 53, 55, 32, 34]) && ((toldN n q s).all fun c => decide (c < 200)) &&
    (if n.contains 92 && !s then toldN n q s != n else toldN n q s == (if q then n else cutN n))
theorem chk_all : (names65.all fun n => chk n false false && chk n false true && chk n true false && chk n true true) = true := by decide +kernel
theorem mem65 {n : List Nat} (hl : n.length ≤ 3) (h : ∀ c ∈ n, c ∈ lets) : n ∈ names65 := by
  unfold names65
  match n, hl with
  | [], _ => simp
  | [a], _ =>
    have ha := h a (by simp)
    simp only [List.mem_append, List.mem_map, List.mem_flatMap]
    exact .inl (.inl (.inr ⟨a, ha, rfl⟩))
  | [a, b], _ =>
    have ha := h a (by simp)
    have hb := h b (by simp)
    simp only [List.mem_append, List.mem_map, List.mem_flatMap]
    exact .inl (.inr ⟨a, ha, b, hb, rfl⟩)
  | [a, b, c], _ =>
    have ha := h a (by simp)
    have hb := h b (by simp)
    have hc := h c (by simp)
    simp only [List.mem_append, List.mem_map, List.mem_flatMap]
    exact .inr ⟨a, ha, b, hb, c, hc, rfl⟩
theorem chk_name {n : List Nat} (h : n ∈ names65) (q s : Bool) : chk n q s = true := by
  have := List.all_eq_true.mp chk_all n h
  simp only [Bool.and_eq_true] at this
  cases q <;> cases s
  · exact this.1.1.1
  · exact this.1.1.2
  · exact this.1.2
  · exact this.2

/-! the sign 65 stands for any sign of the plane -/
def rho (C : Nat) (c : Nat) : Nat := if c = 65 then C else c
section
variable {C : Nat} (hC : 19968 ≤ C)
include hC
theorem rho_iff {a c : Nat} (ha : a < 200) (ha' : a ≠ 65) : rho C c = a ↔ c = a := by
  unfold rho
  by_cases h : c = 65
  · rw [if_pos h]; omega
  · rw [if_neg h]
theorem rho_space (c : Nat) : Unicode.isSpace (rho C c) = Unicode.isSpace c := by
  unfold rho
  by_cases h : c = 65
  · rw [if_pos h, h, noSpace hC]; decide +kernel
  · rw [if_neg h]
def mapPh (C : Nat) (s : Ph) : Ph := ⟨s.res.map fun x => x.map (rho C), s.part.map (rho C), s.esc, s.quo⟩
theorem phStep_map (s : Ph) (c : Nat) : phStep (mapPh C s) (rho C c) = mapPh C (phStep s c) := by
  have h1 := rho_iff hC (a := 92) (c := c) (by omega) (by omega)
  have h2 := rho_iff hC (a := 34) (c := c) (by omega) (by omega)
  have h3 := rho_iff hC (a := 44) (c := c) (by omega) (by omega)
  obtain ⟨res, part, esc, quo⟩ := s
  cases esc <;> cases quo <;> simp only [phStep, mapPh, h1, h2, h3, ne_eq, Bool.false_eq_true, if_false, if_true]
  · split <;> simp
  · split <;> simp
  · simp
  · simp
theorem phFold_map : ∀ (l : List Nat) (s : Ph), (l.map (rho C)).foldl phStep (mapPh C s) = mapPh C (l.foldl phStep s)
  | [], s => rfl
  | c :: l, s => by rw [List.map_cons, List.foldl_cons, List.foldl_cons, phStep_map hC, phFold_map l]
theorem phRes_map (l : List Nat) : phRes (l.map (rho C)) = (phRes l).map fun x => x.map (rho C) := by
  unfold phRes
  have h := phFold_map hC l ph0
  have e : mapPh C ph0 = ph0 := rfl
  rw [e] at h
  rw [h]
  unfold phEnd mapPh
  dsimp only
  rw [List.length_map]
  split <;> simp
theorem dropWhile_rho : ∀ l : List Nat, (l.map (rho C)).dropWhile Unicode.isSpace = (l.dropWhile Unicode.isSpace).map (rho C)
  | [] => rfl
  | c :: l => by
    rw [List.map_cons, List.dropWhile_cons, List.dropWhile_cons, rho_space hC]
    split
    · exact dropWhile_rho l
    · rfl
theorem stripL_map (l : List Nat) : stripL (l.map (rho C)) = (stripL l).map (rho C) := by
  unfold stripL
  rw [dropWhile_rho hC, ← List.map_reverse, dropWhile_rho hC, List.map_reverse]
theorem p257_map : ∀ l : List Nat, p257 (l.map (rho C)) = (p257 l).map (rho C)
  | [] => rfl
  | [c] => by
    have h2 := rho_iff hC (a := 34) (c := c) (by omega) (by omega)
    show p257 [rho C c] = _
    simp only [p257, h2]
    split <;> rfl
  | c :: c' :: r => by
    have h2 := rho_iff hC (a := 34) (c := c) (by omega) (by omega)
    have h3 := rho_iff hC (a := 34) (c := c') (by omega) (by omega)
    have i1 := p257_map r
    have i2 := p257_map (c' :: r)
    rw [List.map_cons] at i2
    show p257 (rho C c :: rho C c' :: r.map (rho C)) = _
    simp only [p257, h2, h3]
    split
    · split
      · rw [i1]; rfl
      · rfl
    · rw [i2]; rfl
theorem dbl_map {a : Nat} (ha : a < 200) (ha' : a ≠ 65) (l : List Nat) : dbl a (l.map (rho C)) = (dbl a l).map (rho C) := by
  unfold dbl
  induction l with
  | nil => rfl
  | cons c l ih =>
    have h2 := rho_iff hC (a := a) (c := c) ha ha'
    rw [List.map_cons, List.flatMap_cons, List.flatMap_cons, List.map_append, ih]
    congr 1
    by_cases q : c = a
    · have := h2.mpr q
      rw [if_pos this, if_pos q]
      subst q
      simp [this]
    · rw [if_neg (fun x => q (h2.mp x)), if_neg q]; rfl
theorem repK_map : ∀ (k : Nat) (l : List Nat), repK [34, 34] [122] k (l.map (rho C)) = (repK [34, 34] [122] k l).map (rho C)
  | _, [] => by simp [repK]
  | k + 1, c :: r => by
    show repK _ _ k (r.map (rho C)) = _
    rw [repK_map k r]; rfl
  | 0, c :: r => by
    have h2 := rho_iff hC (a := 34) (c := c) (by omega) (by omega)
    have hp : [34, 34].isPrefixOf (rho C c :: r.map (rho C)) = [34, 34].isPrefixOf (c :: r) := by
      cases r with
      | nil => simp [List.isPrefixOf]
      | cons d r =>
        have h3 := rho_iff hC (a := 34) (c := d) (by omega) (by omega)
        have e1 : ((34 : Nat) == rho C c) = (34 == c) := by rw [Bool.eq_iff_iff, beq_iff_eq, beq_iff_eq, eq_comm, h2, eq_comm]
        have e2 : ((34 : Nat) == rho C d) = (34 == d) := by rw [Bool.eq_iff_iff, beq_iff_eq, beq_iff_eq, eq_comm, h3, eq_comm]
        simp only [List.map_cons, List.isPrefixOf, e1, e2]
    rw [List.map_cons, repK, repK, hp]
    have e122 : rho C 122 = 122 := rfl
    split
    · have i1 := repK_map 1 r
      rw [List.map_append]
      show [122] ++ repK [34, 34] [122] 1 (r.map (rho C)) = _
      rw [i1]; rfl
    · rw [repK_map 0 r]; rfl
theorem cutN_map (n : List Nat) : cutN (n.map (rho C)) = (cutN n).map (rho C) := by
  unfold cutN
  have e34 : [34] = [34].map (rho C) := rfl
  have e : (n.map (rho C)) ++ [34] = (n ++ [34]).map (rho C) := by rw [List.map_append]; rfl
  rw [e, repK_map hC]
  generalize repK [34, 34] [122] 0 (n ++ [34]) = m
  induction m with
  | nil => rfl
  | cons c m ih =>
    have h2 := rho_iff hC (a := 34) (c := c) (by omega) (by omega)
    have h3 := rho_iff hC (a := 122) (c := c) (by omega) (by omega)
    rw [List.map_cons, List.takeWhile_cons, List.takeWhile_cons]
    by_cases q : c = 34
    · have q' := h2.mpr q
      rw [decide_eq_false (fun h => h q'), decide_eq_false (fun h => h q)]; rfl
    · have q' : rho C c ≠ 34 := fun x => q (h2.mp x)
      rw [decide_eq_true q, decide_eq_true q', if_pos rfl, if_pos rfl, List.flatMap_cons, List.flatMap_cons, List.map_append, ih]
      congr 1
      by_cases z : c = 122
      · rw [if_pos z, if_pos (h3.mpr z)]; rfl
      · rw [if_neg z, if_neg (fun x => z (h3.mp x))]; rfl
theorem askN_map (n : List Nat) (q s : Bool) : askN (n.map (rho C)) q s = (askN n q s).map (rho C) := by
  unfold askN dress esc
  cases q <;> cases s <;> simp only [Bool.false_eq_true, if_false, if_true, List.map_append, dbl_map hC (show 34 < 200 by omega) (show 34 ≠ 65 by omega), dbl_map hC (show 92 < 200 by omega) (show 92 ≠ 65 by omega)] <;> rfl
theorem firstN_map (n : List Nat) (q s : Bool) : firstN (n.map (rho C)) q s = (firstN n q s).map (rho C) := by
  unfold firstN
  rw [askN_map hC, phRes_map hC, ← stripL_map hC]
  cases phRes (askN n q s) <;> rfl
theorem toldN_map (n : List Nat) (q s : Bool) : toldN (n.map (rho C)) q s = (toldN n q s).map (rho C) := by
  unfold toldN
  rw [firstN_map hC, ← List.map_drop, p257_map hC]
theorem rho_inj {l m : List Nat} (hl : ∀ c ∈ l, c < 200) (hm : ∀ c ∈ m, c < 200) (h : l.map (rho C) = m.map (rho C)) : l = m := by
  have inv : ∀ c, c < 200 → (if rho C c = C then 65 else rho C c) = c := fun c hc => by
    unfold rho
    by_cases q : c = 65
    · rw [if_pos q, if_pos rfl, q]
    · rw [if_neg q, if_neg (by omega)]
  have back : ∀ l : List Nat, (∀ c ∈ l, c < 200) → (l.map (rho C)).map (fun c => if c = C then 65 else c) = l := fun l hl => by
    rw [List.map_map]
    conv => rhs; rw [← List.map_id l]
    exact List.map_congr_left fun c hc => inv c (hl c hc)
  rw [← back l hl, ← back m hm, h]
/-- what a name in a dress is told as -/
theorem name_told {n : List Nat} (hn : n ∈ names65) (q s : Bool) : ∃ x rest t, phRes (askN (n.map (rho C)) q s) = x :: rest ∧ stripL x = 50 :: 53 :: 55 :: 32 :: 34 :: t ∧
    (if (n.map (rho C)).contains 92 = true ∧ s = false then p257 t ≠ n.map (rho C) else p257 t = if q = true then n.map (rho C) else cutN (n.map (rho C))) := by
  have hk := chk_name hn q s
  unfold chk at hk
  simp only [Bool.and_eq_true] at hk
  obtain ⟨⟨⟨k1, k2⟩, k3⟩, k4⟩ := hk
  have e1 : phRes (askN n q s) ≠ [] := fun e => by rw [e] at k1; cases k1
  obtain ⟨x, rest, hx⟩ : ∃ x rest, phRes (askN n q s) = x :: rest := by
    cases h : phRes (askN n q s) with
    | nil => exact absurd h e1
    | cons x r => exact ⟨x, r, rfl⟩
  have hf : firstN n q s = stripL x := by unfold firstN; rw [hx]; rfl
  rw [beq_iff_eq] at k2
  have hfd : firstN n q s = [50, 53, 55, 32, 34] ++ (firstN n q s).drop 5 := by rw [← k2, List.take_append_drop]
  have hnl : ∀ c ∈ n, c < 200 := by
    have : (names65.all fun n => n.all fun c => decide (c < 200)) = true := by decide +kernel
    intro c hc
    exact of_decide_eq_true (List.all_eq_true.mp (List.all_eq_true.mp this n hn) c hc)
  have htl : ∀ c ∈ toldN n q s, c < 200 := fun c hc => of_decide_eq_true (List.all_eq_true.mp k3 c hc)
  have hcon : (n.map (rho C)).contains 92 = n.contains 92 := by
    rw [Bool.eq_iff_iff, List.contains_iff_mem, List.contains_iff_mem, List.mem_map]
    constructor
    · rintro ⟨c, hc, e⟩
      rw [(rho_iff hC (a := 92) (by omega) (by omega)).mp e] at hc; exact hc
    · intro h; exact ⟨92, h, rfl⟩
  refine ⟨x.map (rho C), rest.map fun y => y.map (rho C), ((firstN n q s).drop 5).map (rho C), ?_, ?_, ?_⟩
  · rw [askN_map hC, phRes_map hC, hx]; rfl
  · rw [stripL_map hC, ← hf]
    conv => lhs; rw [hfd]
    rfl
  · rw [p257_map hC]
    have et : p257 ((firstN n q s).drop 5) = toldN n q s := rfl
    rw [et, hcon]
    by_cases hcase : n.contains 92 = true ∧ s = false
    · rw [if_pos hcase]
      rw [if_pos (by rw [hcase.1, hcase.2]; exact ⟨rfl, rfl⟩), bne_iff_ne] at k4
      exact fun e => k4 (rho_inj hC htl hnl e)
    · rw [if_neg hcase]
      rw [if_neg (by intro h; apply hcase; simpa using h), beq_iff_eq] at k4
      rw [k4]
      cases q
      · simp only [Bool.false_eq_true, if_false]
        rw [cutN_map hC]
      · rfl
end

/-! the header of four -/
theorem ph_in : ∀ (l : List Nat) (res : List (List Nat)) (part : List Nat), (dbl 34 (dbl 92 l)).foldl phStep ⟨res, part, false, true⟩ = ⟨res, part ++ dbl 34 l, false, true⟩
  | [], res, part => by simp [dbl]
  | c :: l, res, part => by
    have e1 : dbl 92 (c :: l) = (if c = 92 then [92, 92] else [c]) ++ dbl 92 l := rfl
    have e2 : ∀ a b, dbl 34 (a ++ b) = dbl 34 a ++ dbl 34 b := fun a b => by unfold dbl; rw [List.flatMap_append]
    have e3 : dbl 34 (c :: l) = (if c = 34 then [34, 34] else [c]) ++ dbl 34 l := rfl
    rw [e1, e2, List.foldl_append, e3]
    by_cases h1 : c = 92
    · subst h1
      have : (dbl 34 (if (92 : Nat) = 92 then [92, 92] else [92])).foldl phStep ⟨res, part, false, true⟩ = ⟨res, part ++ [92], false, true⟩ := rfl
      rw [this, ph_in l]; simp
    · rw [if_neg h1]
      by_cases h2 : c = 34
      · subst h2
        have : (dbl 34 [34]).foldl phStep ⟨res, part, false, true⟩ = ⟨res, part ++ [34] ++ [34], false, true⟩ := rfl
        rw [this, ph_in l]; simp
      · have e4 : dbl 34 [c] = [c] := by simp [dbl, h2]
        have : [c].foldl phStep ⟨res, part, false, true⟩ = ⟨res, part ++ [c], false, true⟩ := by
          simp only [List.foldl_cons, List.foldl_nil, phStep, Bool.false_eq_true, if_false, if_true, if_neg h1, ne_eq, h2, not_false_eq_true, decide_true]
        rw [e4, this, ph_in l, if_neg h2]; simp
theorem ph_out : ∀ (l : List Nat) (res : List (List Nat)) (part : List Nat), (∀ c ∈ l, c ≠ 34 ∧ c ≠ 44) → l.foldl phStep ⟨res, part, false, false⟩ = ⟨res, part ++ l, false, false⟩
  | [], res, part, _ => by simp
  | c :: l, res, part, h => by
    obtain ⟨h1, h2⟩ := h c List.mem_cons_self
    rw [List.foldl_cons]
    have : phStep ⟨res, part, false, false⟩ c = ⟨res, part ++ [c], false, false⟩ := by
      simp only [phStep, Bool.false_eq_true, if_false, if_neg h2, h1, decide_false]
    rw [this, ph_out l _ _ fun d hd => h d (List.mem_cons_of_mem _ hd)]; simp
structure Pc where
  code : List Nat
  name : List Nat
  tail : List Nat
def pieceH (p : Pc) : List Nat := p.code ++ dress p.name true true ++ p.tail
def itemH (p : Pc) : List Nat := p.code ++ dress p.name true false ++ p.tail
theorem ph_piece3 {p : Pc} (hc : ∀ c ∈ p.code, c ≠ 34 ∧ c ≠ 44) (ht : ∀ c ∈ p.tail, c ≠ 34 ∧ c ≠ 44) (res : List (List Nat)) (part : List Nat) :
    (pieceH p).foldl phStep ⟨res, part, false, false⟩ = ⟨res, part ++ itemH p, false, false⟩ := by
  unfold pieceH itemH dress esc
  simp only [if_true, Bool.false_eq_true, if_false]
  rw [List.foldl_append, List.foldl_append, ph_out _ _ _ hc, List.foldl_append, List.foldl_append]
  have e1 : [32, 34].foldl phStep ⟨res, part ++ p.code, false, false⟩ = ⟨res, part ++ p.code ++ [32] ++ [34], false, true⟩ := rfl
  rw [e1, ph_in]
  have e2 : ∀ r y, [34].foldl phStep ⟨r, y, false, true⟩ = ⟨r, y ++ [34], false, false⟩ := fun _ _ => rfl
  rw [e2, ph_out _ _ _ ht]
  simp
def jn (sep : List Nat) : List (List Nat) → List Nat
  | [] => []
  | [p] => p
  | p :: q :: r => p ++ sep ++ jn sep (q :: r)
theorem join_jn (sep : List Nat) : ∀ l : List (List Nat), Txt.join (S sep) (l.map S) = S (jn sep l)
  | [] => rfl
  | [p] => rfl
  | p :: q :: r => by rw [join_cons, join_jn sep (q :: r), S_append]; rfl
def edge (l : List Nat) : Prop := (∀ c, l.head? = some c → Unicode.isSpace c = false) ∧ (∀ c, l.getLast? = some c → Unicode.isSpace c = false) ∧ l ≠ []
theorem dropWhile_space {a b : List Nat} (ha : ∀ c ∈ a, Unicode.isSpace c = true) (hb : ∀ c, b.head? = some c → Unicode.isSpace c = false) : (a ++ b).dropWhile Unicode.isSpace = b := by
  induction a with
  | nil =>
    cases b with
    | nil => rfl
    | cons c b => rw [List.nil_append, List.dropWhile_cons, hb c rfl]; rfl
  | cons c a ih =>
    rw [List.cons_append, List.dropWhile_cons, ha c List.mem_cons_self, if_pos rfl]
    exact ih fun d hd => ha d (List.mem_cons_of_mem _ hd)
theorem strip_edge {a i b : List Nat} (hi : edge i) (ha : ∀ c ∈ a, Unicode.isSpace c = true) (hb : ∀ c ∈ b, Unicode.isSpace c = true) : stripL (a ++ i ++ b) = i := by
  unfold stripL
  obtain ⟨h1, h2, h3⟩ := hi
  have e : (a ++ i ++ b).dropWhile Unicode.isSpace = i ++ b := by
    rw [List.append_assoc]
    refine dropWhile_space ha fun c hc => ?_
    cases i with
    | nil => exact absurd rfl h3
    | cons d i => exact h1 c (by simpa using hc)
  rw [e, List.reverse_append, dropWhile_space (fun c hc => hb c (List.mem_reverse.mp hc)) (fun c hc => h2 c (by rw [List.head?_reverse] at hc; exact hc)), List.reverse_reverse]
def okPc (p : Pc) : Prop := (∀ c ∈ p.code, c ≠ 34 ∧ c ≠ 44) ∧ (∀ c ∈ p.tail, c ≠ 34 ∧ c ≠ 44) ∧ edge (itemH p)
theorem ph_header {pre post : List Nat} (h1 : ∀ c ∈ pre, Unicode.isSpace c = true ∧ c ≠ 34 ∧ c ≠ 44) (h2 : ∀ c ∈ post, Unicode.isSpace c = true ∧ c ≠ 34 ∧ c ≠ 44) :
    ∀ (ps : List Pc) (res : List (List Nat)) (part : List Nat), ps ≠ [] → (∀ p ∈ ps, okPc p) → (∀ c ∈ part, Unicode.isSpace c = true) →
      (phEnd ((jn (pre ++ 44 :: post) (ps.map pieceH)).foldl phStep ⟨res, part, false, false⟩)).map stripL = res.map stripL ++ ps.map itemH
  | [], res, part, hn, _, _ => absurd rfl hn
  | [p], res, part, _, hp, hpart => by
    obtain ⟨k1, k2, k3⟩ := hp p List.mem_cons_self
    show (phEnd ((pieceH p).foldl phStep _)).map stripL = _
    rw [ph_piece3 k1 k2]
    unfold phEnd
    dsimp only
    have hne : ¬ (part ++ itemH p).length = 0 := fun e => k3.2.2 (List.append_eq_nil_iff.mp (List.eq_nil_of_length_eq_zero e)).2
    rw [if_neg hne, List.map_append]
    have := strip_edge (b := []) k3 hpart (fun c hc => nomatch hc)
    rw [List.append_nil] at this
    simp [this]
  | p :: q :: r, res, part, _, hp, hpart => by
    obtain ⟨k1, k2, k3⟩ := hp p List.mem_cons_self
    show (phEnd ((pieceH p ++ (pre ++ 44 :: post) ++ jn _ ((q :: r).map pieceH)).foldl phStep _)).map stripL = _
    rw [List.foldl_append, List.foldl_append, ph_piece3 k1 k2, List.foldl_append, ph_out _ _ _ (fun c hc => (h1 c hc).2), List.foldl_cons]
    have e : phStep ⟨res, part ++ itemH p ++ pre, false, false⟩ 44 = ⟨res ++ [part ++ itemH p ++ pre], [], false, false⟩ := rfl
    rw [e, ph_out _ _ _ (fun c hc => (h2 c hc).2), List.nil_append]
    rw [ph_header h1 h2 (q :: r) _ post (by simp) (fun p' hp' => hp p' (List.mem_cons_of_mem _ hp')) (fun c hc => (h2 c hc).1)]
    have := strip_edge k3 hpart (fun c hc => (h1 c hc).1)
    rw [List.map_append, List.map_cons, List.map_nil, this]
    simp
theorem header_items {pre post : List Nat} (h1 : ∀ c ∈ pre, Unicode.isSpace c = true ∧ c ≠ 34 ∧ c ≠ 44) (h2 : ∀ c ∈ post, Unicode.isSpace c = true ∧ c ≠ 34 ∧ c ≠ 44) {ps : List Pc} (hn : ps ≠ []) (hp : ∀ p ∈ ps, okPc p) :
    (phRes (jn (pre ++ 44 :: post) (ps.map pieceH))).map stripL = ps.map itemH := by
  have := ph_header h1 h2 ps [] [] hn hp (fun c hc => nomatch hc)
  exact this
theorem p257_dbl : ∀ (l r : List Nat), r.head? ≠ some 34 → p257 (dbl 34 l ++ (34 :: r)) = l
  | [], r, h => p257_quote_end h
  | c :: l, r, h => by
    have ih := p257_dbl l r h
    have e : dbl 34 (c :: l) = (if c = 34 then [34, 34] else [c]) ++ dbl 34 l := rfl
    rw [e]
    by_cases q : c = 34
    · rw [if_pos q]
      show p257 (34 :: 34 :: (dbl 34 l ++ 34 :: r)) = _
      rw [p257_quote2, ih, q]
    · rw [if_neg q]
      show p257 (c :: (dbl 34 l ++ 34 :: r)) = _
      rw [p257_other _ q, ih]
end Mine
namespace Mine


/-! what a cell says -/
def signC (cell : Int) : Nat := 19968 + ((cell.fdiv 500).fmod 20000).toNat
def idxN (cell : Int) (p : Nat) : Nat := (((cell.fdiv 4).fdiv ((5 : Int) ^ p)).fmod 5).toNat
def signsN (cell : Int) : List Nat := [34, 92, 44, 32, signC cell]
def nameN (cell : Int) : List Nat := (List.range (cell.fmod 4).toNat).map fun p => (signsN cell).getD (idxN cell p) 0
def codes3 : List (List Nat) := [[50, 53, 55], [50, 53, 48], [50, 53, 55], [50, 53, 55, 45], [50, 53]]
def codeN (cell : Int) : List Nat := codes3.getD ((cell.fdiv 500).fmod 5).toNat []
def tails3 : List (List Nat) := [[], [32, 109, 97, 100, 101], [92]]
def tailN (cell : Int) : List Nat := tails3.getD ((cell.fdiv 2500).fmod 3).toNat []
def pcOf (cell : Int) : Pc := ⟨codeN cell, nameN cell, tailN cell⟩
theorem signC_b (cell : Int) : 19968 ≤ signC cell ∧ signC cell < 39968 := by
  have h3 := Int.fmod_nonneg_of_pos (cell.fdiv 500) (show (0 : Int) < 20000 by decide)
  have h4 := Int.fmod_lt_of_pos (cell.fdiv 500) (show (0 : Int) < 20000 by decide)
  unfold signC; omega
theorem idxN_lt (cell : Int) (p : Nat) : idxN cell p < 5 := by
  have h3 := Int.fmod_nonneg_of_pos ((cell.fdiv 4).fdiv ((5 : Int) ^ p)) (show (0 : Int) < 5 by decide)
  have h4 := Int.fmod_lt_of_pos ((cell.fdiv 4).fdiv ((5 : Int) ^ p)) (show (0 : Int) < 5 by decide)
  unfold idxN; omega
theorem four_lt (cell : Int) : (cell.fmod 4).toNat < 4 := by
  have h3 := Int.fmod_nonneg_of_pos cell (show (0 : Int) < 4 by decide)
  have h4 := Int.fmod_lt_of_pos cell (show (0 : Int) < 4 by decide)
  omega
theorem name_rho (cell : Int) : ∃ n, n ∈ names65 ∧ nameN cell = n.map (rho (signC cell)) := by
  refine ⟨(List.range (cell.fmod 4).toNat).map fun p => lets.getD (idxN cell p) 0, mem65 ?_ fun c hc => ?_, ?_⟩
  · rw [List.length_map, List.length_range]; have := four_lt cell; omega
  · obtain ⟨p, _, rfl⟩ := List.mem_map.mp hc
    rw [List.getD_eq_getElem?_getD, List.getElem?_eq_getElem (show idxN cell p < lets.length from idxN_lt cell p)]
    exact List.getElem_mem _
  · unfold nameN
    rw [List.map_map]
    refine List.map_congr_left fun p _ => ?_
    have h := idxN_lt cell p
    show (signsN cell).getD (idxN cell p) 0 = rho (signC cell) (lets.getD (idxN cell p) 0)
    generalize idxN cell p = i at h
    unfold signsN lets rho
    match i, h with
    | 0, _ => rfl
    | 1, _ => rfl
    | 2, _ => rfl
    | 3, _ => rfl
    | 4, _ => rfl
theorem name_len (cell : Int) : (nameN cell).length ≤ 3 := by
  unfold nameN
  rw [List.length_map, List.length_range]; have := four_lt cell; omega
theorem name_lt (cell : Int) : ∀ c ∈ nameN cell, c < 0x110000 := fun c hc => by
  obtain ⟨p, _, rfl⟩ := List.mem_map.mp hc
  have h := idxN_lt cell p
  have hb := signC_b cell
  have hm : (signsN cell).getD (idxN cell p) 0 ∈ signsN cell := by
    rw [List.getD_eq_getElem?_getD, List.getElem?_eq_getElem (show idxN cell p < (signsN cell).length from h)]
    exact List.getElem_mem _
  unfold signsN at hm
  simp only [List.mem_cons, List.not_mem_nil, or_false] at hm
  unfold signsN
  omega
theorem codeN_mem (cell : Int) : codeN cell ∈ codes3 := by
  have h1 := Int.fmod_nonneg_of_pos (cell.fdiv 500) (show (0 : Int) < 5 by decide)
  have h2 := Int.fmod_lt_of_pos (cell.fdiv 500) (show (0 : Int) < 5 by decide)
  unfold codeN
  rw [List.getD_eq_getElem?_getD, List.getElem?_eq_getElem (show ((cell.fdiv 500).fmod 5).toNat < codes3.length by show _ < 5; omega)]
  exact List.getElem_mem _
theorem tailN_mem (cell : Int) : tailN cell ∈ tails3 := by
  have h1 := Int.fmod_nonneg_of_pos (cell.fdiv 2500) (show (0 : Int) < 3 by decide)
  have h2 := Int.fmod_lt_of_pos (cell.fdiv 2500) (show (0 : Int) < 3 by decide)
  unfold tailN
  rw [List.getD_eq_getElem?_getD, List.getElem?_eq_getElem (show ((cell.fdiv 2500).fmod 3).toNat < tails3.length by show _ < 3; omega)]
  exact List.getElem_mem _
theorem code_cases {k : List Nat} (h : k ∈ codes3) : k = [50, 53, 55] ∨ k = [50, 53, 48] ∨ k = [50, 53, 55, 45] ∨ k = [50, 53] := by
  unfold codes3 at h
  simp only [List.mem_cons, List.not_mem_nil, or_false] at h
  rcases h with h | h | h | h | h
  · exact .inl h
  · exact .inr (.inl h)
  · exact .inl h
  · exact .inr (.inr (.inl h))
  · exact .inr (.inr (.inr h))
theorem tail_cases {k : List Nat} (h : k ∈ tails3) : k = [] ∨ k = [32, 109, 97, 100, 101] ∨ k = [92] := by
  unfold tails3 at h
  simpa only [List.mem_cons, List.not_mem_nil, or_false] using h
theorem itemH_is (p : Pc) : itemH p = p.code ++ ([32, 34] ++ (dbl 34 p.name ++ 34 :: p.tail)) := by
  unfold itemH dress esc
  simp
theorem pc_ok (cell : Int) : okPc (pcOf cell) := by
  have hc := code_cases (codeN_mem cell)
  have ht := tail_cases (tailN_mem cell)
  refine ⟨fun c hc' => ?_, fun c hc' => ?_, ?_, ?_, ?_⟩
  · have hc'' : c ∈ codeN cell := hc'
    rcases hc with h | h | h | h <;> rw [h] at hc'' <;> simp only [List.mem_cons, List.not_mem_nil, or_false] at hc'' <;> omega
  · have hc'' : c ∈ tailN cell := hc'
    rcases ht with h | h | h <;> rw [h] at hc'' <;> simp only [List.mem_cons, List.not_mem_nil, or_false] at hc'' <;> omega
  · intro c hh
    rw [itemH_is] at hh
    have e : (pcOf cell).code = codeN cell := rfl
    rw [e] at hh
    have : c = 50 := by
      rcases hc with h | h | h | h <;> rw [h] at hh <;> simpa using hh.symm
    rw [this]; decide +kernel
  · intro c hh
    rw [itemH_is] at hh
    have e : (pcOf cell).tail = tailN cell := rfl
    rw [e, ← List.append_assoc, ← List.append_assoc, List.getLast?_append] at hh
    rcases ht with h | h | h <;> rw [h] at hh
    · have : c = 34 := by simpa using hh.symm
      rw [this]; decide +kernel
    · have : c = 101 := by simpa using hh.symm
      rw [this]; decide +kernel
    · have : c = 92 := by simpa using hh.symm
      rw [this]; decide +kernel
  · rw [itemH_is]; simp
theorem dbl_len (a : Nat) : ∀ l : List Nat, (dbl a l).length ≤ 2 * l.length
  | [] => by simp [dbl]
  | c :: l => by
    have ih := dbl_len a l
    have e : dbl a (c :: l) = (if c = a then [a, a] else [c]) ++ dbl a l := rfl
    rw [e, List.length_append, List.length_cons]
    split
    · simp only [List.length_cons, List.length_nil]; omega
    · simp only [List.length_cons, List.length_nil]; omega
theorem esc_len (t : List Nat) (q s : Bool) : (esc t q s).length ≤ 4 * t.length := by
  unfold esc
  have h1 := dbl_len 92 t
  have h2 := dbl_len 34 (dbl 92 t)
  have h3 := dbl_len 34 t
  cases q <;> cases s <;> simp only [Bool.false_eq_true, if_false, if_true] <;> omega
theorem dress_len (t : List Nat) (q s : Bool) : (dress t q s).length ≤ 4 * t.length + 3 := by
  unfold dress
  have := esc_len t q s
  simp only [List.length_append, List.length_cons, List.length_nil]; omega
theorem dbl_lt {a B : Nat} (ha : a < B) {l : List Nat} (h : ∀ c ∈ l, c < B) : ∀ c ∈ dbl a l, c < B := fun c hc => by
  unfold dbl at hc
  obtain ⟨d, hd, hc⟩ := List.mem_flatMap.mp hc
  split at hc
  · simp only [List.mem_cons, List.not_mem_nil, or_false] at hc; omega
  · rw [List.mem_singleton.mp hc]; exact h d hd
theorem dress_lt {t : List Nat} (h : ∀ c ∈ t, c < 0x110000) (q s : Bool) : ∀ c ∈ dress t q s, c < 0x110000 := fun c hc => by
  have he : ∀ c ∈ esc t q s, c < 0x110000 := by
    unfold esc
    have h1 := dbl_lt (a := 92) (B := 0x110000) (by omega) h
    have h2 := dbl_lt (a := 34) (B := 0x110000) (by omega) h1
    have h3 := dbl_lt (a := 34) (B := 0x110000) (by omega) h
    cases q <;> cases s <;> simp only [Bool.false_eq_true, if_false, if_true] <;> assumption
  unfold dress at hc
  rcases List.mem_append.mp hc with hc | hc
  · rcases List.mem_append.mp hc with hc | hc
    · simp only [List.mem_cons, List.not_mem_nil, or_false] at hc; omega
    · exact he c hc
  · rw [List.mem_singleton.mp hc]; omega
theorem code_lt (cell : Int) : ∀ c ∈ codeN cell, c < 0x110000 := fun c hc => by
  rcases code_cases (codeN_mem cell) with h | h | h | h <;> rw [h] at hc <;> simp only [List.mem_cons, List.not_mem_nil, or_false] at hc <;> omega
theorem tail_lt (cell : Int) : ∀ c ∈ tailN cell, c < 0x110000 := fun c hc => by
  rcases tail_cases (tailN_mem cell) with h | h | h <;> rw [h] at hc <;> simp only [List.mem_cons, List.not_mem_nil, or_false] at hc <;> omega
theorem code_len3 (cell : Int) : (codeN cell).length ≤ 4 := by
  rcases code_cases (codeN_mem cell) with h | h | h | h <;> rw [h] <;> simp
theorem tail_len3 (cell : Int) : (tailN cell).length ≤ 5 := by
  rcases tail_cases (tailN_mem cell) with h | h | h <;> rw [h] <;> simp
end Mine
namespace Mine


/-! sizes and signs of what law 3 makes -/
theorem phRes_len (l : List Nat) : (∀ x ∈ phRes l, x.length ≤ l.length) ∧ (phRes l).length ≤ l.length + 1 := by
  have h1 := phFold_ok l 0 ph0 ⟨by simp [ph0], by simp [ph0]⟩
  have h2 := phFold_size l ph0
  unfold phRes phEnd
  rw [Nat.zero_add] at h1
  obtain ⟨k1, k2⟩ := h1
  have h2' := h2.2
  simp only [ph0, List.length_nil] at h2'
  have e0 : ({ res := [], part := [], esc := false, quo := false } : Ph) = ph0 := rfl
  rw [e0] at h2'
  split
  · exact ⟨k2, by omega⟩
  · refine ⟨fun x hx => ?_, by rw [List.length_append, List.length_singleton]; omega⟩
    rcases List.mem_append.mp hx with hx | hx
    · exact k2 x hx
    · rw [List.mem_singleton.mp hx]; exact k1
theorem stripL_len (l : List Nat) : (stripL l).length ≤ l.length := by
  unfold stripL
  rw [List.length_reverse]
  have h1 : ∀ m : List Nat, (m.dropWhile Unicode.isSpace).length ≤ m.length := fun m => List.IsSuffix.length_le (List.dropWhile_suffix _)
  have := h1 (l.dropWhile Unicode.isSpace).reverse
  have h2 := h1 l
  rw [List.length_reverse] at this
  omega
theorem piece_len3 (cell : Int) : (pieceH (pcOf cell)).length ≤ 24 := by
  have h1 := name_len cell
  have h2 := code_len3 cell
  have h3 := tail_len3 cell
  have h4 := dress_len (nameN cell) true true
  show (codeN cell ++ dress (nameN cell) true true ++ tailN cell).length ≤ 24
  rw [List.length_append, List.length_append]; omega
theorem item_len3 (cell : Int) : (itemH (pcOf cell)).length ≤ 24 := by
  have h1 := name_len cell
  have h2 := code_len3 cell
  have h3 := tail_len3 cell
  have h4 := dress_len (nameN cell) true false
  show (codeN cell ++ dress (nameN cell) true false ++ tailN cell).length ≤ 24
  rw [List.length_append, List.length_append]; omega
theorem piece_lt (cell : Int) : ∀ c ∈ pieceH (pcOf cell), c < 0x110000 := fun c hc => by
  have hc' : c ∈ codeN cell ++ dress (nameN cell) true true ++ tailN cell := hc
  rcases List.mem_append.mp hc' with hc' | hc'
  · rcases List.mem_append.mp hc' with hc' | hc'
    · exact code_lt cell c hc'
    · exact dress_lt (name_lt cell) _ _ c hc'
  · exact tail_lt cell c hc'
theorem item_lt (cell : Int) : ∀ c ∈ itemH (pcOf cell), c < 0x110000 := fun c hc => by
  have hc' : c ∈ codeN cell ++ dress (nameN cell) true false ++ tailN cell := hc
  rcases List.mem_append.mp hc' with hc' | hc'
  · rcases List.mem_append.mp hc' with hc' | hc'
    · exact code_lt cell c hc'
    · exact dress_lt (name_lt cell) _ _ c hc'
  · exact tail_lt cell c hc'
def seps : List (List Nat) := [[44], [44, 32], [32, 44, 9]]
def sepI (i : Int) : List Nat := seps.getD (i.fmod 3).toNat []
theorem sepI_mem (i : Int) : sepI i ∈ seps := by
  have h1 := Int.fmod_nonneg_of_pos i (show (0 : Int) < 3 by decide)
  have h2 := Int.fmod_lt_of_pos i (show (0 : Int) < 3 by decide)
  unfold sepI
  rw [List.getD_eq_getElem?_getD, List.getElem?_eq_getElem (show (i.fmod 3).toNat < seps.length by show _ < 3; omega)]
  exact List.getElem_mem _
theorem sep_parts (i : Int) : ∃ pre post, sepI i = pre ++ 44 :: post ∧ (∀ c ∈ pre, Unicode.isSpace c = true ∧ c ≠ 34 ∧ c ≠ 44) ∧ (∀ c ∈ post, Unicode.isSpace c = true ∧ c ≠ 34 ∧ c ≠ 44) := by
  have h := sepI_mem i
  unfold seps at h
  simp only [List.mem_cons, List.not_mem_nil, or_false] at h
  have no : ∀ c ∈ ([] : List Nat), Unicode.isSpace c = true ∧ c ≠ 34 ∧ c ≠ 44 := fun c hc => nomatch hc
  have sp : ∀ c ∈ [32], Unicode.isSpace c = true ∧ c ≠ 34 ∧ c ≠ 44 := fun c hc => by rw [List.mem_singleton.mp hc]; exact ⟨by decide +kernel, by decide, by decide⟩
  have tb : ∀ c ∈ [9], Unicode.isSpace c = true ∧ c ≠ 34 ∧ c ≠ 44 := fun c hc => by rw [List.mem_singleton.mp hc]; exact ⟨by decide +kernel, by decide, by decide⟩
  rcases h with h | h | h
  · exact ⟨[], [], h, no, no⟩
  · exact ⟨[], [32], h, no, sp⟩
  · exact ⟨[32], [9], h, sp, tb⟩
theorem sep_len (i : Int) : (sepI i).length ≤ 3 := by
  have h := sepI_mem i
  unfold seps at h
  simp only [List.mem_cons, List.not_mem_nil, or_false] at h
  rcases h with h | h | h <;> rw [h] <;> simp
theorem sep_lt (i : Int) : ∀ c ∈ sepI i, c < 0x110000 := fun c hc => by
  have h := sepI_mem i
  unfold seps at h
  simp only [List.mem_cons, List.not_mem_nil, or_false] at h
  rcases h with h | h | h <;> rw [h] at hc <;> simp only [List.mem_cons, List.not_mem_nil, or_false] at hc <;> omega
theorem jn_lt {B : Nat} {sep : List Nat} (hs : ∀ c ∈ sep, c < B) : ∀ (l : List (List Nat)), (∀ x ∈ l, ∀ c ∈ x, c < B) → ∀ c ∈ jn sep l, c < B
  | [], _, c, hc => nomatch hc
  | [p], h, c, hc => h p List.mem_cons_self c hc
  | p :: q :: r, h, c, hc => by
    have hc' : c ∈ p ++ sep ++ jn sep (q :: r) := hc
    rcases List.mem_append.mp hc' with hc' | hc'
    · rcases List.mem_append.mp hc' with hc' | hc'
      · exact h p List.mem_cons_self c hc'
      · exact hs c hc'
    · exact jn_lt hs (q :: r) (fun x hx => h x (List.mem_cons_of_mem _ hx)) c hc'
theorem jn_len {n m : Nat} {sep : List Nat} (hs : sep.length ≤ m) : ∀ (l : List (List Nat)), (∀ x ∈ l, x.length ≤ n) → (jn sep l).length ≤ (n + m) * l.length
  | [], _ => Nat.zero_le _
  | [p], h => by
    have := h p List.mem_cons_self
    show p.length ≤ (n + m) * 1
    omega
  | p :: q :: r, h => by
    have h1 := h p List.mem_cons_self
    have ih := jn_len hs (q :: r) (fun x hx => h x (List.mem_cons_of_mem _ hx))
    show (p ++ sep ++ jn sep (q :: r)).length ≤ _
    rw [List.length_append, List.length_append, List.length_cons (as := q :: r), Nat.mul_succ]
    omega
theorem sum_len {n : Nat} : ∀ (l : List (List Nat)), (∀ x ∈ l, x.length ≤ n) → ((l.map S).map (·.length)).sum ≤ n * l.length
  | [], _ => Nat.zero_le _
  | p :: r, h => by
    have h1 := h p List.mem_cons_self
    have ih := sum_len r (fun x hx => h x (List.mem_cons_of_mem _ hx))
    rw [List.map_cons, List.map_cons, List.sum_cons, S_len, List.length_cons, Nat.mul_succ]
    omega
/-- the header that stands as a name -/
theorem whole_items (h : List Nat) : (phRes (askN h true true)).map stripL = [askN h true false] := by
  have e : askN h true true = jn [44] ([(⟨[50, 53, 55], h, []⟩ : Pc)].map pieceH) := by
    show askN h true true = pieceH ⟨[50, 53, 55], h, []⟩
    unfold askN pieceH
    rw [List.append_nil]
  have hi : itemH ⟨[50, 53, 55], h, []⟩ = askN h true false := by unfold askN itemH; rw [List.append_nil]
  have := header_items (pre := []) (post := []) (fun c hc => nomatch hc) (fun c hc => nomatch hc) (ps := [⟨[50, 53, 55], h, []⟩]) (by simp) (fun p hp => by
    rw [List.mem_singleton.mp hp]
    refine ⟨fun c hc => ?_, fun c hc => (nomatch hc), ?_, ?_, ?_⟩
    · have hc' : c ∈ [50, 53, 55] := hc
      simp only [List.mem_cons, List.not_mem_nil, or_false] at hc'
      omega
    · intro c hc
      rw [itemH_is] at hc
      have : c = 50 := by simpa using hc.symm
      rw [this]; decide +kernel
    · intro c hc
      rw [itemH_is, ← List.append_assoc, ← List.append_assoc, List.getLast?_append] at hc
      have : c = 34 := by simpa using hc.symm
      rw [this]; decide +kernel
    · rw [itemH_is]; simp)
  rw [e]
  show List.map stripL (phRes (jn ([] ++ 44 :: []) _)) = _
  rw [this, List.map_cons, List.map_nil, hi]
end Mine
namespace Mine
noncomputable abbrev vw : PySem.Program := PySem.Challenge.rw_wn0025_03.row.prog
end Mine
namespace Mine

local macro_rules | `(tactic| walk_at "sl") => `(tactic| first | rfl | (congr 2; omega))
local macro_rules | `(tactic| walk_at "lk") => `(tactic| first | with_reducible exact Sto.at_same | ((with_reducible refine Sto.at_sameE ?_); walk_at "sl") | (refine Sto.at_other (by decide +kernel) ?_; walk_at "lk") | (refine compSto_free (by decide +kernel) ?_; walk_at "lk"))
local macro_rules | `(tactic| walk_at "sub") => `(tactic| first | exact Sub.nil | (refine Sub.set ?_ (by walk_at "lk"); walk_at "sub"))
local macro_rules | `(tactic| walk_at "wr") => `(tactic| first | exact EnvOk.wl (by assumption) (by decide +kernel) | exact wc_of (by assumption) (by decide +kernel))
local macro_rules | `(tactic| walk_at "kk") => `(tactic| exact EnvOk.k (by assumption))
local macro_rules | `(tactic| walk_at "nm") => `(tactic| first | exact ev_name (by walk_at "lk") (by walk_at "kk") | exact Ev.weakb (ev_name (by walk_at "lk") (by walk_at "kk")))
local macro_rules | `(tactic| walk_at "nk") => `(tactic| exact evk_name (by walk_at "lk") (by walk_at "kk"))
local macro_rules | `(tactic| walk_at "cs") => `(tactic| exact ⟨rfl, by decide +kernel, by decide +kernel, by decide +kernel⟩)

theorem ex_257 {C : Cx} {A : Around} {env : Env} {ws : List Addr} {k : Nat} (hlenb : C.mg "len" = none) (hr : RoomA A k) (K : EnvOk (scAt vw 5) env) (t : List Nat) (hlen : t.length ≤ 100000) :
    Ex C A env ws (stoOf ["resp"] [.str (S (50 :: 53 :: 55 :: 32 :: 34 :: t))]) (bodyAt vw 5) fun o => ∃ d, (∃ B, d = .strb (S (p257 t)) B) ∧ o = .ret d := by
  simp only [stoOf]
  obtain ⟨l, hl⟩ : ∃ l, l = 50 :: 53 :: 55 :: 32 :: 34 :: t := ⟨_, rfl⟩
  have hll : l.length = t.length + 5 := by rw [hl]; rfl
  have hd5 : l.drop 5 = t := by rw [hl]; rfl
  have hd0 : l.take 3 = [50, 53, 55] := by rw [hl]; rfl
  have hd1 : (l.drop 3).take 2 = [32, 34] := by rw [hl]; rfl
  rw [← hl, ← hd5]
  have hsz : (S l).length ≤ sizeLine := by rw [S_len, sizeLine_eq]; omega
  refine ex_cons (ex_if (cb := false) ?_ (fun h => nomatch h) fun _ => ex_nil ?_)
  · refine EvB.conv (evb_cmp (ev_sliceS (by walk_at "nm") part_none (part_some ev_int) hsz) ev_str op_sne) ?_
    rw [slice_S, q257, S_bne]
    have h1 : loOf none l.length = 0 := rfl
    have h2 : hiOf (some 3) l.length = 3 := by simp only [hiOf]; omega
    rw [h1, h2, List.drop_zero, hd0]; rfl
  dsimp only
  refine ex_cons (ex_if (cb := false) ?_ (fun h => nomatch h) fun _ => ex_nil ?_)
  · refine EvB.conv (evb_cmp (ev_sliceS (by walk_at "nm") (part_some ev_int) (part_some ev_int) hsz) ev_str op_sne) ?_
    rw [slice_S, qbq, S_bne]
    have h1 : loOf (some 3) l.length = 3 := by simp only [loOf]; omega
    have h2 : hiOf (some 5) l.length = 5 := by simp only [hiOf]; omega
    rw [h1, h2, hd1]; rfl
  dsimp only
  refine ex_cons (ex_assign_k evk_str (by walk_at "kk") (by walk_at "wr") fun B₀ => ?_)
  dsimp only
  refine ex_cons (ex_assign ev_int (by walk_at "kk") (by walk_at "wr") ?_)
  dsimp only
  refine ex_cons (ex_assign (ev_bi K (by decide +kernel) hlenb (evl_cons (by walk_at "nm") evl_nil) (fn_lenS (by rw [S_len]; omega))) (by walk_at "kk") (by walk_at "wr") ?_)
  dsimp only
  rw [qe, S_len]
  refine ex_cons (ex_while (J257 l) (l.length - 5) ⟨5, [], B₀, rfl, by omega, rfl, by simp, by unfold b257; walk_at "sub"⟩ ?_)
  rintro k τ ⟨i, dn, B, rfl, hi, hdn, hdl, hsub⟩
  refine ⟨decide ((i : Int) < (l.length : Int)), ?_, fun hb => ?_, fun hb => ?_⟩
  · intro g s Q E I
    exact (evb_cmp (σ := b257 l i dn B) (by unfold b257; walk_at "nm") (by unfold b257; walk_at "nm") op_ilt) g s Q E ⟨I.1.sub hsub, I.2.sub hsub⟩
  · dsimp only
    have hb' := of_decide_eq_false hb
    have e : l.drop i = [] := List.drop_eq_nil_of_le (by omega)
    rw [e, p257, List.append_nil] at hdn
    refine ex_sub' hsub ?_
    unfold b257
    refine ex_cons (ex_ret_k (by walk_at "nk") fun B => ?_)
    dsimp only
    exact ⟨_, ⟨B, rfl⟩, by rw [hdn]⟩
  · have hb' := of_decide_eq_true hb
    have hlt : i < l.length := by omega
    obtain ⟨c, hc⟩ : ∃ c, l[i]? = some c := ⟨_, List.getElem?_eq_getElem hlt⟩
    have hdrop : l.drop i = c :: l.drop (i + 1) := by
      rw [List.drop_eq_getElem_cons hlt]; congr 1; exact (List.getElem?_eq_some_iff.mp hc).2
    refine ex_sub' hsub ?_
    unfold b257
    refine ex_cons (ex_assign_k (evk_item (n := c) (by intro _ _; rfl) (by walk_at "nm") (by walk_at "nm") (by omega) (by omega) ?_) (by walk_at "kk") (by walk_at "wr") fun Bc => ?_)
    · exact S_item hc
    dsimp only
    refine ex_cons (ex_assign (ev_bin (by walk_at "nm") ev_int op_add) (by walk_at "kk") (by walk_at "wr") ?_)
    dsimp only
    rw [one_S]
    refine ex_cons (ex_if (cb := decide (c = 34)) (EvB.conv (evb_cmp (by walk_at "nm") ev_str op_seq) (by rw [qq, S_beq]; by_cases q : c = 34 <;> simp [q])) (fun h34 => ?_) fun h34 => ?_)
    · obtain rfl := of_decide_eq_true h34
      refine ex_cons (ex_if (cb := decide ((l.drop (i + 1)).head? ≠ some 34)) ?_ (fun hx => ?_) fun hx => ?_)
      · refine EvB.conv (b := decide (l.length ≤ i + 1) || (decide ((l.drop (i + 1)).head? ≠ some 34) || false)) (evb_or (evor_cons (EvB.conv (evb_cmp (by walk_at "nm") (by walk_at "nm") op_ige) ?_) fun hge => evor_cons ?_ fun _ => evor_nil)) ?_
        · simp only [decide_eq_decide]; omega
        · have hlt2 : i + 1 < l.length := by have := of_decide_eq_false hge; omega
          obtain ⟨c2, hc2⟩ : ∃ c, l[i + 1]? = some c := ⟨_, List.getElem?_eq_getElem hlt2⟩
          refine EvB.conv (evb_cmp (ev_sub (by walk_at "nm") (by walk_at "nm") (Op2.weak (op_itemS (n := c2) (by intro _ _; rfl) (by omega) (by omega) (S_item (i := i + 1) hc2)))) ev_str op_sne) ?_
          rw [qq, one_S, S_bne, List.head?_drop, hc2]
          by_cases q : c2 = 34 <;> simp [q]
        · cases hge : decide (l.length ≤ i + 1) with
          | false => simp
          | true =>
            have := of_decide_eq_true hge
            rw [List.drop_eq_nil_of_le this]; rfl
      · have hx' := of_decide_eq_true hx
        refine ex_cons (ex_break ?_)
        dsimp only
        rw [hdrop, p257_quote_end hx', List.append_nil] at hdn
        refine ex_cons (ex_ret_k (by walk_at "nk") fun B => ?_)
        dsimp only
        exact ⟨_, ⟨B, rfl⟩, by rw [hdn]⟩
      · have hx' : (l.drop (i + 1)).head? = some 34 := by simpa using hx
        refine ex_nil ?_
        dsimp only
        refine ex_cons (ex_assign (ev_bin (by walk_at "nm") ev_int op_add) (by walk_at "kk") (by walk_at "wr") ?_)
        dsimp only
        refine ex_nil ?_
        dsimp only
        have hlt2 : i + 1 < l.length := by
          rw [List.head?_drop] at hx'; exact (List.getElem?_eq_some_iff.mp hx').1
        have hdrop2 : l.drop (i + 1) = 34 :: l.drop (i + 2) := by
          rw [List.head?_drop] at hx'
          rw [List.drop_eq_getElem_cons hlt2]; congr 1; exact (List.getElem?_eq_some_iff.mp hx').2
        refine ex_cons (ex_assign_k (evk_add (by walk_at "nk") (by walk_at "nk") (by rw [S_len, S_len, sizeLine_eq]; simp; omega)) (by walk_at "kk") (by walk_at "wr") fun B' => ?_)
        dsimp only
        rw [S_append]
        refine ex_nil ⟨l.length - (i + 2), by omega, i + 2, dn ++ [34], B', rfl, by omega, ?_, by simp; omega, by unfold b257; walk_at "sub"⟩
        rw [hdrop, hdrop2, p257_quote2] at hdn
        rw [← hdn, List.append_assoc]; rfl
    · have h34' : c ≠ 34 := of_decide_eq_false h34
      refine ex_nil ?_
      dsimp only
      refine ex_cons (ex_assign_k (evk_add (by walk_at "nk") (by walk_at "nk") (by rw [S_len, S_len, sizeLine_eq]; simp; omega)) (by walk_at "kk") (by walk_at "wr") fun B' => ?_)
      dsimp only
      rw [S_append]
      refine ex_nil ⟨l.length - (i + 1), by omega, i + 1, dn ++ [c], B', rfl, by omega, ?_, by simp; omega, by unfold b257; walk_at "sub"⟩
      rw [hdrop, p257_other _ h34'] at hdn
      rw [← hdn, List.append_assoc]; rfl
theorem fn_257 {C : Cx} {A : Around} {k : Nat} {f : Addr} (D : DefIn C vw 5 "parse257" f) (hlenb : C.mg "len" = none) (hr : RoomA A (k + 1)) (t : List Nat) (hlen : t.length ≤ 100000) :
    FnP C A (.ref f) [.str (S (50 :: 53 :: 55 :: 32 :: 34 :: t))] fun d => ∃ B, d = .strb (S (p257 t)) B := by
  refine fn_at D hr ["resp"] (fun pm code doc vs h => ?_) rfl (fun d hd => ?_) fun A' env ws hr' _ K Wc => ex_257 (C := C.push env) hlenb hr' K t hlen
  · match vs, h with
    | [v], _ => rfl
  · rw [List.mem_singleton.mp hd]; intro _ _ h; cases h

theorem exx_257 {C : Cx} {A : Around} {env : Env} {ws : List Addr} {k : Nat} {a : Addr} (O : ExcCls C.mg C.h₀ "error_reply" a) (hr : RoomA A k) (K : EnvOk (scAt vw 5) env) (l : List Nat) (hlen : l.length ≤ 100000) (hne : l.take 3 ≠ [50, 53, 55]) :
    ExX C A env ws (stoOf ["resp"] [.str (S l)]) (bodyAt vw 5) (.ref a) (S l) := by
  simp only [stoOf]
  have hsz : (S l).length ≤ sizeLine := by rw [S_len, sizeLine_eq]; omega
  refine exX_now (ex1X_if (cb := true) ?_ rfl (exX_now (ex1X_raise O K (by decide +kernel) hr.hd (by walk_at "nm"))))
  refine EvB.conv (evb_cmp (ev_sliceS (by walk_at "nm") part_none (part_some ev_int) hsz) ev_str op_sne) ?_
  rw [slice_S, q257, S_bne]
  have h1 : loOf none l.length = 0 := rfl
  rw [h1, List.drop_zero]
  have h2 : l.take (hiOf (some 3) l.length - 0) = l.take 3 := by
    simp only [hiOf]
    by_cases q : 3 ≤ l.length
    · congr 1; omega
    · rw [List.take_of_length_le (by omega), List.take_of_length_le (by omega)]
  rw [h2]
  simpa [bne, beq_eq_false_iff_ne] using hne
theorem fnx_257 {C : Cx} {A : Around} {k : Nat} {f a : Addr} (D : DefIn C vw 5 "parse257" f) (O : ExcCls C.mg C.h₀ "error_reply" a) (hr : RoomA A (k + 1)) (hfr : A.frames = some C.fr) (l : List Nat) (hlen : l.length ≤ 100000) (hne : l.take 3 ≠ [50, 53, 55]) :
    FnX C A (.ref f) [.str (S l)] (.ref a) (S l) := by
  refine fnx_at D hr hfr ["resp"] (fun pm code doc vs h => ?_) rfl (fun d hd => ?_) fun A' env ws hr' K Wc => exx_257 (C := C.push env) O hr' K l hlen hne
  · match vs, h with
    | [v], _ => rfl
  · rw [List.mem_singleton.mp hd]; intro _ _ h; cases h
end Mine
namespace Mine

local macro_rules | `(tactic| walk_at "sl") => `(tactic| first | rfl | (congr 2; omega))
local macro_rules | `(tactic| walk_at "lk") => `(tactic| first | with_reducible exact Sto.at_same | ((with_reducible refine Sto.at_sameE ?_); walk_at "sl") | (refine Sto.at_other (by decide +kernel) ?_; walk_at "lk") | (refine compSto_free (by decide +kernel) ?_; walk_at "lk"))
local macro_rules | `(tactic| walk_at "sub") => `(tactic| first | exact Sub.nil | (refine Sub.set ?_ (by walk_at "lk"); walk_at "sub"))
local macro_rules | `(tactic| walk_at "wr") => `(tactic| first | exact EnvOk.wl (by assumption) (by decide +kernel) | exact wc_of (by assumption) (by decide +kernel))
local macro_rules | `(tactic| walk_at "kk") => `(tactic| exact EnvOk.k (by assumption))
local macro_rules | `(tactic| walk_at "nm") => `(tactic| first | exact ev_name (by walk_at "lk") (by walk_at "kk") | exact Ev.weakb (ev_name (by walk_at "lk") (by walk_at "kk")))
local macro_rules | `(tactic| walk_at "nk") => `(tactic| exact evk_name (by walk_at "lk") (by walk_at "kk"))
local macro_rules | `(tactic| walk_at "cs") => `(tactic| exact ⟨rfl, by decide +kernel, by decide +kernel, by decide +kernel⟩)

theorem ex_phl {C : Cx} {A : Around} {env : Env} {ws : List Addr} {k : Nat} (hr : RoomA A k) (K : EnvOk (scAt vw 1) env) (Wc : CellsOk' (scAt vw 1) env ws) (l : List Nat) (hlen : l.length ≤ 1000000) :
    Ex C A env ws (stoOf ["s"] [.str (S l)]) (bodyAt vw 1) fun o => ∃ d, d = .list ((phRes l).map fun x => .str (Txt.strip (S x))) ∧ o = .ret d := by
  simp only [stoOf]
  refine ex_cons (ex_assign_nil (by walk_at "kk") (by walk_at "wr") fun a => ?_)
  dsimp only
  refine ex_cons (ex_assign ev_str (by walk_at "kk") (by walk_at "wr") ?_)
  dsimp only
  rw [qe]
  refine ex_cons (ex_assign_same2 ev_bool (by walk_at "kk") (by walk_at "wr") (by walk_at "wr") ?_)
  dsimp only
  refine ex_cons (ex_for (JPh a l) (evit_str (by walk_at "nm") hr.hd) ?_ (fun i d τ hd hJ => ?_) fun τ hJ => ?_)
  · unfold JPh bPh; walk_at "sub"
  · rw [signs_S, List.getElem?_map] at hd
    obtain ⟨c, hc, rfl⟩ := Option.map_eq_some_iff.mp hd
    have hlt := (List.getElem?_eq_some_iff.mp hc).1
    refine ⟨_, asg_name (by walk_at "kk") (by walk_at "wr"), ?_⟩
    have hnext := take_fold hc
    have hsz := phFold_size (l.take i) ph0
    have hti : (l.take i).length = i := List.length_take_of_le (by omega)
    rw [hti] at hsz
    unfold JPh at hJ ⊢
    rw [hnext]
    revert hJ hsz
    clear hnext
    obtain ⟨st, hst⟩ : ∃ st, st = (l.take i).foldl phStep ph0 := ⟨_, rfl⟩
    rw [← hst]
    clear hst
    obtain ⟨res, part, esc, quo⟩ := st
    intro hJ hsz
    simp only [ph0, List.length_nil] at hsz
    refine ex_sub' (τ := (bPh a ⟨res, part, esc, quo⟩).set "cur" (.val (.str (S [c])))) ?_ ?_
    · intro x sl h
      unfold Sto.set at h ⊢
      by_cases q : x = ("cur" : Str)
      · simp only [q, if_true] at h ⊢; exact h
      · simp only [q, if_false] at h ⊢; exact hJ x sl h
    have hadd : (S part).length + (S [c]).length ≤ sizeLine := by rw [S_len, S_len, sizeLine_eq]; simp only [List.length_cons, List.length_nil]; omega
    unfold bPh
    dsimp only
    refine ex_cons (ex_if (cb := esc) (evb_bool (by walk_at "nm")) (fun h => ?_) fun h => ?_)
    · subst h
      refine ex_cons (ex_aug (by walk_at "lk") (by walk_at "nm") (op_siadd hadd) (by walk_at "kk") (by walk_at "wr") ?_)
      dsimp only
      rw [S_append]
      refine ex_cons (ex_assign ev_bool (by walk_at "kk") (by walk_at "wr") ?_)
      dsimp only
      refine ex_cons (ex_continue ?_)
      simp only [phStep, if_true]
      walk_at "sub"
    · subst h
      refine ex_nil ?_
      dsimp only
      refine ex_cons (ex_if (cb := quo) (evb_bool (by walk_at "nm")) (fun h => ?_) fun h => ?_)
      · subst h
        refine ex_cons (ex_if (cb := decide (c = 92)) (EvB.conv (evb_cmp (by walk_at "nm") ev_str op_seq) (by rw [qb, S_beq, beq_one])) (fun h => ?_) fun h => ?_)
        · have hc92 := of_decide_eq_true h
          refine ex_cons (ex_assign ev_bool (by walk_at "kk") (by walk_at "wr") ?_)
          dsimp only
          refine ex_cons (ex_continue ?_)
          simp only [phStep, if_true, if_pos hc92, Bool.false_eq_true, if_false]
          walk_at "sub"
        · have hc92 := of_decide_eq_false h
          refine ex_cons (ex_if (cb := decide (c = 34)) (EvB.conv (evb_cmp (by walk_at "nm") ev_str op_seq) (by rw [qq, S_beq, beq_one])) (fun h => ?_) fun h => ?_)
          · have hc34 := of_decide_eq_true h
            refine ex_cons (ex_assign ev_bool (by walk_at "kk") (by walk_at "wr") ?_)
            dsimp only
            refine ex_nil (ex_nil ?_)
            dsimp only
            refine ex_cons (ex_aug (by walk_at "lk") (by walk_at "nm") (op_siadd hadd) (by walk_at "kk") (by walk_at "wr") ?_)
            dsimp only
            rw [S_append]
            refine ex_cons (ex_continue ?_)
            simp only [phStep, if_true, if_neg hc92, Bool.false_eq_true, if_false, hc34, ne_eq, not_true_eq_false, decide_false]
            walk_at "sub"
          · have hc34 := of_decide_eq_false h
            refine ex_nil (ex_nil ?_)
            dsimp only
            refine ex_cons (ex_aug (by walk_at "lk") (by walk_at "nm") (op_siadd hadd) (by walk_at "kk") (by walk_at "wr") ?_)
            dsimp only
            rw [S_append]
            refine ex_cons (ex_continue ?_)
            simp only [phStep, if_true, if_neg hc92, Bool.false_eq_true, if_false, hc34, ne_eq, not_false_eq_true, decide_true]
            walk_at "sub"
      · subst h
        refine ex_nil ?_
        dsimp only
        refine ex_cons (ex_if (cb := decide (c = 44)) (EvB.conv (evb_cmp (by walk_at "nm") ev_str op_seq) (by rw [qc, S_beq, beq_one])) (fun h => ?_) fun h => ?_)
        · have hc44 := of_decide_eq_true h
          refine ex_cons (ex_append (by walk_at "lk") (by walk_at "nm") (by walk_at "kk") (by rw [List.length_map, sizeLine_eq]; omega) ?_)
          dsimp only
          refine ex_cons (ex_assign ev_str (by walk_at "kk") (by walk_at "wr") ?_)
          dsimp only
          refine ex_cons (ex_continue ?_)
          simp only [phStep, if_pos hc44, Bool.false_eq_true, if_false, List.map_append, List.map_cons, List.map_nil]
          walk_at "sub"
        · have hc44 := of_decide_eq_false h
          refine ex_nil ?_
          dsimp only
          refine ex_cons (ex_if (cb := decide (c = 34)) (EvB.conv (evb_cmp (by walk_at "nm") ev_str op_seq) (by rw [qq, S_beq, beq_one])) (fun h => ?_) fun h => ?_)
          · have hc34 := of_decide_eq_true h
            refine ex_cons (ex_assign ev_bool (by walk_at "kk") (by walk_at "wr") ?_)
            dsimp only
            refine ex_nil ?_
            dsimp only
            refine ex_cons (ex_aug (by walk_at "lk") (by walk_at "nm") (op_siadd hadd) (by walk_at "kk") (by walk_at "wr") ?_)
            dsimp only
            rw [S_append]
            refine ex_nil ?_
            simp only [phStep, if_neg hc44, Bool.false_eq_true, if_false, hc34, decide_true]
            walk_at "sub"
          · have hc34 := of_decide_eq_false h
            refine ex_nil ?_
            dsimp only
            refine ex_cons (ex_aug (by walk_at "lk") (by walk_at "nm") (op_siadd hadd) (by walk_at "kk") (by walk_at "wr") ?_)
            dsimp only
            rw [S_append]
            refine ex_nil ?_
            simp only [phStep, if_neg hc44, Bool.false_eq_true, if_false, hc34, decide_false]
            walk_at "sub"
  · dsimp only
    have hn : (signs (S l)).length = l.length := by simp [signs_S]
    unfold JPh at hJ
    rw [hn, List.take_length] at hJ
    have hsz := phFold_size l ph0
    have hok := phFold_ok l 0 ph0 ⟨by simp [ph0], by simp [ph0]⟩
    revert hJ hsz hok
    unfold phRes
    generalize l.foldl phStep ph0 = st
    obtain ⟨res, part, esc, quo⟩ := st
    intro hJ hsz hok
    simp only [ph0, List.length_nil, partOk] at hsz hok
    refine ex_sub' hJ ?_
    unfold bPh
    dsimp only
    have fin : ∀ (σ : Sto) (rs : List (List Nat)), σ "res" = some (.own a (rs.map fun x => .str (S x))) → rs.length ≤ sizeLine → (∀ x ∈ rs, x.length ≤ sizeLine) → Ex C A env ws σ ((bodyAt vw 1).drop 5) fun o => ∃ d, d = .list (rs.map fun x => .str (Txt.strip (S x))) ∧ o = .ret d := by
      intro σ rs hσ h1 h2
      refine ex_freeze hσ (ex_cons (ex_ret (ev_comp1 (fun d => match d with | .str x => .str (Txt.strip x) | d => d) K Wc (evit_list (by walk_at "nm") hr.hd (.inl ⟨_, _, rfl⟩)) ?_ ?_ (by rw [List.length_map]; exact h1) ⟨rfl, by decide +kernel, by decide +kernel, by decide +kernel⟩ (by decide +kernel)) ?_))
      · intro cenv KC d hd
        obtain ⟨x, hx, rfl⟩ := List.mem_map.mp hd
        exact ev_meth0 PySem.F.slot_str_strip PySem.F.type_str_strip (by walk_at "nm") (fn_strip (by rw [S_len]; exact h2 x hx))
      · intro d hd
        obtain ⟨x, hx, rfl⟩ := List.mem_map.mp hd
        intro _ _ h; cases h
      · rw [List.map_map]
        exact ⟨_, rfl, rfl⟩
    refine ex_cons (ex_if (cb := ((part.length : Int) != 0)) (EvB.conv (evb_str (by walk_at "nm") (by rw [S_len]; omega)) (by rw [S_len])) (fun h => ?_) fun h => ?_)
    · refine ex_cons (ex_append (by walk_at "lk") (by walk_at "nm") (by walk_at "kk") (by rw [List.length_map, sizeLine_eq]; omega) ?_)
      dsimp only
      refine ex_nil ?_
      dsimp only
      have hne : part.length ≠ 0 := by intro q; rw [q] at h; simp at h
      simp only [phEnd, if_neg hne]
      refine fin _ (res ++ [part]) ?_ ?_ fun x hx => ?_
      · rw [List.map_append]; walk_at "lk"
      · rw [List.length_append, sizeLine_eq]; simp; omega
      · rw [sizeLine_eq]
        rcases List.mem_append.mp hx with hx | hx
        · have := hok.2 x hx; omega
        · rw [List.mem_singleton.mp hx]; have := hok.1; omega
    · refine ex_nil ?_
      dsimp only
      have hne : part.length = 0 := by
        cases hp : part.length with
        | zero => rfl
        | succ n => rw [hp] at h; simp [bne] at h; omega
      simp only [phEnd, if_pos hne]
      refine fin _ res ?_ ?_ fun x hx => ?_
      · walk_at "lk"
      · rw [sizeLine_eq]; omega
      · rw [sizeLine_eq]
        have := hok.2 x hx; omega
theorem fn_phl {C : Cx} {A : Around} {k : Nat} {f : Addr} (D : DefIn C vw 1 "parse_http_list" f) (hr : RoomA A (k + 1)) (l : List Nat) (hlen : l.length ≤ 1000000) :
    Fn C A (.ref f) [.str (S l)] (.list ((phRes l).map fun x => .str (Txt.strip (S x)))) := by
  refine FnP.fn (R := fun d => d = .list ((phRes l).map fun x => .str (Txt.strip (S x)))) (fn_at D hr ["s"] (fun pm code doc vs h => ?_) rfl (fun d hd => ?_) fun A' env ws hr' _ K Wc => ex_phl hr' K Wc l hlen) (fun _ _ _ h => h ▸ id)
  · match vs, h with
    | [v], _ => rfl
  · rw [List.mem_singleton.mp hd]; intro _ _ h; cases h
end Mine
namespace Mine

local macro_rules | `(tactic| walk_at "sl") => `(tactic| first | rfl | (congr 2; omega))
local macro_rules | `(tactic| walk_at "lk") => `(tactic| first | with_reducible exact Sto.at_same | ((with_reducible refine Sto.at_sameE ?_); walk_at "sl") | (refine Sto.at_other (by decide +kernel) ?_; walk_at "lk") | (refine compSto_free (by decide +kernel) ?_; walk_at "lk"))
local macro_rules | `(tactic| walk_at "sub") => `(tactic| first | exact Sub.nil | (refine Sub.set ?_ (by walk_at "lk"); walk_at "sub"))
local macro_rules | `(tactic| walk_at "wr") => `(tactic| first | exact EnvOk.wl (by assumption) (by decide +kernel) | exact wc_of (by assumption) (by decide +kernel))
local macro_rules | `(tactic| walk_at "kk") => `(tactic| exact EnvOk.k (by assumption))
local macro_rules | `(tactic| walk_at "nm") => `(tactic| first | exact ev_name (by walk_at "lk") (by walk_at "kk") | exact Ev.weakb (ev_name (by walk_at "lk") (by walk_at "kk")))
local macro_rules | `(tactic| walk_at "nk") => `(tactic| exact evk_name (by walk_at "lk") (by walk_at "kk"))
local macro_rules | `(tactic| walk_at "cs") => `(tactic| exact ⟨rfl, by decide +kernel, by decide +kernel, by decide +kernel⟩)


theorem s4 : Str.ofString "\"\\, " = S [34, 92, 44, 32] := by decide +kernel
theorem chr_is {i : Int} {n : Nat} (h : i = (n : Nat)) : (⟨#[i.toNat]⟩ : Str) = S [n] := by
  subst h; rw [Int.toNat_natCast, one_S]
def nmF (cell : Int) : D → D
  | .int p => .str (S [(signsN cell).getD (idxN cell p.toNat) 0])
  | d => d
theorem ex_name3 {C : Cx} {A : Around} {env : Env} {ws : List Addr} {k : Nat} (hrange : C.mg "range" = none) (hchr : C.mg "chr" = none) (hr : RoomA A k) (K : EnvOk (scAt vw 7) env) (Wc : CellsOk' (scAt vw 7) env ws) (cell : Int) :
    Ex C A env ws (stoOf ["cell"] [.int cell]) (bodyAt vw 7) fun o => ∃ d, d = .str (S (nameN cell)) ∧ o = .ret d := by
  simp only [stoOf]
  have h3 := Int.fmod_nonneg_of_pos (cell.fdiv 500) (show (0 : Int) < 20000 by decide)
  have h4 := Int.fmod_lt_of_pos (cell.fdiv 500) (show (0 : Int) < 20000 by decide)
  have hsg : (19968 + (cell.fdiv 500).fmod 20000 : Int) = (signC cell : Nat) := by unfold signC; omega
  refine ex_cons (ex_assign (Ev.conv (d' := .str (S (signsN cell))) (ev_bin ev_str (Ev.conv (ev_bi K (by decide +kernel) hchr (evl_cons (ev_bin ev_int (ev_bin (ev_bin (by walk_at "nm") ev_int op_fdiv) ev_int op_mod) op_add) evl_nil) (fn_chr (by omega) (by omega))) (congrArg D.str (chr_is hsg))) (op_sadd ?_)) ?_) (by walk_at "kk") (by walk_at "wr") ?_)
  · rw [s4, S_len, S_len, sizeLine_eq]; simp
  · rw [s4, S_append]; rfl
  dsimp only
  have hm0 := Int.fmod_nonneg_of_pos cell (show (0 : Int) < 4 by decide)
  have hm1 := Int.fmod_lt_of_pos cell (show (0 : Int) < 4 by decide)
  have hitems : (rangeD 0 (cell.fmod 4).toNat).map (nmF cell) = ((nameN cell).map fun c => S [c]).map D.str := by
    unfold rangeD nameN
    rw [List.map_map, List.map_map, List.map_map]
    refine List.map_congr_left fun p _ => ?_
    show nmF cell (.int (0 + (p : Int))) = _
    rw [Int.zero_add]; rfl
  refine ex_cons (ex_ret (Ev.conv (d' := .str (S (nameN cell))) (ev_meth PySem.F.slot_str_join PySem.F.type_str_join ev_str (evl_cons (Ev.conv (ev_comp1 (nmF cell) K Wc (evit_range1 (ev_bin (by walk_at "nm") ev_int op_mod) hr.hd hrange K.k K.globals K.builtins (K.at (by decide +kernel)) (by omega) (by omega)) ?_ ?_ ?_ (by walk_at "cs") (by decide +kernel)) (congrArg D.list hitems)) evl_nil) (fn_join ?_)) ?_) ?_)
  · intro cenv KC d hd
    obtain ⟨p, hp, rfl⟩ := List.mem_map.mp hd
    have hp' := List.mem_range.mp hp
    have hp3 : p ≤ 2 := by omega
    have e0 : (0 + (p : Int)).toNat = p := by omega
    have h5 : (1 : Int) ≤ 5 ^ p ∧ (5 : Int) ^ p ≤ 25 := by
      match p, hp3 with
      | 0, _ => decide
      | 1, _ => decide
      | 2, _ => decide
    have hlt := idxN_lt cell p
    have hix : ((cell.fdiv 4).fdiv (5 ^ (0 + (p : Int)).toNat)).fmod 5 = ((idxN cell p : Nat) : Int) := by
      rw [e0]
      unfold idxN
      have h := Int.fmod_nonneg_of_pos ((cell.fdiv 4).fdiv ((5 : Int) ^ p)) (show (0 : Int) < 5 by decide)
      omega
    show Ev _ _ _ _ _ _ (.str (S [(signsN cell).getD (idxN cell (0 + (p : Int)).toNat) 0]))
    rw [e0]
    have hget : (signsN cell)[idxN cell p]? = some ((signsN cell).getD (idxN cell p) 0) := by
      rw [List.getD_eq_getElem?_getD, List.getElem?_eq_getElem (show idxN cell p < (signsN cell).length from hlt)]; rfl
    refine ev_sub (by walk_at "nm") (Ev.conv (ev_bin (ev_bin (ev_bin (by walk_at "nm") ev_int op_fdiv) (ev_bin ev_int (by walk_at "nm") (op_pow (by omega) ?_)) (op_fdiv (by rw [e0]; omega) (by rw [e0]; omega) (by rw [e0]; omega))) ev_int op_mod) (congrArg D.int hix)) (Op2.weak (op_itemS (n := (signsN cell).getD (idxN cell p) 0) (by intro _ _; rfl) (by omega) (by omega) (S_item hget)))
    have hb : Builtin.Int.intBits 5 = 3 := by decide +kernel
    rw [hb]; omega
  · intro d hd
    obtain ⟨p, hp, rfl⟩ := List.mem_map.mp hd
    intro _ _ h; cases h
  · unfold rangeD; rw [List.length_map, List.length_range, sizeLine_eq]; omega
  · have hl := name_len cell
    rw [qe, S_len, List.length_map, List.map_map]
    have : ((nameN cell).map (Str.length ∘ fun c => S [c])).sum = (nameN cell).length := by
      generalize nameN cell = l
      induction l with
      | nil => rfl
      | cons c l ih => rw [List.map_cons, List.sum_cons, ih, List.length_cons]; show 1 + _ = _; omega
    rw [this]
    simp only [List.length_nil, Nat.mul_zero]; omega
  · rw [qe, join_ones]
  · dsimp only
    exact ⟨_, rfl, rfl⟩
theorem fn_name3 {C : Cx} {A : Around} {k : Nat} {f : Addr} (F : DefIn C vw 7 "_law_name" f) (hrange : C.mg "range" = none) (hchr : C.mg "chr" = none) (hr : RoomA A (k + 1)) (cell : Int) :
    Fn C A (.ref f) [.int cell] (.str (S (nameN cell))) := by
  refine FnP.fn (R := fun d => d = .str (S (nameN cell))) (fn_at F hr ["cell"] (fun pm code doc vs h => ?_) rfl (fun d hd => ?_) fun A' env ws hr' _ K Wc => ex_name3 (C := C.push env) hrange hchr hr' K Wc cell) (fun _ _ _ h => h ▸ id)
  · match vs, h with
    | [v], _ => rfl
  · rw [List.mem_singleton.mp hd]; intro _ _ h; cases h
end Mine
namespace Mine

local macro_rules | `(tactic| walk_at "sl") => `(tactic| first | rfl | (congr 2; omega))
local macro_rules | `(tactic| walk_at "lk") => `(tactic| first | with_reducible exact Sto.at_same | ((with_reducible refine Sto.at_sameE ?_); walk_at "sl") | (refine Sto.at_other (by decide +kernel) ?_; walk_at "lk") | (refine compSto_free (by decide +kernel) ?_; walk_at "lk"))
local macro_rules | `(tactic| walk_at "sub") => `(tactic| first | exact Sub.nil | (refine Sub.set ?_ (by walk_at "lk"); walk_at "sub"))
local macro_rules | `(tactic| walk_at "wr") => `(tactic| first | exact EnvOk.wl (by assumption) (by decide +kernel) | exact wc_of (by assumption) (by decide +kernel))
local macro_rules | `(tactic| walk_at "kk") => `(tactic| exact EnvOk.k (by assumption))
local macro_rules | `(tactic| walk_at "nm") => `(tactic| first | exact ev_name (by walk_at "lk") (by walk_at "kk") | exact Ev.weakb (ev_name (by walk_at "lk") (by walk_at "kk")))
local macro_rules | `(tactic| walk_at "nk") => `(tactic| exact evk_name (by walk_at "lk") (by walk_at "kk"))
local macro_rules | `(tactic| walk_at "cs") => `(tactic| exact ⟨rfl, by decide +kernel, by decide +kernel, by decide +kernel⟩)


theorem u0 : Str.ofString "250" = S [50, 53, 48] := by decide +kernel
theorem u1 : Str.ofString "257-" = S [50, 53, 55, 45] := by decide +kernel
theorem u2 : Str.ofString "25" = S [50, 53] := by decide +kernel
theorem u3 : Str.ofString " made" = S [32, 109, 97, 100, 101] := by decide +kernel
theorem codes_is3 : [D.str (Str.ofString "257"), .str (Str.ofString "250"), .str (Str.ofString "257"), .str (Str.ofString "257-"), .str (Str.ofString "25")] = codes3.map fun x => .str (S x) := by
  rw [q257, u0, u1, u2]; rfl
theorem tails_is3 : [D.str (Str.ofString ""), .str (Str.ofString " made"), .str (Str.ofString "\\")] = tails3.map fun x => .str (S x) := by
  rw [qe, u3, qb]; rfl
theorem ex_code3 {C : Cx} {A : Around} {env : Env} {ws : List Addr} (K : EnvOk (scAt vw 8) env) (Wc : CellsOk' (scAt vw 8) env ws) (cell : Int) :
    Ex C A env ws (stoOf ["cell"] [.int cell]) (bodyAt vw 8) fun o => ∃ d, d = .str (S (codeN cell)) ∧ o = .ret d := by
  simp only [stoOf]
  have h1 := Int.fmod_nonneg_of_pos (cell.fdiv 500) (show (0 : Int) < 5 by decide)
  have h2 := Int.fmod_lt_of_pos (cell.fdiv 500) (show (0 : Int) < 5 by decide)
  refine ex_cons (ex_ret (ev_sub (d₁ := .list (codes3.map fun x => .str (S x))) (Ev.conv (ev_list (evl_str (evl_str (evl_str (evl_str (evl_str evl_nil)))))) (congrArg D.list codes_is3)) (ev_bin (ev_bin (by walk_at "nm") ev_int op_fdiv) ev_int op_mod) (op_item (d := .str (S (codeN cell))) (by intro _ _; rfl) h1 (by omega) ?_)) ?_)
  · have hlt : ((cell.fdiv 500).fmod 5).toNat < codes3.length := by show _ < 5; omega
    rw [List.getElem?_map, List.getElem?_eq_getElem hlt]
    unfold codeN
    rw [List.getD_eq_getElem?_getD, List.getElem?_eq_getElem hlt]; rfl
  · dsimp only
    exact ⟨_, rfl, rfl⟩
theorem fn_code3 {C : Cx} {A : Around} {k : Nat} {f : Addr} (F : DefIn C vw 8 "_law_code" f) (hr : RoomA A (k + 1)) (cell : Int) :
    Fn C A (.ref f) [.int cell] (.str (S (codeN cell))) := by
  refine FnP.fn (R := fun d => d = .str (S (codeN cell))) (fn_at F hr ["cell"] (fun pm code doc vs h => ?_) rfl (fun d hd => ?_) fun A' env ws hr' _ K Wc => ex_code3 (C := C.push env) K Wc cell) (fun _ _ _ h => h ▸ id)
  · match vs, h with
    | [v], _ => rfl
  · rw [List.mem_singleton.mp hd]; intro _ _ h; cases h
theorem ex_tail3 {C : Cx} {A : Around} {env : Env} {ws : List Addr} (K : EnvOk (scAt vw 9) env) (Wc : CellsOk' (scAt vw 9) env ws) (cell : Int) :
    Ex C A env ws (stoOf ["cell"] [.int cell]) (bodyAt vw 9) fun o => ∃ d, d = .str (S (tailN cell)) ∧ o = .ret d := by
  simp only [stoOf]
  have h1 := Int.fmod_nonneg_of_pos (cell.fdiv 2500) (show (0 : Int) < 3 by decide)
  have h2 := Int.fmod_lt_of_pos (cell.fdiv 2500) (show (0 : Int) < 3 by decide)
  refine ex_cons (ex_ret (ev_sub (d₁ := .list (tails3.map fun x => .str (S x))) (Ev.conv (ev_list (evl_str (evl_str (evl_str evl_nil)))) (congrArg D.list tails_is3)) (ev_bin (ev_bin (by walk_at "nm") ev_int op_fdiv) ev_int op_mod) (op_item (d := .str (S (tailN cell))) (by intro _ _; rfl) h1 (by omega) ?_)) ?_)
  · have hlt : ((cell.fdiv 2500).fmod 3).toNat < tails3.length := by show _ < 3; omega
    rw [List.getElem?_map, List.getElem?_eq_getElem hlt]
    unfold tailN
    rw [List.getD_eq_getElem?_getD, List.getElem?_eq_getElem hlt]; rfl
  · dsimp only
    exact ⟨_, rfl, rfl⟩
theorem fn_tail3 {C : Cx} {A : Around} {k : Nat} {f : Addr} (F : DefIn C vw 9 "_law_tail" f) (hr : RoomA A (k + 1)) (cell : Int) :
    Fn C A (.ref f) [.int cell] (.str (S (tailN cell))) := by
  refine FnP.fn (R := fun d => d = .str (S (tailN cell))) (fn_at F hr ["cell"] (fun pm code doc vs h => ?_) rfl (fun d hd => ?_) fun A' env ws hr' _ K Wc => ex_tail3 (C := C.push env) K Wc cell) (fun _ _ _ h => h ▸ id)
  · match vs, h with
    | [v], _ => rfl
  · rw [List.mem_singleton.mp hd]; intro _ _ h; cases h
end Mine
namespace Mine

local macro_rules | `(tactic| walk_at "sl") => `(tactic| first | rfl | (congr 2; omega))
local macro_rules | `(tactic| walk_at "lk") => `(tactic| first | with_reducible exact Sto.at_same | ((with_reducible refine Sto.at_sameE ?_); walk_at "sl") | (refine Sto.at_other (by decide +kernel) ?_; walk_at "lk") | (refine compSto_free (by decide +kernel) ?_; walk_at "lk"))
local macro_rules | `(tactic| walk_at "sub") => `(tactic| first | exact Sub.nil | (refine Sub.set ?_ (by walk_at "lk"); walk_at "sub"))
local macro_rules | `(tactic| walk_at "wr") => `(tactic| first | exact EnvOk.wl (by assumption) (by decide +kernel) | exact wc_of (by assumption) (by decide +kernel))
local macro_rules | `(tactic| walk_at "kk") => `(tactic| exact EnvOk.k (by assumption))
local macro_rules | `(tactic| walk_at "nm") => `(tactic| first | exact ev_name (by walk_at "lk") (by walk_at "kk") | exact Ev.weakb (ev_name (by walk_at "lk") (by walk_at "kk")))
local macro_rules | `(tactic| walk_at "nk") => `(tactic| exact evk_name (by walk_at "lk") (by walk_at "kk"))
local macro_rules | `(tactic| walk_at "cs") => `(tactic| exact ⟨rfl, by decide +kernel, by decide +kernel, by decide +kernel⟩)


theorem v0 : Str.ofString "\\\\" = S [92, 92] := by decide +kernel
theorem v1 : Str.ofString "\"\"" = S [34, 34] := by decide +kernel
theorem rep_dbl (a : Nat) (t : List Nat) : Txt.replace (S t) (S [a]) (S [a, a]) = S (dbl a t) := replace_one t [a, a] a
def bDr (u : List Nat) (q : Bool) : Sto := (Sto.nil.set "text" (.val (.str (S u)))).set "quotes" (.val (.bool q))
theorem ex_dress {C : Cx} {A : Around} {env : Env} {ws : List Addr} (K : EnvOk (scAt vw 10) env) (Wc : CellsOk' (scAt vw 10) env ws) (t : List Nat) (q s : Bool) (hl : t.length ≤ 1000) :
    Ex C A env ws (stoOf ["text", "quotes", "slashes"] [.str (S t), .bool q, .bool s]) (bodyAt vw 10) fun o => ∃ d, d = .str (S (dress t q s)) ∧ o = .ret d := by
  simp only [stoOf]
  have hdl := dbl_len 92 t
  refine ex_cons (Ex1.mono (P := fun o => ∃ σ, o = .next σ ∧ Sub (bDr (if s then dbl 92 t else t) q) σ) (ex_if (cb := s) (evb_bool (by walk_at "nm")) (fun h => ?_) fun h => ?_) ?_)
  · subst h
    refine ex_cons (ex_assign (Ev.conv (d' := .str (S (dbl 92 t))) (ev_replace_c (by walk_at "nm") ?_) ?_) (by walk_at "kk") (by walk_at "wr") ?_)
    · rw [v0, S_len, S_len]; simp only [List.length_cons, List.length_nil]; omega
    · rw [v0, qb, rep_dbl]
    dsimp only
    exact ex_nil ⟨_, rfl, by unfold bDr; simp only [if_true]; walk_at "sub"⟩
  · subst h
    exact ex_nil ⟨_, rfl, by unfold bDr; simp only [Bool.false_eq_true, if_false]; walk_at "sub"⟩
  rintro o ⟨σ, rfl, hσ⟩
  dsimp only
  have hul : (if s then dbl 92 t else t).length ≤ 2000 := by cases s <;> simp only [Bool.false_eq_true, if_false, if_true] <;> omega
  have he : esc t q s = if q then dbl 34 (if s then dbl 92 t else t) else (if s then dbl 92 t else t) := rfl
  have hel := esc_len t q s
  unfold dress
  rw [he] at hel ⊢
  revert hσ hul hel
  generalize (if s then dbl 92 t else t) = u
  intro hσ hul hel
  refine ex_sub' hσ ?_
  unfold bDr
  refine ex_cons (Ex1.mono (P := fun o => ∃ σ, o = .next σ ∧ Sub (Sto.nil.set "text" (.val (.str (S (if q then dbl 34 u else u))))) σ) (ex_if (cb := q) (evb_bool (by walk_at "nm")) (fun h => ?_) fun h => ?_) ?_)
  · subst h
    refine ex_cons (ex_assign (Ev.conv (d' := .str (S (dbl 34 u))) (ev_replace_c (by walk_at "nm") ?_) ?_) (by walk_at "kk") (by walk_at "wr") ?_)
    · rw [v1, S_len, S_len]; simp only [List.length_cons, List.length_nil]; omega
    · rw [v1, qq, rep_dbl]
    dsimp only
    exact ex_nil ⟨_, rfl, by simp only [if_true]; walk_at "sub"⟩
  · subst h
    exact ex_nil ⟨_, rfl, by simp only [Bool.false_eq_true, if_false]; walk_at "sub"⟩
  rintro o ⟨σ', rfl, hσ'⟩
  dsimp only
  revert hσ' hel
  generalize (if q then dbl 34 u else u) = v
  intro hel hσ'
  refine ex_sub' hσ' ?_
  refine ex_cons (ex_ret (Ev.conv (d' := .str (S ([32, 34] ++ v ++ [34]))) (ev_bin (ev_bin ev_str (by walk_at "nm") (op_sadd ?_)) ev_str (op_sadd ?_)) ?_) ?_)
  · rw [qbq, S_len, S_len, sizeLine_eq]; simp; omega
  · rw [qbq, qq, S_append, S_len, S_len, List.length_append, sizeLine_eq]; simp; omega
  · rw [qbq, qq, S_append, S_append]
  · dsimp only
    exact ⟨_, rfl, rfl⟩
theorem fn_dress {C : Cx} {A : Around} {k : Nat} {f : Addr} (F : DefIn C vw 10 "_law_dress" f) (hr : RoomA A (k + 1)) (t : List Nat) (q s : Bool) (hl : t.length ≤ 1000) :
    Fn C A (.ref f) [.str (S t), .bool q, .bool s] (.str (S (dress t q s))) := by
  refine FnP.fn (R := fun d => d = .str (S (dress t q s))) (fn_at F hr ["text", "quotes", "slashes"] (fun pm code doc vs h => ?_) rfl (fun d hd => ?_) fun A' env ws hr' _ K Wc => ex_dress (C := C.push env) K Wc t q s hl) (fun _ _ _ h => h ▸ id)
  · match vs, h with
    | [v, w, x], _ => rfl
  · simp only [List.mem_cons, List.not_mem_nil, or_false] at hd
    rcases hd with rfl | rfl | rfl <;> (intro _ _ h; cases h)
theorem repK_len (y z : List Nat) (hz : z.length ≤ 1) : ∀ (k : Nat) (l : List Nat), (repK y z k l).length ≤ l.length
  | _, [] => by simp [repK]
  | k + 1, c :: r => by
    have := repK_len y z hz k r
    show (repK y z k r).length ≤ r.length + 1
    omega
  | 0, c :: r => by
    have h1 := repK_len y z hz (y.length - 1) r
    have h2 := repK_len y z hz 0 r
    unfold repK
    split
    · rw [List.length_append, List.length_cons]; omega
    · rw [List.length_cons, List.length_cons]; omega
theorem cutN_len (n : List Nat) : (cutN n).length ≤ n.length + 1 := by
  unfold cutN
  have h1 := repK_len [34, 34] [122] (by simp) 0 (n ++ [34])
  have h2 : ((repK [34, 34] [122] 0 (n ++ [34])).takeWhile fun c => decide (c ≠ 34)).length ≤ (repK [34, 34] [122] 0 (n ++ [34])).length := List.IsPrefix.length_le (List.takeWhile_prefix _)
  have h3 : ∀ m : List Nat, (m.flatMap fun c => if c = 122 then [34] else [c]).length = m.length := fun m => by
    induction m with
    | nil => rfl
    | cons c m ih =>
      rw [List.flatMap_cons, List.length_append, ih, List.length_cons]
      split <;> simp <;> omega
  rw [h3]
  rw [List.length_append, List.length_singleton] at h1
  omega
theorem ex_cut {C : Cx} {A : Around} {env : Env} {ws : List Addr} (K : EnvOk (scAt vw 11) env) (Wc : CellsOk' (scAt vw 11) env ws) (n : List Nat) (hl : n.length ≤ 1000) :
    Ex C A env ws (stoOf ["name"] [.str (S n)]) (bodyAt vw 11) fun o => ∃ d, d = .str (S (cutN n)) ∧ o = .ret d := by
  simp only [stoOf]
  have h1 := repK_len [34, 34] [122] (by simp) 0 (n ++ [34])
  rw [List.length_append, List.length_singleton] at h1
  have h2 : ((repK [34, 34] [122] 0 (n ++ [34])).takeWhile fun c => decide (c ≠ 34)).length ≤ (repK [34, 34] [122] 0 (n ++ [34])).length := List.IsPrefix.length_le (List.takeWhile_prefix _)
  refine ex_cons (ex_ret (Ev.conv (d' := .str (S (cutN n))) (ev_replace_c (x := S ((repK [34, 34] [122] 0 (n ++ [34])).takeWhile fun c => decide (c ≠ 34))) (ev_sub (d₁ := .list ((Txt.split (S (repK [34, 34] [122] 0 (n ++ [34]))) (S [34])).map .str)) (Ev.conv (ev_meth PySem.F.slot_str_split PySem.F.type_str_split (Ev.conv (d' := .str (S (repK [34, 34] [122] 0 (n ++ [34])))) (ev_replace_c (x := S (n ++ [34])) (Ev.conv (ev_bin (by walk_at "nm") ev_str (op_sadd ?_)) ?_) ?_) ?_) (evl_cons ev_str evl_nil) (fn_split ?_ ?_ ?_)) ?_) ev_int (op_item (by intro _ _; rfl) (by decide) (by decide) ?_)) ?_) ?_) ?_)
  · rw [qq, S_len, S_len, sizeLine_eq]; simp; omega
  · rw [qq, S_append]
  · rw [qz, S_len, S_len, List.length_append]; simp only [List.length_cons, List.length_nil]; omega
  · rw [v1, qz, replace_S _ _ _ (by simp)]
  · rw [qq]; rfl
  · rw [S_len, sizeLine_eq]; omega
  · refine Nat.le_trans (Nat.le_of_eq (PySem.length_partsBetween _ _ _)) ?_
    have := PySem.StrLaws.occ_length_le (S (repK [34, 34] [122] 0 (n ++ [34]))) (Str.ofString "\"") 0 (S (repK [34, 34] [122] 0 (n ++ [34]))).length ((S (repK [34, 34] [122] 0 (n ++ [34]))).length + 1)
    rw [sizeLine_eq]
    rw [S_len] at this ⊢
    omega
  · rw [qq]
  · rw [List.getElem?_map]
    show Option.map D.str ((Txt.split _ (S [34]))[0]?) = _
    rw [split_head _ 34 (by omega)]; rfl
  · rw [qq, S_len, S_len]; simp only [List.length_cons, List.length_nil]; omega
  · rw [qz, qq, replace_one]; rfl
  · dsimp only
    exact ⟨_, rfl, rfl⟩
theorem fn_cut {C : Cx} {A : Around} {k : Nat} {f : Addr} (F : DefIn C vw 11 "_law_cut" f) (hr : RoomA A (k + 1)) (n : List Nat) (hl : n.length ≤ 1000) :
    Fn C A (.ref f) [.str (S n)] (.str (S (cutN n))) := by
  refine FnP.fn (R := fun d => d = .str (S (cutN n))) (fn_at F hr ["name"] (fun pm code doc vs h => ?_) rfl (fun d hd => ?_) fun A' env ws hr' _ K Wc => ex_cut (C := C.push env) K Wc n hl) (fun _ _ _ h => h ▸ id)
  · match vs, h with
    | [v], _ => rfl
  · rw [List.mem_singleton.mp hd]; intro _ _ h; cases h
end Mine
namespace Mine

local macro_rules | `(tactic| walk_at "sl") => `(tactic| first | rfl | (congr 2; omega))
local macro_rules | `(tactic| walk_at "lk") => `(tactic| first | with_reducible exact Sto.at_same | ((with_reducible refine Sto.at_sameE ?_); walk_at "sl") | (refine Sto.at_other (by decide +kernel) ?_; walk_at "lk") | (refine compSto_free (by decide +kernel) ?_; walk_at "lk"))
local macro_rules | `(tactic| walk_at "sub") => `(tactic| first | exact Sub.nil | (refine Sub.set ?_ (by walk_at "lk"); walk_at "sub"))
local macro_rules | `(tactic| walk_at "wr") => `(tactic| first | exact EnvOk.wl (by assumption) (by decide +kernel) | exact wc_of (by assumption) (by decide +kernel))
local macro_rules | `(tactic| walk_at "kk") => `(tactic| exact EnvOk.k (by assumption))
local macro_rules | `(tactic| walk_at "nm") => `(tactic| first | exact ev_name (by walk_at "lk") (by walk_at "kk") | exact Ev.weakb (ev_name (by walk_at "lk") (by walk_at "kk")))
local macro_rules | `(tactic| walk_at "nk") => `(tactic| exact evk_name (by walk_at "lk") (by walk_at "kk"))
local macro_rules | `(tactic| walk_at "cs") => `(tactic| exact ⟨rfl, by decide +kernel, by decide +kernel, by decide +kernel⟩)


theorem ex_257e {C : Cx} {A : Around} {env : Env} {ws : List Addr} {k : Nat} (hr : RoomA A k) (K : EnvOk (scAt vw 5) env) (l : List Nat) (hlen : l.length ≤ 100000) (h3 : l.take 3 = [50, 53, 55]) (h5 : (l.drop 3).take 2 ≠ [32, 34]) :
    Ex C A env ws (stoOf ["resp"] [.str (S l)]) (bodyAt vw 5) fun o => ∃ d, (∃ B, d = .strb (S []) B) ∧ o = .ret d := by
  simp only [stoOf]
  have hsz : (S l).length ≤ sizeLine := by rw [S_len, sizeLine_eq]; omega
  have hl3 : 3 ≤ l.length := by
    have := congrArg List.length h3
    rw [List.length_take] at this
    simp only [List.length_cons, List.length_nil] at this
    omega
  refine ex_cons (ex_if (cb := false) ?_ (fun h => nomatch h) fun _ => ex_nil ?_)
  · refine EvB.conv (evb_cmp (ev_sliceS (by walk_at "nm") part_none (part_some ev_int) hsz) ev_str op_sne) ?_
    rw [slice_S, q257, S_bne]
    have h1 : loOf none l.length = 0 := rfl
    have h2 : hiOf (some 3) l.length = 3 := by simp only [hiOf]; omega
    rw [h1, h2, List.drop_zero, h3]; rfl
  dsimp only
  refine ex_cons (ex_if (cb := true) ?_ (fun _ => ?_) fun h => nomatch h)
  · refine EvB.conv (evb_cmp (ev_sliceS (by walk_at "nm") (part_some ev_int) (part_some ev_int) hsz) ev_str op_sne) ?_
    rw [slice_S, qbq, S_bne]
    have h1 : loOf (some 3) l.length = 3 := by simp only [loOf]; omega
    have h2 : (l.drop 3).take (hiOf (some 5) l.length - 3) = (l.drop 3).take 2 := by
      simp only [hiOf]
      by_cases q : 5 ≤ l.length
      · congr 1; omega
      · rw [List.take_of_length_le (by rw [List.length_drop]; omega), List.take_of_length_le (by rw [List.length_drop]; omega)]
    rw [h1, h2]
    simpa [bne, beq_eq_false_iff_ne] using h5
  · refine ex_cons (ex_ret_k evk_str fun B => ?_)
    dsimp only
    rw [qe]
    exact ⟨_, ⟨B, rfl⟩, rfl⟩
def p257g (l : List Nat) : List Nat := if (l.drop 3).take 2 = [32, 34] then p257 (l.drop 5) else []
theorem drop_five {l : List Nat} (h3 : l.take 3 = [50, 53, 55]) (h5 : (l.drop 3).take 2 = [32, 34]) : l = 50 :: 53 :: 55 :: 32 :: 34 :: l.drop 5 := by
  conv => lhs; rw [← List.take_append_drop 3 l, h3, ← List.take_append_drop 2 (l.drop 3), h5, List.drop_drop]
  rfl
theorem fn_257g {C : Cx} {A : Around} {k : Nat} {f : Addr} (D : DefIn C vw 5 "parse257" f) (hlenb : C.mg "len" = none) (hr : RoomA A (k + 1)) (l : List Nat) (hlen : l.length ≤ 100000) (h3 : l.take 3 = [50, 53, 55]) :
    FnP C A (.ref f) [.str (S l)] fun d => ∃ B, d = .strb (S (p257g l)) B := by
  refine fn_at D hr ["resp"] (fun pm code doc vs h => ?_) rfl (fun d hd => ?_) fun A' env ws hr' _ K Wc => ?_
  · match vs, h with
    | [v], _ => rfl
  · rw [List.mem_singleton.mp hd]; intro _ _ h; cases h
  · unfold p257g
    by_cases h5 : (l.drop 3).take 2 = [32, 34]
    · rw [if_pos h5]
      conv => arg 5; rw [drop_five h3 h5]
      exact ex_257 (C := C.push env) hlenb hr' K _ (by rw [List.length_drop]; omega)
    · rw [if_neg h5]
      exact ex_257e (C := C.push env) hr' K l hlen h3 h5
def wTold : List Nat := [116, 111, 108, 100]
def wRef : List Nat := [114, 101, 102, 117, 115, 101, 100]
theorem told_is : Str.ofString "told" = S wTold := by decide +kernel
theorem ref_is : Str.ofString "refused" = S wRef := by decide +kernel
def readP (l : List Nat) : List Nat × List Nat := if l.take 3 = [50, 53, 55] then (wTold, p257g l) else (wRef, l)
def pairD3 (p : List Nat × List Nat) : D := .list [.str (S p.1), .str (S p.2)]
set_option maxHeartbeats 4000000 in
theorem ex_read3 {C : Cx} {A : Around} {env : Env} {ws : List Addr} {k : Nat} {f5 a : Addr} {outer : List Env} (F5 : DefIn C vw 5 "parse257" f5) (O : ExcCls C.mg C.h₀ "error_reply" a) (hlenb : C.mg "len" = none) (hstr : C.mg "str" = none) (hr : RoomA A (k + 1)) (hfr : A.frames = some C.fr) (hC : C.fr = env :: outer)
    (K : EnvOk (scAt vw 12) env) (Wc : CellsOk' (scAt vw 12) env ws) (l : List Nat) (hlen : l.length ≤ 100000) :
    Ex C A env ws (stoOf ["reply"] [.str (S l)]) (bodyAt vw 12) fun o => ∃ d, d = pairD3 (readP l) ∧ o = .ret d := by
  simp only [stoOf]
  unfold readP
  by_cases h3 : l.take 3 = [50, 53, 55]
  · rw [if_pos h3]
    refine ex_cons (ex_try_ok (ex_cons (ex_ret (ev_list (evl_str (evl_cons (evk_call F5 K (by decide +kernel) (evl_cons (by walk_at "nm") evl_nil) (fn_257g F5 hlenb hr l hlen h3)).ev evl_nil)) (by rw [sizeLine_eq]; simp)) ?_)))
    dsimp only
    exact ⟨_, rfl, by unfold pairD3; rw [told_is]⟩
  · rw [if_neg h3]
    refine ex_cons (ex_try_refused K hC hfr (by have := hr.un; omega) O (exX_now (ex1X_ret (evX_list2 ev_str (evX_call F5 K (by decide +kernel) (evl_cons (by walk_at "nm") evl_nil) (fnx_257 F5 O hr hfr l hlen h3))))) (fun e => ev_str) (by decide +kernel) (by decide +kernel) hstr (by decide +kernel) ?_)
    dsimp only
    exact ⟨_, rfl, by unfold pairD3; rw [ref_is]⟩
theorem fn_read3 {C : Cx} {A : Around} {k : Nat} {f f5 a : Addr} (F : DefIn C vw 12 "_law_read" f) (F5 : DefIn C vw 5 "parse257" f5) (O : ExcCls C.mg C.h₀ "error_reply" a) (hlenb : C.mg "len" = none) (hstr : C.mg "str" = none) (hr : RoomA A (k + 2)) (hfr : A.frames = some C.fr) (l : List Nat) (hlen : l.length ≤ 100000) :
    Fn C A (.ref f) [.str (S l)] (pairD3 (readP l)) := by
  refine FnP.fn (R := fun d => d = pairD3 (readP l)) (fn_at F hr ["reply"] (fun pm code doc vs h => ?_) rfl (fun d hd => ?_) fun A' env ws hr' hf K Wc => ex_read3 (C := C.push env) F5.push O hlenb hstr hr' (hf hfr) rfl K Wc l hlen) (fun _ _ _ h => h ▸ id)
  · match vs, h with
    | [v], _ => rfl
  · rw [List.mem_singleton.mp hd]; intro _ _ h; cases h
theorem readP_told {l : List Nat} (h : l.take 3 = [50, 53, 55]) : readP l = (wTold, p257g l) := if_pos h
theorem readP_ref {l : List Nat} (h : l.take 3 ≠ [50, 53, 55]) : readP l = (wRef, l) := if_neg h
/-- what a reply of the header is read as -/
theorem read_item (cell : Int) : readP (itemH (pcOf cell)) = if codeN cell = [50, 53, 55] then (wTold, nameN cell) else if codeN cell = [50, 53, 55, 45] then (wTold, []) else (wRef, itemH (pcOf cell)) := by
  have ht := tail_cases (tailN_mem cell)
  have hth : (tailN cell).head? ≠ some 34 := by rcases ht with h | h | h <;> rw [h] <;> simp
  have hi : itemH (pcOf cell) = codeN cell ++ ([32, 34] ++ (dbl 34 (nameN cell) ++ 34 :: tailN cell)) := itemH_is _
  rcases code_cases (codeN_mem cell) with h | h | h | h
  · rw [if_pos h, readP_told (by rw [hi, h]; rfl)]
    unfold p257g
    rw [if_pos (by rw [hi, h]; rfl), hi, h]
    show (wTold, p257 (dbl 34 (nameN cell) ++ 34 :: tailN cell)) = _
    rw [p257_dbl _ _ hth]
  · rw [if_neg (by rw [h]; decide), if_neg (by rw [h]; decide), readP_ref]
    rw [hi, h]
    show ([50, 53, 48] : List Nat) ≠ [50, 53, 55]
    decide
  · rw [if_neg (by rw [h]; decide), if_pos h, readP_told (by rw [hi, h]; rfl)]
    unfold p257g
    rw [if_neg]
    rw [hi, h]
    show ¬ ([45, 32] : List Nat) = [32, 34]
    decide
  · rw [if_neg (by rw [h]; decide), if_neg (by rw [h]; decide), readP_ref]
    rw [hi, h]
    show ([50, 53, 32] : List Nat) ≠ [50, 53, 55]
    decide
theorem u4 : Str.ofString "257-" = S [50, 53, 55, 45] := by decide +kernel
theorem ex_due3 {C : Cx} {A : Around} {env : Env} {ws : List Addr} {k : Nat} {f7 f8 f9 f10 : Addr} (F7 : DefIn C vw 7 "_law_name" f7) (F8 : DefIn C vw 8 "_law_code" f8) (F9 : DefIn C vw 9 "_law_tail" f9) (F10 : DefIn C vw 10 "_law_dress" f10)
    (hrange : C.mg "range" = none) (hchr : C.mg "chr" = none) (hr : RoomA A (k + 1)) (K : EnvOk (scAt vw 13) env) (Wc : CellsOk' (scAt vw 13) env ws) (cell : Int) :
    Ex C A env ws (stoOf ["cell"] [.int cell]) (bodyAt vw 13) fun o => ∃ d, d = pairD3 (readP (itemH (pcOf cell))) ∧ o = .ret d := by
  simp only [stoOf]
  have hnl := name_len cell
  have hcl := code_len3 cell
  have htl := tail_len3 cell
  have hdl := dress_len (nameN cell) true false
  rw [read_item]
  refine ex_cons (ex_assign_swap K (evl_cons (ev_call F7 K (by decide +kernel) (evl_cons (by walk_at "nm") evl_nil) (fn_name3 F7 hrange hchr hr cell)) (evl_cons (ev_call F8 K (by decide +kernel) (evl_cons (by walk_at "nm") evl_nil) (fn_code3 F8 hr cell)) evl_nil)) hr.hd (by decide +kernel) (by decide +kernel) (by decide) (by decide) rfl rfl rfl ?_)
  dsimp only
  refine ex_cons (ex_if (cb := decide (codeN cell = [50, 53, 55])) (EvB.conv (evb_cmp (by walk_at "nm") ev_str op_seq) (by rw [q257, S_beq]; by_cases q : codeN cell = [50, 53, 55] <;> simp [q])) (fun h => ?_) fun h => ?_)
  · rw [if_pos (of_decide_eq_true h)]
    refine ex_cons (ex_ret (ev_list (evl_str (evl_cons (by walk_at "nm") evl_nil)) (by rw [sizeLine_eq]; simp)) ?_)
    dsimp only
    exact ⟨_, rfl, by unfold pairD3; rw [told_is]⟩
  · rw [if_neg (of_decide_eq_false h)]
    refine ex_nil ?_
    dsimp only
    refine ex_cons (ex_if (cb := decide (codeN cell = [50, 53, 55, 45])) (EvB.conv (evb_cmp (by walk_at "nm") ev_str op_seq) (by rw [u4, S_beq]; by_cases q : codeN cell = [50, 53, 55, 45] <;> simp [q])) (fun h => ?_) fun h => ?_)
    · rw [if_pos (of_decide_eq_true h)]
      refine ex_cons (ex_ret (ev_list (evl_str (evl_str evl_nil)) (by rw [sizeLine_eq]; simp)) ?_)
      dsimp only
      exact ⟨_, rfl, by unfold pairD3; rw [told_is, qe]⟩
    · rw [if_neg (of_decide_eq_false h)]
      refine ex_nil ?_
      dsimp only
      refine ex_cons (ex_ret (ev_list (evl_str (evl_cons (Ev.conv (d' := .str (S (itemH (pcOf cell)))) (ev_bin (ev_bin (by walk_at "nm") (ev_call F10 K (by decide +kernel) (evl_cons (by walk_at "nm") (evl_cons ev_bool (evl_cons ev_bool evl_nil))) (fn_dress F10 hr (nameN cell) true false (by omega))) (op_sadd ?_)) (ev_call F9 K (by decide +kernel) (evl_cons (by walk_at "nm") evl_nil) (fn_tail3 F9 hr cell)) (op_sadd ?_)) ?_) evl_nil)) (by rw [sizeLine_eq]; simp)) ?_)
      · rw [S_len, S_len, sizeLine_eq]; omega
      · rw [S_append, S_len, S_len, List.length_append, sizeLine_eq]; omega
      · rw [S_append, S_append]; rfl
      · dsimp only
        exact ⟨_, rfl, by unfold pairD3; rw [ref_is]⟩
theorem fn_due3 {C : Cx} {A : Around} {k : Nat} {f f7 f8 f9 f10 : Addr} (F : DefIn C vw 13 "_law_due" f) (F7 : DefIn C vw 7 "_law_name" f7) (F8 : DefIn C vw 8 "_law_code" f8) (F9 : DefIn C vw 9 "_law_tail" f9) (F10 : DefIn C vw 10 "_law_dress" f10)
    (hrange : C.mg "range" = none) (hchr : C.mg "chr" = none) (hr : RoomA A (k + 2)) (cell : Int) :
    Fn C A (.ref f) [.int cell] (pairD3 (readP (itemH (pcOf cell)))) := by
  refine FnP.fn (R := fun d => d = pairD3 (readP (itemH (pcOf cell)))) (fn_at F hr ["cell"] (fun pm code doc vs h => ?_) rfl (fun d hd => ?_) fun A' env ws hr' _ K Wc => ex_due3 (C := C.push env) F7.push F8.push F9.push F10.push hrange hchr hr' K Wc cell) (fun _ _ _ h => h ▸ id)
  · match vs, h with
    | [v], _ => rfl
  · rw [List.mem_singleton.mp hd]; intro _ _ h; cases h
end Mine
namespace Mine

local macro_rules | `(tactic| walk_at "sl") => `(tactic| first | rfl | (congr 2; omega))
local macro_rules | `(tactic| walk_at "lk") => `(tactic| first | with_reducible exact Sto.at_same | ((with_reducible refine Sto.at_sameE ?_); walk_at "sl") | (refine Sto.at_other (by decide +kernel) ?_; walk_at "lk") | (refine compSto_free (by decide +kernel) ?_; walk_at "lk"))
local macro_rules | `(tactic| walk_at "sub") => `(tactic| first | exact Sub.nil | (refine Sub.set ?_ (by walk_at "lk"); walk_at "sub"))
local macro_rules | `(tactic| walk_at "wr") => `(tactic| first | exact EnvOk.wl (by assumption) (by decide +kernel) | exact wc_of (by assumption) (by decide +kernel))
local macro_rules | `(tactic| walk_at "kk") => `(tactic| exact EnvOk.k (by assumption))
local macro_rules | `(tactic| walk_at "nm") => `(tactic| first | exact ev_name (by walk_at "lk") (by walk_at "kk") | exact Ev.weakb (ev_name (by walk_at "lk") (by walk_at "kk")))
local macro_rules | `(tactic| walk_at "nk") => `(tactic| exact evk_name (by walk_at "lk") (by walk_at "kk"))
local macro_rules | `(tactic| walk_at "cs") => `(tactic| exact ⟨rfl, by decide +kernel, by decide +kernel, by decide +kernel⟩)


structure Law3 (C : Cx) (a f1 f5 f7 f8 f9 f10 f11 f12 f13 f14 : Addr) : Prop where
  O : ExcCls C.mg C.h₀ "error_reply" a
  F1 : DefIn C vw 1 "parse_http_list" f1
  F5 : DefIn C vw 5 "parse257" f5
  F7 : DefIn C vw 7 "_law_name" f7
  F8 : DefIn C vw 8 "_law_code" f8
  F9 : DefIn C vw 9 "_law_tail" f9
  F10 : DefIn C vw 10 "_law_dress" f10
  F11 : DefIn C vw 11 "_law_cut" f11
  F12 : DefIn C vw 12 "_law_read" f12
  F13 : DefIn C vw 13 "_law_due" f13
  F14 : DefIn C vw 14 "law" f14
  len : C.mg "len" = none
  range : C.mg "range" = none
  sum : C.mg "sum" = none
  enumerate : C.mg "enumerate" = none
  chr : C.mg "chr" = none
  str : C.mg "str" = none
theorem Law3.push {C : Cx} {a f1 f5 f7 f8 f9 f10 f11 f12 f13 f14 : Addr} {env : Env} (L : Law3 C a f1 f5 f7 f8 f9 f10 f11 f12 f13 f14) : Law3 (C.push env) a f1 f5 f7 f8 f9 f10 f11 f12 f13 f14 := ⟨L.O, L.F1.push, L.F5.push, L.F7.push, L.F8.push, L.F9.push, L.F10.push, L.F11.push, L.F12.push, L.F13.push, L.F14.push, L.len, L.range, L.sum, L.enumerate, L.chr, L.str⟩

/-- a name in its four dresses -/
def dresses : List (Bool × Bool) := [(false, false), (false, true), (true, false), (true, true)]
def bC (ns cs : List Int) : Sto := (Sto.nil.set "script" (.val (.list (ns.map .int)))).set "cells" (.val (.list (cs.map .int)))
def bNm (ns cs : List Int) (cell : Int) : Sto := ((bC ns cs).set "cell" (.val (.int cell))).set "name" (.val (.str (S (nameN cell))))
def forBody (l : List Stmt) : List Stmt := match l with
  | .For _ _ b _ _ :: _ => b
  | _ => []
def forIter (l : List Stmt) : Expr := match l with
  | .For _ i _ _ _ :: _ => i
  | _ => .Name "" ⟨0, 0, 0, 0⟩
/-- one dress of a name -/
theorem ex_one_dress {C : Cx} {A : Around} {env : Env} {ws : List Addr} {k : Nat} {a f1 f5 f7 f8 f9 f10 f11 f12 f13 f14 : Addr} (L : Law3 C a f1 f5 f7 f8 f9 f10 f11 f12 f13 f14) (hr : RoomA A (k + 2)) (K : EnvOk (scAt vw 14) env) (Wc : CellsOk' (scAt vw 14) env ws) (ns cs : List Int) (cell : Int) (q s : Bool)
    {b : List Stmt} (hb : b = forBody ((forBody ((bodyAt vw 14).drop 1)).drop 1)) :
    Ex C A env ws (((bNm ns cs cell).set "quotes" (.val (.bool q))).set "slashes" (.val (.bool s))) b fun o => ∃ τ, o = .next τ ∧ Sub (bNm ns cs cell) τ := by
  subst hb
  obtain ⟨n65, hn65, hname⟩ := name_rho cell
  obtain ⟨x0, rest, t, hph, hst, htold⟩ := name_told (signC_b cell).1 hn65 q s
  rw [← hname] at hph htold
  have hnl := name_len cell
  have hdl := dress_len (nameN cell) q s
  have hal : (askN (nameN cell) q s).length ≤ 1000 := by unfold askN; rw [List.length_append]; simp only [List.length_cons, List.length_nil]; omega
  have hx0 : x0.length ≤ 1000 := Nat.le_trans ((phRes_len _).1 x0 (by rw [hph]; exact List.mem_cons_self)) hal
  have htl : t.length ≤ 1000 := by
    have h1 := stripL_len x0
    rw [hst] at h1
    simp only [List.length_cons] at h1
    omega
  have hitem : ((phRes (askN (nameN cell) q s)).map fun x => D.str (Txt.strip (S x)))[(0 : Int).toNat]? = some (.str (S (50 :: 53 :: 55 :: 32 :: 34 :: t))) := by
    rw [hph, ← hst, ← strip_is]; rfl
  unfold bNm bC
  refine ex_cons (ex_assign (evk_call L.F5 K (by decide +kernel) (evl_cons (ev_sub (ev_call L.F1 K (by decide +kernel) (evl_bin (Ev.conv (d' := .str (S (askN (nameN cell) q s))) (ev_bin ev_str (ev_call L.F10 K (by decide +kernel) (evl_name (by walk_at "nm") (evl_name (by walk_at "nm") (evl_name (by walk_at "nm") evl_nil))) (fn_dress L.F10 hr (nameN cell) q s (by omega))) (op_sadd ?_)) ?_) evl_nil) (fn_phl L.F1 hr _ (by omega))) ev_int (op_item (by intro _ _; rfl) (by decide) (by decide) hitem)) evl_nil) (fn_257 L.F5 L.len hr t (by omega))).ev (by walk_at "kk") (by walk_at "wr") ?_)
  · rw [q257, S_len, S_len, sizeLine_eq]; simp only [List.length_cons, List.length_nil]; omega
  · rw [q257, S_append]; rfl
  dsimp only
  have hin : (!(Builtin.Str.occurrences (S (nameN cell)) (S [92]) 0 (S (nameN cell)).length 1).isEmpty) = (nameN cell).contains 92 := by
    have h := PySem.StrLaws.found_one (S (nameN cell)) 92
    have e : (⟨#[92]⟩ : Str) = S [92] := rfl
    rw [e, S_toList] at h
    rw [h, Bool.eq_iff_iff, decide_eq_true_eq, List.contains_iff_mem]
  refine ex_cons (ex_if (cb := (nameN cell).contains 92 && !s) (EvB.conv (evb_and (evand_cons (evb_cmp ev_str (by walk_at "nm") op_sin) fun _ => evand_cons (evb_not (evb_bool (by walk_at "nm"))) fun _ => evand_nil)) (by rw [Bool.and_true, qb, hin])) (fun h => ?_) fun h => ?_)
  · have h' : (nameN cell).contains 92 = true ∧ s = false := by simpa using h
    rw [if_pos h'] at htold
    refine ex_cons (ex_if (cb := false) (EvB.conv (evb_cmp (by walk_at "nm") (by walk_at "nm") op_seq) ?_) (fun h => nomatch h) fun _ => ex_nil ?_)
    · rw [S_beq]; exact beq_false_of_ne htold
    dsimp only
    refine ex_nil ?_
    dsimp only
    exact ex_nil ⟨_, rfl, by walk_at "sub"⟩
  · have h' : ¬ ((nameN cell).contains 92 = true ∧ s = false) := by
      intro e; rw [e.1, e.2] at h; cases h
    rw [if_neg h'] at htold
    have hsame : (if q = true then nameN cell else cutN (nameN cell)) = p257 t := htold.symm
    refine ex_cons (ex_if (cb := false) (EvB.conv (evb_cmp (d₂ := .str (S (p257 t))) (by walk_at "nm") (ev_ifexp (c := q) (evb_bool (by walk_at "nm")) (fun hq => ?_) fun hq => ?_) op_sne) ?_) (fun h => nomatch h) fun _ => ex_nil ?_)
    · rw [← hsame, if_pos hq]; walk_at "nm"
    · rw [← hsame, if_neg (by rw [hq]; decide)]
      exact ev_call L.F11 K (by decide +kernel) (evl_name (by walk_at "nm") evl_nil) (fn_cut L.F11 hr _ (by omega))
    · rw [S_bne]; simp
    dsimp only
    refine ex_nil ?_
    dsimp only
    exact ex_nil ⟨_, rfl, by walk_at "sub"⟩
end Mine
namespace Mine

local macro_rules | `(tactic| walk_at "sl") => `(tactic| first | rfl | (congr 2; omega))
local macro_rules | `(tactic| walk_at "lk") => `(tactic| first | with_reducible exact Sto.at_same | ((with_reducible refine Sto.at_sameE ?_); walk_at "sl") | (refine Sto.at_other (by decide +kernel) ?_; walk_at "lk") | (refine compSto_free (by decide +kernel) ?_; walk_at "lk"))
local macro_rules | `(tactic| walk_at "sub") => `(tactic| first | exact Sub.nil | (refine Sub.set ?_ (by walk_at "lk"); walk_at "sub"))
local macro_rules | `(tactic| walk_at "wr") => `(tactic| first | exact EnvOk.wl (by assumption) (by decide +kernel) | exact wc_of (by assumption) (by decide +kernel))
local macro_rules | `(tactic| walk_at "kk") => `(tactic| exact EnvOk.k (by assumption))
local macro_rules | `(tactic| walk_at "nm") => `(tactic| first | exact ev_name (by walk_at "lk") (by walk_at "kk") | exact Ev.weakb (ev_name (by walk_at "lk") (by walk_at "kk")))
local macro_rules | `(tactic| walk_at "nk") => `(tactic| exact evk_name (by walk_at "lk") (by walk_at "kk"))
local macro_rules | `(tactic| walk_at "cs") => `(tactic| exact ⟨rfl, by decide +kernel, by decide +kernel, by decide +kernel⟩)


def cellOf3 (ns : List Int) (place start : Int) : Int := start + (pickL ns (some place) none (some 4)).sum
def starts3 : List (Int × Int) := [(0, 6), (1, 518), (2, 3611), (3, 6827)]
def cellsOf (ns : List Int) : List Int := starts3.map fun x => cellOf3 ns x.1 x.2
def cellD (ns : List Int) : D → D → D
  | .int p, .int s => .int (cellOf3 ns p s)
  | d, _ => d
def pieceD : D → D
  | .int c => .str (S (pieceH (pcOf c)))
  | d => d
def readD3 : D → D
  | .str x => pairD3 (readP x.cps.toList)
  | d => d
def dueD3 : D → D
  | .int c => pairD3 (readP (itemH (pcOf c)))
  | d => d
theorem shaped_pairs (l : List (List Nat × List Nat)) (h : ∀ p ∈ l, (∀ c ∈ p.1, c < 0x110000) ∧ (∀ c ∈ p.2, c < 0x110000)) : SeqAt.shaped (toP (.list (l.map pairD3))) = true := by
  refine shaped_map pairD3 1 (by omega) l (fun p hp => ?_) (fun p hp => ?_)
  · unfold pairD3
    rw [toP, toPs, toPs, toPs, toP, toP]
    have h1 := strOk_S (h p hp).1
    have h2 := strOk_S (h p hp).2
    simp [PyData.canLay0, PyData.canLayAll0, h1, h2]
  · unfold pairD3
    rw [toP, toPs, toPs, toPs, toP, toP]
    simp [PyData.depth, PyData.depthAll]
theorem words_lt : (∀ c ∈ wTold, c < 0x110000) ∧ (∀ c ∈ wRef, c < 0x110000) := by
  have h1 : (wTold.all fun c => decide (c < 0x110000)) = true := by decide
  have h2 : (wRef.all fun c => decide (c < 0x110000)) = true := by decide
  exact ⟨fun c hc => of_decide_eq_true (List.all_eq_true.mp h1 c hc), fun c hc => of_decide_eq_true (List.all_eq_true.mp h2 c hc)⟩
theorem read_lt (cell : Int) : (∀ c ∈ (readP (itemH (pcOf cell))).1, c < 0x110000) ∧ (∀ c ∈ (readP (itemH (pcOf cell))).2, c < 0x110000) := by
  rw [read_item]
  split
  · exact ⟨words_lt.1, name_lt cell⟩
  · split
    · exact ⟨words_lt.1, fun c hc => nomatch hc⟩
    · exact ⟨words_lt.2, item_lt cell⟩
theorem seps_is : [D.str (Str.ofString ","), .str (Str.ofString ", "), .str (Str.ofString " ,\t")] = seps.map fun x => .str (S x) := by
  rw [show Str.ofString "," = S [44] by decide +kernel, show Str.ofString ", " = S [44, 32] by decide +kernel, show Str.ofString " ,\t" = S [32, 44, 9] by decide +kernel]; rfl
theorem evl_bools {C : Cx} {A : Around} {env : Env} {ws : List Addr} {σ : Sto} {b c : Bool} {k₁ k₂ : Nat} {p₁ p₂ : Pos} : EvL C A env ws σ [.Constant (.bool b) k₁ p₁, .Constant (.bool c) k₂ p₂] [.bool b, .bool c] := evl_cons ev_bool (evl_cons ev_bool evl_nil)
set_option maxHeartbeats 2000000 in
theorem ex_law3 {C : Cx} {A : Around} {env : Env} {ws : List Addr} {k : Nat} {a f1 f5 f7 f8 f9 f10 f11 f12 f13 f14 : Addr} (L : Law3 C a f1 f5 f7 f8 f9 f10 f11 f12 f13 f14) (hr : RoomA A (k + 2)) (hfr : A.frames = some C.fr) (K : EnvOk (scAt vw 14) env) (Wc : CellsOk' (scAt vw 14) env ws) (ns : List Int) (hn : ns.length ≤ 63) :
    Ex C A env ws (stoOf ["script"] [.list (ns.map .int)]) (bodyAt vw 14) fun o => ∃ d, d = .bool true ∧ o = .ret d := by
  simp only [stoOf]
  refine ex_cons (ex_assign_comp2 (l := starts3) (fun x => .int x.1) (fun x => .int x.2) (cellD ns) K Wc (evit_enum (ds := [.int 6, .int 518, .int 3611, .int 6827]) (ev_list (evl_int (evl_int (evl_int (evl_int evl_nil)))) (by rw [sizeLine_eq]; simp)) hr.hd L.enumerate K.k K.globals K.builtins (K.at (by decide +kernel))) hr.hd ?_ ?_ (by rw [sizeLine_eq]; simp [starts3]) ?_ (by walk_at "cs") (by decide +kernel) (by decide +kernel) (by decide +kernel) (by decide) (by decide +kernel))
  · rintro cenv KC ⟨p, st⟩ hx
    exact ev_bin (by walk_at "nm") (ev_bi KC (by decide +kernel) L.sum (evl_cons (Ev.conv (ev_sliceL (by walk_at "nm") (part_some (by walk_at "nm")) part_none (part_some ev_int) (by simp) (by rw [List.length_map, sizeLine_eq]; omega)) (congrArg D.list (pickD_map D.int ns _ _ _))) evl_nil) (fn_sum hr.hd)) op_add
  · rintro ⟨p, st⟩ hx
    exact ⟨by (intro _ _ h; cases h), by (intro _ _ h; cases h)⟩
  dsimp only
  have hcells : (starts3.map fun x => cellD ns (.int x.1) (.int x.2)) = (cellsOf ns).map .int := by
    unfold cellsOf
    rw [List.map_map]; rfl
  rw [hcells]
  have hl4 : (cellsOf ns).length = 4 := rfl
  revert hl4
  generalize cellsOf ns = cs
  intro hl4
  refine ex_cons (ex_for (fun i τ => Sub (bC ns cs) τ) (evit_list (by walk_at "nm") hr.hd (.inl ⟨_, _, rfl⟩)) (by unfold bC; walk_at "sub") ?_ ?_)
  · intro i d τ hd hsub
    rw [List.getElem?_map] at hd
    obtain ⟨cell, hcell, rfl⟩ := Option.map_eq_some_iff.mp hd
    refine ⟨_, asg_name (by walk_at "kk") (by walk_at "wr"), ?_⟩
    refine ex_sub' (τ := (bC ns cs).set "cell" (.val (.int cell))) hsub.both ?_
    refine ex_cons (ex_assign (ev_call L.F7 K (by decide +kernel) (evl_name (by walk_at "nm") evl_nil) (fn_name3 L.F7 L.range L.chr hr cell)) (by walk_at "kk") (by walk_at "wr") ?_)
    dsimp only
    refine ex_cons ?_
    refine ex_for (items := ?it) ?J ?_ ?_ ?_ ?_
    case it => exact dresses.map fun x => D.tuple [.bool x.1, .bool x.2]
    case J => exact fun i τ => Sub (bNm ns cs cell) τ
    · refine evit_conv (items := [D.tuple [.bool false, .bool false], .tuple [.bool false, .bool true], .tuple [.bool true, .bool false], .tuple [.bool true, .bool true]]) (items' := dresses.map fun x => D.tuple [.bool x.1, .bool x.2]) ?_ ?_
      refine evit_list ?_ ?_ ?_
      · refine ev_list ?_ ?_
        · refine evl_tup ?_ ?_
          · refine ev_tuple ?_ ?_
            · exact evl_bools
            · rw [sizeLine_eq]; simp
          · refine evl_tup ?_ ?_
            · refine ev_tuple ?_ ?_
              · exact evl_bools
              · rw [sizeLine_eq]; simp
            · refine evl_tup ?_ ?_
              · refine ev_tuple ?_ ?_
                · exact evl_bools
                · rw [sizeLine_eq]; simp
              · refine evl_tup ?_ ?_
                · refine ev_tuple ?_ ?_
                  · exact evl_bools
                  · rw [sizeLine_eq]; simp
                · exact evl_nil
        · rw [sizeLine_eq]; simp
      · exact hr.hd
      · refine .inr ⟨⟨_, _, _, rfl⟩, fun d hd => ?_⟩
        simp only [List.mem_cons, List.not_mem_nil, or_false] at hd
        rcases hd with rfl | rfl | rfl | rfl <;> exact ⟨_, rfl⟩
      · rfl
    · exact Sub.refl
    · intro j d' τ' hd' hs
      rw [List.getElem?_map] at hd'
      obtain ⟨⟨q, s⟩, hqs, rfl⟩ := Option.map_eq_some_iff.mp hd'
      refine ⟨_, asg_tuple2 hr.hd (by walk_at "kk") (by walk_at "wr") (by walk_at "wr"), ?_⟩
      refine ex_sub' (τ := ((bNm ns cs cell).set "quotes" (.val (.bool q))).set "slashes" (.val (.bool s))) hs.both.both ?_
      refine Ex.mono (P := fun o => ∃ τ, o = .next τ ∧ Sub (bNm ns cs cell) τ) ?_ ?_
      · exact ex_one_dress L hr K Wc ns cs cell q s rfl
      rintro o ⟨τ₂, rfl, h2⟩
      exact h2
    · intro τ' hs
      dsimp only
      refine ex_nil ?_
      dsimp only
      refine Sub.trans ?_ hs
      unfold bNm bC; walk_at "sub"
  · intro τ hsub
    dsimp only
    refine ex_sub' hsub ?_
    unfold bC
    have hnb : ∀ d ∈ cs.map D.int, NoB d := fun d hd => by
      obtain ⟨c, _, rfl⟩ := List.mem_map.mp hd
      intro _ _ h; cases h
    have hsz : (cs.map D.int).length ≤ sizeLine := by rw [List.length_map, sizeLine_eq]; omega
    refine ex_cons (ex_assign_comp1 pieceD K Wc (evit_list (by walk_at "nm") hr.hd (.inl ⟨_, _, rfl⟩)) ?_ hnb hsz ?_ (by walk_at "cs") (by decide +kernel) (by decide +kernel) (by decide) (by decide +kernel))
    · intro cenv KC d hd
      obtain ⟨cell, _, rfl⟩ := List.mem_map.mp hd
      have hnl := name_len cell
      have hpl := piece_len3 cell
      have hpe : (pieceH (pcOf cell)).length = (codeN cell).length + (dress (nameN cell) true true).length + (tailN cell).length := by
        show (codeN cell ++ dress (nameN cell) true true ++ tailN cell).length = _
        rw [List.length_append, List.length_append]
      refine Ev.conv (d := .str (S (codeN cell) ++ S (dress (nameN cell) true true) ++ S (tailN cell))) (ev_bin (ev_bin (ev_call L.F8 KC (by decide +kernel) (evl_name (by walk_at "nm") evl_nil) (fn_code3 L.F8 hr cell)) (ev_call L.F10 KC (by decide +kernel) (evl_cons (ev_call L.F7 KC (by decide +kernel) (evl_name (by walk_at "nm") evl_nil) (fn_name3 L.F7 L.range L.chr hr cell)) (evl_cons ev_bool (evl_cons ev_bool evl_nil))) (fn_dress L.F10 hr (nameN cell) true true (by omega))) (op_sadd ?_)) (ev_call L.F9 KC (by decide +kernel) (evl_name (by walk_at "nm") evl_nil) (fn_tail3 L.F9 hr cell)) (op_sadd ?_)) ?_
      · rw [S_len, S_len, sizeLine_eq]; omega
      · rw [S_append, S_len, S_len, List.length_append, sizeLine_eq]; omega
      · rw [S_append, S_append]; rfl
    dsimp only
    have hpieces : (cs.map D.int).map pieceD = (((cs.map pcOf).map pieceH).map S).map D.str := by
      rw [List.map_map, List.map_map, List.map_map, List.map_map]; rfl
    rw [hpieces]
    obtain ⟨ps, hps⟩ : ∃ ps, ps = (cs.map pcOf).map pieceH := ⟨_, rfl⟩
    have hpl : ps.length = 4 := by rw [hps, List.length_map, List.length_map, hl4]
    have hpn : ∀ x ∈ ps, x.length ≤ 24 := fun x hx => by
      rw [hps] at hx
      obtain ⟨p, hp, rfl⟩ := List.mem_map.mp hx
      obtain ⟨cell, _, rfl⟩ := List.mem_map.mp hp
      exact piece_len3 cell
    have hpt : ∀ x ∈ ps, ∀ c ∈ x, c < 0x110000 := fun x hx => by
      rw [hps] at hx
      obtain ⟨p, hp, rfl⟩ := List.mem_map.mp hx
      obtain ⟨cell, _, rfl⟩ := List.mem_map.mp hp
      exact piece_lt cell
    rw [← hps]
    have hm0 := Int.fmod_nonneg_of_pos ns.sum (show (0 : Int) < 3 by decide)
    have hm1 := Int.fmod_lt_of_pos ns.sum (show (0 : Int) < 3 by decide)
    have hsep : (seps.map fun x => D.str (S x))[(ns.sum.fmod 3).toNat]? = some (.str (S (sepI ns.sum))) := by
      have hlt : (ns.sum.fmod 3).toNat < seps.length := by show _ < 3; omega
      rw [List.getElem?_map, List.getElem?_eq_getElem hlt]
      unfold sepI
      rw [List.getD_eq_getElem?_getD, List.getElem?_eq_getElem hlt]; rfl
    have hsl := sep_len ns.sum
    have hjl := jn_len hsl ps hpn
    have hjt := jn_lt (sep_lt ns.sum) ps hpt
    have hsum := sum_len ps hpn
    obtain ⟨h, hh⟩ : ∃ h, h = jn (sepI ns.sum) ps := ⟨_, rfl⟩
    rw [hpl] at hjl hsum
    rw [← hh] at hjl hjt
    refine ex_cons (ex_assign (d := .str (S h)) (Ev.conv (ev_meth PySem.F.slot_str_join PySem.F.type_str_join (ev_sub (d₁ := .list (seps.map fun x => .str (S x))) (Ev.conv (ev_list (evl_str (evl_str (evl_str evl_nil)))) (congrArg D.list seps_is)) (ev_bin (ev_bi K (by decide +kernel) L.sum (evl_name (by walk_at "nm") evl_nil) (fn_sum hr.hd)) ev_int op_mod) (op_item (by intro _ _; rfl) hm0 (by omega) hsep)) (evl_name (by walk_at "nm") evl_nil) (fn_join ?_)) ?_) (by walk_at "kk") (by walk_at "wr") ?_)
    · rw [List.length_map, S_len, hpl]; omega
    · rw [join_jn, hh]
    dsimp only
    obtain ⟨pre, post, hpp, h1, h2⟩ := sep_parts ns.sum
    have hne : cs.map pcOf ≠ [] := by
      intro e
      have := congrArg List.length e
      rw [List.length_map, hl4] at this; cases this
    have hitems : (phRes h).map stripL = (cs.map pcOf).map itemH := by
      rw [hh, hpp, hps]
      exact header_items h1 h2 hne fun p hp => by
        obtain ⟨cell, _, rfl⟩ := List.mem_map.mp hp
        exact pc_ok cell
    have hstr : ((phRes h).map fun x => D.str (Txt.strip (S x))) = cs.map fun c => D.str (S (itemH (pcOf c))) := by
      have e1 : ((phRes h).map fun x => D.str (Txt.strip (S x))) = ((phRes h).map stripL).map fun x => D.str (S x) := by
        rw [List.map_map]
        exact List.map_congr_left fun x _ => by rw [strip_is]; rfl
      rw [e1, hitems, List.map_map, List.map_map]; rfl
    have hlen : (phRes h).length ≤ 1000 := by have := (phRes_len h).2; omega
    have hread : ((phRes h).map fun x => D.str (Txt.strip (S x))).map readD3 = (cs.map fun c => readP (itemH (pcOf c))).map pairD3 := by
      rw [hstr, List.map_map, List.map_map]
      exact List.map_congr_left fun c _ => by
        show pairD3 (readP (S (itemH (pcOf c))).cps.toList) = _
        rw [S_toList]; rfl
    have hdue : (cs.map D.int).map dueD3 = (cs.map fun c => readP (itemH (pcOf c))).map pairD3 := by
      rw [List.map_map, List.map_map]; rfl
    have hsh : SeqAt.shaped (toP (.list ((cs.map fun c => readP (itemH (pcOf c))).map pairD3))) = true := shaped_pairs _ fun p hp => by
      obtain ⟨c, _, rfl⟩ := List.mem_map.mp hp
      exact read_lt c
    refine ex_cons (ex_if (cb := false) (EvB.conv (evb_cmp (d₁ := .list ((cs.map fun c => readP (itemH (pcOf c))).map pairD3)) (d₂ := .list ((cs.map fun c => readP (itemH (pcOf c))).map pairD3))
      (Ev.conv (ev_comp1 readD3 K Wc (evit_list (ev_call L.F1 K (by decide +kernel) (evl_name (by walk_at "nm") evl_nil) (fn_phl L.F1 hr h (by omega))) hr.hd (.inl ⟨_, _, rfl⟩)) ?_ ?_ ?_ (by walk_at "cs") (by decide +kernel)) (congrArg D.list hread))
      (Ev.conv (ev_comp1 dueD3 K Wc (evit_list (by walk_at "nm") hr.hd (.inl ⟨_, _, rfl⟩)) ?_ hnb hsz (by walk_at "cs") (by decide +kernel)) (congrArg D.list hdue)) (op_ne hsh hsh (by have := hr.un; omega))) ?_) (fun h => nomatch h) fun _ => ex_nil ?_)
    · intro cenv KC d hd
      rw [hstr] at hd
      obtain ⟨c, _, rfl⟩ := List.mem_map.mp hd
      have hil := item_len3 c
      have e : readD3 (.str (S (itemH (pcOf c)))) = pairD3 (readP (itemH (pcOf c))) := by
        show pairD3 (readP (S (itemH (pcOf c))).cps.toList) = _
        rw [S_toList]
      rw [e]
      exact ev_call L.F12 KC (by decide +kernel) (evl_name (by walk_at "nm") evl_nil) (fn_read3 L.F12 L.F5 L.O L.len L.str hr hfr _ (by omega))
    · intro d hd
      obtain ⟨c, _, rfl⟩ := List.mem_map.mp hd
      intro _ _ h; cases h
    · rw [List.length_map, sizeLine_eq]; omega
    · intro cenv KC d hd
      obtain ⟨c, _, rfl⟩ := List.mem_map.mp hd
      exact ev_call L.F13 KC (by decide +kernel) (evl_name (by walk_at "nm") evl_nil) (fn_due3 L.F13 L.F7 L.F8 L.F9 L.F10 L.range L.chr hr c)
    · rw [eqv_toP]; rfl
    dsimp only
    have hdl := dress_len h true true
    have hdl' := dress_len h true false
    have hal : (askN h true true).length ≤ 2000 := by unfold askN; rw [List.length_append]; simp only [List.length_cons, List.length_nil]; omega
    have hal' : (askN h true false).length ≤ 2000 := by unfold askN; rw [List.length_append]; simp only [List.length_cons, List.length_nil]; omega
    have hwhole : ((phRes (askN h true true)).map fun x => D.str (Txt.strip (S x))) = [askN h true false].map fun x => D.str (S x) := by
      rw [← whole_items h, List.map_map]
      exact List.map_congr_left fun x _ => by rw [strip_is]; rfl
    refine ex_cons (ex_assign (d := .list ([askN h true false].map fun x => D.str (S x))) (Ev.conv (ev_call L.F1 K (by decide +kernel) (evl_bin (Ev.conv (d' := .str (S (askN h true true))) (ev_bin ev_str (ev_call L.F10 K (by decide +kernel) (evl_name (by walk_at "nm") (evl_cons ev_bool (evl_cons ev_bool evl_nil))) (fn_dress L.F10 hr h true true (by omega))) (op_sadd ?_)) ?_) evl_nil) (fn_phl L.F1 hr _ (by omega))) (congrArg D.list hwhole)) (by walk_at "kk") (by walk_at "wr") ?_)
    · rw [q257, S_len, S_len, sizeLine_eq]; simp only [List.length_cons, List.length_nil]; omega
    · rw [q257, S_append]; rfl
    dsimp only
    have hrw : readP (askN h true false) = (wTold, h) := by
      have e3 : (askN h true false).take 3 = [50, 53, 55] := rfl
      rw [readP_told e3]
      have e : askN h true false = [50, 53, 55] ++ ([32, 34] ++ (dbl 34 h ++ [34])) := by
        unfold askN dress esc
        simp
      have : p257g (askN h true false) = h := by
        unfold p257g
        rw [if_pos (by rw [e]; rfl), e]
        exact p257_dbl h [] (by simp)
      rw [this]
    have hread2 : ([askN h true false].map fun x => D.str (S x)).map readD3 = [(wTold, h)].map pairD3 := by
      rw [List.map_map]
      show [pairD3 (readP (S (askN h true false)).cps.toList)] = [pairD3 (wTold, h)]
      rw [S_toList, hrw]
    have hsh2 : SeqAt.shaped (toP (.list ([(wTold, h)].map pairD3))) = true := shaped_pairs _ fun p hp => by
      rw [List.mem_singleton.mp hp]
      exact ⟨words_lt.1, hjt⟩
    refine ex_cons (ex_ret (Ev.conv (d' := .bool true) (ev_cmp (d₁ := .list ([(wTold, h)].map pairD3)) (d₂ := .list ([(wTold, h)].map pairD3))
      (Ev.conv (ev_comp1 readD3 K Wc (evit_list (by walk_at "nm") hr.hd (.inl ⟨_, _, rfl⟩)) ?_ ?_ ?_ (by walk_at "cs") (by decide +kernel)) (congrArg D.list hread2))
      (Ev.conv (ev_list (evl_cons (ev_list (evl_str (evl_name (by walk_at "nm") evl_nil)) (by rw [sizeLine_eq]; simp)) evl_nil) (by rw [sizeLine_eq]; simp)) ?_) (op_eq hsh2 hsh2 (by have := hr.un; omega))) ?_) ?_)
    · intro cenv KC d hd
      obtain ⟨c, hc, rfl⟩ := List.mem_map.mp hd
      rw [List.mem_singleton.mp hc]
      have e : readD3 (.str (S (askN h true false))) = pairD3 (readP (askN h true false)) := by
        show pairD3 (readP (S (askN h true false)).cps.toList) = _
        rw [S_toList]
      rw [e]
      exact ev_call L.F12 KC (by decide +kernel) (evl_name (by walk_at "nm") evl_nil) (fn_read3 L.F12 L.F5 L.O L.len L.str hr hfr _ (by omega))
    · intro d hd
      obtain ⟨c, _, rfl⟩ := List.mem_map.mp hd
      intro _ _ h; cases h
    · rw [sizeLine_eq]; simp
    · rw [told_is]; rfl
    · rw [eqv_toP]
    · dsimp only
      exact ⟨_, rfl, rfl⟩
theorem fn_law3 {C : Cx} {A : Around} {k : Nat} {a f1 f5 f7 f8 f9 f10 f11 f12 f13 f14 : Addr} (L : Law3 C a f1 f5 f7 f8 f9 f10 f11 f12 f13 f14) (hr : RoomA A (k + 3)) (hfr : A.frames = some C.fr) (ns : List Int) (hn : ns.length ≤ 63) :
    Fn C A (.ref f14) [.list (ns.map .int)] (.bool true) := by
  refine FnP.fn (R := fun d => d = .bool true) (fn_at L.F14 hr ["script"] (fun pm code doc vs h => ?_) rfl (fun d hd => ?_) fun A' env ws hr' hf K Wc => ex_law3 (C := C.push env) L.push hr' (hf hfr) K Wc ns hn) (fun _ _ _ h => h ▸ id)
  · match vs, h with
    | [v], _ => rfl
  · rw [List.mem_singleton.mp hd]; intro _ _ h; cases h
end Mine
open PySem PySem.W PySem.W.X PyProof.Rows
set_option maxHeartbeats 0
namespace Mine
theorem ints_val {led : Led} : ∀ {vs : List Value} {ns : List Int}, IntsAre vs ns → ValL led vs (ns.map .int)
  | _, _, h => by
    induction h with
    | nil => exact .nil
    | cons _ _ _ ih => exact .cons (.int _ _) ih
theorem head_ok {c : ClaimW} {cl : Str → Option Addr} {mean : ExcName → Option Value} {C : Cx} {s₁ : Shared} {f a : Addr} {vs : List Value} {ns : List Int} {args : List WData}
    (hC : C.h₀ = s₁.heap) (hfr : C.fr = []) (hf : Fn C callerA (.ref f) [.list (ns.map .int)] (.bool true)) (hl : s₁.heap.IsList a vs.toArray) (hi : IntsAre vs ns) (htk : 1 ≤ s₁.toks) (hg : s₁.gens = #[])
    (hr : ∀ cls, c.raises args cls = false) (hp : c.post args (.bool true) args = true) :
    wpAny (model C.prog C.w) callerA (call (.ref f) [.ref a]) (fun v s' => GoodWG c cl mean args s₁ (.ok (.ret v)) s') (fun e s' => GoodWG c cl mean args s₁ (.error e) s') s₁ := by
  obtain ⟨o, ho, hc, n, hd⟩ := hl
  refine hf ⟨s₁.heap.get?, s₁.heap.get?, fun _ _ e => e⟩ s₁ _ _ _ ⟨fun b o e => by rw [hC] at e; exact e, fun b o e => .inl (by rw [hC]; exact e), by rw [hfr]; intro e he; cases he⟩ ⟨fun _ _ e => .of e, fun _ _ e => e, htk⟩ (.cons (.list ho hc hd (ints_val hi)) .nil) fun v g' s' x w => ?_
  cases w
  refine GoodW.toG ⟨.inl ⟨_, _, [], rfl, hr, .bool _, hp, fun _ => ⟨List.nodup_nil, fun _ h => nomatch h⟩⟩, fun b o e => x.gr.ledk b o e e, by rw [x.eq], by rw [x.eq]; exact hg⟩
theorem room_caller : RoomA callerA 5 := ⟨rfl, by decide, by decide⟩
end Mine
open PySem PySem.W PySem.W.X PyProof.Rows
namespace Mine

def tailInN (K : Frag) (n : Str) (bmB : List Value) : List Value → Bool
  | [] => bmB == []
  | v :: r => (v :: r) == bmB || match v with
    | .ref A => (match K.lookup A with
      | some ⟨_, _, .cls cd, _⟩ => nsOkIn K cd.ns && nsIn K cd.ns n == some none && tailInN K n bmB r
      | _ => false)
    | _ => false
theorem tailN_of_in {K : Frag} {h : Heap} {n : Str} {bmB : List Value} (X : K.In h) : ∀ {l : List Value}, tailInN K n bmB l = true → TailN h bmB n l
  | [], e => by rw [← beq_iff_eq.mp e]; exact .base
  | v :: r, e => by
    unfold tailInN at e
    rcases Bool.or_eq_true_iff.mp e with q | q
    · rw [beq_iff_eq.mp q]; exact .base
    · split at q
      · split at q
        · rename_i ho
          simp only [Bool.and_eq_true, beq_iff_eq] at q
          exact .own (X _ _ ho) (.of_isNs (isNs_of_in X q.1.1)) (nsMap_none_of_in X q.1.1 q.1.2) (tailN_of_in X q.2)
        · cases q
      · cases q
def excOk (K : Frag) (C : Addr) : Bool := match K.lookup C with
  | some ⟨.type "type", _, .cls cd, sl⟩ => (match cd.mro, sl.toList with
    | .ref C' :: bm, [_, _, _, _, some (.builtin n), _] => C' == C && n == "Exception.__new__" && !cd.hasDel && tailIn K excB bm && tailInN K "__str__" excB bm && nsOkIn K cd.ns && nsIn K cd.ns "__init__" == some none && nsIn K cd.ns "__str__" == some none
    | _, _ => false)
  | _ => false
def excAll (K : Frag) (x : Str) : Bool := match nsIn K mainGlobals x with
  | some (some (.ref C)) => excOk K C
  | _ => false
theorem excCls_of {K : Frag} {h : Heap} {mg : Str → Option Value} {x : Str} (X : K.In h) (G : h.Ns mainGlobals mg) (e : excAll K x = true) : ∃ a, ExcCls mg h x a := by
  unfold excAll at e
  split at e
  · rename_i C hC
    refine ⟨C, mg_of X G hC, ?_⟩
    unfold excOk at e
    split at e
    · rename_i dd cd sl ho
      split at e
      · rename_i C' bm k0 k1 k2 k3 n k5 hm hs
        simp only [Bool.and_eq_true, beq_iff_eq, Bool.not_eq_true'] at e
        obtain ⟨⟨⟨⟨⟨⟨⟨rfl, rfl⟩, hdel⟩, ht⟩, ht'⟩, hok⟩, hni⟩, hns⟩ := e
        obtain ⟨nm, bs, mro, ns, qn, hd, sn, sub, ab, col, del⟩ := cd
        dsimp only at hm hdel hok hni hns
        subst hm hdel
        have hsl : sl = #[k0, k1, k2, k3, some (.builtin "Exception.__new__"), k5] := by
          obtain ⟨l⟩ := sl
          simp only at hs
          rw [hs]
        subst hsl
        exact ⟨bm, ns, nm, qn, bs, hd, sn, sub, ab, col, dd, k0, k1, k2, k3, k5, _, X _ _ ho, .of_isNs (isNs_of_in X hok), nsMap_none_of_in X hok hni, nsMap_none_of_in X hok hns, tail_of_in X ht, tailN_of_in X ht'⟩
      · cases e
    · cases e
  · cases e
theorem defIn_of {C : Cx} {p q : Program} {loose : List Str} {mean : ExcName → Option Value} {i j : Nat} {x : Str} (T : Top q loose mean C.mg C.mb C.h₀) (hx : nameAt p i = x)
    (h : (recsOf q)[j]? = some ⟨nameAt p i, argsAt p i, bodyAt p i, scAt p i, posAt p i⟩) : ∃ f, DefIn C p i x f := by
  obtain ⟨a, o, pm, code, doc, h1, h2, h3, h4⟩ := T.fn _ (List.mem_of_getElem? h)
  subst hx
  exact ⟨a, h1, o, pm, code, doc, h2, h3, h4⟩
end Mine
open PySem PySem.W PySem.W.X PyProof.Rows
set_option maxHeartbeats 0
open Mine in
theorem PySem.Challenge.cw_wn0025_03_holds : PySem.Challenge.rw_wn0025_03.Holds := by
  w_on; o_law; z_head; (case hw => w_witness2)
  k_fill
  intro w s₀ s₁ mg mb G y fa o pm cd doc dV kV ho hd hcd hD hmg hg args vals as L hpre hlay hrd hwl hlo
  z_open y L KX ZH ZN ZT
  refine Ground.open G ?_
  intro T B D TE TW
  wrow_args hpre hlay hrd hwl hlo
  have htk := script_toks L ZT
  rename_i ns _ _ _ _ _ _ _ a vs _ hL _ _ _ hI _ hlen _
  clear ho hd hcd hD
  let C : Cx := ⟨PySem.Challenge.rw_wn0025_03.row.prog, w, s₁.heap, mg, mb, T.g, T.b, T.builtins, T.nolimit, by
    obtain ⟨mc, hmc, _⟩ := T.nolimit
    exact ⟨mc, hmc, ns_none_of KX hmc (by kernel_rfl)⟩, []⟩
  obtain ⟨ca, O⟩ := excCls_of (x := "error_reply") KX T.g (by kernel_rfl)
  obtain ⟨f1, F1⟩ := defIn_of (C := C) (p := vw) (i := 1) (j := 0) (x := "parse_http_list") T (by kernel_rfl) (by kernel_rfl)
  obtain ⟨f5, F5⟩ := defIn_of (C := C) (p := vw) (i := 5) (j := 1) (x := "parse257") T (by kernel_rfl) (by kernel_rfl)
  obtain ⟨f7, F7⟩ := defIn_of (C := C) (p := vw) (i := 7) (j := 2) (x := "_law_name") T (by kernel_rfl) (by kernel_rfl)
  obtain ⟨f8, F8⟩ := defIn_of (C := C) (p := vw) (i := 8) (j := 3) (x := "_law_code") T (by kernel_rfl) (by kernel_rfl)
  obtain ⟨f9, F9⟩ := defIn_of (C := C) (p := vw) (i := 9) (j := 4) (x := "_law_tail") T (by kernel_rfl) (by kernel_rfl)
  obtain ⟨f10, F10⟩ := defIn_of (C := C) (p := vw) (i := 10) (j := 5) (x := "_law_dress") T (by kernel_rfl) (by kernel_rfl)
  obtain ⟨f11, F11⟩ := defIn_of (C := C) (p := vw) (i := 11) (j := 6) (x := "_law_cut") T (by kernel_rfl) (by kernel_rfl)
  obtain ⟨f12, F12⟩ := defIn_of (C := C) (p := vw) (i := 12) (j := 7) (x := "_law_read") T (by kernel_rfl) (by kernel_rfl)
  obtain ⟨f13, F13⟩ := defIn_of (C := C) (p := vw) (i := 13) (j := 8) (x := "_law_due") T (by kernel_rfl) (by kernel_rfl)
  obtain ⟨f14, F14⟩ := defIn_of (C := C) (p := vw) (i := 14) (j := 9) (x := "law") T (by kernel_rfl) (by kernel_rfl)
  have hfa : f14 = fa := by
    have h1 : mg "law" = some (.ref f14) := F14.mg
    have h2 : mg "law" = some (.ref fa) := hmg
    rw [h1] at h2
    cases h2; rfl
  subst hfa
  have LL : Mine.Law3 C ca f1 f5 f7 f8 f9 f10 f11 f12 f13 f14 := ⟨O, F1, F5, F7, F8, F9, F10, F11, F12, F13, F14, ns_none_of KX T.g (by kernel_rfl), ns_none_of KX T.g (by kernel_rfl), ns_none_of KX T.g (by kernel_rfl), ns_none_of KX T.g (by kernel_rfl), ns_none_of KX T.g (by kernel_rfl), ns_none_of KX T.g (by kernel_rfl)⟩
  exact head_ok (C := C) rfl rfl (fn_law3 (k := 0) LL (RoomA.less (j := 3) room_caller) rfl ns (by omega)) hL hI (Nat.le_trans (by decide) htk) hg (fun _ => rfl) (by wrow_post)
