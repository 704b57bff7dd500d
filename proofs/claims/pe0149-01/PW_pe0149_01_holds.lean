import PyProof.Rows.All
import Wide.All
import OpenK.AllK
import Wide.FinOn
import PySem.Challenge.RW_pe0149_01
open PySem PySem.W PyProof.Rows
set_option Elab.async false
set_option linter.unusedVariables false
set_option linter.unusedSimpArgs false
set_option linter.unusedSectionVars false
namespace Mine
set_option maxRecDepth 100000 in
set_option maxHeartbeats 8000000 in
open_top hd for PySem.Challenge.rw_pe0149_01
end Mine
set_option maxRecDepth 100000
set_option maxHeartbeats 8000000
set_option compiler.extract_closed false

namespace Mine

/-- pure values -/
inductive V where
  | none
  | bool (b : Bool)
  | int (i : Int)
  | str (x : List Nat)
  | tup (vs : List V)
  | lst (vs : List V)
  | rng (a b : Int)
  | obj (vs : List V)

abbrev Part := Addr → Option Obj
def Part.le (P Q : Part) : Prop := ∀ a o, P a = some o → Q a = some o
def Part.In (P : Part) (h : Heap) : Prop := ∀ a o, P a = some o → h.get? a = some o
theorem Part.le.refl (P : Part) : P.le P := fun _ _ e => e
theorem Part.le.trans {P Q R : Part} (x : P.le Q) (y : Q.le R) : P.le R := fun a o e => y a o (x a o e)
def Part.put (P : Part) (a : Addr) (o : Obj) : Part := fun b => if b = a then some o else P b
theorem Part.put_self (P : Part) (a : Addr) (o : Obj) : P.put a o a = some o := by simp [Part.put]
theorem Part.put_ne (P : Part) {a b : Addr} (o : Obj) (h : b ≠ a) : P.put a o b = P b := by simp [Part.put, h]
theorem Part.le_put {P : Part} {a : Addr} (o : Obj) (h : P a = Option.none) : P.le (P.put a o) := by
  intro b ob e
  by_cases hb : b = a
  · subst hb; rw [h] at e; cases e
  · rw [Part.put_ne _ _ hb]; exact e

/-- the names of the fields of a Whitespace, in the order in which they are stored -/
def fieldNames : List Str := ["raw", "n", "nt", "norm", "is_simple"]

def listO (vs : List Value) (n : Nat) : Obj := { cls := .type "list", data := .seq vs.toArray n }
def tupO (vs : List Value) (n : Nat) : Obj := { cls := .type "tuple", data := .seq vs.toArray n }
def rngO (a b : Int) (t u z : Tok) : Obj := { cls := .type "range", data := .fields #[.int a t, .int b u, .int 1 z] }

/-- entries with the names' keys and these values -/
inductive Ents : List Str → List Value → List DictEntry → Prop
  | nil : Ents [] [] []
  | cons {n : Str} {ns : List Str} {v : Value} {vs : List Value} {h : Int} {t : Tok} {es : List DictEntry} : Ents ns vs es → Ents (n :: ns) (v :: vs) (⟨h, .str n t, v⟩ :: es)

mutual
inductive Lay (C : Addr) (P : Part) : Value → V → Prop
  | none : Lay C P .none .none
  | bool (b : Bool) : Lay C P (.bool b) (.bool b)
  | int (i : Int) (t : Tok) : Lay C P (.int i t) (.int i)
  | str (x : List Nat) (t : Tok) : Lay C P (.str ⟨x.toArray⟩ t) (.str x)
  | tup {a : Addr} {vs : List Value} {n : Nat} {ds : List V} : P a = some (tupO vs n) → LayAll C P vs ds → Lay C P (.ref a) (.tup ds)
  | lst {a : Addr} {vs : List Value} {n : Nat} {ds : List V} : P a = some (listO vs n) → LayAll C P vs ds → Lay C P (.ref a) (.lst ds)
  | obj {a d : Addr} {es : List DictEntry} {vs : List Value} {n : Nat} {ds : List V} : P a = some (instObj C d) → P d = some (dictOf es n) → Ents fieldNames vs es → LayAll C P vs ds → Lay C P (.ref a) (.obj ds)
  | rng {a : Addr} {x y : Int} {t u z : Tok} : P a = some (rngO x y t u z) → Lay C P (.ref a) (.rng x y)
inductive LayAll (C : Addr) (P : Part) : List Value → List V → Prop
  | nil : LayAll C P [] []
  | cons {v : Value} {vs : List Value} {d : V} {ds : List V} : Lay C P v d → LayAll C P vs ds → LayAll C P (v :: vs) (d :: ds)
end

mutual
theorem Lay.mono {C : Addr} {P Q : Part} (h : P.le Q) : ∀ {v : Value} {d : V}, Lay C P v d → Lay C Q v d
  | _, _, .none => .none
  | _, _, .bool b => .bool b
  | _, _, .int i t => .int i t
  | _, _, .str x t => .str x t
  | _, _, .tup a r => .tup (h _ _ a) (LayAll.mono h r)
  | _, _, .lst a r => .lst (h _ _ a) (LayAll.mono h r)
  | _, _, .obj a b c r => .obj (h _ _ a) (h _ _ b) c (LayAll.mono h r)
  | _, _, .rng a => .rng (h _ _ a)
theorem LayAll.mono {C : Addr} {P Q : Part} (h : P.le Q) : ∀ {vs : List Value} {ds : List V}, LayAll C P vs ds → LayAll C Q vs ds
  | _, _, .nil => .nil
  | _, _, .cons x r => .cons (Lay.mono h x) (LayAll.mono h r)
end

theorem LayAll.length {C : Addr} {P : Part} : ∀ {vs : List Value} {ds : List V}, LayAll C P vs ds → vs.length = ds.length
  | _, _, .nil => rfl
  | _, _, .cons _ r => by rw [List.length_cons, List.length_cons, r.length]
theorem LayAll.append {C : Addr} {P : Part} : ∀ {vs ws : List Value} {ds es : List V}, LayAll C P vs ds → LayAll C P ws es → LayAll C P (vs ++ ws) (ds ++ es)
  | _, _, _, _, .nil, k => k
  | _, _, _, _, .cons x r, k => .cons x (r.append k)
theorem LayAll.get {C : Addr} {P : Part} : ∀ {vs : List Value} {ds : List V} {i : Nat} {d : V}, LayAll C P vs ds → ds[i]? = some d → ∃ v, vs[i]? = some v ∧ Lay C P v d
  | _, _, 0, _, .cons x _, e => by simp at e; subst e; exact ⟨_, rfl, x⟩
  | _, _, i + 1, _, .cons _ r, e => by
    obtain ⟨v, h1, h2⟩ := r.get (i := i) (by simpa using e)
    exact ⟨v, by simpa using h1, h2⟩
theorem LayAll.get' {C : Addr} {P : Part} : ∀ {vs : List Value} {ds : List V} {i : Nat} {v : Value}, LayAll C P vs ds → vs[i]? = some v → ∃ d, ds[i]? = some d ∧ Lay C P v d
  | _, _, 0, _, .cons x _, e => by simp at e; subst e; exact ⟨_, rfl, x⟩
  | _, _, i + 1, _, .cons _ r, e => by
    obtain ⟨v, h1, h2⟩ := r.get' (i := i) (by simpa using e)
    exact ⟨v, by simpa using h1, h2⟩
theorem LayAll.take {C : Addr} {P : Part} : ∀ {vs : List Value} {ds : List V} (n : Nat), LayAll C P vs ds → LayAll C P (vs.take n) (ds.take n)
  | _, _, 0, _ => by simp; exact .nil
  | _, _, _ + 1, .nil => .nil
  | _, _, n + 1, .cons x r => by simpa using LayAll.cons x (r.take n)
theorem LayAll.drop {C : Addr} {P : Part} : ∀ {vs : List Value} {ds : List V} (n : Nat), LayAll C P vs ds → LayAll C P (vs.drop n) (ds.drop n)
  | _, _, 0, h => by simpa using h
  | _, _, _ + 1, .nil => .nil
  | _, _, n + 1, .cons _ r => by simpa using r.drop n

/-- the world as it stands when law is called -/
structure Glo where
  prog : Program
  w : World
  K : Frag
  C : Addr
  s0 : Shared
  mg : Str → Option Value
  mb : Str → Option Value
  kin : K.In s0.heap
  g : s0.heap.Ns mainGlobals mg
  b : s0.heap.Ns builtinsNs mb
  nolimit : s0.heap.NoLimit
  blt : ∀ x : Str, x ≠ "__name__" → mb x = bootBuiltins x

def Kept (h h' : Heap) : Prop := ∀ a o, h.get? a = some o → h'.get? a = some o
theorem Kept.refl (h : Heap) : Kept h h := fun _ _ e => e
theorem Kept.trans {a b c : Heap} (x : Kept a b) (y : Kept b c) : Kept a c := fun p o e => y p o (x p o e)
theorem Kept.push (h : Heap) (o : Obj) : Kept h (h.push o) := fun _ _ e => Heap.get?_push_of_some _ e

/-- nothing but heap and tokens differ from the start, and the start's heap is kept -/
structure Glo.Ok (G : Glo) (s : Shared) : Prop where
  same : ∃ h tk, s = { G.s0 with heap := h, toks := tk }
  keep : Kept G.s0.heap s.heap
theorem Glo.Ok.to {G : Glo} {s : Shared} (x : G.Ok s) {h : Heap} {tk : Nat} (k : Kept s.heap h) : G.Ok { s with heap := h, toks := tk } :=
  ⟨let ⟨_, _, e⟩ := x.same; ⟨h, tk, by rw [e]⟩, x.keep.trans k⟩
theorem Glo.Ok.kin {G : Glo} {s : Shared} (x : G.Ok s) : G.K.In s.heap := G.kin.keeps x.keep

inductive Slot where
  | un
  | val (v : V)
  | own (vs : List V)
  | self (x' : Addr) (fs : List Str) (vs : List V)
  | raw (v : Value)

/-- what is fixed of a frame: its scope, its variables, those of its cells that are its own -/
structure Fst where
  scope : Scope
  names : List Str
  owns : List Str
structure Act where
  env : Env
  base : Part
  P0 : Part

def Bnd (env : Env) (h : Heap) (x : Str) (v : Value) : Prop :=
  (env.kindOf x = some .local ∧ ∃ m, h.Ns env.locals m ∧ m x = some v) ∨
  ((env.kindOf x = some .cell ∨ env.kindOf x = some .free) ∧ ∃ c, env.cells.lookup x = some c ∧ h.IsCell c (some v))

def SlotIs (C : Addr) (Γ : Act) (P : Part) (h : Heap) (a : Addr) (x : Str) : Slot → Prop
  | .un => True
  | .val v => ∃ val, Bnd Γ.env h x val ∧ Lay C P val v
  | .raw v => Bnd Γ.env h x v
  | .own vs => Bnd Γ.env h x (.ref a) ∧ P a = none ∧ Γ.base a = none ∧ ∃ ws n, h.get? a = some (listO ws n) ∧ LayAll C P ws vs
  | .self x' fs vs => Bnd Γ.env h x (.ref x') ∧ h.get? x' = some (instObj C a) ∧ x' ≠ a ∧ Γ.env.locals ≠ x' ∧ P a = none ∧ P x' = none ∧ Γ.base a = none ∧ ∃ es ws n, h.get? a = some (dictOf es n) ∧ Ents fs ws es ∧ LayAll C P ws vs ∧ Γ.env.locals ≠ a

def Slot.holds : Slot → Bool
  | .own _ => true
  | .self .. => true
  | _ => false

structure St (G : Glo) (F : Fst) (Γ : Act) (P : Part) (σ : List Slot) (s : Shared) : Prop where
  ok : G.Ok s
  scope : Γ.env.scope = F.scope
  kind : F.scope.kind = .function
  globals : Γ.env.globals = mainGlobals
  builtins : Γ.env.builtins = builtinsNs
  nodup : F.names.Nodup
  apart : ∀ x ∈ F.owns, ∀ y c, Γ.env.cells.lookup x = some c → Γ.env.cells.lookup y = some c → x = y
  top : ∀ a o, G.s0.heap.get? a = some o → Γ.base a = some o
  keep : Γ.base.In s.heap
  inP : P.In s.heap
  le : Γ.P0.le P
  new : ∀ a o, P a = some o → Γ.P0 a = some o ∨ Γ.base a = none
  ns : ∃ m, s.heap.Ns Γ.env.locals m
  baseL : Γ.base Γ.env.locals = none
  PL : P Γ.env.locals = none
  cell : ∀ x ∈ F.owns, Γ.env.kindOf x = some .cell ∧ ∃ c v, Γ.env.cells.lookup x = some c ∧ s.heap.IsCell c v ∧ Γ.base c = none ∧ P c = none
  vars : ∃ α : Nat → Addr, (∀ i j a b, σ[i]? = some a → σ[j]? = some b → a.holds = true → b.holds = true → α i = α j → i = j) ∧ ∀ i x sl, F.names[i]? = some x → σ[i]? = some sl → SlotIs G.C Γ P s.heap (α i) x sl

theorem Heap.Ns.uniq {h : Heap} {a : Addr} {m m' : Str → Option Value} (x : h.Ns a m) (y : h.Ns a m') : m = m' := by
  obtain ⟨o, es, ep, h1, h2, h3, h4⟩ := x
  obtain ⟨o', es', ep', h1', h2', h3', h4'⟩ := y
  rw [h1] at h1'; cases h1'
  rw [h2] at h2'; cases h2'
  funext n; rw [← h4, ← h4']

theorem Bnd.kept {env : Env} {h h' : Heap} {x : Str} {v : Value} (b : Bnd env h x v) (k : Kept h h') : Bnd env h' x v := by
  rcases b with ⟨e, m, n, q⟩ | ⟨e, c, q, r⟩
  · exact .inl ⟨e, m, n.keeps k, q⟩
  · exact .inr ⟨e, c, q, r.keeps k⟩

theorem SlotIs.kept {C : Addr} {Γ : Act} {P P' : Part} {h h' : Heap} {a : Addr} {x : Str} {sl : Slot} (y : SlotIs C Γ P h a x sl) (k : Kept h h') (le : P.le P')
    (nw : ∀ b o, P' b = some o → P b = some o ∨ h.get? b = none) : SlotIs C Γ P' h' a x sl := by
  have nn : ∀ b o, P b = none → h.get? b = some o → P' b = none := fun b o h1 h2 => by
    cases hb : P' b with
    | none => rfl
    | some q => rcases nw b q hb with e | e
                · rw [h1] at e; cases e
                · rw [h2] at e; cases e
  cases sl with
  | un => trivial
  | val v => obtain ⟨val, b, l⟩ := y; exact ⟨val, b.kept k, l.mono le⟩
  | raw v => exact Bnd.kept y k
  | own vs =>
    obtain ⟨b, h1, h2, ws, n, h3, h4⟩ := y
    exact ⟨b.kept k, nn _ _ h1 h3, h2, ws, n, k _ _ h3, h4.mono le⟩
  | self x' fs vs =>
    obtain ⟨b, h1, h2, h3, h4, h4', h5, es, ws, n, h6, h7, h8, h9⟩ := y
    exact ⟨b.kept k, k _ _ h1, h2, h3, nn _ _ h4 h6, nn _ _ h4' h1, h5, es, ws, n, k _ _ h6, h7, h8.mono le, h9⟩

/-- the heap has grown, nothing that stood was changed -/
theorem St.ext {G : Glo} {F : Fst} {Γ : Act} {P P' : Part} {σ : List Slot} {s : Shared} (x : St G F Γ P σ s) {h' : Heap} {tk : Nat} (k : Kept s.heap h') (le : P.le P') (inn : P'.In h')
    (nw : ∀ b o, P' b = some o → P b = some o ∨ s.heap.get? b = none) : St G F Γ P' σ { s with heap := h', toks := tk } := by
  have nn : ∀ b o, P b = none → s.heap.get? b = some o → P' b = none := fun b o h1 h2 => by
    cases hb : P' b with
    | none => rfl
    | some q => rcases nw b q hb with e | e
                · rw [h1] at e; cases e
                · rw [h2] at e; cases e
  refine ⟨x.ok.to k, x.scope, x.kind, x.globals, x.builtins, x.nodup, x.apart, x.top, fun a o e => k _ _ (x.keep a o e), inn, x.le.trans le, fun a o e => ?_, ?_, x.baseL, ?_, fun y hy => ?_, ?_⟩
  · rcases nw a o e with e | e
    · exact x.new a o e
    · refine .inr ?_
      cases hb : Γ.base a with
      | none => rfl
      | some q => rw [x.keep a q hb] at e; cases e
  · obtain ⟨m, n⟩ := x.ns; exact ⟨m, n.keeps k⟩
  · obtain ⟨m, o, es, ep, h1, r⟩ := x.ns; exact nn _ _ x.PL h1
  · obtain ⟨h1, c, v, h2, h3, h4, h5⟩ := x.cell y hy
    obtain ⟨o, h6, h7⟩ := h3
    exact ⟨h1, c, v, h2, ⟨o, k _ _ h6, h7⟩, h4, nn _ _ h5 h6⟩
  · obtain ⟨α, h1, h2⟩ := x.vars
    exact ⟨α, h1, fun i y sl e1 e2 => (h2 i y sl e1 e2).kept k le nw⟩

theorem get?_size (h : Heap) : h.get? h.objs.size = none := by
  cases e : h.get? h.objs.size with
  | none => rfl
  | some o => exact absurd (Heap.lt_size e) (Nat.lt_irrefl _)

theorem St.grow {G : Glo} {F : Fst} {Γ : Act} {P : Part} {σ : List Slot} {s : Shared} (x : St G F Γ P σ s) {h' : Heap} {tk : Nat} (k : Kept s.heap h') : St G F Γ P σ { s with heap := h', toks := tk } :=
  x.ext k (Part.le.refl P) (fun a o e => k _ _ (x.inP a o e)) fun _ _ e => .inl e

theorem St.tok {G : Glo} {F : Fst} {Γ : Act} {P : Part} {σ : List Slot} {s : Shared} (x : St G F Γ P σ s) {tk : Nat} : St G F Γ P σ { s with toks := tk } := x.grow (Kept.refl _)

/-- a new object, laid down for good -/
theorem St.put {G : Glo} {F : Fst} {Γ : Act} {P : Part} {σ : List Slot} {s : Shared} (x : St G F Γ P σ s) {o : Obj} {tk : Nat} (hf : o.isFreed = false := by rfl) :
    P.le (P.put s.heap.objs.size o) ∧ St G F Γ (P.put s.heap.objs.size o) σ { s with heap := s.heap.push o, toks := tk } := by
  have hn : P s.heap.objs.size = none := by
    cases e : P s.heap.objs.size with
    | none => rfl
    | some q => have := x.inP _ _ e; rw [get?_size] at this; cases this
  refine ⟨Part.le_put _ hn, x.ext (Kept.push _ _) (Part.le_put _ hn) (fun a q e => ?_) fun a q e => ?_⟩
  · by_cases ha : a = s.heap.objs.size
    · subst ha; rw [Part.put_self] at e; cases e; exact Heap.get?_push_size _ hf
    · rw [Part.put_ne _ _ ha] at e; exact Heap.get?_push_of_some _ (x.inP _ _ e)
  · by_cases ha : a = s.heap.objs.size
    · subst ha; exact .inr (get?_size _)
    · rw [Part.put_ne _ _ ha] at e; exact .inl e

def Room (k : Nat) (A : Around) : Prop := A.handled = none ∧ A.depth + k ≤ 900 ∧ A.units + 20 * k + 200 ≤ 9900
theorem Room.mono {k k' : Nat} {A : Around} (r : Room k A) (h : k' ≤ k) : Room k' A := ⟨r.1, by have := r.2.1; omega, by have := r.2.2; omega⟩

def Ev (G : Glo) (F : Fst) (k : Nat) (σ : List Slot) (e : Expr) (v : V) (σ' : List Slot) : Prop :=
  ∀ (Γ : Act) (P : Part) (A : Around) (s : Shared) (E : Value → Shared → Prop) (Q : Value → Shared → Prop), Room k A → St G F Γ P σ s →
    (∀ val P' s', P.le P' → St G F Γ P' σ' s' → Lay G.C P' val v → Q val s') → wpAny (model G.prog G.w) A (eval e Γ.env) Q E s
def Evs (G : Glo) (F : Fst) (k : Nat) (σ : List Slot) (es : List Expr) (vs : List V) (σ' : List Slot) : Prop :=
  ∀ (Γ : Act) (P : Part) (A : Around) (s : Shared) (E : Value → Shared → Prop) (Q : List Value → Shared → Prop) (pos : Pos), Room k A → St G F Γ P σ s →
    (∀ vals P' s', P.le P' → St G F Γ P' σ' s' → LayAll G.C P' vals vs → Q vals s') → wpAny (model G.prog G.w) A (spliced (backTo pos (starEach es Γ.env))) Q E s
def Tr (G : Glo) (F : Fst) (k : Nat) (σ : List Slot) (e : Expr) (b : Bool) (σ' : List Slot) : Prop :=
  ∀ (Γ : Act) (P : Part) (A : Around) (s : Shared) (E : Value → Shared → Prop) (Q : Bool → Shared → Prop), Room k A → St G F Γ P σ s →
    (∀ P' s', P.le P' → St G F Γ P' σ' s' → Q b s') → wpAny (model G.prog G.w) A (isTrue e Γ.env (eval e Γ.env)) Q E s

inductive Out where
  | next (σ : List Slot)
  | brk (σ : List Slot)
  | ret (v : V)
def OutIs (G : Glo) (F : Fst) (Γ : Act) (P : Part) (fl : Flow) (s : Shared) : Out → Prop
  | .next σ => fl = .next ∧ St G F Γ P σ s
  | .brk σ => fl = .brk ∧ St G F Γ P σ s
  | .ret v => ∃ val, fl = .ret val ∧ Lay G.C P val v ∧ ∃ σ, St G F Γ P σ s
def Ex (G : Glo) (F : Fst) (k : Nat) (σ : List Slot) (st : Stmt) (out : Out) : Prop :=
  ∀ (Γ : Act) (P : Part) (A : Around) (s : Shared) (E : Value → Shared → Prop) (Q : Flow → Shared → Prop), Room k A → St G F Γ P σ s →
    (∀ fl P' s', P.le P' → OutIs G F Γ P' fl s' out → Q fl s') → wpAny (model G.prog G.w) A (exec st Γ.env) Q E s
def Exs (G : Glo) (F : Fst) (k : Nat) (σ : List Slot) (sts : List Stmt) (out : Out) : Prop :=
  ∀ (Γ : Act) (P : Part) (A : Around) (s : Shared) (E : Value → Shared → Prop) (Q : Flow → Shared → Prop), Room k A → St G F Γ P σ s →
    (∀ fl P' s', P.le P' → OutIs G F Γ P' fl s' out → Q fl s') → wpAny (model G.prog G.w) A (execs sts Γ.env) Q E s
def Asg (G : Glo) (F : Fst) (k : Nat) (σ : List Slot) (target : Expr) (v : V) (σ' : List Slot) : Prop :=
  ∀ (Γ : Act) (P : Part) (A : Around) (s : Shared) (E : Value → Shared → Prop) (Q : Unit → Shared → Prop) (val : Value), Room k A → St G F Γ P σ s → Lay G.C P val v →
    (∀ P' s', P.le P' → St G F Γ P' σ' s' → Q () s') → wpAny (model G.prog G.w) A (assign target Γ.env val) Q E s
end Mine

namespace Mine
section
variable {G : Glo} {F : Fst} {k : Nat} {σ σ' σ₁ σ₂ : List Slot} {Γ : Act} {P : Part} {s : Shared}

theorem Bnd.load {env : Env} {A : Around} {E : Value → Shared → Prop} {M : Model} {x : Str} {v : Value} {Q : Value → Shared → Prop} (b : Bnd env s.heap x v) (hk : env.scope.kind = .function) (h : Q v s)
    (hd : (x == ("__classdict__" : Str)) = false) : wpAny M A (loadName env x) Q E s := by
  rcases b with ⟨e, m, n, q⟩ | ⟨e | e, c, q, r⟩
  · exact wpAny_loadName_local hk e n q h
  · exact wpAny_loadName_cell hk e q r h
  · exact wpAny_loadName_free hk e q r h hd

def okName (x : Str) : Bool := !(x == ("__debug__" : Str)) && !(x == ("__classdict__" : Str))
theorem okName.debug {x : Str} (h : okName x = true) : (x == ("__debug__" : Str)) = false := by unfold okName at h; simp at h; simp [h]
theorem okName.cls {x : Str} (h : okName x = true) : (x == ("__classdict__" : Str)) = false := by unfold okName at h; simp at h; simp [h]

theorem St.fn (x : St G F Γ P σ s) : Γ.env.scope.kind = .function := x.scope ▸ x.kind

/-- a variable read -/
theorem Ev.var {i : Nat} {x : Str} {pos : Pos} {v : V} (hn : F.names[i]? = some x) (hs : σ[i]? = some (.val v)) (hd : okName x = true) : Ev G F k σ (.Name x pos) v σ := by
  intro Γ P A s E Q hr st h
  obtain ⟨α, _, h2⟩ := st.vars
  obtain ⟨val, b, l⟩ := h2 i x _ hn hs
  exact wpAny_Name (b.load st.fn (h _ _ _ (Part.le.refl P) st l) (okName.cls hd)) (okName.debug hd)

theorem Ev.const_int {i : Int} {n : Nat} {pos : Pos} : Ev G F k σ (.Constant (.int i) n pos) (.int i) σ :=
  fun _ _ _ _ _ _ _ st h => wpAny_Constant_int (h _ _ _ (Part.le.refl _) st.tok (.int _ _))
theorem Lay.ofStr {C : Addr} (x : Str) (t : Tok) : Lay C P (.str x t) (.str x.cps.toList) := by
  have e : (⟨x.cps.toList.toArray⟩ : Str) = x := by cases x; simp
  have := Lay.str (C := C) (P := P) x.cps.toList t
  rwa [e] at this
theorem Ev.const_str {x : Str} {n : Nat} {pos : Pos} : Ev G F k σ (.Constant (.str x) n pos) (.str x.cps.toList) σ :=
  fun _ _ _ _ _ _ _ st h => wpAny_Constant_str (h _ _ _ (Part.le.refl _) st.tok (Lay.ofStr _ _))
theorem Ev.const_bool {b : Bool} {n : Nat} {pos : Pos} : Ev G F k σ (.Constant (.bool b) n pos) (.bool b) σ :=
  fun _ _ _ _ _ _ _ st h => wpAny_Constant_bool (h _ _ _ (Part.le.refl _) st (.bool _))
theorem Ev.const_none {n : Nat} {pos : Pos} : Ev G F k σ (.Constant .none n pos) .none σ :=
  fun _ _ _ _ _ _ _ st h => wpAny_Constant_none (h _ _ _ (Part.le.refl _) st .none)

theorem St.mono (x : St G F Γ P σ s) : P.le P := Part.le.refl P

theorem Evs.nil : Evs G F k σ [] [] σ := fun _ _ _ _ _ _ _ _ st h => wpAny_pure (h _ _ _ (Part.le.refl _) st .nil)
theorem Evs.cons {e : Expr} {es : List Expr} {v : V} {vs : List V} (h1 : Ev G F k σ e v σ₁) (h2 : Evs G F k σ₁ es vs σ₂) (hs : ∀ x p, e ≠ .Starred x p := by intros; exact Expr.noConfusion) : Evs G F k σ (e :: es) (v :: vs) σ₂ := by
  intro Γ P A s E Q pos hr st h
  have e1 : backTo pos (starEach (e :: es) Γ.env) = (false, eval e Γ.env) :: backTo pos (starEach es Γ.env) := by
    cases e <;> first | rfl | exact absurd rfl (hs _ _)
  rw [e1]
  refine Calls.spliced_cons (h1 Γ P A s E _ hr st fun val P' s' le st' l => ?_)
  refine h2 Γ P' A s' E _ pos hr st' fun vals P'' s'' le' st'' ls => ?_
  exact h _ _ _ (le.trans le') st'' (.cons (l.mono le') ls)

theorem Ev.tuple {es : List Expr} {vs : List V} {n : Nat} {pos : Pos} (h : Evs G F k σ es vs σ') (hz : vs.length ≤ 1000000) : Ev G F k σ (.Tuple es n pos) (.tup vs) σ' := by
  intro Γ P A s E Q hr st hQ
  refine Tuple_ (h Γ P A s E _ pos hr st fun vals P' s' le st' ls => ?_)
  obtain ⟨le', st''⟩ := st'.put (o := tupO vals 0) (tk := s'.toks)
  refine wpAny_newObj_type (hQ _ _ _ (le.trans le') st'' (.tup (Part.put_self _ _ _) (ls.mono le'))) ?_
  show vals.toArray.size ≤ sizeLine
  rw [List.size_toArray, ls.length]; exact Nat.le_trans hz (by decide)
theorem Ev.list {es : List Expr} {vs : List V} {pos : Pos} (h : Evs G F k σ es vs σ') (hz : vs.length ≤ 1000000) : Ev G F k σ (.List es pos) (.lst vs) σ' := by
  intro Γ P A s E Q hr st hQ
  refine List_ (h Γ P A s E _ pos hr st fun vals P' s' le st' ls => ?_)
  obtain ⟨le', st''⟩ := st'.put (o := listO vals 0) (tk := s'.toks)
  refine wpAny_newObj_type (hQ _ _ _ (le.trans le') st'' (.lst (Part.put_self _ _ _) (ls.mono le'))) ?_
  show vals.toArray.size ≤ sizeLine
  rw [List.size_toArray, ls.length]; exact Nat.le_trans hz (by decide)

/-- an operation on laid values that reads alone or makes new things -/
def Op (G : Glo) (k : Nat) (t : List Value → Sem Value) (args : List V) (v : V) : Prop :=
  ∀ (P : Part) (A : Around) (s : Shared) (E : Value → Shared → Prop) (Q : Value → Shared → Prop) (vals : List Value), Room k A → G.Ok s → P.In s.heap → LayAll G.C P vals args →
    (∀ val P' h' tk, Kept s.heap h' → P.le P' → P'.In h' → (∀ a o, P' a = some o → P a = some o ∨ s.heap.get? a = none) → Lay G.C P' val v → Q val { s with heap := h', toks := tk }) →
    wpAny (model G.prog G.w) A (t vals) Q E s

theorem Op.use {t : List Value → Sem Value} {args : List V} {v : V} (o : Op G k t args v) {A : Around} {E : Value → Shared → Prop} {Q : Value → Shared → Prop} {vals : List Value} (hr : Room k A) (st : St G F Γ P σ s) (l : LayAll G.C P vals args)
    (h : ∀ val P' s', P.le P' → St G F Γ P' σ s' → Lay G.C P' val v → Q val s') : wpAny (model G.prog G.w) A (t vals) Q E s :=
  o P A s E Q vals hr st.ok st.inP l fun val P' h' tk kp le inn nw lv => h val P' _ le (st.ext kp le inn nw) lv

def opBin (op : Operator) : List Value → Sem Value
  | [a, b] => binaryOp op a b
  | _ => unsupported ""
def opCmp (op : CmpOp) : List Value → Sem Value
  | [a, b] => compareOp op a b
  | _ => unsupported ""

theorem wpAny_operate {M : Model} {A : Around} {E : Value → Shared → Prop} {vs : List Value} {m : Sem Value} {Q : Value → Shared → Prop} (h : wpAny M A m Q E s) : wpAny M A (operate vs m) Q E s := by
  unfold operate
  exact wpAny_bind (wpAny_holding (wpAny_mono h (fun r s' hr => wpAny_bind (fun Γ p hΓ => by
    show Sem.wp M Γ (release.go _ _) _ _ p s'
    rw [Sem.wp_release_go]; exact wpAny_pure hr)) fun _ _ x => x))

theorem Ev.bin {l r : Expr} {op : Operator} {pos : Pos} {a b v : V} (h1 : Ev G F k σ l a σ₁) (h2 : Ev G F k σ₁ r b σ₂) (h3 : Op G k (opBin op) [a, b] v) : Ev G F k σ (.BinOp l op r pos) v σ₂ := by
  intro Γ P A s E Q hr st hQ
  refine wpAny_BinOp (h1 Γ P A s E _ hr st fun val P' s' le st' l => ?_)
  refine h2 Γ P' A s' E _ hr st' fun val' P'' s'' le' st'' l' => ?_
  exact h3.use (t := opBin op) hr st'' (.cons (l.mono le') (.cons l' .nil)) fun val P3 s3 le3 st3 l3 => hQ _ _ _ (le.trans (le'.trans le3)) st3 l3

theorem Ev.cmp {l r : Expr} {op : CmpOp} {pos : Pos} {a b v : V} (h1 : Ev G F k σ l a σ₁) (h2 : Ev G F k σ₁ r b σ₂) (h3 : Op G k (opCmp op) [a, b] v) (hb : behindInMarks op r = false := by rfl) : Ev G F k σ (.Compare l [op] [r] pos) v σ₂ := by
  intro Γ P A s E Q hr st hQ
  refine wpAny_Compare1 (h1 Γ P A s E _ hr st fun val P' s' le st' l => ?_) hb
  refine h2 Γ P' A s' E _ hr st' fun val' P'' s'' le' st'' l' => ?_
  exact h3.use (t := opCmp op) hr st'' (.cons (l.mono le') (.cons l' .nil)) fun val P3 s3 le3 st3 l3 => hQ _ _ _ (le.trans (le'.trans le3)) st3 l3

theorem Bnd.sameBut {env : Env} {h h' : Heap} {x : Str} {v : Value} {d : Addr} (b : Bnd env h x v) (hs : Heap.SameBut d h h') (hL : env.locals ≠ d) (hc : ∀ c, env.cells.lookup x = some c → c ≠ d) : Bnd env h' x v := by
  rcases b with ⟨e, m, n, q⟩ | ⟨e, c, q, r⟩
  · exact .inl ⟨e, m, n.sameBut hs hL, q⟩
  · exact .inr ⟨e, c, q, r.sameBut hs (hc c q)⟩

theorem St.cellNe (x : St G F Γ P σ s) {d : Addr} {o : Obj} (hd : s.heap.get? d = some o) (hn : ∀ v, o.data ≠ .cell v) {y : Str} {v : Value} (b : Bnd Γ.env s.heap y v) {c : Addr} (hk : Γ.env.kindOf y ≠ some .local)
    (hc : Γ.env.cells.lookup y = some c) : c ≠ d := by
  rcases b with ⟨e, _⟩ | ⟨e, c', q, o', r1, r2⟩
  · exact absurd e hk
  · rw [hc] at q; cases q
    intro e; subst e; rw [hd] at r1; cases r1; exact hn _ r2

theorem Bnd.sameBut' {env : Env} {h h' : Heap} {x : Str} {v : Value} {d : Addr} {o : Obj} (b : Bnd env h x v) (hs : Heap.SameBut d h h') (hL : env.locals ≠ d) (hd : h.get? d = some o) (hn : ∀ v, o.data ≠ .cell v) : Bnd env h' x v := by
  rcases b with ⟨e, m, n, q⟩ | ⟨e, c, q, r⟩
  · exact .inl ⟨e, m, n.sameBut hs hL, q⟩
  · refine .inr ⟨e, c, q, r.sameBut hs ?_⟩
    obtain ⟨o', r1, r2⟩ := r
    intro e; subst e; rw [hd] at r1; cases r1; exact hn _ r2

theorem set_get {α : Type} {l : List α} {i j : Nat} {a b : α} (h : (l.set i a)[j]? = some b) : (j = i ∧ b = a) ∨ (j ≠ i ∧ l[j]? = some b) := by
  rw [List.getElem?_set] at h
  split at h
  · rename_i e; subst e
    split at h
    · cases h; exact .inl ⟨rfl, rfl⟩
    · cases h
  · rename_i e; exact .inr ⟨fun e' => e e'.symm, h⟩

/-- what a store of a variable leaves -/
structure Stored (F : Fst) (Γ : Act) (P : Part) (h : Heap) (i : Nat) (x : Str) (val : Value) (d : Addr) (h' : Heap) : Prop where
  same : Heap.SameBut d h h'
  baseD : Γ.base d = none
  PD : P d = none
  was : ∃ o, h.get? d = some o ∧ (d = Γ.env.locals ∨ ∃ v, o.data = .cell v)
  ns : ∃ m, h'.Ns Γ.env.locals m
  bnd : Bnd Γ.env h' x val
  cells : ∀ y ∈ F.owns, ∃ c v, Γ.env.cells.lookup y = some c ∧ h'.IsCell c v ∧ Γ.base c = none ∧ P c = none
  others : ∀ j y v, j ≠ i → F.names[j]? = some y → Bnd Γ.env h y v → Bnd Γ.env h' y v

theorem St.store (st : St G F Γ P σ s) {i : Nat} {x : Str} {val : Value} {A : Around} {M : Model} {E : Value → Shared → Prop} {Q : Unit → Shared → Prop} (hn : F.names[i]? = some x)
    (hk : Γ.env.kindOf x = some .local ∨ x ∈ F.owns) (h : ∀ d h' tk, Stored F Γ P s.heap i x val d h' → Q () { s with heap := h', toks := tk }) : wpAny M A (storeName Γ.env x val) Q E s := by
  obtain ⟨m, hns⟩ := st.ns
  obtain ⟨oL, esL, epL, gL, dL, _, _⟩ := id hns
  have hne : ∀ j y, j ≠ i → F.names[j]? = some y → y ≠ x := fun j y hj hy e => by
    subst e
    obtain ⟨h1, e1⟩ := List.getElem?_eq_some_iff.mp hy
    obtain ⟨h2, e2⟩ := List.getElem?_eq_some_iff.mp hn
    exact hj ((List.getElem_inj st.nodup).mp (e1.trans e2.symm))
  rcases hk with hk | hk
  · refine wpAny_storeName_local hk hns (fun h' hn' hs => h _ _ _ ⟨hs, st.baseL, st.PL, ⟨_, gL, .inl rfl⟩, ⟨_, hn'⟩, .inl ⟨hk, _, hn', if_pos rfl⟩, fun y hy => ?_, fun j y v hj hy b => ?_⟩) (by rw [st.fn]; rfl)
    · obtain ⟨_, c, v, h1, h2, h3, h4⟩ := st.cell y hy
      refine ⟨c, v, h1, h2.sameBut hs ?_, h3, h4⟩
      obtain ⟨o, h5, h6⟩ := h2
      intro e; subst e; rw [gL] at h5; cases h5; rw [dL] at h6; cases h6
    · rcases b with ⟨e, m', n', q⟩ | ⟨e, c, q, r⟩
      · refine .inl ⟨e, _, hn', ?_⟩
        rw [if_neg (hne j y hj hy), Heap.Ns.uniq hns n']; exact q
      · refine .inr ⟨e, c, q, r.sameBut hs ?_⟩
        obtain ⟨o, h5, h6⟩ := r
        intro e; subst e; rw [gL] at h5; cases h5; rw [dL] at h6; cases h6
  · obtain ⟨hkc, c, v, h1, h2, h3, h4⟩ := st.cell x hk
    obtain ⟨oc, gc, dc⟩ := id h2
    have hLc : Γ.env.locals ≠ c := by intro e; subst e; rw [gL] at gc; cases gc; rw [dL] at dc; cases dc
    refine wpAny_storeName_cell st.fn hkc h1 h2 fun h' hc' hs => h _ h' s.toks ⟨hs, h3, h4, ⟨_, gc, .inr ⟨_, dc⟩⟩, ⟨_, hns.sameBut hs hLc⟩, .inr ⟨.inl hkc, c, h1, hc'⟩, fun y hy => ?_, fun j y v hj hy b => ?_⟩
    · obtain ⟨_, c', v', h1', h2', h3', h4'⟩ := st.cell y hy
      by_cases e : c' = c
      · subst e; exact ⟨c', _, h1', hc', h3', h4'⟩
      · exact ⟨c', v', h1', h2'.sameBut hs e, h3', h4'⟩
    · rcases b with ⟨e, m', n', q⟩ | ⟨e, c', q, r⟩
      · exact .inl ⟨e, _, n'.sameBut hs hLc, q⟩
      · refine .inr ⟨e, c', q, r.sameBut hs ?_⟩
        intro e; subst e; exact hne j y hj hy (st.apart x hk y _ h1 q).symm

theorem Stored.ne {F : Fst} {h : Heap} {i : Nat} {x : Str} {val : Value} {d : Addr} {h' : Heap} (t : Stored F Γ P h i x val d h') {b : Addr} {o : Obj} (g : h.get? b = some o) (hL : Γ.env.locals ≠ b) (hn : ∀ v, o.data ≠ .cell v) : b ≠ d := by
  obtain ⟨od, g1, g2⟩ := t.was
  intro e; subst e
  rw [g] at g1; cases g1
  rcases g2 with e | ⟨v, e⟩
  · exact hL e.symm
  · exact hn _ e

theorem St.notL_list (st : St G F Γ P σ s) {b : Addr} {ws : List Value} {n : Nat} (g : s.heap.get? b = some (listO ws n)) : Γ.env.locals ≠ b := by
  obtain ⟨m, oL, esL, epL, gL, dL, _, _⟩ := st.ns
  intro e; subst e; rw [g] at gL; cases gL; cases dL

theorem SlotIs.stored (st : St G F Γ P σ s) {i j : Nat} {x y : Str} {val : Value} {d a : Addr} {h' : Heap} {sl : Slot} (t : Stored F Γ P s.heap i x val d h') (hj : j ≠ i) (hy : F.names[j]? = some y) (z : SlotIs G.C Γ P s.heap a y sl) : SlotIs G.C Γ P h' a y sl := by
  cases sl with
  | un => trivial
  | val v => obtain ⟨w, b, l⟩ := z; exact ⟨w, t.others j y w hj hy b, l⟩
  | raw v => exact t.others j y v hj hy z
  | own vs =>
    obtain ⟨b, h1, h2, ws, n, h3, h4⟩ := z
    exact ⟨t.others _ _ _ hj hy b, h1, h2, ws, n, by rw [t.same.2 _ (t.ne h3 (st.notL_list h3) (by intro v e; cases e))]; exact h3, h4⟩
  | self x' fs vs =>
    obtain ⟨b, h1, h2, h3, h4, h4', h5, es, ws, n, h6, h7, h8, h9⟩ := z
    exact ⟨t.others _ _ _ hj hy b, by rw [t.same.2 _ (t.ne h1 h3 (by intro v e; cases e))]; exact h1, h2, h3, h4, h4', h5, es, ws, n, by rw [t.same.2 _ (t.ne h6 h9 (by intro v e; cases e))]; exact h6, h7, h8, h9⟩

theorem St.afterStore (st : St G F Γ P σ s) {i : Nat} {x : Str} {val : Value} {d : Addr} {h' : Heap} {tk : Nat} {σ' : List Slot} (t : Stored F Γ P s.heap i x val d h')
    (hv : ∃ α : Nat → Addr, (∀ i j a b, σ'[i]? = some a → σ'[j]? = some b → a.holds = true → b.holds = true → α i = α j → i = j) ∧ ∀ i x sl, F.names[i]? = some x → σ'[i]? = some sl → SlotIs G.C Γ P h' (α i) x sl) :
    St G F Γ P σ' { s with heap := h', toks := tk } := by
  have nd : ∀ b o, G.s0.heap.get? b = some o → b ≠ d := fun b o e => by rintro rfl; have := st.top _ _ e; rw [t.baseD] at this; cases this
  refine ⟨⟨?_, fun b o e => ?_⟩, st.scope, st.kind, st.globals, st.builtins, st.nodup, st.apart, st.top, fun b o e => ?_, fun b o e => ?_, st.le, st.new, t.ns, st.baseL, st.PL, fun y hy => ⟨(st.cell y hy).1, t.cells y hy⟩, hv⟩
  · obtain ⟨h0, t0, e0⟩ := st.ok.same; exact ⟨h', tk, by rw [e0]⟩
  · show h'.get? b = some o
    rw [t.same.2 b (nd b o e)]; exact st.ok.keep b o e
  · show h'.get? b = some o
    rw [t.same.2 b (by rintro rfl; rw [t.baseD] at e; cases e)]; exact st.keep b o e
  · show h'.get? b = some o
    rw [t.same.2 b (by rintro rfl; rw [t.PD] at e; cases e)]; exact st.inP b o e

/-- a variable gets a value -/
theorem St.set (st : St G F Γ P σ s) {i : Nat} {x : Str} {val : Value} {v : V} {A : Around} {M : Model} {E : Value → Shared → Prop} {Q : Unit → Shared → Prop} (hn : F.names[i]? = some x)
    (hk : Γ.env.kindOf x = some .local ∨ x ∈ F.owns) (l : Lay G.C P val v) (h : ∀ s', St G F Γ P (σ.set i (.val v)) s' → Q () s') : wpAny M A (storeName Γ.env x val) Q E s := by
  refine st.store hn hk fun d h' tk t => h _ (st.afterStore t ?_)
  obtain ⟨α, hinj, hvar⟩ := st.vars
  refine ⟨α, fun p q a b ha hb h1 h2 e => ?_, fun j y sl hy hsl => ?_⟩
  · rcases set_get ha with ⟨rfl, rfl⟩ | ⟨n1, ha⟩
    · cases h1
    · rcases set_get hb with ⟨rfl, rfl⟩ | ⟨n2, hb⟩
      · cases h2
      · exact hinj p q a b ha hb h1 h2 e
  · rcases set_get hsl with ⟨rfl, rfl⟩ | ⟨n1, hsl⟩
    · rw [hn] at hy; cases hy; exact ⟨val, t.bnd, l⟩
    · exact (hvar j y sl hy hsl).stored st t n1 hy

theorem SlotIs.there (st : St G F Γ P σ s) {a : Addr} {y : Str} {sl : Slot} (z : SlotIs G.C Γ P s.heap a y sl) (h : sl.holds = true) : ∃ o, s.heap.get? a = some o := by
  cases sl with
  | own vs => obtain ⟨b, h1, h2, ws, n, h3, h4⟩ := z; exact ⟨_, h3⟩
  | self x' fs vs => obtain ⟨b, h1, h2, h3, h4, h4', h5, es, ws, n, h6, _⟩ := z; exact ⟨_, h6⟩
  | _ => cases h

/-- a variable gets a list of its own, just made -/
theorem St.setOwn (st : St G F Γ P σ s) {i : Nat} {x : Str} {ws : List Value} {vs : List V} {tk : Nat} {A : Around} {M : Model} {E : Value → Shared → Prop} {Q : Unit → Shared → Prop} (hn : F.names[i]? = some x) (hlen : σ.length = F.names.length)
    (hk : Γ.env.kindOf x = some .local ∨ x ∈ F.owns) (l : LayAll G.C P ws vs) (h : ∀ s', St G F Γ P (σ.set i (.own vs)) s' → Q () s') :
    wpAny M A (storeName Γ.env x (.ref s.heap.objs.size)) Q E { s with heap := s.heap.push (listO ws 0), toks := tk } := by
  have st1 : St G F Γ P σ { s with heap := s.heap.push (listO ws 0), toks := tk } := st.grow (Kept.push _ _)
  refine st1.store hn hk fun d h' tk t => h _ (st1.afterStore t ?_)
  obtain ⟨α, hinj, hvar⟩ := st.vars
  have hx : ∀ j sl, σ[j]? = some sl → sl.holds = true → α j ≠ s.heap.objs.size := fun j sl hj hh e => by
    have hlt : j < F.names.length := by rw [← hlen]; exact (List.getElem?_eq_some_iff.mp hj).1
    obtain ⟨o, g⟩ := (hvar j _ sl (List.getElem?_eq_getElem hlt) hj).there st hh
    rw [e, get?_size] at g; cases g
  refine ⟨fun j => if j = i then s.heap.objs.size else α j, fun p q a b ha hb h1 h2 e => ?_, fun j y sl hy hsl => ?_⟩
  · rcases set_get ha with ⟨rfl, rfl⟩ | ⟨n1, ha'⟩ <;> rcases set_get hb with ⟨rfl, rfl⟩ | ⟨n2, hb'⟩
    · rfl
    · simp only [if_pos, if_neg n2] at e; exact absurd e.symm (hx q b hb' h2)
    · simp only [if_pos, if_neg n1] at e; exact absurd e (hx p a ha' h1)
    · simp only [if_neg n1, if_neg n2] at e; exact hinj p q a b ha' hb' h1 h2 e
  · rcases set_get hsl with ⟨rfl, rfl⟩ | ⟨n1, hsl⟩
    · rw [hn] at hy; cases hy
      simp only [if_pos]
      have hg : (s.heap.push (listO ws 0)).get? s.heap.objs.size = some (listO ws 0) := Heap.get?_push_size _ rfl
      have hb : Γ.base s.heap.objs.size = none := by
        cases e : Γ.base s.heap.objs.size with
        | none => rfl
        | some q => have := st.keep _ _ e; rw [get?_size] at this; cases this
      have hp : P s.heap.objs.size = none := by
        cases e : P s.heap.objs.size with
        | none => rfl
        | some q => have := st.inP _ _ e; rw [get?_size] at this; cases this
      exact ⟨t.bnd, hp, hb, ws, 0, by rw [t.same.2 _ (t.ne hg (st1.notL_list hg) (by intro v e; cases e))]; exact hg, l⟩
    · simp only [if_neg n1]
      exact ((hvar j y sl hy hsl).kept (Kept.push _ _) (Part.le.refl P) (fun _ _ e => .inl e)).stored st1 t n1 hy
end
end Mine

namespace Mine
section
variable {G : Glo} {F : Fst} {k : Nat} {σ σ' σ₁ σ₂ : List Slot} {Γ : Act} {P : Part} {s : Shared}

/-! truth -/
def Truth (G : Glo) (k : Nat) (v : V) (b : Bool) : Prop :=
  ∀ (P : Part) (A : Around) (s : Shared) (E : Value → Shared → Prop) (Q : Bool → Shared → Prop) (val : Value), Room k A → G.Ok s → P.In s.heap → Lay G.C P val v →
    (∀ h' tk, Kept s.heap h' → Q b { s with heap := h', toks := tk }) → wpAny (model G.prog G.w) A (truthy val) Q E s
theorem Truth.bool {b : Bool} : Truth G k (.bool b) b := by
  intro P A s E Q val hr ok inn l h
  cases l
  exact wpAny_truthy_bool (h s.heap s.toks (Kept.refl _))
theorem Truth.str {x : List Nat} (hx : x.length ≤ 16777216) : Truth G k (.str x) (decide (x.length ≠ 0)) := by
  intro P A s E Q val hr ok inn l h
  cases l
  have hl : (⟨x.toArray⟩ : Str).length = x.length := by simp [Str.length]
  refine PySem.P.truthy_str (by rw [hl]; have : x.length < 2 ^ 63 := Nat.lt_of_le_of_lt hx (by decide); omega) ?_
  rw [hl]
  have e : ((x.length : Int) != 0) = decide (x.length ≠ 0) := by
    by_cases h : x.length = 0
    · simp [h]
    · have : (x.length : Int) ≠ 0 := by omega
      simp [h]
  rw [e]; exact h s.heap _ (Kept.refl _)
theorem isTup_of {C : Addr} {P : Part} {h : Heap} {a : Addr} {ds : List V} (inn : P.In h) (l : Lay C P (.ref a) (.tup ds)) : ∃ vs : List Value, IsTup h a vs.toArray ∧ LayAll C P vs ds := by
  cases l with
  | tup p ls => exact ⟨_, ⟨_, inn _ _ p, rfl, _, rfl⟩, ls⟩
theorem isList_of {C : Addr} {P : Part} {h : Heap} {a : Addr} {ds : List V} (inn : P.In h) (l : Lay C P (.ref a) (.lst ds)) : ∃ vs : List Value, h.IsList a vs.toArray ∧ LayAll C P vs ds := by
  cases l with
  | lst p ls => exact ⟨_, ⟨_, inn _ _ p, rfl, _, rfl⟩, ls⟩
theorem Lay.tup_ref {C : Addr} {P : Part} {v : Value} {ds : List V} (l : Lay C P v (.tup ds)) : ∃ a, v = .ref a := by cases l; exact ⟨_, rfl⟩
theorem Lay.lst_ref {C : Addr} {P : Part} {v : Value} {ds : List V} (l : Lay C P v (.lst ds)) : ∃ a, v = .ref a := by cases l; exact ⟨_, rfl⟩
theorem Truth.tup {vs : List V} (hx : vs.length ≤ 16777216) : Truth G k (.tup vs) (decide (vs.length ≠ 0)) := by
  intro P A s E Q val hr ok inn l h
  obtain ⟨a, rfl⟩ := l.tup_ref
  obtain ⟨ws, ht, ls⟩ := isTup_of inn l
  have hl := ls.length
  have hb : ws.toArray.size < 2 ^ 63 := by rw [List.size_toArray, hl]; exact Nat.lt_of_le_of_lt hx (by decide)
  refine truthy_tuple ht (by omega) ?_
  have e : (!ws.toArray.isEmpty) = decide (vs.length ≠ 0) := by
    unfold Array.isEmpty
    rw [List.size_toArray, hl]
    by_cases h : vs.length = 0
    · simp [h]
    · simp [h]
  rw [e]; exact h s.heap _ (Kept.refl _)

theorem Tr.cmp {l r : Expr} {op : CmpOp} {pos : Pos} {a b : V} {c : Bool} (h1 : Ev G F k σ l a σ₁) (h2 : Ev G F k σ₁ r b σ₂) (h3 : Op G k (opCmp op) [a, b] (.bool c)) (hb : behindInMarks op r = false := by rfl) : Tr G F k σ (.Compare l [op] [r] pos) c σ₂ := by
  intro Γ P A s E Q hr st hQ
  refine wpAny_isTrue_Compare1 (h1 Γ P A s E _ hr st fun val P' s' le st' l => ?_) hb
  refine h2 Γ P' A s' E _ hr st' fun val' P'' s'' le' st'' l' => ?_
  refine h3.use (t := opCmp op) hr st'' (.cons (l.mono le') (.cons l' .nil)) fun val P3 s3 le3 st3 l3 => ?_
  cases l3
  exact wpAny_truthy_bool (hQ _ _ (le.trans (le'.trans le3)) st3)
theorem Tr.not {x : Expr} {pos : Pos} {b : Bool} (h : Tr G F k σ x b σ') : Tr G F k σ (.UnaryOp .Not x pos) (!b) σ' := by
  intro Γ P A s E Q hr st hQ
  exact isTrue_not (h Γ P A s E _ hr st fun P' s' le st' => hQ _ _ le st')
theorem Tr.value {e : Expr} {v : V} {b : Bool} (h : Ev G F k σ e v σ') (ht : Truth G k v b) (he : ∀ env whole, isTrue e env whole = (do let v ← whole; standAt e.pos; holding [v] (truthy v)) := by intros; rfl) : Tr G F k σ e b σ' := by
  intro Γ P A s E Q hr st hQ
  refine wpAny_isTrue_value (h Γ P A s E _ hr st fun val P' s' le st' l => ?_) (he _ _)
  exact ht P' A s' E _ val hr st'.ok st'.inP l fun h' tk kp => hQ _ _ le (st'.grow kp)
theorem Tr.and_nil {pos : Pos} : Tr G F k σ (.BoolOp .And [] pos) true σ := fun _ _ _ _ _ _ _ st hQ => isTrue_and_nil (hQ _ _ (Part.le.refl _) st)
theorem Tr.or_nil {pos : Pos} : Tr G F k σ (.BoolOp .Or [] pos) false σ := fun _ _ _ _ _ _ _ st hQ => isTrue_or_nil (hQ _ _ (Part.le.refl _) st)
theorem Tr.and_true {x : Expr} {xs : List Expr} {pos : Pos} {c : Bool} (h1 : Tr G F k σ x true σ₁) (h2 : Tr G F k σ₁ (.BoolOp .And xs pos) c σ₂) : Tr G F k σ (.BoolOp .And (x :: xs) pos) c σ₂ := by
  intro Γ P A s E Q hr st hQ
  refine wpAny_isTrue_BoolOp (wpAny_allTrue_And_cons (h1 Γ P A s E _ hr st fun P' s' le st' => ?_))
  have := h2 Γ P' A s' E Q hr st' fun P'' s'' le' st'' => hQ _ _ (le.trans le') st''
  rw [arm_isTrue_BoolOp] at this
  simpa using this
theorem Tr.and_false {x : Expr} {xs : List Expr} {pos : Pos} (h1 : Tr G F k σ x false σ₁) : Tr G F k σ (.BoolOp .And (x :: xs) pos) false σ₁ := by
  intro Γ P A s E Q hr st hQ
  refine wpAny_isTrue_BoolOp (wpAny_allTrue_And_cons (h1 Γ P A s E _ hr st fun P' s' le st' => ?_))
  simpa using hQ _ _ le st'
theorem Tr.or_false {x : Expr} {xs : List Expr} {pos : Pos} {c : Bool} (h1 : Tr G F k σ x false σ₁) (h2 : Tr G F k σ₁ (.BoolOp .Or xs pos) c σ₂) : Tr G F k σ (.BoolOp .Or (x :: xs) pos) c σ₂ := by
  intro Γ P A s E Q hr st hQ
  refine wpAny_isTrue_BoolOp (wpAny_allTrue_Or_cons (h1 Γ P A s E _ hr st fun P' s' le st' => ?_))
  have := h2 Γ P' A s' E Q hr st' fun P'' s'' le' st'' => hQ _ _ (le.trans le') st''
  rw [arm_isTrue_BoolOp] at this
  simpa using this
theorem Tr.or_true {x : Expr} {xs : List Expr} {pos : Pos} (h1 : Tr G F k σ x true σ₁) : Tr G F k σ (.BoolOp .Or (x :: xs) pos) true σ₁ := by
  intro Γ P A s E Q hr st hQ
  refine wpAny_isTrue_BoolOp (wpAny_allTrue_Or_cons (h1 Γ P A s E _ hr st fun P' s' le st' => ?_))
  simpa using hQ _ _ le st'
theorem Ev.ife {t a b : Expr} {pos : Pos} {c : Bool} {v : V} (h : Tr G F k σ t c σ₁) (h1 : c = true → Ev G F k σ₁ a v σ₂) (h2 : c = false → Ev G F k σ₁ b v σ₂) : Ev G F k σ (.IfExp t a b pos) v σ₂ := by
  intro Γ P A s E Q hr st hQ
  show wpAny _ A (do if ← isTrue t Γ.env (eval t Γ.env) then eval a Γ.env else eval b Γ.env) Q E s
  refine wpAny_bind (h Γ P A s E _ hr st fun P' s' le st' => ?_)
  cases c
  · exact h2 rfl Γ P' A s' E Q hr st' fun val P'' s'' le' st'' l => hQ _ _ _ (le.trans le') st'' l
  · exact h1 rfl Γ P' A s' E Q hr st' fun val P'' s'' le' st'' l => hQ _ _ _ (le.trans le') st'' l

/-! statements -/
theorem Exs.nil : Exs G F k σ [] (.next σ) := fun _ _ _ _ _ _ _ st h => wpAny_execs_nil (h _ _ _ (Part.le.refl _) ⟨rfl, st⟩)
theorem Exs.cons {st : Stmt} {sts : List Stmt} {out : Out} (h1 : Ex G F k σ st (.next σ₁)) (h2 : Exs G F k σ₁ sts out) : Exs G F k σ (st :: sts) out := by
  intro Γ P A s E Q hr sst hQ
  refine wpAny_execs_cons (h1 Γ P A s E _ hr sst fun fl P' s' le o => ?_)
  obtain ⟨rfl, st'⟩ := o
  exact h2 Γ P' A s' E Q hr st' fun fl P'' s'' le' o => hQ _ _ _ (le.trans le') o
theorem Exs.ret {st : Stmt} {sts : List Stmt} {v : V} (h1 : Ex G F k σ st (.ret v)) : Exs G F k σ (st :: sts) (.ret v) := by
  intro Γ P A s E Q hr sst hQ
  refine wpAny_execs_cons (h1 Γ P A s E _ hr sst fun fl P' s' le o => ?_)
  obtain ⟨val, rfl, l, σ', st'⟩ := o
  exact hQ _ _ _ le ⟨val, rfl, l, σ', st'⟩
theorem Exs.brk {st : Stmt} {sts : List Stmt} (h1 : Ex G F k σ st (.brk σ₁)) : Exs G F k σ (st :: sts) (.brk σ₁) := by
  intro Γ P A s E Q hr sst hQ
  refine wpAny_execs_cons (h1 Γ P A s E _ hr sst fun fl P' s' le o => ?_)
  obtain ⟨rfl, st'⟩ := o
  exact hQ _ _ _ le ⟨rfl, st'⟩
theorem Ex.ret {e : Expr} {pos : Pos} {v : V} (h : Ev G F k σ e v σ') : Ex G F k σ (.Return (some e) pos) (.ret v) := by
  intro Γ P A s E Q hr st hQ
  exact wpAny_Return_some (h Γ P A s E _ hr st fun val P' s' le st' l => hQ _ _ _ le ⟨val, rfl, l, _, st'⟩)
theorem Ex.brk {pos : Pos} : Ex G F k σ (.Break pos) (.brk σ) := fun _ _ _ _ _ _ _ st h => fun _ _ _ => h _ _ _ (Part.le.refl _) ⟨rfl, st⟩
theorem Ex.ite {t : Expr} {a b : List Stmt} {pos : Pos} {c : Bool} {out : Out} (h : Tr G F k σ t c σ₁) (h1 : c = true → Exs G F k σ₁ a out) (h2 : c = false → Exs G F k σ₁ b out) : Ex G F k σ (.If t a b pos) out := by
  intro Γ P A s E Q hr st hQ
  refine wpAny_If (h Γ P A s E _ hr st fun P' s' le st' => ?_)
  cases c
  · simpa using h2 rfl Γ P' A s' E Q hr st' fun fl P'' s'' le' o => hQ _ _ _ (le.trans le') o
  · simpa using h1 rfl Γ P' A s' E Q hr st' fun fl P'' s'' le' o => hQ _ _ _ (le.trans le') o

/-! assignment -/
def Loc (F : Fst) (x : Str) : Bool := F.scope.names.lookup x == some .local || F.owns.contains x
theorem Loc.of (st : St G F Γ P σ s) {x : Str} (h : Loc F x = true) : Γ.env.kindOf x = some .local ∨ x ∈ F.owns := by
  unfold Loc at h
  rcases Bool.or_eq_true_iff.mp h with h | h
  · refine .inl ?_; show Γ.env.scope.names.lookup x = _; rw [st.scope]; simpa using h
  · exact .inr (by simpa using h)
theorem Asg.name {i : Nat} {x : Str} {pos : Pos} {v : V} (hn : F.names[i]? = some x) (hl : Loc F x = true) : Asg G F k σ (.Name x pos) v (σ.set i (.val v)) := by
  intro Γ P A s E Q val hr st l h
  exact wpAny_assign_Name (st.set hn (Loc.of st hl) l fun s' st' => h _ _ (Part.le.refl _) st')

def Asgs (G : Glo) (F : Fst) (k : Nat) (σ : List Slot) (targets : List Expr) (vs : List V) (σ' : List Slot) : Prop :=
  ∀ (Γ : Act) (P : Part) (A : Around) (s : Shared) (E : Value → Shared → Prop) (Q : Unit → Shared → Prop) (vals : List Value), Room k A → St G F Γ P σ s → LayAll G.C P vals vs →
    (∀ P' s', P.le P' → St G F Γ P' σ' s' → Q () s') → wpAny (model G.prog G.w) A (assignInOrder ((assignEach targets Γ.env).map (·.2)) vals) Q E s
theorem Asgs.nil : Asgs G F k σ [] [] σ := by
  intro Γ P A s E Q vals hr st l h
  cases l
  exact wpAny_pure (h _ _ (Part.le.refl _) st)
theorem Asgs.cons {t : Expr} {ts : List Expr} {v : V} {vs : List V} (h1 : Asg G F k σ t v σ₁) (h2 : Asgs G F k σ₁ ts vs σ₂) (hs : ∀ x p, t ≠ .Starred x p := by intros; exact Expr.noConfusion) : Asgs G F k σ (t :: ts) (v :: vs) σ₂ := by
  intro Γ P A s E Q vals hr st l h
  cases l with
  | cons l ls =>
    have e1 : assignEach (t :: ts) Γ.env = (false, assign t Γ.env) :: assignEach ts Γ.env := by
      cases t <;> first | rfl | exact absurd rfl (hs _ _)
    rw [e1]
    show wpAny _ A (do holding _ (assign t Γ.env _); assignInOrder _ _) Q E s
    refine wpAny_bind (wpAny_holding (h1 Γ P A s E _ _ hr st l fun P' s' le st' => ?_))
    exact h2 Γ P' A s' E Q _ hr st' (ls.mono le) fun P'' s'' le' st'' => h _ _ (le.trans le') st''
theorem assignEach_plain {ts : List Expr} {env : Env} (h : ts.all (fun t => !isStarred t) = true) : (assignEach ts env).length = ts.length ∧ (assignEach ts env).findIdx? (·.1) = none := by
  induction ts with
  | nil => exact ⟨rfl, rfl⟩
  | cons t ts ih =>
    simp only [List.all_cons, Bool.and_eq_true] at h
    obtain ⟨h1, h2⟩ := ih h.2
    have e1 : assignEach (t :: ts) env = (false, assign t env) :: assignEach ts env := by
      cases t <;> first | rfl | (simp [isStarred] at h)
    rw [e1]
    refine ⟨by simp [h1], ?_⟩
    simp [List.findIdx?_cons, h2]
theorem Asg.tuple {ts : List Expr} {n : Nat} {pos : Pos} {vs : List V} (h : Asgs G F k σ ts vs σ') (hp : ts.all (fun t => !isStarred t) = true := by rfl) (hlen : ts.length = vs.length := by rfl) : Asg G F k σ (.Tuple ts n pos) (.tup vs) σ' := by
  intro Γ P A s E Q val hr st l hQ
  obtain ⟨a, rfl⟩ := l.tup_ref
  obtain ⟨ws, ht, ls⟩ := isTup_of st.inP l
  obtain ⟨e1, e2⟩ := assignEach_plain (env := Γ.env) hp
  refine wpAny_assign_Tuple hr.1 ht (by rw [e1, List.size_toArray, hlen, ls.length]) e2 fun h' hx => ?_
  have kp : Kept s.heap h' := fun b o e => hx b o (Nat.ne_of_lt (Heap.lt_size e)) e
  exact h Γ P A { s with heap := h' } E Q ws hr (st.grow (tk := s.toks) kp) ls hQ

/-- one value into several targets -/
def AsgAll (G : Glo) (F : Fst) (k : Nat) (σ : List Slot) (targets : List Expr) (v : V) (σ' : List Slot) : Prop :=
  ∀ (Γ : Act) (P : Part) (A : Around) (s : Shared) (E : Value → Shared → Prop) (Q : Unit → Shared → Prop) (val : Value), Room k A → St G F Γ P σ s → Lay G.C P val v →
    (∀ P' s', P.le P' → St G F Γ P' σ' s' → Q () s') → wpAny (model G.prog G.w) A (assignAll val ((assignEach targets Γ.env).map (·.2))) Q E s
theorem AsgAll.one {t : Expr} {v : V} (h1 : Asg G F k σ t v σ₁) (hs : isStarred t = false := by rfl) : AsgAll G F k σ [t] v σ₁ := by
  intro Γ P A s E Q val hr st l h
  have e1 : (assignEach [t] Γ.env).map (·.2) = [assign t Γ.env] := by
    cases t <;> first | rfl | (simp [isStarred] at hs)
  rw [e1]
  exact h1 Γ P A s E Q val hr st l h
theorem AsgAll.cons {t t' : Expr} {ts : List Expr} {v : V} (h1 : Asg G F k σ t v σ₁) (h2 : AsgAll G F k σ₁ (t' :: ts) v σ₂) (hs : isStarred t = false := by rfl) : AsgAll G F k σ (t :: t' :: ts) v σ₂ := by
  intro Γ P A s E Q val hr st l h
  have e1 : (assignEach (t :: t' :: ts) Γ.env).map (·.2) = assign t Γ.env :: (assignEach (t' :: ts) Γ.env).map (·.2) := by
    cases t <;> first | rfl | (simp [isStarred] at hs)
  rw [e1]
  have e2 : ∃ y ys, (assignEach (t' :: ts) Γ.env).map (·.2) = y :: ys := by cases t' <;> exact ⟨_, _, rfl⟩
  obtain ⟨y, ys, e2⟩ := e2
  have h2' := fun P' s' st' l' h' => h2 Γ P' A s' E Q val hr st' l' h'
  rw [e2] at h2' ⊢
  show wpAny _ A (do holding [val] (assign t Γ.env val); assignAll val (y :: ys)) Q E s
  exact wpAny_bind (wpAny_holding (h1 Γ P A s E _ val hr st l fun P' s' le st' => h2' P' s' st' (l.mono le) fun P'' s'' le' st'' => h _ _ (le.trans le') st''))
theorem Ex.assign {ts : List Expr} {e : Expr} {pos : Pos} {v : V} (h1 : Ev G F k σ e v σ₁) (h2 : AsgAll G F k σ₁ ts v σ₂) (hs : ∀ env : Env, env.scope = F.scope → swapsWithSole ts e pos.line env = pure false := by intros; rfl)
    (hw : ∀ env, swappedStores ts e env = pure none := by intros; rfl) : Ex G F k σ (.Assign ts e pos) (.next σ₂) := by
  intro Γ P A s E Q hr st hQ
  show wpAny _ A (do
    standAt pos
    if ← swapsWithSole ts e pos.line Γ.env then do
      evalThenUse e Γ.env fun v => assignAll v ((assignEach ts Γ.env).map (·.2))
      pure .next
    else do
      let v ← eval e Γ.env
      assignStores Γ.env v (← swappedStores ts e Γ.env) ((assignEach ts Γ.env).map (·.2))) Q E s
  rw [hs _ st.scope, hw]
  refine wpAny_bind (wpAny_standAt (wpAny_bind (wpAny_pure ?_)))
  simp only [Bool.false_eq_true, if_false]
  refine wpAny_bind (h1 Γ P A s E _ hr st fun val P' s' le st' l => wpAny_bind (wpAny_pure ?_))
  show wpAny _ A (do assignAll val ((assignEach ts Γ.env).map (·.2)); pure .next) Q E s'
  exact wpAny_bind (h2 Γ P' A s' E _ val hr st' l fun P'' s'' le' st'' => wpAny_pure (hQ _ _ _ (le.trans le') ⟨rfl, st''⟩))
theorem Ex.set {i : Nat} {x : Str} {p pos : Pos} {e : Expr} {v : V} (hn : F.names[i]? = some x) (hl : Loc F x = true) (h1 : Ev G F k σ e v σ₁) (hs : ∀ env : Env, env.scope = F.scope → swapsWithSole [.Name x p] e pos.line env = pure false := by intros; rfl)
    : Ex G F k σ (.Assign [.Name x p] e pos) (.next (σ₁.set i (.val v))) :=
  Ex.assign h1 (AsgAll.one (Asg.name hn hl)) hs (by intro env; cases e <;> rfl)
/-- a call for its effect -/
theorem Ex.expr_none {e : Expr} {pos : Pos} (h : Ev G F k σ e .none σ') (hi : F.scope.more.any (fun x => x.1 == ("interactive" : Str)) = false := by rfl) (hs : ∀ env, swapsWith e none pos.line env = pure false := by intros; rfl) : Ex G F k σ (.Expr e pos) (.next σ') := by
  intro Γ P A s E Q hr st hQ
  refine wpAny_Expr (h Γ P A s E _ hr st fun val P' s' le st' l => ?_) ?_ (hs _)
  · cases l; exact hQ _ _ _ le ⟨rfl, st'⟩
  · unfold interactive; rw [st.fn]; rfl
end
end Mine

namespace Mine
section
variable {G : Glo} {F : Fst} {k : Nat} {σ σ' σ₁ σ₂ : List Slot} {Γ : Act} {P : Part} {s : Shared}

/-- what a loop goes over -/
def iterOf : V → Option (List V)
  | .lst vs => some vs
  | .tup vs => some vs
  | .str x => some (x.map fun c => .str [c])
  | .rng a b => if -1000000000 ≤ a ∧ a ≤ 1000000000 ∧ -1000000000 ≤ b ∧ b ≤ 1000000000 then some ((List.range (b - a).toNat).map fun (i : Nat) => .int (a + i)) else none
  | _ => none

structure Iter (G : Glo) (I : Addr) (fp : List Addr) (n : Nat) (Pv : Nat → Value → Prop) (SI : Nat → Heap → Prop) : Prop where
  walks : ∀ A : Around, A.handled = none → Walks G.prog G.w A I fp [I] n Pv SI
  go : ∀ i (A : Around) (s : Shared) (t : Expr) (v : Value) (E : Value → Shared → Prop) (Q : Unit → Shared → Prop), SI i s.heap → Q () s → wpAny (model G.prog G.w) A (letOwnedTupleGo t (.ref I) v) Q E s
  obj : ∀ i h, SI i h → ∃ o, h.get? I = some o ∧ ∃ vs, o.data = .fields vs

theorem go_of {M : Model} {A : Around} {E : Value → Shared → Prop} {Q : Unit → Shared → Prop} {I : Addr} {o : Obj} {n : String} {vs : Array Value} (ho : s.heap.get? I = some o) (hc : o.cls = .type n) (hd : o.data = .fields vs)
    (hn : ["enumerate", "zip", "dict_itemiterator", "dict_reverseitemiterator", "odict_iterator", "itertools.zip_longest", "itertools.pairwise"].contains n = false) (h : Q () s) (t : Expr) (v : Value) : wpAny M A (letOwnedTupleGo t (.ref I) v) Q E s := by
  have key : ∀ a : Addr, wpAny M A (do
      let o ← load I
      match o.cls, o.data with
      | .type n, .fields vs =>
        if ["enumerate", "zip", "dict_itemiterator", "dict_reverseitemiterator", "odict_iterator", "itertools.zip_longest", "itertools.pairwise"].contains n && vs[0]? == some (rawInt a) then
          rule "for.unpacks-the-owned-tuple"
          updateField I 0 .none
      | _, _ => pure ()) Q E s := by
    intro a
    refine wpAny_bind (wpAny_load ho ?_)
    rw [hc, hd]
    show wpAny M A (if (_ && _) = true then _ else _) Q E s
    rw [if_neg (by rw [hn, Bool.false_and]; exact Bool.false_ne_true)]
    exact wpAny_pure h
  unfold letOwnedTupleGo
  cases t <;> first | exact wpAny_pure h | (cases v <;> first | exact wpAny_pure h | exact key _)

theorem iter_of {A : Around} {E : Value → Shared → Prop} {Q : Value → Shared → Prop} {val : Value} {v : V} {items : List V} (inn : P.In s.heap) (l : Lay G.C P val v) (hi : iterOf v = some items)
    (h : ∀ o fp SI, o.isFreed = false → Iter G s.heap.objs.size fp items.length (fun i w => ∃ d, items[i]? = some d ∧ Lay G.C P w d) SI → SI 0 (s.heap.push o) → (∀ b ∈ fp, b = s.heap.objs.size ∨ ∃ q, P b = some q) →
      Q (.ref s.heap.objs.size) { s with heap := s.heap.push o }) : wpAny (model G.prog G.w) A (pyIter val) Q E s := by
  cases l with
  | lst p ls =>
    rename_i a vs n ds
    cases hi
    have hl : s.heap.IsList a vs.toArray := ⟨_, inn _ _ p, rfl, n, rfl⟩
    have hne : a ≠ s.heap.objs.size := Nat.ne_of_lt (Heap.lt_size (inn _ _ p))
    have hsz : vs.toArray.size = items.length := by rw [List.size_toArray, ls.length]
    refine wpAny_pyIter_list hl (h _ [s.heap.objs.size, a] (fun i h => h.IsListIter s.heap.objs.size a i ∧ h.IsList a vs.toArray) rfl ⟨fun A' hA => ?_, fun i A' s' t v' E' Q' hs hq => ?_, fun i h hs => ?_⟩ ⟨⟨_, Heap.get?_push_size _ rfl, rfl, rfl⟩, ⟨_, Heap.get?_push_of_some _ (inn _ _ p), rfl, n, rfl⟩⟩ fun b hb => ?_)
    · have W := Walks.list (prog := G.prog) (w := G.w) hA s.heap.objs.size a hne vs.toArray
      rw [hsz] at W
      refine ⟨W.sub, W.frame, fun i s' Q' E' hi' st hQ => W.item i s' Q' E' hi' st fun v' h' tk hp => hQ v' h' tk ?_, W.done, W.self⟩
      obtain ⟨d', e1, e2⟩ := ls.get' (i := i) (by simpa using hp)
      exact ⟨d', e1, e2⟩
    · obtain ⟨⟨o', h1, h2, h3⟩, _⟩ := hs
      exact go_of h1 h2 h3 (by decide) hq t v'
    · obtain ⟨⟨o', h1, h2, h3⟩, _⟩ := hs
      exact ⟨o', h1, _, h3⟩
    · rcases List.mem_cons.mp hb with e | hb
      · exact .inl e
      · rcases List.mem_cons.mp hb with e | hb
        · exact .inr ⟨_, e ▸ p⟩
        · cases hb
  | tup p ls =>
    rename_i a vs n ds
    cases hi
    have hl : s.heap.IsTuple a vs.toArray := ⟨_, inn _ _ p, rfl, n, rfl⟩
    have hne : a ≠ s.heap.objs.size := Nat.ne_of_lt (Heap.lt_size (inn _ _ p))
    have hsz : vs.toArray.size = items.length := by rw [List.size_toArray, ls.length]
    refine wpAny_pyIter_tuple hl (h _ [s.heap.objs.size, a] (fun i h => h.IsTupleIter s.heap.objs.size a i ∧ h.IsTuple a vs.toArray) rfl ⟨fun A' hA => ?_, fun i A' s' t v' E' Q' hs hq => ?_, fun i h hs => ?_⟩ ⟨⟨_, Heap.get?_push_size _ rfl, rfl, rfl⟩, ⟨_, Heap.get?_push_of_some _ (inn _ _ p), rfl, n, rfl⟩⟩ fun b hb => ?_)
    · have W := Walks.tuple (prog := G.prog) (w := G.w) hA s.heap.objs.size a hne vs.toArray
      rw [hsz] at W
      refine ⟨W.sub, W.frame, fun i s' Q' E' hi' st hQ => W.item i s' Q' E' hi' st fun v' h' tk hp => hQ v' h' tk ?_, W.done, W.self⟩
      obtain ⟨d', e1, e2⟩ := ls.get' (i := i) (by simpa using hp)
      exact ⟨d', e1, e2⟩
    · obtain ⟨⟨o', h1, h2, h3⟩, _⟩ := hs
      exact go_of h1 h2 h3 (by decide) hq t v'
    · obtain ⟨⟨o', h1, h2, h3⟩, _⟩ := hs
      exact ⟨o', h1, _, h3⟩
    · rcases List.mem_cons.mp hb with e | hb
      · exact .inl e
      · rcases List.mem_cons.mp hb with e | hb
        · exact .inr ⟨_, e ▸ p⟩
        · cases hb
  | str x t =>
    cases hi
    have hsz : (⟨x.toArray⟩ : Str).cps.size = (x.map fun c => V.str [c]).length := by simp
    have hP : ∀ i w, SignAt ⟨x.toArray⟩ i w → ∃ d, (x.map fun c => V.str [c])[i]? = some d ∧ Lay G.C P w d := fun i w ⟨c, u, e, e'⟩ => ⟨.str [c], by
      have e2 : x[i]? = some c := by simpa using e
      rw [List.getElem?_map, e2]; rfl, e' ▸ Lay.str [c] _⟩
    generalize (⟨x.toArray⟩ : Str) = x at hsz hP
    rename_i x0
    cases ha : x.cps.all (· < 128)
    · refine wpAny_pyIter_wide ha (h _ [s.heap.objs.size] (fun i h => h.IsStrIter s.heap.objs.size "str_iterator" x t i) rfl ⟨fun A' hA => ?_, fun i A' s' t v' E' Q' hs hq => ?_, fun i h hs => ?_⟩ ⟨_, Heap.get?_push_size _ rfl, rfl, rfl⟩ fun b hb => ?_)
      · have W := Walks.strWide (prog := G.prog) (w := G.w) hA s.heap.objs.size x t
        rw [hsz] at W
        exact ⟨W.sub, W.frame, fun i s' Q' E' hi' st hQ => W.item i s' Q' E' hi' st fun v' h' tk hp => hQ v' h' tk (hP i v' hp), W.done, W.self⟩
      · obtain ⟨o', h1, h2, h3⟩ := hs
        exact go_of h1 h2 h3 (by decide) hq t v'
      · obtain ⟨o', h1, h2, h3⟩ := hs
        exact ⟨o', h1, _, h3⟩
      · exact .inl (by simpa using hb)
    · refine wpAny_pyIter_ascii ha (h _ [s.heap.objs.size] (fun i h => h.IsStrIter s.heap.objs.size "str_ascii_iterator" x t i) rfl ⟨fun A' hA => ?_, fun i A' s' t v' E' Q' hs hq => ?_, fun i h hs => ?_⟩ ⟨_, Heap.get?_push_size _ rfl, rfl, rfl⟩ fun b hb => ?_)
      · have W := Walks.strAscii (prog := G.prog) (w := G.w) hA s.heap.objs.size x t
        rw [hsz] at W
        exact ⟨W.sub, W.frame, fun i s' Q' E' hi' st hQ => W.item i s' Q' E' hi' st fun v' h' tk hp => hQ v' h' tk (hP i v' hp), W.done, W.self⟩
      · obtain ⟨o', h1, h2, h3⟩ := hs
        exact go_of h1 h2 h3 (by decide) hq t v'
      · obtain ⟨o', h1, h2, h3⟩ := hs
        exact ⟨o', h1, _, h3⟩
      · exact .inl (by simpa using hb)
  | rng p =>
    rename_i r a b t u z
    simp only [iterOf] at hi
    split at hi
    · rename_i hb
      cases hi
      have hr : IsRange s.heap r a b 1 t u z := inn _ _ p
      have hsz : Builtin.Range.rangeSize a b 1 = ((b - a).toNat : Int) := by rw [rangeSize_one]; split <;> omega
      refine wpAny_pyIter_range hr (small_one (by omega) (by omega) (by omega) (by omega)) (h _ [s.heap.objs.size] (fun i h => IsRangeIter h s.heap.objs.size (a + (i : Nat) * 1) (((b - a).toNat : Int) - (i : Nat)) 1) rfl ⟨fun A' hA => ?_, fun i A' s' t v' E' Q' hs hq => ?_, fun i h hs => ?_⟩ ?_ fun b hb => ?_)
      · have W := Walks.range (prog := G.prog) (w := G.w) hA s.heap.objs.size a 1 (b - a).toNat
        have e : ((List.range (b - a).toNat).map fun (i : Nat) => V.int (a + i)).length = (b - a).toNat := by simp
        rw [e]
        refine ⟨W.sub, W.frame, fun i s' Q' E' hi' st hQ => W.item i s' Q' E' hi' st fun v' h' tk hp => hQ v' h' tk ?_, W.done, W.self⟩
        obtain ⟨t', e'⟩ := hp
        refine ⟨.int (a + i), ?_, ?_⟩
        · rw [List.getElem?_map, List.getElem?_range hi']; rfl
        · rw [e', Int.mul_one]; exact .int _ _
      · exact go_of hs rfl rfl (by decide) hq t v'
      · exact ⟨_, hs, _, rfl⟩
      · have e1 : (a + ((0 : Nat) : Int) * 1) = a := by simp
        have e2 : (((b - a).toNat : Int) - ((0 : Nat) : Int)) = Builtin.Range.rangeSize a b 1 := by rw [hsz]; simp
        show IsRangeIter _ _ (a + ((0 : Nat) : Int) * 1) (((b - a).toNat : Int) - ((0 : Nat) : Int)) 1
        rw [e1, e2]
        exact Heap.get?_push_size _ rfl
      · exact .inl (by simpa using hb)
    · cases hi
  | _ => cases hi

/-! a thing kept beside the frame while a loop goes on -/
def Act.prot (Γ : Act) (I : Addr) (o : Obj) : Act := { Γ with base := Γ.base.put I o }
theorem prot_self (Γ : Act) (I : Addr) (o : Obj) : (Γ.prot I o).base I = some o := Part.put_self _ _ _
theorem prot_ne (Γ : Act) {I a : Addr} (o : Obj) (h : a ≠ I) : (Γ.prot I o).base a = Γ.base a := Part.put_ne _ _ h

theorem SlotIs.base {C : Addr} {Γ Γ' : Act} {h : Heap} {a : Addr} {x : Str} {sl : Slot} (y : SlotIs C Γ P h a x sl) (he : Γ'.env = Γ.env) (hb : ∀ o, h.get? a = some o → P a = none → Γ.base a = none → Γ'.base a = none) : SlotIs C Γ' P h a x sl := by
  cases sl with
  | un => trivial
  | val v => obtain ⟨w, b, l⟩ := y; exact ⟨w, he ▸ b, l⟩
  | raw v =>
    have y' : Bnd Γ.env h x v := y
    show Bnd Γ'.env h x v
    rw [he]; exact y'
  | own vs =>
    obtain ⟨b, h1, h2, ws, n, h3, h4⟩ := y
    exact ⟨he ▸ b, h1, hb _ h3 h1 h2, ws, n, h3, h4⟩
  | self x' fs vs =>
    obtain ⟨b, h1, h2, h3, h4, h4', h5, es, ws, n, h6, h7, h8, h9⟩ := y
    exact ⟨he ▸ b, h1, h2, by rw [he]; exact h3, h4, h4', hb _ h6 h4 h5, es, ws, n, h6, h7, h8, by rw [he]; exact h9⟩

theorem St.prot (st : St G F Γ P σ s) {o : Obj} {tk : Nat} (hf : o.isFreed = false) : St G F (Γ.prot s.heap.objs.size o) P σ { s with heap := s.heap.push o, toks := tk } := by
  have st1 : St G F Γ P σ { s with heap := s.heap.push o, toks := tk } := st.grow (Kept.push _ _)
  have nz : ∀ a q, s.heap.get? a = some q → a ≠ s.heap.objs.size := fun a q e => Nat.ne_of_lt (Heap.lt_size e)
  refine ⟨st1.ok, st1.scope, st1.kind, st1.globals, st1.builtins, st1.nodup, st1.apart, fun a q e => ?_, fun a q e => ?_, st1.inP, st1.le, fun a q e => ?_, st1.ns, ?_, st1.PL, fun y hy => ?_, ?_⟩
  · rw [prot_ne _ _ (nz a q (st.ok.keep a q e))]; exact st.top a q e
  · by_cases ha : a = s.heap.objs.size
    · subst ha; rw [prot_self] at e; cases e; exact Heap.get?_push_size _ hf
    · rw [prot_ne _ _ ha] at e; exact st1.keep a q e
  · rcases st.new a q e with h | h
    · exact .inl h
    · refine .inr ?_; rw [prot_ne _ _ (nz a q (st.inP a q e))]; exact h
  · obtain ⟨m, oL, es, ep, h1, r⟩ := st.ns
    refine (prot_ne _ _ (nz _ _ h1)).trans st.baseL
  · obtain ⟨h1, c, v, h2, h3, h4, h5⟩ := st1.cell y hy
    obtain ⟨h1', c', v', h2', h3', h4', h5'⟩ := st.cell y hy
    rw [h2] at h2'; cases h2'
    obtain ⟨oc, g1, g2⟩ := h3'
    exact ⟨h1, c, v, h2, h3, by rw [prot_ne _ _ (nz _ _ g1)]; exact h4, h5⟩
  · obtain ⟨α, hinj, hvar⟩ := st.vars
    refine ⟨α, hinj, fun i x sl h1 h2 => ?_⟩
    have z := hvar i x sl h1 h2
    have z1 := z.base (Γ' := Γ.prot s.heap.objs.size o) rfl fun q g _ hb => by rw [prot_ne _ _ (nz _ _ g)]; exact hb
    exact z1.kept (Kept.push _ _) (Part.le.refl P) fun _ _ e => .inl e

theorem SlotIs.step {C : Addr} {Γ : Act} {h h' : Heap} {I a : Addr} {o : Obj} {x : Str} {sl : Slot} (y : SlotIs C Γ P h a x sl) (g : h.get? I = some o) (hd : o.data ≠ .plain ∧ ∀ v, o.data ≠ .cell v) (hL : Γ.env.locals ≠ I) (hbI : Γ.base I ≠ none)
    (hk : ∀ b q, b ≠ I → h.get? b = some q → h'.get? b = some q) : SlotIs C Γ P h' a x sl := by
  have bn : ∀ x v, Bnd Γ.env h x v → Bnd Γ.env h' x v := fun x v b => by
    rcases b with ⟨e, m, ⟨oL, es, ep, n1, n2⟩, q⟩ | ⟨e, c, q, oc, r1, r2⟩
    · exact .inl ⟨e, m, ⟨oL, es, ep, hk _ _ hL n1, n2⟩, q⟩
    · exact .inr ⟨e, c, q, oc, hk _ _ (by intro e; subst e; rw [g] at r1; cases r1; exact hd.2 _ r2) r1, r2⟩
  cases sl with
  | un => trivial
  | val v => obtain ⟨w, b, l⟩ := y; exact ⟨w, bn _ _ b, l⟩
  | raw v => exact bn _ _ y
  | own vs =>
    obtain ⟨b, h1, h2, ws, n, h3, h4⟩ := y
    exact ⟨bn _ _ b, h1, h2, ws, n, hk _ _ (by intro e; subst e; exact hbI h2) h3, h4⟩
  | self x' fs vs =>
    obtain ⟨b, h1, h2, h3, h4, h4', h5, es, ws, n, h6, h7, h8, h9⟩ := y
    exact ⟨bn _ _ b, hk _ _ (by intro e; subst e; rw [g] at h1; cases h1; exact hd.1 rfl) h1, h2, h3, h4, h4', h5, es, ws, n, hk _ _ (by intro e; subst e; exact hbI h5) h6, h7, h8, h9⟩

theorem St.step {I : Addr} {o o' : Obj} (st : St G F (Γ.prot I o) P σ s) {h' : Heap} {tk : Nat} (hd : o.data ≠ .plain ∧ ∀ v, o.data ≠ .cell v) (hP0 : Γ.P0 I = none) (hs0 : G.s0.heap.get? I = none) (hk : ∀ b q, b ≠ I → s.heap.get? b = some q → h'.get? b = some q) (h1 : h'.get? I = some o') :
    St G F (Γ.prot I o') P σ { s with heap := h', toks := tk } := by
  have gI : s.heap.get? I = some o := st.keep I o (prot_self _ _ _)
  have hPI : P I = none := by
    cases e : P I with
    | none => rfl
    | some q => rcases st.new I q e with h | h
                · rw [show (Γ.prot I o).P0 = Γ.P0 from rfl, hP0] at h; cases h
                · rw [prot_self] at h; cases h
  have hL : Γ.env.locals ≠ I := by
    intro e
    have := st.baseL
    rw [show (Γ.prot I o).env = Γ.env from rfl, e, prot_self] at this; cases this
  have sw : ∀ a, (Γ.prot I o).base a = none → (Γ.prot I o').base a = none := fun a e => by
    by_cases ha : a = I
    · subst ha; rw [prot_self] at e; cases e
    · rw [prot_ne _ _ ha] at e ⊢; exact e
  have nI : ∀ a, (Γ.prot I o).base a = none → a ≠ I := fun a e ha => by subst ha; rw [prot_self] at e; cases e
  refine ⟨⟨let ⟨_, _, e⟩ := st.ok.same; ⟨h', tk, by rw [e]⟩, fun a q e => ?_⟩, st.scope, st.kind, st.globals, st.builtins, st.nodup, st.apart, fun a q e => ?_, fun a q e => ?_, fun a q e => ?_, st.le, fun a q e => ?_, ?_, sw _ st.baseL, st.PL, fun y hy => ?_, ?_⟩
  · refine hk a q (fun ha => ?_) (st.ok.keep a q e)
    subst ha; rw [hs0] at e; cases e
  · have ha : a ≠ I := fun ha => by subst ha; rw [hs0] at e; cases e
    have := st.top a q e
    rw [prot_ne _ _ ha] at this ⊢; exact this
  · by_cases ha : a = I
    · subst ha; rw [prot_self] at e; cases e; exact h1
    · rw [prot_ne _ _ ha] at e
      exact hk a q ha (st.keep a q (by rw [prot_ne _ _ ha]; exact e))
  · exact hk a q (fun ha => by subst ha; rw [hPI] at e; cases e) (st.inP a q e)
  · rcases st.new a q e with h | h
    · exact .inl h
    · exact .inr (sw a h)
  · obtain ⟨m, oL, es, ep, n1, n2⟩ := st.ns
    exact ⟨m, oL, es, ep, hk _ _ hL n1, n2⟩
  · obtain ⟨e1, c, v, e2, ⟨oc, g1, g2⟩, e4, e5⟩ := st.cell y hy
    exact ⟨e1, c, v, e2, ⟨oc, hk _ _ (nI c e4) g1, g2⟩, sw c e4, e5⟩
  · obtain ⟨α, hinj, hvar⟩ := st.vars
    refine ⟨α, hinj, fun i x sl e1 e2 => ?_⟩
    exact ((hvar i x sl e1 e2).step gI hd hL (by rw [prot_self]; exact Option.some_ne_none _) hk).base rfl fun q _ _ hb => sw _ hb

theorem St.unprot {I : Addr} {o : Obj} (st : St G F (Γ.prot I o) P σ s) (hbI : Γ.base I = none) (hs0 : G.s0.heap.get? I = none) : St G F Γ P σ s := by
  have sw : ∀ a, (Γ.prot I o).base a = none → Γ.base a = none := fun a e => by
    by_cases ha : a = I
    · subst ha; exact hbI
    · rwa [prot_ne _ _ ha] at e
  refine ⟨st.ok, st.scope, st.kind, st.globals, st.builtins, st.nodup, st.apart, fun a q e => ?_, fun a q e => ?_, st.inP, st.le, fun a q e => ?_, st.ns, sw _ st.baseL, st.PL, fun y hy => ?_, ?_⟩
  · have ha : a ≠ I := fun ha => by subst ha; rw [hs0] at e; cases e
    have := st.top a q e
    rwa [prot_ne _ _ ha] at this
  · have ha : a ≠ I := fun ha => by subst ha; rw [hbI] at e; cases e
    exact st.keep a q (by rw [prot_ne _ _ ha]; exact e)
  · exact (st.new a q e).imp id (sw a)
  · obtain ⟨e1, c, v, e2, e3, e4, e5⟩ := st.cell y hy
    exact ⟨e1, c, v, e2, e3, sw c e4, e5⟩
  · obtain ⟨α, hinj, hvar⟩ := st.vars
    exact ⟨α, hinj, fun i x sl e1 e2 => (hvar i x sl e1 e2).base rfl fun q _ _ hb => sw _ hb⟩

theorem St.leave {I : Addr} {o : Obj} (st : St G F (Γ.prot I o) P σ s) {h' : Heap} {tk : Nat} (hd : o.data ≠ .plain ∧ ∀ v, o.data ≠ .cell v) (hP0 : Γ.P0 I = none) (hbI : Γ.base I = none) (hs0 : G.s0.heap.get? I = none) (hk : ∀ b q, b ≠ I → s.heap.get? b = some q → h'.get? b = some q) :
    St G F Γ P σ { s with heap := h', toks := tk } := by
  have gI : s.heap.get? I = some o := st.keep I o (prot_self _ _ _)
  have hPI : P I = none := by
    cases e : P I with
    | none => rfl
    | some q => rcases st.new I q e with h | h
                · rw [show (Γ.prot I o).P0 = Γ.P0 from rfl, hP0] at h; cases h
                · rw [prot_self] at h; cases h
  have hL : Γ.env.locals ≠ I := by
    intro e
    have := st.baseL
    rw [show (Γ.prot I o).env = Γ.env from rfl, e, prot_self] at this; cases this
  have nI : ∀ a, (Γ.prot I o).base a = none → a ≠ I := fun a e ha => by subst ha; rw [prot_self] at e; cases e
  have st' := st.unprot hbI hs0
  refine ⟨⟨let ⟨_, _, e⟩ := st.ok.same; ⟨h', tk, by rw [e]⟩, fun a q e => ?_⟩, st'.scope, st'.kind, st'.globals, st'.builtins, st'.nodup, st'.apart, st'.top, fun a q e => ?_, fun a q e => ?_, st'.le, st'.new, ?_, st'.baseL, st'.PL, fun y hy => ?_, ?_⟩
  · exact hk a q (fun ha => by subst ha; rw [hs0] at e; cases e) (st.ok.keep a q e)
  · exact hk a q (fun ha => by subst ha; rw [hbI] at e; cases e) (st'.keep a q e)
  · exact hk a q (fun ha => by subst ha; rw [hPI] at e; cases e) (st.inP a q e)
  · obtain ⟨m, oL, es, ep, n1, n2⟩ := st.ns
    exact ⟨m, oL, es, ep, hk _ _ hL n1, n2⟩
  · obtain ⟨e1, c, v, e2, ⟨oc, g1, g2⟩, e4, e5⟩ := st.cell y hy
    obtain ⟨e1', c', v', e2', _, e4', e5'⟩ := st'.cell y hy
    have ec : c' = c := Option.some.inj (e2'.symm.trans e2)
    subst ec
    exact ⟨e1', c', v, e2', ⟨oc, hk _ _ (nI _ e4) g1, g2⟩, e4', e5'⟩
  · obtain ⟨α, hinj, hvar⟩ := st.vars
    refine ⟨α, hinj, fun i x sl e1 e2 => ((hvar i x sl e1 e2).step gI hd hL (by rw [prot_self]; exact Option.some_ne_none _) hk).base rfl fun q _ _ hb => ?_⟩
    by_cases ha : α i = I
    · rw [ha]; exact hbI
    · rwa [prot_ne _ _ ha] at hb

/-- the turns of a for over these -/
def Loop (G : Glo) (F : Fst) (k : Nat) (target : Expr) (body : List Stmt) : List V → List Slot → Out → Prop
  | [], σ, out => out = .next σ
  | d :: ds, σ, out => ∃ σa o, Asg G F k σ target d σa ∧ Exs G F k σa body o ∧ (match o with
    | .next σ' => Loop G F k target body ds σ' out
    | .brk σ' => out = .next σ'
    | .ret v => out = .ret v)

theorem Ex.for_ {target iter : Expr} {body : List Stmt} {pos : Pos} {v : V} {items : List V} {out : Out} (h1 : Ev G F k σ iter v σ₁) (hi : iterOf v = some items) (hl : Loop G F k target body items σ₁ out)
    (hs : ∀ env x, foldedSetIterable iter env x = pure x := by intros; rfl) : Ex G F k σ (.For target iter body [] pos) out := by
  intro Γ P A s E Q hr st hQ
  refine wpAny_For (h1 Γ P A s E _ hr st fun val P1 s1 le1 st1 l => ?_) (hs _)
  refine iter_of st1.inP l hi fun o fp SI hf it si0 hfp => ?_
  have z1 := get?_size s1.heap
  have hPI : P1 s1.heap.objs.size = none := by
    cases e : P1 s1.heap.objs.size with
    | none => rfl
    | some q => have := st1.inP _ _ e; rw [z1] at this; cases this
  have hbI : Γ.base s1.heap.objs.size = none := by
    cases e : Γ.base s1.heap.objs.size with
    | none => rfl
    | some q => have := st1.keep _ _ e; rw [z1] at this; cases this
  have hP0 : Γ.P0 s1.heap.objs.size = none := by
    cases e : Γ.P0 s1.heap.objs.size with
    | none => rfl
    | some q => have := st1.le _ _ e; rw [hPI] at this; cases this
  have hs0 : G.s0.heap.get? s1.heap.objs.size = none := by
    cases e : G.s0.heap.get? s1.heap.objs.size with
    | none => rfl
    | some q => have := st1.ok.keep _ _ e; rw [z1] at this; cases this
  generalize hI : s1.heap.objs.size = I at *
  have W := it.walks A hr.1
  refine codeAny_forLoop_any (fun n s' => ∃ i o' P' σ', i + n = items.length ∧ P1.le P' ∧ St G F (Γ.prot I o') P' σ' s' ∧ SI i s'.heap ∧ Loop G F k target body (items.drop i) σ' out)
    (fun n s' hI' => ?_) items.length ⟨0, o, P1, σ₁, by omega, Part.le.refl _, by rw [← hI]; exact st1.prot (tk := s1.toks) hf, si0, by simpa using hl⟩
  obtain ⟨i, o', P', σ', hn, le', st', si, hlp⟩ := hI'
  have hd' : o'.data ≠ .plain ∧ ∀ v, o'.data ≠ .cell v := by
    obtain ⟨q, g1, vs, g2⟩ := it.obj i _ si
    have := st'.keep I o' (prot_self _ _ _)
    rw [g1] at this; cases this
    rw [g2]; exact ⟨fun e => (nomatch e), fun v e => (nomatch e)⟩
  cases n with
  | zero =>
    have hii : i = items.length := by omega
    subst hii
    refine W.done s' _ _ si fun h' tk hk => ?_
    rw [List.drop_length] at hlp
    obtain rfl := hlp
    refine wpAny_execs_nil (hQ _ P' _ (le1.trans le') ⟨rfl, ?_⟩)
    have hk' : ∀ b q, b ≠ I → s'.heap.get? b = some q → h'.get? b = some q := fun b q hb e => hk b q (by simp [hb]) e
    exact st'.leave hd' hP0 hbI hs0 hk'
  | succ n =>
    have hii : i < items.length := by omega
    refine W.item i s' _ _ hii si fun v' h' tk hp si' hk => ?_
    have hk' : ∀ b q, b ≠ I → s'.heap.get? b = some q → h'.get? b = some q := fun b q hb e => hk b q (by simp [hb]) e
    obtain ⟨o2, g1, g2⟩ := it.obj (i + 1) h' si'
    have st2 := st'.step (tk := tk) hd' hP0 hs0 hk' g1
    obtain ⟨d, hd, ld⟩ := hp
    rw [List.drop_eq_getElem_cons hii] at hlp
    obtain ⟨σa, out', ha, hb, hm⟩ := hlp
    have hdd : items[i] = d := by rw [List.getElem?_eq_getElem hii] at hd; exact Option.some.inj hd
    rw [hdd] at ha
    refine it.go (i + 1) A _ target v' _ _ si' ?_
    refine ha (Γ.prot I o2) P' A _ _ _ v' hr st2 (ld.mono le') fun P3 s3 le3 st3 => ?_
    refine hb (Γ.prot I o2) P3 A s3 _ _ hr st3 fun fl P4 s4 le4 ou => ?_
    cases out' with
    | next σ4 =>
      obtain ⟨rfl, st4⟩ := ou
      refine ⟨n, Nat.lt_succ_self n, i + 1, o2, P4, σ4, by omega, le'.trans (le3.trans le4), st4, ?_, hm⟩
      refine (it.walks A hr.1).frame (i + 1) h' s4.heap si' fun b hb q e => ?_
      rcases hfp b hb with rfl | ⟨q', e'⟩
      · rw [g1] at e; cases e; exact st4.keep _ _ (prot_self _ _ _)
      · have h5 : h'.get? b = some q' := st2.inP _ _ (le' _ _ e')
        rw [h5] at e; cases e
        exact st4.inP _ _ (le4 _ _ (le3 _ _ (le' _ _ e')))
    | brk σ4 =>
      obtain ⟨rfl, st4⟩ := ou
      obtain rfl := hm
      exact hQ _ P4 _ (le1.trans (le'.trans (le3.trans le4))) ⟨rfl, st4.unprot hbI hs0⟩
    | ret w =>
      obtain ⟨val', rfl, lw, σ5, st5⟩ := ou
      obtain rfl := hm
      exact hQ _ P4 _ (le1.trans (le'.trans (le3.trans le4))) ⟨val', rfl, lw, σ5, st5.unprot hbI hs0⟩

/-- the turns of a while -/
def WLoop (G : Glo) (F : Fst) (k : Nat) (test : Expr) (body : List Stmt) : Nat → List Slot → Out → Prop
  | 0, _, _ => False
  | n + 1, σ, out => ∃ b σ1, Tr G F k σ test b σ1 ∧ (b = false → out = .next σ1) ∧ (b = true → ∃ o, Exs G F k σ1 body o ∧ (match o with
    | .next σ2 => WLoop G F k test body n σ2 out
    | .brk σ2 => out = .next σ2
    | .ret v => out = .ret v))

theorem Ex.while_ {test : Expr} {body : List Stmt} {pos : Pos} {n : Nat} {out : Out} (hl : WLoop G F k test body n σ out) : Ex G F k σ (.While test body [] pos) out := by
  intro Γ P A s E Q hr st hQ
  refine wpAny_While ?_
  refine codeAny_whileLoop (fun n s' => ∃ P' σ', P.le P' ∧ St G F Γ P' σ' s' ∧ WLoop G F k test body n σ' out) (fun n s' hI => ?_) n ⟨P, σ, Part.le.refl _, st, hl⟩
  obtain ⟨P', σ', le', st', hl'⟩ := hI
  cases n with
  | zero => exact hl'.elim
  | succ n =>
    obtain ⟨b, σ1, ht, hf, hg⟩ := hl'
    refine ht Γ P' A s' _ _ hr st' fun P2 s2 le2 st2 => ?_
    cases b with
    | false =>
      simp only [Bool.false_eq_true, if_false]
      obtain rfl := hf rfl
      exact wpAny_execs_nil (hQ _ P2 _ (le'.trans le2) ⟨rfl, st2⟩)
    | true =>
      simp only [if_true]
      obtain ⟨o, hb, hm⟩ := hg rfl
      refine hb Γ P2 A s2 _ _ hr st2 fun fl P4 s4 le4 ou => ?_
      cases o with
      | next σ4 =>
        obtain ⟨rfl, st4⟩ := ou
        exact ⟨n, Nat.lt_succ_self n, P4, σ4, le'.trans (le2.trans le4), st4, hm⟩
      | brk σ4 =>
        obtain ⟨rfl, st4⟩ := ou
        obtain rfl := hm
        exact hQ _ P4 _ (le'.trans (le2.trans le4)) ⟨rfl, st4⟩
      | ret w =>
        obtain ⟨val', rfl, lw, σ5, st5⟩ := ou
        obtain rfl := hm
        exact hQ _ P4 _ (le'.trans (le2.trans le4)) ⟨val', rfl, lw, σ5, st5⟩
end
end Mine

namespace Mine
section
variable {G : Glo} {F : Fst} {k : Nat} {σ σ' σ₁ σ₂ : List Slot} {Γ : Act} {P : Part} {s : Shared}

/-- operations on values that make no object -/
theorem Op.pure2 {t : List Value → Sem Value} {a b v : V} (h : ∀ (P : Part) (A : Around) (s : Shared) (E : Value → Shared → Prop) (Q : Value → Shared → Prop) (x y : Value), Room k A → G.Ok s → P.In s.heap → Lay G.C P x a → Lay G.C P y b →
    (∀ val tk, Lay G.C P val v → Q val { s with toks := tk }) → wpAny (model G.prog G.w) A (t [x, y]) Q E s) : Op G k t [a, b] v := by
  intro P A s E Q vals hr ok inn l hQ
  cases l with
  | cons l1 l =>
    cases l with
    | cons l2 l =>
      cases l
      exact h P A s E Q _ _ hr ok inn l1 l2 fun val tk lv => hQ val P s.heap tk (Kept.refl _) (Part.le.refl _) inn (fun _ _ e => .inl e) lv
theorem Op.made2 {t : List Value → Sem Value} {a b v : V} (h : ∀ (P : Part) (A : Around) (s : Shared) (E : Value → Shared → Prop) (Q : Value → Shared → Prop) (x y : Value), Room k A → G.Ok s → P.In s.heap → Lay G.C P x a → Lay G.C P y b →
    (∀ o tk, o.isFreed = false → (∀ P', P.le P' → P' s.heap.objs.size = some o → Lay G.C P' (.ref s.heap.objs.size) v) → Q (.ref s.heap.objs.size) { s with heap := s.heap.push o, toks := tk }) → wpAny (model G.prog G.w) A (t [x, y]) Q E s) : Op G k t [a, b] v := by
  intro P A s E Q vals hr ok inn l hQ
  have hn : P s.heap.objs.size = none := by
    cases e : P s.heap.objs.size with
    | none => rfl
    | some q => have := inn _ _ e; rw [get?_size] at this; cases this
  cases l with
  | cons l1 l =>
    cases l with
    | cons l2 l =>
      cases l
      refine h P A s E Q _ _ hr ok inn l1 l2 fun o tk hf lv => hQ _ (P.put s.heap.objs.size o) _ tk (Kept.push _ _) (Part.le_put _ hn) (fun a q e => ?_) (fun a q e => ?_) (lv _ (Part.le_put _ hn) (Part.put_self _ _ _))
      · by_cases ha : a = s.heap.objs.size
        · subst ha; rw [Part.put_self] at e; cases e; exact Heap.get?_push_size _ hf
        · rw [Part.put_ne _ _ ha] at e; exact Heap.get?_push_of_some _ (inn _ _ e)
      · by_cases ha : a = s.heap.objs.size
        · subst ha; exact .inr (get?_size _)
        · rw [Part.put_ne _ _ ha] at e; exact .inl e

/-! ints -/
theorem Op.add_int {a b : Int} : Op G k (opBin .Add) [.int a, .int b] (.int (a + b)) := Op.pure2 fun P A s E Q x y hr ok inn lx ly h => by
  cases lx; cases ly; exact PyProof.Rows.add_int (h _ _ (.int _ _))
theorem Op.sub_int {a b : Int} : Op G k (opBin .Sub) [.int a, .int b] (.int (a - b)) := Op.pure2 fun P A s E Q x y hr ok inn lx ly h => by
  cases lx; cases ly; exact PyProof.Rows.sub_int (h _ _ (.int _ _))
theorem Op.mul_int {a b : Int} (ha : -1000000000 ≤ a ∧ a ≤ 1000000000) : Op G k (opBin .Mult) [.int a, .int b] (.int (a * b)) := Op.pure2 fun P A s E Q x y hr ok inn lx ly h => by
  cases lx; cases ly; exact PyProof.Rows.mul_int (h _ _ (.int _ _)) (IntMulOk.of_left (intBits_le_64 (by omega) (by omega)))
theorem Op.div_int {a b : Int} (hb : 0 < b ∧ b ≤ 1000000000) : Op G k (opBin .FloorDiv) [.int a, .int b] (.int (a / b)) := Op.pure2 fun P A s E Q x y hr ok inn lx ly h => by
  cases lx; cases ly
  refine PyProof.Rows.floordiv_int (by omega) ?_ (Or.inl (PyProof.noPylong_small (by omega)))
  rw [Int.fdiv_eq_ediv_of_nonneg _ (by omega)]
  exact h _ _ (.int _ _)
theorem Op.mod_int {a b : Int} (hb : 0 < b) : Op G k (opBin .Mod) [.int a, .int b] (.int (a % b)) := Op.pure2 fun P A s E Q x y hr ok inn lx ly h => by
  cases lx; cases ly
  refine PyProof.Rows.mod_int (by omega) ?_
  rw [Int.fmod_eq_emod_of_nonneg _ (by omega)]
  exact h _ _ (.int _ _)

/-! texts -/
theorem strLen (x : List Nat) : (⟨x.toArray⟩ : Str).length = x.length := by simp [Str.length]
theorem Op.add_str {a b : List Nat} (h : a.length + b.length ≤ 16777216) : Op G k (opBin .Add) [.str a, .str b] (.str (a ++ b)) := Op.pure2 fun P A s E Q x y hr ok inn lx ly hQ => by
  cases lx; cases ly
  refine PyProof.Rows.add_str (fun t' tk => hQ _ tk ?_) (by rw [strLen, strLen]; exact h)
  have e : (⟨a.toArray⟩ ++ ⟨b.toArray⟩ : Str) = ⟨(a ++ b).toArray⟩ := by
    show Str.append _ _ = _
    unfold Str.append; simp
  rw [e]; exact .str _ _
def rep (a : List Nat) (n : Int) : List Nat := (List.replicate n.toNat a).flatten
theorem foldl_arr (l : List Nat) : ∀ (n : Nat) (acc : Array Nat), (List.replicate n l.toArray).foldl (· ++ ·) acc = acc ++ (List.replicate n l).flatten.toArray
  | 0, acc => by simp
  | n + 1, acc => by
    rw [List.replicate_succ, List.foldl_cons, foldl_arr l n, List.replicate_succ, List.flatten_cons]
    apply Array.ext'
    simp
theorem mul_rep (a : List Nat) (n : Int) : Txt.mul ⟨a.toArray⟩ n = ⟨(rep a n).toArray⟩ := by
  unfold Txt.mul rep
  split
  · rename_i h; have e : n.toNat = 0 := by omega
    rw [e]; rfl
  · split
    · rename_i h1 h2
      rcases Bool.or_eq_true_iff.mp h2 with h | h
      · have e : n = 1 := by simpa using h
        subst e; simp
      · have e : a = [] := by simpa [Str.length] using h
        subst e
        congr 1
        simp
    · rw [foldl_arr]; simp
theorem rep_length (a : List Nat) (n : Int) : (rep a n).length = a.length * n.toNat := by
  unfold rep
  simp [Nat.mul_comm]
theorem mulOk {a : List Nat} {n : Int} (hn : n ≤ 1000) (hm : -1000 ≤ n) (ha : a.length ≤ 10) : MulOk ⟨a.toArray⟩ n := by
  refine ⟨by simp; omega, fun h1 h2 h3 => ?_, fun h1 h2 => ?_⟩
  · rw [strLen] at h3
    have : (10 : Int) ≤ (2 ^ 63 - 1) / n := Int.le_ediv_of_mul_le (by omega) (by omega)
    omega
  · rw [strLen]
    have : a.length * n.toNat ≤ 10 * 1000 := Nat.mul_le_mul ha (by omega)
    simp [Builtin.Str.tooLong, sizeLine]
    omega
theorem Op.mul_str {a : List Nat} {n : Int} (hn : n ≤ 1000) (hm : -1000 ≤ n) (ha : a.length ≤ 10) : Op G k (opBin .Mult) [.str a, .int n] (.str (rep a n)) := Op.pure2 fun P A s E Q x y hr ok inn lx ly hQ => by
  cases lx; cases ly
  exact SB.mul (mulOk hn hm ha) fun t' tk => hQ _ tk (by rw [mul_rep]; exact .str _ _)
theorem Op.mul_int_str {a : List Nat} {n : Int} (hn : n ≤ 1000) (hm : -1000 ≤ n) (ha : a.length ≤ 10) : Op G k (opBin .Mult) [.int n, .str a] (.str (rep a n)) := Op.pure2 fun P A s E Q x y hr ok inn lx ly hQ => by
  cases lx; cases ly
  rename_i u t
  have hok := mulOk hn hm ha
  refine lm_binaryOp_repeat_right (T := "str") (U := "int") (by decide) (fun s' => typeIs_int s' n u) (typeIs_str s _ t) F.fills_int_mul noFill_str_mul F.slot_int_mul lm_noRepeat_int repeat_str F.slot_int_index.lookup
    (call_gives F.slot_int_mul (typeIs_int s n u) F.entry_int_mul (F.args_int_mul_2 _ _) (AutoIntG3.int___mul___int_str_0 n u _ t)
      ⟨rfl, typeIs_str s _ t, call_gives F.slot_str_mul (typeIs_str s _ t) F.entry_str_mul (F.args_str_mul_2 _ _) (gives_str_mul _ n t u hok.1 hok.2.1 hok.2.2) ?_⟩)
  have h' : ∀ t' k, Q (.str (Txt.mul ⟨a.toArray⟩ n) t') { s with toks := k } := fun t' tk => hQ _ tk (by rw [mul_rep]; exact .str _ _)
  unfold Txt.mul at h'
  by_cases h1 : n < 1
  · rw [if_pos h1]; have h' := h' s.toks (s.toks + 1); rw [if_pos h1] at h'; exact ⟨by decide, h'⟩
  · rw [if_neg h1]; refine post_val_or_made (fun hc => fits_reps (hok.2.2 h1 (by simpa using hc))) fun t' k => ?_
    have h' := h' t' k; rw [if_neg h1] at h'; exact h'

/-! lists -/
theorem Op.add_lst {a b : List V} (h : a.length + b.length ≤ 1000000) : Op G k (opBin .Add) [.lst a, .lst b] (.lst (a ++ b)) := Op.made2 fun P A s E Q x y hr ok inn lx ly hQ => by
  cases lx with
  | lst p ls =>
    cases ly with
    | lst p' ls' =>
      rename_i ax vs n ax' vs' n'
      refine PySem.P.add_list (inn _ _ p) (inn _ _ p') ?_ (by rw [List.size_toArray, List.size_toArray, ls.length, ls'.length]; exact Nat.le_trans h (by decide))
      have e : vs.toArray ++ vs'.toArray = (vs ++ vs').toArray := by simp
      rw [e]
      exact hQ (listO (vs ++ vs') 0) s.toks rfl fun P' le hp => .lst hp ((ls.append ls').mono le)
theorem LayAll.flat {C : Addr} {P : Part} {vs : List Value} {ds : List V} (h : LayAll C P vs ds) : ∀ n : Nat, LayAll C P (List.replicate n vs).flatten (List.replicate n ds).flatten
  | 0 => .nil
  | n + 1 => by
    rw [List.replicate_succ, List.replicate_succ, List.flatten_cons, List.flatten_cons]
    exact h.append (h.flat n)
theorem Op.mul_lst {a : List V} {n : Int} (hn : n ≤ 1000) (hm : -1000 ≤ n) (ha : a.length ≤ 10) : Op G k (opBin .Mult) [.lst a, .int n] (.lst (List.replicate n.toNat a).flatten) := Op.made2 fun P A s E Q x y hr ok inn lx ly hQ => by
  cases lx with
  | lst p ls =>
    cases ly with
    | int i u =>
      rename_i l vs ep
      have ho := inn _ _ p
      have hsz : vs.toArray.size * n.toNat ≤ 2 ^ 24 := by
        rw [List.size_toArray, ls.length]
        exact Nat.le_trans (Nat.mul_le_mul ha (show n.toNat ≤ 1000 by omega)) (by decide)
      refine wpAny_binaryOp_repeat_ref (T := "list") (U := "int") (by decide) ⟨_, ho, rfl⟩ (fun s' => typeIs_int s' n u) noFill_list_mul F.fills_int_mul F.slot_int_rmul repeat_list F.slot_int_index.lookup
        (call_meets F.slot_int_rmul (typeIs_int s n u) F.entry_int_rmul (F.args_int_rmul_2 _ _) (int___rmul___int_list n u l vs.toArray ep)
          ⟨ho, rfl, ⟨_, ho, rfl⟩, call_meets F.slot_list_mul ⟨_, ho, rfl⟩ F.entry_list_mul (F.args_list_mul_2 _ _)
            (AutoListH.list___mul___list_int_3 l vs.toArray ep n u (by simp [Builtin.List.listFitsIndex]; omega) (by omega) (by simp [Builtin.List.listTooLong, sizeLine]; omega))
            ⟨ho, ?_⟩⟩)
      rw [listMul_foldl_if]
      exact hQ (listO (List.replicate n.toNat vs).flatten 0) s.toks rfl fun P' le hp => .lst hp ((ls.flat _).mono le)

/-! comparisons -/
theorem Op.eq_int {a b : Int} : Op G k (opCmp .Eq) [.int a, .int b] (.bool (decide (a = b))) := Op.pure2 fun P A s E Q x y hr ok inn lx ly h => by
  cases lx; cases ly
  refine PyProof.Rows.eq_int ?_
  rw [show (a == b) = decide (a = b) from rfl]; exact h _ s.toks (.bool _)
theorem Op.ne_int {a b : Int} : Op G k (opCmp .NotEq) [.int a, .int b] (.bool (decide (a ≠ b))) := Op.pure2 fun P A s E Q x y hr ok inn lx ly h => by
  cases lx; cases ly
  refine PyProof.Rows.ne_int ?_
  have e : (a != b) = decide (a ≠ b) := by by_cases h : a = b <;> simp [h]
  rw [e]; exact h _ s.toks (.bool _)
theorem Op.lt_int {a b : Int} : Op G k (opCmp .Lt) [.int a, .int b] (.bool (decide (a < b))) := Op.pure2 fun P A s E Q x y hr ok inn lx ly h => by
  cases lx; cases ly; exact PyProof.Rows.lt_int (h _ s.toks (.bool _))
theorem Op.le_int {a b : Int} : Op G k (opCmp .LtE) [.int a, .int b] (.bool (decide (a ≤ b))) := Op.pure2 fun P A s E Q x y hr ok inn lx ly h => by
  cases lx; cases ly; exact PyProof.Rows.le_int (h _ s.toks (.bool _))
theorem Op.gt_int {a b : Int} : Op G k (opCmp .Gt) [.int a, .int b] (.bool (decide (b < a))) := Op.pure2 fun P A s E Q x y hr ok inn lx ly h => by
  cases lx; cases ly; exact PyProof.Rows.gt_int (h _ s.toks (.bool _))
theorem Op.ge_int {a b : Int} : Op G k (opCmp .GtE) [.int a, .int b] (.bool (decide (b ≤ a))) := Op.pure2 fun P A s E Q x y hr ok inn lx ly h => by
  cases lx; cases ly; exact PyProof.Rows.ge_int (h _ s.toks (.bool _))
theorem str_eq_iff (a b : List Nat) : ((⟨a.toArray⟩ : Str) == ⟨b.toArray⟩) = decide (a = b) := by
  by_cases h : a = b
  · subst h; simp
  · simp [h]
theorem Op.eq_str {a b : List Nat} : Op G k (opCmp .Eq) [.str a, .str b] (.bool (decide (a = b))) := Op.pure2 fun P A s E Q x y hr ok inn lx ly h => by
  cases lx; cases ly
  refine PyProof.Rows.eq_str ?_
  rw [str_eq_iff]; exact h _ s.toks (.bool _)
theorem Op.ne_str {a b : List Nat} : Op G k (opCmp .NotEq) [.str a, .str b] (.bool (decide (a ≠ b))) := Op.pure2 fun P A s E Q x y hr ok inn lx ly h => by
  cases lx; cases ly
  refine PyProof.Rows.ne_str ?_
  have e : ((⟨a.toArray⟩ : Str) != ⟨b.toArray⟩) = decide (a ≠ b) := by
    rw [bne, str_eq_iff]; simp
  rw [e]; exact h _ s.toks (.bool _)
end
end Mine

namespace Mine
mutual
def pyOf : V → PyData
  | .none => .none
  | .bool b => .bool b
  | .int i => .int i
  | .str x => .str ⟨x.toArray⟩
  | .tup vs => .tuple (pyOfs vs)
  | .lst vs => .list (pyOfs vs)
  | .rng _ _ => .none
  | .obj _ => .none
def pyOfs : List V → List PyData
  | [] => []
  | d :: ds => pyOf d :: pyOfs ds
end
/-- plain data of depth n at most: ints and no bools, or bools and no ints -/
def okV (bl : Bool) : Nat → V → Bool
  | _, .int _ => !bl
  | _, .bool _ => bl
  | _, .str x => x.all (· < 0x110000)
  | n + 1, .tup ds => ds.all (okV bl n)
  | n + 1, .lst ds => ds.all (okV bl n)
  | _, _ => false
def eqV (a b : V) : Bool := PyData.eqv (pyOf a) (pyOf b)
section
variable {C : Addr} {P : Part} {h : Heap} {bl : Bool}
mutual
theorem reads_in (inn : P.In h) : ∀ {v : Value} {d : V} (n : Nat), Lay C P v d → okV bl n d = true → ∃ as, Reads h v (pyOf d) as
  | _, _, n, .none, hk => by cases n <;> simp [okV] at hk
  | _, _, _, .bool b, _ => ⟨_, Reads.bool b⟩
  | _, _, _, .int i t, _ => ⟨_, Reads.int i t⟩
  | _, _, _, .str x t, _ => ⟨_, Reads.str _ t⟩
  | _, _, n, .rng _, hk => by cases n <;> simp [okV] at hk
  | _, _, n, .obj _ _ _ _, hk => by cases n <;> simp [okV] at hk
  | _, _, 0, .tup _ _, hk => by simp [okV] at hk
  | _, _, 0, .lst _ _, hk => by simp [okV] at hk
  | _, _, n + 1, .tup hm r, hk => by
    obtain ⟨as, q⟩ := reads_all inn n r (by simpa [okV] using hk)
    rw [pyOf]
    exact ⟨as, reads_tuple_at (inn _ _ hm) rfl rfl (by simpa using q)⟩
  | _, _, n + 1, .lst hm r, hk => by
    obtain ⟨as, q⟩ := reads_all inn n r (by simpa [okV] using hk)
    rw [pyOf]
    exact ⟨_, reads_list_at (inn _ _ hm) rfl rfl (by simpa [listO] using q)⟩
theorem reads_all (inn : P.In h) : ∀ {vs : List Value} {ds : List V} (n : Nat), LayAll C P vs ds → (∀ d ∈ ds, okV bl n d = true) → ∃ as, ReadsAll h vs (pyOfs ds) as
  | _, _, _, .nil, _ => ⟨_, ReadsAll.nil⟩
  | _, _, n, .cons hd r, hk => by
    obtain ⟨as, q⟩ := reads_in inn n hd (hk _ (.head _))
    obtain ⟨bs, p⟩ := reads_all inn n r fun d hm => hk d (.tail _ hm)
    rw [pyOfs]
    exact ⟨_, ReadsAll.cons q p⟩
end
theorem lay_ok : ∀ (n : Nat) (d : V), okV bl n d = true → (pyOf d).canLay0 = true ∧ (pyOf d).depth ≤ n := by
  have all : ∀ (n : Nat), (∀ d, okV bl n d = true → (pyOf d).canLay0 = true ∧ (pyOf d).depth ≤ n) → ∀ ds : List V, (∀ d ∈ ds, okV bl n d = true) → PyData.canLayAll0 (pyOfs ds) = true ∧ PyData.depthAll (pyOfs ds) ≤ n := by
    intro n ih ds
    induction ds with
    | nil => intro _; simp [pyOfs, PyData.canLayAll0, PyData.depthAll]
    | cons d ds hi =>
      intro h
      have h1 := ih d (h d (.head _))
      have h2 := hi fun e he => h e (.tail _ he)
      simp only [pyOfs, PyData.canLayAll0, PyData.depthAll, h1.1, h2.1, Bool.and_self, true_and]
      have a1 := h1.2
      have a2 := h2.2
      omega
  intro n
  induction n with
  | zero => intro d h; cases d <;> simp_all [okV, pyOf, PyData.canLay0, PyData.depth, PyData.strOk]
  | succ n ih =>
    intro d h
    cases d with
    | str x => simp_all [okV, pyOf, PyData.canLay0, PyData.depth, PyData.strOk]
    | tup ds =>
      have q := all n ih ds (by simpa [okV] using h)
      have q2 := q.2
      simp only [pyOf, PyData.canLay0, PyData.depth, q.1, true_and]
      omega
    | lst ds =>
      have q := all n ih ds (by simpa [okV] using h)
      have q2 := q.2
      simp only [pyOf, PyData.canLay0, PyData.depth, q.1, true_and]
      omega
    | _ => simp_all [okV, pyOf, PyData.canLay0, PyData.depth]
theorem eqV_iff : ∀ (n : Nat) (d e : V) (k : Nat), okV bl n d = true → okV bl k e = true → (PyData.eqv (pyOf d) (pyOf e) = true ↔ d = e) := by
  have all : ∀ (n : Nat), (∀ d e k, okV bl n d = true → okV bl k e = true → (PyData.eqv (pyOf d) (pyOf e) = true ↔ d = e)) → ∀ (k : Nat) (ds es : List V), (∀ d ∈ ds, okV bl n d = true) → (∀ d ∈ es, okV bl k d = true) →
      (PyData.eqvAll (pyOfs ds) (pyOfs es) = true ↔ ds = es) := by
    intro n ih k ds
    induction ds with
    | nil => intro es _ _; cases es <;> simp [pyOfs, PyData.eqvAll]
    | cons d ds hi =>
      intro es h1 h2
      cases es with
      | nil => simp [pyOfs, PyData.eqvAll]
      | cons e es =>
        have q1 := ih d e k (h1 d (.head _)) (h2 e (.head _))
        have q2 := hi es (fun x hx => h1 x (.tail _ hx)) fun x hx => h2 x (.tail _ hx)
        simp only [pyOfs, PyData.eqvAll, Bool.and_eq_true, q1, q2, List.cons.injEq]
  intro n
  induction n with
  | zero => intro d e k h1 h2; cases d <;> cases e <;> cases k <;> simp_all [okV, pyOf, PyData.eqv]
  | succ n ih =>
    intro d e k h1 h2
    cases d with
    | tup ds =>
      cases e with
      | tup es =>
        cases k with
        | zero => simp [okV] at h2
        | succ k =>
          simp only [pyOf, PyData.eqv, V.tup.injEq]
          exact all n ih k ds es (by simpa [okV] using h1) (by simpa [okV] using h2)
      | _ => cases k <;> simp_all [okV, pyOf, PyData.eqv]
    | lst ds =>
      cases e with
      | lst es =>
        cases k with
        | zero => simp [okV] at h2
        | succ k =>
          simp only [pyOf, PyData.eqv, V.lst.injEq]
          exact all n ih k ds es (by simpa [okV] using h1) (by simpa [okV] using h2)
      | _ => cases k <;> simp_all [okV, pyOf, PyData.eqv]
    | _ => cases e <;> cases k <;> simp_all [okV, pyOf, PyData.eqv]
theorem eqV_true {a : V} (n : Nat) (h : okV bl n a = true) : eqV a a = true := (eqV_iff n a a n h h).mpr rfl
theorem eqV_false {a b : V} (n : Nat) (h : okV bl n a = true) (h' : okV bl n b = true) (hn : a ≠ b) : eqV a b = false := by
  cases e : eqV a b with
  | false => rfl
  | true => exact absurd ((eqV_iff n a b n h h').mp e) hn
end
section
variable {G : Glo} {k : Nat}
theorem Op.eq_data {a b : V} (bl : Bool) (ha : okV bl 8 a = true) (hb : okV bl 8 b = true) : Op G k (opCmp .Eq) [a, b] (.bool (eqV a b)) := Op.pure2 fun P A s E Q x y hr ok inn lx ly h => by
  obtain ⟨as, ra⟩ := reads_in inn 8 lx ha
  obtain ⟨bs, rb⟩ := reads_in inn 8 ly hb
  have la := lay_ok 8 a ha
  have lb := lay_ok 8 b hb
  refine SeqAt.compareEq_shaped ra rb ?_ ?_ (by have := hr.2.2; rw [show cLine = 9900 from rfl]; omega) (h _ s.toks (.bool _))
  · unfold SeqAt.shaped; rw [la.1, Bool.true_and]; exact decide_eq_true (Nat.le_trans la.2 (by decide))
  · unfold SeqAt.shaped; rw [lb.1, Bool.true_and]; exact decide_eq_true (Nat.le_trans lb.2 (by decide))
theorem Op.ne_data {a b : V} (bl : Bool) (ha : okV bl 8 a = true) (hb : okV bl 8 b = true) : Op G k (opCmp .NotEq) [a, b] (.bool (!eqV a b)) := Op.pure2 fun P A s E Q x y hr ok inn lx ly h => by
  obtain ⟨as, ra⟩ := reads_in inn 8 lx ha
  obtain ⟨bs, rb⟩ := reads_in inn 8 ly hb
  have la := lay_ok 8 a ha
  have lb := lay_ok 8 b hb
  refine SeqAt.compareNe_shaped ra rb ?_ ?_ (by have := hr.2.2; rw [show cLine = 9900 from rfl]; omega) (h _ s.toks (.bool _))
  · unfold SeqAt.shaped; rw [la.1, Bool.true_and]; exact decide_eq_true (Nat.le_trans la.2 (by decide))
  · unfold SeqAt.shaped; rw [lb.1, Bool.true_and]; exact decide_eq_true (Nat.le_trans lb.2 (by decide))
end
end Mine

namespace Mine
section
variable {G : Glo} {F : Fst} {k : Nat} {σ σ' σ₁ σ₂ : List Slot} {Γ : Act} {P : Part} {s : Shared}

def itemV : V → Int → Option V
  | .lst vs, i => (seqIndex? i vs.length).bind (vs[·]?)
  | .tup vs, i => (seqIndex? i vs.length).bind (vs[·]?)
  | .str x, i => ((seqIndex? i x.length).bind (x[·]?)).map fun c => .str [c]
  | _, _ => none

theorem seqIndex_cases {i : Int} {n j : Nat} (h : seqIndex? i n = some j) : (0 ≤ i ∧ j = i.toNat ∧ j < n) ∨ (i < 0 ∧ -(n : Int) ≤ i ∧ j = (i + n).toNat ∧ j < n) := by
  unfold seqIndex? at h
  simp only at h
  by_cases h0 : i < 0
  · rw [if_pos h0] at h
    by_cases hb : (decide (0 ≤ i + (n : Int)) && decide (i + (n : Int) < n)) = true
    · rw [if_pos hb] at h; cases h
      simp only [Bool.and_eq_true, decide_eq_true_eq] at hb
      exact .inr ⟨h0, by omega, rfl, by omega⟩
    · rw [if_neg hb] at h; cases h
  · rw [if_neg h0] at h
    by_cases hb : (decide (0 ≤ i) && decide (i < n)) = true
    · rw [if_pos hb] at h; cases h
      simp only [Bool.and_eq_true, decide_eq_true_eq] at hb
      exact .inl ⟨by omega, rfl, by omega⟩
    · rw [if_neg hb] at h; cases h

theorem tail_item {value slice : Expr} {o : Value} {v w : V} {i : Int} {u : Tok} {A : Around} {E : Value → Shared → Prop} {Q : Value → Shared → Prop} (inn : P.In s.heap) (l : Lay G.C P o v) (hw : itemV v i = some w) (hi : -1000000000 ≤ i ∧ i ≤ 1000000000)
    (hs : ∀ o i, subscripted slice false o i = operate [o, i] (getItem o i)) (h : ∀ val tk, Lay G.C P val w → Q val { s with toks := tk }) : wpAny (model G.prog G.w) A (subscriptTail value slice o (.int i u)) Q E s := by
  cases l with
  | lst p ls =>
    rename_i a vs n ds
    simp only [itemV] at hw
    obtain ⟨j, hj, hd⟩ := Option.bind_eq_some_iff.mp hw
    obtain ⟨val, hv, lv⟩ := ls.get hd
    have hl : s.heap.IsList a vs.toArray := ⟨_, inn _ _ p, rfl, _, rfl⟩
    have hsz : vs.toArray.size = ds.length := by rw [List.size_toArray, ls.length]
    refine tail_any hl.typeIs slot_list_getitem.lookup ?_ (hs _ _)
    rcases seqIndex_cases hj with ⟨h0, e, _⟩ | ⟨h0, h1, e, _⟩
    · exact wpAny_getItem_list hl h0 (by omega) (by rw [← e]; simpa using hv) (h val s.toks lv)
    · refine wpAny_getItem_list_neg hl h0 (by rw [hsz]; exact h1) (by omega) ?_ (h val s.toks lv)
      rw [hsz, ← e]; simpa using hv
  | tup p ls =>
    rename_i a vs n ds
    simp only [itemV] at hw
    obtain ⟨j, hj, hd⟩ := Option.bind_eq_some_iff.mp hw
    obtain ⟨val, hv, lv⟩ := ls.get hd
    have hl : IsTup s.heap a vs.toArray := ⟨_, inn _ _ p, rfl, _, rfl⟩
    have hsz : vs.toArray.size = ds.length := by rw [List.size_toArray, ls.length]
    refine tail_any hl.typeIs slot_tuple_getitem.lookup ?_ (hs _ _)
    exact PyProof.Rows.getItem_tuple hl (by omega) (by omega) (by rw [hsz]; exact hj) (by simpa using hv) (h val s.toks lv)
  | str x t =>
    simp only [itemV] at hw
    obtain ⟨c, hc, rfl⟩ := Option.map_eq_some_iff.mp hw
    obtain ⟨j, hj, hd⟩ := Option.bind_eq_some_iff.mp hc
    refine tail_any (typeIs_str s _ t) slot_str_getitem.lookup ?_ (hs _ _)
    refine PyProof.Rows.getItem_str (c := c) (by simp; omega) ?_ (h _ _ (.str [c] _))
    rw [strLen, hj]
    simpa using hd
  | _ => cases hw

theorem Ev.item {value slice : Expr} {pos : Pos} {v w : V} {i : Int} (h1 : Ev G F k σ value v σ₁) (h2 : Ev G F k σ₁ slice (.int i) σ₂) (hw : itemV v i = some w) (hi : -1000000000 ≤ i ∧ i ≤ 1000000000)
    (hs : ∀ o i, subscripted slice false o i = operate [o, i] (getItem o i) := by intros; rfl) : Ev G F k σ (.Subscript value slice pos) w σ₂ := by
  intro Γ P A s E Q hr st hQ
  refine Subscript_ (h1 Γ P A s E _ hr st fun o P1 s1 le1 st1 l1 => ?_)
  refine h2 Γ P1 A s1 E _ hr st1 fun j P2 s2 le2 st2 l2 => ?_
  cases l2
  exact tail_item st2.inP (l1.mono le2) hw hi hs fun val tk lv => hQ _ _ _ (le1.trans le2) st2.tok lv

/-! slices -/
inductive Part' (G : Glo) (F : Fst) (k : Nat) (σ : List Slot) : Option Expr → Option Int → List Slot → Prop
  | none : Part' G F k σ none none σ
  | some {e : Expr} {i : Int} {σ' : List Slot} : Ev G F k σ e (.int i) σ' → Part' G F k σ (some e) (some i) σ'
theorem Part'.run {e : Option Expr} {i : Option Int} (h : Part' G F k σ e i σ') {A : Around} {E : Value → Shared → Prop} {Q : Value → Shared → Prop} (hr : Room k A) (st : St G F Γ P σ s)
    (hQ : ∀ val P' s', P.le P' → St G F Γ P' σ' s' → IsPart val i → Q val s') : wpAny (model G.prog G.w) A (evalPart e Γ.env) Q E s := by
  cases h with
  | none => rw [evalPart_none]; exact wpAny_pure (hQ _ _ _ (Part.le.refl _) st .none)
  | some h =>
    rw [evalPart_some]
    refine h Γ P A s E _ hr st fun val P' s' le st' l => ?_
    cases l
    exact hQ _ _ _ le st' (.int _ _)

def sliceV : V → Option Int → Option Int → Option V
  | .lst vs, some a, none => if 0 ≤ a then some (.lst (vs.drop a.toNat)) else none
  | .lst vs, none, some b => if 0 ≤ b then some (.lst (vs.take b.toNat)) else none
  | .tup vs, some a, none => if 1 ≤ a ∧ a ≤ vs.length then some (.tup (vs.drop a.toNat)) else none
  | .str x, some a, none => if 0 ≤ a ∧ a ≤ x.length then some (.str (x.drop a.toNat)) else none
  | .str x, none, some b => if 0 ≤ b ∧ b ≤ x.length then some (.str (x.take b.toNat)) else none
  | _, _, _ => none
def sizeV : V → Bool
  | .lst vs => decide (vs.length ≤ 1000000)
  | .tup vs => decide (vs.length ≤ 1000000)
  | .str x => decide (x.length ≤ 1000000)
  | _ => true

theorem slice_from_text (x : List Nat) {a : Int} (h : 0 ≤ a ∧ a ≤ x.length) : StrLaws.sliceText ⟨x.toArray⟩ (some a) none = ⟨(x.drop a.toNat).toArray⟩ := by
  have e : StrLaws.sliceText ⟨x.toArray⟩ (some a) none = StrLaws.sliceText ⟨x.toArray⟩ (some (a.toNat : Int)) (some ((x.length : Nat) : Int)) := by
    unfold StrLaws.sliceText
    rw [StrLaws.sliceIdx_none_hi, strLen, Int.toNat_of_nonneg h.1]
  rw [e, StrLaws.sliceText_nat _ (by omega) (by rw [strLen]; exact Nat.le_refl _)]
  congr 2
  show List.take (x.length - a.toNat) (List.drop a.toNat x) = _
  rw [List.take_of_length_le (by simp)]
theorem slice_upto_text (x : List Nat) {b : Int} (h : 0 ≤ b ∧ b ≤ x.length) : StrLaws.sliceText ⟨x.toArray⟩ none (some b) = ⟨(x.take b.toNat).toArray⟩ := by
  have e : StrLaws.sliceText ⟨x.toArray⟩ none (some b) = StrLaws.sliceText ⟨x.toArray⟩ (some ((0 : Nat) : Int)) (some (b.toNat : Int)) := by
    unfold StrLaws.sliceText
    rw [StrLaws.sliceIdx_none_lo, strLen, Int.toNat_of_nonneg h.1]; rfl
  rw [e, StrLaws.sliceText_nat _ (by omega) (by rw [strLen]; omega)]
  congr 2

theorem slice_made {x : List Nat} {t : Tok} {l u : Option (Int × Tok)} {Q : Value → Shared → Prop} (hx : x.length ≤ 1000000) (h : ∀ t' k, Q (.str (StrLaws.sliceText ⟨x.toArray⟩ (l.map (·.1)) (u.map (·.1))) t') { s with toks := k }) : (sliceMade ⟨x.toArray⟩ t l u none).post Q s := by
  unfold sliceMade
  refine post_val_or_made (fun _ => ?_) fun t' k => ?_
  · show (List.filterMap _ _).toArray.size ≤ _
    rw [List.size_toArray]
    refine Nat.le_trans (List.length_filterMap_le _ _) ?_
    unfold slicePicked
    refine Nat.le_trans (sliceIndices_le _ _ _) ?_
    rw [strLen]; exact Nat.le_trans hx (by decide)
  · exact h t' k

theorem Ev.slice {value : Expr} {lo hi : Option Expr} {p pos : Pos} {v w : V} {a b : Option Int} (h1 : Ev G F k σ value v σ₁) (h2 : Part' G F k σ₁ lo a σ₂) (h3 : Part' G F k σ₂ hi b σ') (hz : sizeV v = true) (hw : sliceV v a b = some w) : Ev G F k σ (.Subscript value (.Slice lo hi none p) pos) w σ' := by
  intro Γ P A s E Q hr st hQ
  refine Subscript_ (h1 Γ P A s E _ hr st fun o P1 s1 le1 st1 l1 => ?_)
  refine wpAny_Slice (h2.run hr st1 fun vl P2 s2 le2 st2 pl => h3.run hr st2 fun vu P3 s3 le3 st3 pu => ?_)
  rw [evalPart_none]
  refine wpAny_pure ?_
  have l3 := l1.mono (le2.trans le3)
  have le := le1.trans (le2.trans le3)
  have st4 : St G F Γ P3 σ' { s3 with heap := s3.heap.push { cls := .type "slice", data := .fields #[vl, vu, .none] } } := st3.grow (tk := s3.toks) (Kept.push _ _)
  have hsl : (s3.heap.push { cls := .type "slice", data := .fields #[vl, vu, .none] }).IsSliceOf s3.heap.objs.size vl vu .none := Heap.IsSliceOf.new ..
  cases l3 with
  | lst p' ls =>
    rename_i ax vs n ds
    simp only [sizeV, decide_eq_true_eq] at hz
    have hl : ({ s3 with heap := s3.heap.push { cls := .type "slice", data := .fields #[vl, vu, .none] } } : Shared).heap.IsList ax vs.toArray := ⟨_, st4.inP _ _ p', rfl, _, rfl⟩
    refine tail_any hl.typeIs slot_list_getitem.lookup (ops := [.ref s3.heap.objs.size, .ref ax]) ?_ rfl
    have fin : ∀ ws es, slicePick vs.toArray a b none = List.toArray ws → LayAll G.C P3 ws es → w = .lst es → wpAny (model G.prog G.w) A (getItem (.ref ax) (.ref s3.heap.objs.size)) Q E { s3 with heap := s3.heap.push { cls := .type "slice", data := .fields #[vl, vu, .none] } } := by
      intro ws es e1 e2 e3
      refine wpAny_getItem_list_slice hl hsl pl pu .none (by simp) ?_ (by rw [List.size_toArray, ls.length]; exact Nat.le_trans hz (by decide))
      rw [e1]
      obtain ⟨le5, st5⟩ := st4.put (o := listO ws 0) (tk := s3.toks)
      exact hQ _ _ _ (le.trans le5) st5 (by rw [e3]; exact .lst (Part.put_self _ _ _) (e2.mono le5))
    cases a with
    | some a =>
      cases b with
      | some b => cases hw
      | none =>
        simp only [sliceV] at hw
        split at hw
        · cases hw
          rename_i ha
          refine fin (vs.drop a.toNat) _ ?_ (ls.drop _) rfl
          have := slicePick_from' vs.toArray a.toNat
          rw [Int.toNat_of_nonneg ha] at this
          simpa using this
        · cases hw
    | none =>
      cases b with
      | none => cases hw
      | some b =>
        simp only [sliceV] at hw
        split at hw
        · cases hw
          rename_i hb
          refine fin (vs.take b.toNat) _ ?_ (ls.take _) rfl
          have := slicePick_upto' vs.toArray b.toNat
          rw [Int.toNat_of_nonneg hb] at this
          simpa using this
        · cases hw
  | tup p' ls =>
    rename_i ax vs n ds
    simp only [sizeV, decide_eq_true_eq] at hz
    have hl : IsTup ({ s3 with heap := s3.heap.push { cls := .type "slice", data := .fields #[vl, vu, .none] } } : Shared).heap ax vs.toArray := ⟨_, st4.inP _ _ p', rfl, _, rfl⟩
    refine tail_any hl.typeIs slot_tuple_getitem.lookup (ops := [.ref s3.heap.objs.size, .ref ax]) ?_ rfl
    cases a with
    | none => cases hw
    | some a =>
      cases b with
      | some b => cases hw
      | none =>
        simp only [sliceV] at hw
        split at hw
        · cases hw
          rename_i ha
          cases pu
          cases pl with
          | int _ u =>
            have hsl' : (s3.heap.push { cls := .type "slice", data := .fields #[.int a u, .none, .none] }).IsSliceOf s3.heap.objs.size (.int (a.toNat : Int) u) .none .none := by
              rw [Int.toNat_of_nonneg (by omega)]; exact hsl
            refine getItem_tuple_from hl hsl' (by omega) (by rw [List.size_toArray, ls.length]; omega) ?_ (by rw [List.size_toArray, ls.length]; exact Nat.le_trans hz (by decide))
            obtain ⟨le5, st5⟩ := st4.put (o := tupO (vs.drop a.toNat) 0) (tk := s3.toks)
            exact hQ _ _ _ (le.trans le5) st5 (.tup (Part.put_self _ _ _) ((ls.drop _).mono le5))
        · cases hw
  | str x t =>
    simp only [sizeV, decide_eq_true_eq] at hz
    refine tail_any (typeIs_str _ _ t) slot_str_getitem.lookup (ops := [.ref s3.heap.objs.size, .str ⟨x.toArray⟩ t]) ?_ rfl
    cases a with
    | some a =>
      cases b with
      | some b => cases hw
      | none =>
        simp only [sliceV] at hw
        split at hw
        · cases hw
          rename_i ha
          cases pu
          cases pl with
          | int _ u =>
            refine wpAny_getItem_str_slice (l := some (a, u)) (u := none) (st := none) hsl rfl (slice_made hz fun t' tk => ?_)
            show Q (.str (StrLaws.sliceText ⟨x.toArray⟩ (some a) none) t') _
            rw [slice_from_text x ha]
            exact hQ _ _ _ le st4.tok (.str _ _)
        · cases hw
    | none =>
      cases b with
      | none => cases hw
      | some b =>
        simp only [sliceV] at hw
        split at hw
        · cases hw
          rename_i hb
          cases pl
          cases pu with
          | int _ u =>
            refine wpAny_getItem_str_slice (l := none) (u := some (b, u)) (st := none) hsl rfl (slice_made hz fun t' tk => ?_)
            show Q (.str (StrLaws.sliceText ⟨x.toArray⟩ none (some b)) t') _
            rw [slice_upto_text x hb]
            exact hQ _ _ _ le st4.tok (.str _ _)
        · cases hw
  | _ => cases a <;> cases b <;> cases hw
end
end Mine

namespace Mine
section
variable {G : Glo} {F : Fst} {k : Nat} {σ σ' σ₁ σ₂ : List Slot} {Γ : Act} {P : Part} {s : Shared}

/-- a call of a value -/
def opCall (f : Value) : List Value → Sem Value := fun vs => call f vs

/-- what may stand in a call's place -/
def CalleeOk (G : Glo) : Value → Bool
  | .builtin _ => true
  | .type _ => true
  | f => keepIn G.K f

theorem plain_args {es : List Expr} {env : Env} {pos : Pos} (h : es.all (fun e => !isStarred e) = true) : (backTo pos (starEach es env)).any (·.1) = false := by
  induction es with
  | nil => rfl
  | cons e es ih =>
    simp only [List.all_cons, Bool.and_eq_true] at h
    have e1 : starEach (e :: es) env = (false, eval e env) :: starEach es env := by
      cases e <;> first | rfl | (simp [isStarred] at h)
    rw [e1]
    show (false || (backTo pos (starEach es env)).any (·.1)) = false
    rw [ih h.2]; rfl

theorem evalArgs_nil' {M : Model} {A : Around} {E : Value → Shared → Prop} {f : Value} {Q : Args → Shared → Prop} (h : wpAny M A (spliced []) (fun vs s' => Q ⟨vs, []⟩ s') E s) : wpAny M A (evalArgs f true [] []) Q E s := by
  unfold evalArgs
  show wpAny M A (spliced [] >>= _) Q E s
  refine wpAny_bind (wpAny_mono h (fun vs s' h' => ?_) fun _ _ x => x)
  refine wpAny_holding ?_
  exact wpAny_bind (wpAny_pure (wpAny_bind (wpAny_pure (wpAny_pure h'))))

theorem callWith_any {f : Value} {first : List Value} {es : List Expr} {vs : List V} {pos : Pos} {A : Around} {E : Value → Shared → Prop} {Q : Value → Shared → Prop} (hc : CalleeOk G f = true) (hr : Room k A) (st : St G F Γ P σ s) (ha : Evs G F k σ es vs σ')
    (hp : es.all (fun e => !isStarred e) = true)
    (h : ∀ vals P' s', P.le P' → St G F Γ P' σ' s' → LayAll G.C P' vals vs → wpAny (model G.prog G.w) A (call f (first ++ vals)) Q E s') : wpAny (model G.prog G.w) A (callWith pos f first (backTo pos (starEach es Γ.env)) []) Q E s := by
  have key : wpAny (model G.prog G.w) A (evalArgs f true (backTo pos (starEach es Γ.env)) []) (fun a s₁ => G.K.In s₁.heap ∧ wpAny (model G.prog G.w) A (call f (first ++ a.pos) a.kw) Q E s₁) E s := by
    have this := ha Γ P A s E (fun vals s₁ => G.K.In s₁.heap ∧ wpAny (model G.prog G.w) A (call f (first ++ vals)) Q E s₁) pos hr st fun vals P' s' le st' l => ⟨st'.ok.kin, h vals P' s' le st' l⟩
    cases es with
    | nil => exact evalArgs_nil' this
    | cons e es =>
      have e1 : starEach (e :: es) Γ.env = (false, eval e Γ.env) :: starEach es Γ.env := by
        simp only [List.all_cons, Bool.and_eq_true] at hp
        cases e <;> first | rfl | (simp [isStarred] at hp)
      rw [e1] at this ⊢
      exact Calls.evalArgs_plain this
  have hpl := plain_args (env := Γ.env) (pos := pos) hp
  cases f with
  | builtin id => exact Calls.callWith_builtin hpl (wpAny_mono key (fun _ _ z => z.2) fun _ _ z => z)
  | type T => exact PySem.callWith_type hpl (wpAny_mono key (fun _ _ z => z.2) fun _ _ z => z)
  | _ => exact callWith_of (by rw [hpl]; rfl) (keeps_K (M := model G.prog G.w) hc) key

/-- a name of the module's, or a built-in one -/
def GName (G : Glo) (F : Fst) (x : Str) (v : Value) : Prop :=
  F.scope.names.lookup x = some .globalImplicit ∧ okName x = true ∧ (nsIn G.K mainGlobals x = some (some v) ∨ (nsIn G.K mainGlobals x = some none ∧ bootBuiltins x = some v ∧ x ≠ "__name__"))

theorem GName.load {x : Str} {v : Value} {pos : Pos} (g : GName G F x v) (st : St G F Γ P σ s) {A : Around} {E : Value → Shared → Prop} {Q : Value → Shared → Prop} (h : Q v s) : wpAny (model G.prog G.w) A (eval (.Name x pos) Γ.env) Q E s := by
  obtain ⟨g1, g2, g3⟩ := g
  have hx : Γ.env.kindOf x = some .globalImplicit := by show Γ.env.scope.names.lookup x = _; rw [st.scope]; exact g1
  refine Calls.Name_function_global st.fn hx ?_ (okName.debug g2)
  have hg : s.heap.Ns Γ.env.globals G.mg := by rw [st.globals]; exact G.g.keeps st.ok.keep
  have hb : s.heap.Ns Γ.env.builtins G.mb := by rw [st.builtins]; exact G.b.keeps st.ok.keep
  rcases g3 with g3 | ⟨g3, g4, g5⟩
  · have e : G.mg x = some v := mg_of G.kin G.g g3
    unfold loadGlobal
    refine wpAny_bind (wpAny_nsGet hg ?_)
    rw [e]; exact wpAny_pure h
  · have e : G.mg x = none := mg_none_of G.kin G.g g3
    exact Calls.loadGlobal_builtin hg e hb ((G.blt x g5).trans g4) h

/-- f(..), f a name of the module's or a built-in one -/
theorem Ev.call {x : Str} {p pos : Pos} {es : List Expr} {vs : List V} {f : Value} {v : V} (g : GName G F x f) (hc : CalleeOk G f = true) (ha : Evs G F k σ es vs σ') (ho : Op G k (opCall f) vs v) (hp : es.all (fun e => !isStarred e) = true := by rfl) :
    Ev G F k σ (.Call (.Name x p) es [] pos) v σ' := by
  intro Γ P A s E Q hr st hQ
  refine wpAny_Call_NameR (g.load st ?_)
  refine callWith_any hc hr st ha hp fun vals P' s' le st' l => ?_
  exact ho.use (t := opCall f) hr st' l fun val P'' s'' le' st'' lv => hQ _ _ _ (le.trans le') st'' lv

/-- the method of a laid value -/
def Meth (G : Glo) (v : V) (name : Str) (f : Value) : Prop :=
  ∀ (P : Part) (A : Around) (s : Shared) (E : Value → Shared → Prop) (Q : Value × List Value → Shared → Prop) (val : Value) (pl : Sem Bool), G.Ok s → P.In s.heap → Lay G.C P val v → Q (f, [val]) s → wpAny (model G.prog G.w) A (getMethod val name pl) Q E s

theorem method_pos {o : Expr} {apos pos : Pos} {env : Env} {M : Model} {A : Around} {E : Value → Shared → Prop} {Q : Pos → Shared → Prop} (hl : (apos.endLine == pos.line) = true) (h : Q pos s) : wpAny M A (methodCallPos true o env apos pos) Q E s := by
  unfold methodCallPos
  rw [hl]
  exact wpAny_pure h

theorem few_args {es : List Expr} {env : Env} {pos : Pos} (h : es.all (fun e => !isStarred e) = true) (hn : es.length < 30) : methodCallForm (es.length + ([] : List Keyword).length) (backTo pos (starEach es env)) (backToKw pos (keywordEach [] env)) = true := by
  have h1 := plain_args (env := env) (pos := pos) h
  unfold methodCallForm
  have h2 : (backTo pos (starEach es env)).all (fun x => !x.1) = true := by
    rw [List.all_eq_true]
    intro x hx
    rw [List.any_eq_false] at h1
    simpa using h1 x hx
  rw [h2]
  show (true && true && decide (es.length + 0 + 0 < 30)) = true
  simp [hn]

/-- o.name(..) -/
theorem Ev.meth {o : Expr} {name : Str} {apos pos : Pos} {es : List Expr} {vs : List V} {f : Value} {u v : V} (h1 : Ev G F k σ o u σ₁) (hm : Meth G u name f) (hc : CalleeOk G f = true) (ha : Evs G F k σ₁ es vs σ') (ho : Op G k (opCall f) (u :: vs) v)
    (hp : es.all (fun e => !isStarred e) = true := by rfl) (hn : es.length < 30 := by decide) (hl : (apos.endLine == pos.line) = true := by rfl) (hb : ∀ env w, attributeBase o name env w = w := by intros; rfl) :
    Ev G F k σ (.Call (.Attribute o name apos) es [] pos) v σ' := by
  intro Γ P A s E Q hr st hQ
  show wpAny _ A (do
    let ov ← attributeBase o name Γ.env (eval o Γ.env)
    standAt apos.atName
    methodCall o name apos pos Γ.env ov (es.length + ([] : List Keyword).length) (backTo pos (starEach es Γ.env)) (backToKw pos (keywordEach [] Γ.env))) Q E s
  rw [hb]
  refine wpAny_bind (h1 Γ P A s E _ hr st fun val P1 s1 le1 st1 l1 => wpAny_bind (wpAny_standAt ?_))
  unfold methodCall
  rw [few_args hp hn]
  refine wpAny_bind (wpAny_holding ?_)
  unfold calleeOf
  refine hm P1 A s1 E _ val _ st1.ok st1.inP l1 ?_
  refine wpAny_bind (method_pos hl ?_)
  refine callWith_any hc hr st1 ha hp fun vals P' s' le st' l => ?_
  exact ho.use (t := opCall f) hr st' (.cons (l1.mono le) l) fun val P'' s'' le' st'' lv => hQ _ _ _ (le1.trans (le.trans le')) st'' lv
end
end Mine

namespace Mine

/-- the first place of sep: what stands before it, what behind -/
def findL (sep : List Nat) : List Nat → Option (List Nat × List Nat)
  | [] => none
  | c :: cs => if (c :: cs).take sep.length = sep then some ([], (c :: cs).drop sep.length) else (findL sep cs).map fun p => (c :: p.1, p.2)
def splitL (sep : List Nat) : Nat → List Nat → List (List Nat)
  | 0, x => [x]
  | n + 1, x => match findL sep x with
    | none => [x]
    | some p => p.1 :: splitL sep n p.2
/-- x.split(sep) -/
def splitT (sep x : List Nat) : List (List Nat) := splitL sep (x.length + 1) x
def joinT (sep : List Nat) : List (List Nat) → List Nat
  | [] => []
  | [x] => x
  | x :: y :: r => x ++ sep ++ joinT sep (y :: r)
def sp (c : Nat) : Bool := Unicode.isSpace c
def rstripT (x : List Nat) : List Nat := (x.reverse.dropWhile sp).reverse
def stripT (x : List Nat) : List Nat := rstripT (x.dropWhile sp)

theorem findL_some {sep : List Nat} (hs : sep ≠ []) : ∀ (z : List Nat) (i : Nat), (z.drop i).take sep.length = sep → (∀ j, j < i → (z.drop j).take sep.length ≠ sep) → findL sep z = some (z.take i, z.drop (i + sep.length))
  | [], i, h, _ => by simp at h; exact absurd h hs
  | c :: cs, 0, h, _ => by
    rw [findL, if_pos (by simpa using h)]; simp
  | c :: cs, i + 1, h, hn => by
    have h0 := hn 0 (by omega)
    rw [findL, if_neg (by simpa using h0), findL_some hs cs i (by simpa using h) (fun j hj => by have := hn (j + 1) (by omega); simpa using this)]
    simp [Nat.add_right_comm]
theorem findL_none {sep : List Nat} (hs : sep ≠ []) : ∀ (z : List Nat), (∀ j, (z.drop j).take sep.length ≠ sep) → findL sep z = none
  | [], _ => rfl
  | c :: cs, hn => by
    have h0 := hn 0
    rw [findL, if_neg (by simpa using h0), findL_none hs cs (fun j => by have := hn (j + 1); simpa using this)]; rfl

open Builtin Builtin.Str in
theorem parts_split (x y : List Nat) (hy : y ≠ []) : ∀ (cuts : List Nat) (a f n : Nat), StrLaws.ChainG ⟨x.toArray⟩ ⟨y.toArray⟩ x.length a cuts f → (∀ k, f ≤ k → ¬ StrLaws.At ⟨x.toArray⟩ ⟨y.toArray⟩ x.length k) → x.length + 1 ≤ n + a →
    (StrLaws.partsFrom ⟨x.toArray⟩ y.length a cuts).map (fun p => p.cps.toList) = splitL y n (x.drop a) := by
  have at_iff : ∀ k, StrLaws.At ⟨x.toArray⟩ ⟨y.toArray⟩ x.length k ↔ (x.drop k).take y.length = y := fun k => by
    unfold StrLaws.At
    rw [StrLaws.subAt_eq, strLen]
    simp only [beq_iff_eq]
    constructor
    · exact fun h => h.2
    · intro h
      refine ⟨?_, h⟩
      have := congrArg List.length h
      simp at this
      have h2 : 0 < y.length := List.length_pos_iff.mpr hy
      omega
  intro cuts
  induction cuts with
  | nil =>
    intro a f n h hn hf
    have e : f = a := h
    subst e
    have hnone : findL y (x.drop f) = none := findL_none hy _ fun j => by
      rw [List.drop_drop]
      exact fun e => hn (f + j) (by omega) ((at_iff _).mpr e)
    have e2 : (StrLaws.partsFrom ⟨x.toArray⟩ y.length f []).map (fun p => p.cps.toList) = [x.drop f] := by
      show [(strSub ⟨x.toArray⟩ f (⟨x.toArray⟩ : Str).length).cps.toList] = _
      rw [StrLaws.strSub_toList, strLen]
      simp [List.take_of_length_le]
    rw [e2]
    cases n with
    | zero => rfl
    | succ n => rw [splitL, hnone]
  | cons c r ih =>
    intro a f n h hn hf
    obtain ⟨h1, h2, h3, h4⟩ := h
    have hc := (at_iff c).mp h2
    have hsome : findL y (x.drop a) = some ((x.drop a).take (c - a), (x.drop a).drop (c - a + y.length)) := findL_some hy _ _ (by rw [List.drop_drop, show a + (c - a) = c by omega]; exact hc) fun j hj => by
      rw [List.drop_drop]
      exact fun e => h3 (a + j) (by omega) (by omega) ((at_iff _).mpr e)
    have hle : c + y.length ≤ x.length := by have := h2.1; rwa [strLen] at this
    cases n with
    | zero => omega
    | succ n =>
      rw [splitL, hsome]
      rw [strLen] at h4
      show (strSub ⟨x.toArray⟩ a c).cps.toList :: (StrLaws.partsFrom ⟨x.toArray⟩ y.length (c + y.length) r).map (fun p => p.cps.toList) = _
      have h5 : 0 < y.length := List.length_pos_iff.mpr hy
      rw [ih (c + y.length) f n h4 hn (by omega), StrLaws.strSub_toList]
      dsimp only
      rw [List.drop_drop, show a + (c - a + y.length) = c + y.length by omega]

open Builtin Builtin.Str in
theorem split_eq (x y : List Nat) (hy : y ≠ []) (h8 : y.all (· < 256) = true) : (Txt.split ⟨x.toArray⟩ ⟨y.toArray⟩).map (fun p => p.cps.toList) = splitT y x := by
  obtain ⟨f, hG, hn⟩ := StrLaws.occ_tight ⟨x.toArray⟩ ⟨y.toArray⟩ (by rw [strLen]; exact List.length_pos_iff.mpr hy)
  have hx : (⟨x.toArray⟩ : Str).length = x.length := strLen x
  rw [hx] at hG hn
  have key := parts_split x y hy _ 0 f (x.length + 1) hG hn (by omega)
  unfold splitT
  have hk : Builtin.Str.strKind ⟨y.toArray⟩ = 1 := by
    unfold Builtin.Str.strKind
    rw [if_pos (by simpa using h8)]
  unfold Txt.split
  rw [hx, strLen, hk]
  have hkx : ¬ Builtin.Str.strKind ⟨x.toArray⟩ < 1 := by
    unfold Builtin.Str.strKind
    split
    · omega
    · split <;> omega
  have hnil : occurrences ⟨x.toArray⟩ ⟨y.toArray⟩ 0 x.length (x.length + 1) = [] → [(⟨x.toArray⟩ : Str)].map (fun p => p.cps.toList) = splitL y (x.length + 1) x := fun e => by
    rw [e] at key
    rw [List.drop_zero] at key
    rw [← key]
    show [x.toArray.toList] = [(strSub ⟨x.toArray⟩ 0 (⟨x.toArray⟩ : Str).length).cps.toList]
    rw [StrLaws.strSub_toList, strLen]; simp
  split
  · rename_i hc
    rw [Bool.or_eq_true, decide_eq_true_eq, decide_eq_true_eq] at hc
    have hlt : x.length < y.length := hc.resolve_right hkx
    refine hnil ?_
    cases e : occurrences ⟨x.toArray⟩ ⟨y.toArray⟩ 0 x.length (x.length + 1) with
    | nil => rfl
    | cons c r =>
      rw [e] at hG
      have := hG.2.1.1
      rw [strLen] at this
      omega
  · split
    · rename_i he
      exact hnil (List.isEmpty_iff.mp he)
    · rw [StrLaws.partsBetween_eq]
      rw [List.drop_zero] at key
      exact key

theorem join_eq (sep : List Nat) : ∀ ts : List (List Nat), Txt.join ⟨sep.toArray⟩ (ts.map fun t => (⟨t.toArray⟩ : Str)) = ⟨(joinT sep ts).toArray⟩ := by
  intro ts
  show Builtin.Str.glued _ _ = _
  rw [StrLaws.glued_eq_join]
  induction ts with
  | nil => rfl
  | cons t ts ih =>
    cases ts with
    | nil => rfl
    | cons u us =>
      show (⟨t.toArray⟩ ++ ⟨sep.toArray⟩ ++ Str.join ⟨sep.toArray⟩ ((u :: us).map fun t => (⟨t.toArray⟩ : Str)) : Str) = _
      rw [ih]
      show (Str.append (Str.append _ _) _ : Str) = _
      unfold Str.append
      simp [joinT]

theorem stripBy_eq (goes : Nat → Bool) (l r : Bool) (x : Str) : Txt.stripBy goes l r x = PySem.stripped goes l r x := by
  unfold Txt.stripBy
  split
  · rename_i h
    unfold stripSame at h
    simp only [Bool.and_eq_true, beq_iff_eq] at h
    unfold PySem.stripped
    rw [h.1]
    rw [h.1] at h
    rw [h.2]
    exact (StrLaws.sub_whole x).symm
  · rfl
theorem take_len_dropWhile (p : Nat → Bool) (l : List Nat) : l.drop (l.takeWhile p).length = l.dropWhile p := by
  induction l with
  | nil => rfl
  | cons a l ih =>
    by_cases h : p a = true
    · simp [List.takeWhile_cons, List.dropWhile_cons, h, ih]
    · simp [List.takeWhile_cons, List.dropWhile_cons, h]
theorem rev_take (p : Nat → Bool) (l : List Nat) : l.take (l.length - (l.reverse.takeWhile p).length) = (l.reverse.dropWhile p).reverse := by
  rw [← take_len_dropWhile p l.reverse]
  apply List.reverse_inj.mp
  rw [List.reverse_reverse, List.reverse_take]
  congr 1
  have : (l.reverse.takeWhile p).length ≤ l.reverse.length := (List.takeWhile_sublist p).length_le
  simp at this
  omega
theorem strip_eq (x : List Nat) : Txt.strip ⟨x.toArray⟩ = ⟨(stripT x).toArray⟩ := by
  unfold Txt.strip
  rw [stripBy_eq]
  apply Str.ext'
  apply Array.toList_inj.mp
  unfold PySem.stripped
  rw [StrLaws.strSub_toList]
  unfold stripLo stripHi
  simp only [if_true, strLen]
  show List.take _ (List.drop (x.takeWhile Unicode.isSpace).length x) = stripT x
  have e1 : x.drop (x.takeWhile Unicode.isSpace).length = x.dropWhile sp := take_len_dropWhile sp x
  rw [e1]
  have e2 : (x.dropWhile sp).length = x.length - (x.takeWhile Unicode.isSpace).length := by rw [← e1]; simp
  unfold stripT rstripT
  rw [← rev_take sp (x.dropWhile sp)]
  congr 1
  rw [e2]
  show _ = x.length - (x.takeWhile Unicode.isSpace).length - (List.takeWhile Unicode.isSpace (List.dropWhile sp x).reverse).length
  omega
theorem rstrip_eq (x : List Nat) : Txt.rstrip ⟨x.toArray⟩ = ⟨(rstripT x).toArray⟩ := by
  unfold Txt.rstrip
  rw [stripBy_eq]
  apply Str.ext'
  apply Array.toList_inj.mp
  unfold PySem.stripped
  rw [StrLaws.strSub_toList]
  unfold stripLo stripHi
  simp only [if_true, strLen, Bool.false_eq_true, if_false]
  show List.take _ (List.drop 0 x) = rstripT x
  rw [List.drop_zero, Nat.sub_zero]
  unfold rstripT
  rw [← rev_take sp x]
  rfl
end Mine

namespace Mine
section
variable {G : Glo} {F : Fst} {k : Nat} {σ σ' σ₁ σ₂ : List Slot} {Γ : Act} {P : Part} {s : Shared}

theorem Op.pure1 {t : List Value → Sem Value} {a v : V} (h : ∀ (P : Part) (A : Around) (s : Shared) (E : Value → Shared → Prop) (Q : Value → Shared → Prop) (x : Value), Room k A → G.Ok s → P.In s.heap → Lay G.C P x a →
    (∀ val tk, Lay G.C P val v → Q val { s with toks := tk }) → wpAny (model G.prog G.w) A (t [x]) Q E s) : Op G k t [a] v := by
  intro P A s E Q vals hr ok inn l hQ
  cases l with
  | cons l1 l =>
    cases l
    exact h P A s E Q _ hr ok inn l1 fun val tk lv => hQ val P s.heap tk (Kept.refl _) (Part.le.refl _) inn (fun _ _ e => .inl e) lv
theorem put_facts {h : Heap} {o : Obj} (inn : P.In h) (hf : o.isFreed = false) : P.le (P.put h.objs.size o) ∧ (P.put h.objs.size o).In (h.push o) ∧ ∀ a q, P.put h.objs.size o a = some q → P a = some q ∨ h.get? a = none := by
  have hn : P h.objs.size = none := by
    cases e : P h.objs.size with
    | none => rfl
    | some q => have := inn _ _ e; rw [get?_size] at this; cases this
  refine ⟨Part.le_put _ hn, fun a q e => ?_, fun a q e => ?_⟩
  · by_cases ha : a = h.objs.size
    · subst ha; rw [Part.put_self] at e; cases e; exact Heap.get?_push_size _ hf
    · rw [Part.put_ne _ _ ha] at e; exact Heap.get?_push_of_some _ (inn _ _ e)
  · by_cases ha : a = h.objs.size
    · subst ha; exact .inr (get?_size _)
    · rw [Part.put_ne _ _ ha] at e; exact .inl e
theorem Op.made1 {t : List Value → Sem Value} {a v : V} (h : ∀ (P : Part) (A : Around) (s : Shared) (E : Value → Shared → Prop) (Q : Value → Shared → Prop) (x : Value), Room k A → G.Ok s → P.In s.heap → Lay G.C P x a →
    (∀ o tk, o.isFreed = false → (∀ P', P.le P' → P' s.heap.objs.size = some o → Lay G.C P' (.ref s.heap.objs.size) v) → Q (.ref s.heap.objs.size) { s with heap := s.heap.push o, toks := tk }) → wpAny (model G.prog G.w) A (t [x]) Q E s) : Op G k t [a] v := by
  intro P A s E Q vals hr ok inn l hQ
  cases l with
  | cons l1 l =>
    cases l
    refine h P A s E Q _ hr ok inn l1 fun o tk hf lv => ?_
    obtain ⟨f1, f2, f3⟩ := put_facts (P := P) (h := s.heap) inn hf
    exact hQ _ _ _ tk (Kept.push _ _) f1 f2 f3 (lv _ f1 (Part.put_self _ _ _))

/-! len -/
def lenV : V → Option Nat
  | .lst vs => some vs.length
  | .tup vs => some vs.length
  | .str x => some x.length
  | _ => none
theorem Op.len {v : V} {n : Nat} (hn : lenV v = some n) (hb : n ≤ 1000000) : Op G k (opCall (.builtin "len")) [v] (.int n) := Op.pure1 fun P A s E Q x hr ok inn lx h => by
  cases lx with
  | lst p ls =>
    cases hn
    rename_i a vs m ds
    have hl : s.heap.IsList a vs.toArray := ⟨_, inn _ _ p, rfl, _, rfl⟩
    have e : (vs.toArray.size : Int) = ds.length := by rw [List.size_toArray, ls.length]
    refine PyProof.Rows.len_list hl (by omega) ?_
    rw [e]; exact h _ _ (.int _ _)
  | tup p ls =>
    cases hn
    rename_i a vs m ds
    have hl : IsTup s.heap a vs.toArray := ⟨_, inn _ _ p, rfl, _, rfl⟩
    have e : (vs.toArray.size : Int) = ds.length := by rw [List.size_toArray, ls.length]
    refine PyProof.Rows.len_tuple hl (by omega) ?_
    rw [e]; exact h _ _ (.int _ _)
  | str x t =>
    cases hn
    refine PyProof.Rows.len_str (by rw [strLen]; omega) ?_
    rw [strLen]; exact h _ _ (.int _ _)
  | _ => cases hn

/-! range -/
theorem Op.range1 {n : Int} : Op G k (opCall (.type "range")) [.int n] (.rng 0 n) := Op.made1 fun P A s E Q x hr ok inn lx h => by
  cases lx
  exact call_range_1 (h (rngO 0 n _ _ _) _ rfl fun P' le hp => .rng hp)
theorem Op.range2 {a b : Int} : Op G k (opCall (.type "range")) [.int a, .int b] (.rng a b) := Op.made2 fun P A s E Q x y hr ok inn lx ly h => by
  cases lx; cases ly
  exact call_range_2 (h (rngO a b _ _ _) _ rfl fun P' le hp => .rng hp)

/-! texts' methods -/
theorem Meth.strip {x : List Nat} : Meth G (.str x) "strip" (.builtin "str.strip") := fun P A s E Q val pl ok inn l h => by cases l; exact GM.strip h
theorem Meth.rstrip {x : List Nat} : Meth G (.str x) "rstrip" (.builtin "str.rstrip") := fun P A s E Q val pl ok inn l h => by cases l; exact GM.rstrip h
theorem Meth.split {x : List Nat} : Meth G (.str x) "split" (.builtin "str.split") := fun P A s E Q val pl ok inn l h => by cases l; exact GM.split h
theorem Meth.join {x : List Nat} : Meth G (.str x) "join" (.builtin "str.join") := fun P A s E Q val pl ok inn l h => by cases l; exact GM.join h
theorem Op.strip {x : List Nat} (hx : x.length ≤ 1000000) : Op G k (opCall (.builtin "str.strip")) [.str x] (.str (stripT x)) := Op.pure1 fun P A s E Q y hr ok inn lx h => by
  cases lx
  refine SC.strip (fun t' tk => ?_) (by rw [strLen]; exact Nat.le_trans hx (by decide))
  rw [strip_eq]; exact h _ _ (.str _ _)
theorem Op.rstrip {x : List Nat} (hx : x.length ≤ 1000000) : Op G k (opCall (.builtin "str.rstrip")) [.str x] (.str (rstripT x)) := Op.pure1 fun P A s E Q y hr ok inn lx h => by
  cases lx
  refine SC.rstrip (fun t' tk => ?_) (by rw [strLen]; exact Nat.le_trans hx (by decide))
  rw [rstrip_eq]; exact h _ _ (.str _ _)

theorem layStrs {C : Addr} (l : List (Str × Tok)) : LayAll C P (strValues l) ((l.map (·.1)).map fun x => V.str x.cps.toList) := by
  induction l with
  | nil => exact .nil
  | cons p l ih => exact .cons (Lay.ofStr p.1 p.2) ih
theorem ofLayStrs {C : Addr} : ∀ {vs : List Value} {ts : List (List Nat)}, LayAll C P vs (ts.map V.str) → ∃ l : List (Str × Tok), vs = strValues l ∧ l.map (·.1) = ts.map fun t => ⟨t.toArray⟩
  | _, [], .nil => ⟨[], rfl, rfl⟩
  | _, t :: ts, .cons l ls => by
    obtain ⟨l', e1, e2⟩ := ofLayStrs ls
    cases l with
    | str _ tk => exact ⟨(⟨t.toArray⟩, tk) :: l', by rw [e1]; rfl, by rw [List.map_cons, e2]; rfl⟩

open Builtin Builtin.Str in
theorem Op.split {x y : List Nat} (hx : x.length ≤ 1000000) (hy : y ≠ []) (h8 : y.all (· < 256) = true) : Op G k (opCall (.builtin "str.split")) [.str x, .str y] (.lst ((splitT y x).map V.str)) := Op.made2 fun P A s E Q a b hr ok inn la lb h => by
  cases la; cases lb
  rename_i t u
  have hsz : (⟨x.toArray⟩ : Str).length ≤ sizeLine := by rw [strLen]; exact Nat.le_trans hx (by decide)
  have hy' : ((⟨y.toArray⟩ : Str).length == 0) = false := by
    rw [strLen]; simp; exact hy
  have fin : ∀ (l : List (Str × Tok)) tk, l.map (·.1) = Txt.split ⟨x.toArray⟩ ⟨y.toArray⟩ → Q (.ref s.heap.objs.size) { s with heap := s.heap.push (listO (strValues l) 0), toks := tk } := fun l tk e => by
    refine h (listO (strValues l) 0) tk rfl fun P' le hp => .lst hp ?_
    have := layStrs (P := P') (C := G.C) l
    rw [e, show (fun (x : Str) => V.str x.cps.toList) = V.str ∘ (fun x => x.cps.toList) from rfl, ← List.map_map, split_eq x y hy h8] at this
    exact this
  show wpAny _ A (call (.builtin "str.split") [.str ⟨x.toArray⟩ t, .str ⟨y.toArray⟩ u]) Q E s
  cases h1 : (decide ((⟨x.toArray⟩ : Str).length < (⟨y.toArray⟩ : Str).length) || decide (Builtin.Str.strKind ⟨x.toArray⟩ < Builtin.Str.strKind ⟨y.toArray⟩))
  · cases hf : (occurrences ⟨x.toArray⟩ ⟨y.toArray⟩ 0 (⟨x.toArray⟩ : Str).length ((⟨x.toArray⟩ : Str).length + 1)).isEmpty
    · have hsz2 : (partsBetween ⟨x.toArray⟩ (occurrences ⟨x.toArray⟩ ⟨y.toArray⟩ 0 (⟨x.toArray⟩ : Str).length ((⟨x.toArray⟩ : Str).length + 1)) (⟨y.toArray⟩ : Str).length).length ≤ sizeLine := by
        have e : Txt.split ⟨x.toArray⟩ ⟨y.toArray⟩ = partsBetween ⟨x.toArray⟩ (occurrences ⟨x.toArray⟩ ⟨y.toArray⟩ 0 (⟨x.toArray⟩ : Str).length ((⟨x.toArray⟩ : Str).length + 1)) (⟨y.toArray⟩ : Str).length := (if_neg (ne_true_of_eq_false h1)).trans (if_neg (ne_true_of_eq_false hf))
        rw [← e]
        have := PyProof.Rows.split_weight ⟨x.toArray⟩ ⟨y.toArray⟩ (by rw [strLen]; exact List.length_pos_iff.mpr hy)
        rw [strLen] at this
        have h24 : sizeLine = 16777216 := rfl
        omega
      refine call_meets F.slot_str_split (typeIs_str _ _ _) F.entry_str_split (F.args_str_split_2 _ _) (meets_str_split_sep _ _ t u h1 hy' hf hsz hsz2) ?_
      show wants Q E _ { s with toks := _, heap := s.heap.push { cls := .type "list", data := .seq (strsFrom s.toks (partsBetween ⟨x.toArray⟩ (occurrences ⟨x.toArray⟩ ⟨y.toArray⟩ 0 (⟨x.toArray⟩ : Str).length ((⟨x.toArray⟩ : Str).length + 1)) (⟨y.toArray⟩ : Str).length)).toArray } }
      rw [strsFrom_eq]
      exact fin (numbered s.toks _) _ ((numbered_texts _ _).trans ((if_neg (ne_true_of_eq_false h1)).trans (if_neg (ne_true_of_eq_false hf))).symm)
    · exact call_meets F.slot_str_split (typeIs_str _ _ _) F.entry_str_split (F.args_str_split_2 _ _) (meets_str_split_not_found _ _ t u h1 hy' hf)
        (fin [(_, t)] s.toks ((if_neg (ne_true_of_eq_false h1)).trans (if_pos hf)).symm)
  · exact call_meets F.slot_str_split (typeIs_str _ _ _) F.entry_str_split (F.args_str_split_2 _ _) (meets_str_split_cannot_occur _ _ t u h1)
      (fin [(_, t)] s.toks (if_pos h1).symm)

theorem joinOk {sep : List Nat} {ts : List (List Nat)} (h : (ts.map List.length).sum + ts.length * sep.length ≤ 16777216) : JoinOk ⟨sep.toArray⟩ (ts.map fun t => ⟨t.toArray⟩) = true := by
  unfold JoinOk
  have key : ∀ (us : List (List Nat)) (a : Nat), (us.map fun t => (⟨t.toArray⟩ : Str)).foldl (fun n s => n + s.length + (⟨sep.toArray⟩ : Str).length) a = a + (us.map List.length).sum + us.length * sep.length := by
    intro us
    induction us with
    | nil => intro a; simp
    | cons u us ih =>
      intro a
      rw [List.map_cons, List.foldl_cons, ih, strLen, strLen, List.map_cons, List.sum_cons, List.length_cons, Nat.succ_mul]
      omega
  have e : ((ts.map fun t => (⟨t.toArray⟩ : Str)).toArray.foldl (fun n s => n + s.length + (⟨sep.toArray⟩ : Str).length) 0) = 0 + (ts.map List.length).sum + ts.length * sep.length := by
    rw [List.foldl_toArray', key]
    simp
  rw [e]
  simp [Builtin.Str.tooLong, sizeLine]
  omega
theorem Op.join {sep : List Nat} {ts : List (List Nat)} (h : (ts.map List.length).sum + ts.length * sep.length ≤ 16777216) : Op G k (opCall (.builtin "str.join")) [.str sep, .lst (ts.map V.str)] (.str (joinT sep ts)) := Op.pure2 fun P A s E Q a b hr ok inn la lb hQ => by
  cases la
  cases lb with
  | lst p ls =>
    obtain ⟨l, e1, e2⟩ := ofLayStrs ls
    subst e1
    refine SC.join ⟨_, inn _ _ p, rfl, _, rfl⟩ e2 (joinOk h) fun t' tk => ?_
    rw [join_eq]; exact hQ _ _ (.str _ _)
end
end Mine

namespace Mine
section
variable {G : Glo} {F : Fst} {k : Nat} {σ σ' σ₁ σ₂ : List Slot} {Γ : Act} {P : Part} {s : Shared}

def maxL : List Int → Int
  | [] => 0
  | x :: xs => xs.foldl max x
theorem foldl_max : ∀ (xs : List Int) (a : Int), (a ≤ xs.foldl max a ∧ (∀ y ∈ xs, y ≤ xs.foldl max a)) ∧ (xs.foldl max a = a ∨ xs.foldl max a ∈ xs)
  | [], a => by simp
  | x :: xs, a => by
    rw [List.foldl_cons]
    obtain ⟨⟨h1, h2⟩, h3⟩ := foldl_max xs (max a x)
    refine ⟨⟨by omega, fun y hy => ?_⟩, ?_⟩
    · rcases List.mem_cons.mp hy with rfl | hy
      · omega
      · exact h2 y hy
    · rcases h3 with h3 | h3
      · rw [h3]
        by_cases h : a ≤ x
        · exact .inr (by rw [Int.max_eq_right h]; exact List.mem_cons_self)
        · exact .inl (by omega)
      · exact .inr (List.mem_cons_of_mem _ h3)
theorem maxL_spec {ns : List Int} (h : ns ≠ []) : maxL ns ∈ ns ∧ ∀ a ∈ ns, a ≤ maxL ns := by
  cases ns with
  | nil => exact absurd rfl h
  | cons x xs =>
    obtain ⟨⟨h1, h2⟩, h3⟩ := foldl_max xs x
    refine ⟨?_, fun a ha => ?_⟩
    · rcases h3 with h3 | h3
      · show xs.foldl max x ∈ _; rw [h3]; exact List.mem_cons_self
      · exact List.mem_cons_of_mem _ h3
    · rcases List.mem_cons.mp ha with rfl | ha
      · exact h1
      · exact h2 a ha
theorem intsAre_of {C : Addr} : ∀ {vs : List Value} {ns : List Int}, LayAll C P vs (ns.map V.int) → IntsAre vs ns
  | _, [], .nil => .nil
  | _, n :: ns, .cons l ls => by
    cases l with
    | int _ t => exact .cons _ _ (intsAre_of ls)
theorem Op.max_lst {ns : List Int} (hne : ns ≠ []) : Op G k (opCall (.builtin "max")) [.lst (ns.map V.int)] (.int (maxL ns)) := by
  intro P A s E Q vals hr ok inn l hQ
  cases l with
  | cons l1 l =>
    cases l
    cases l1 with
    | lst p ls =>
      rename_i a vs n
      have hl : s.heap.IsList a vs.toArray := ⟨_, inn _ _ p, rfl, _, rfl⟩
      have hi := intsAre_of ls
      obtain ⟨xs, e⟩ := hi.allInts.items
      have hns : ns = xs.toList.map (·.1) := by rw [← hi.numsOf, ← nums_intItems, ← e]
      have hsz : 0 < xs.size := by
        have h3 : 0 < ns.length := List.length_pos_iff.mpr hne
        rw [hns, List.length_map, Array.length_toList] at h3; exact h3
      rw [e] at hl
      refine max_intList hr.1 hl hsz fun v h' tk hv hk => ?_
      obtain ⟨t, rfl⟩ := intItems_at hv
      obtain ⟨h1, h2⟩ := argBest_gt (numAt xs) (xs.size - 1)
      have hmem : numAt xs (argBest (fun i j => decide (numAt xs i > numAt xs j)) (xs.size - 1)) ∈ ns := by
        rw [hns, numAt_eq]; exact getD_mem (by rw [List.length_map, Array.length_toList]; omega)
      have hub : ∀ a ∈ ns, a ≤ numAt xs (argBest (fun i j => decide (numAt xs i > numAt xs j)) (xs.size - 1)) := fun a ha => by
        rw [hns] at ha
        obtain ⟨j, hj, rfl⟩ := mem_getD ha
        rw [List.length_map, Array.length_toList] at hj
        rw [← numAt_eq]; exact h2 j (by omega)
      have hM : numAt xs (argBest (fun i j => decide (numAt xs i > numAt xs j)) (xs.size - 1)) = maxL ns := by
        obtain ⟨m1, m2⟩ := maxL_spec hne
        have := hub _ m1
        have := m2 _ hmem
        omega
      rw [hM]
      exact hQ _ P h' tk hk (Part.le.refl _) (fun b o e => hk _ _ (inn b o e)) (fun _ _ e => .inl e) (.int _ _)
theorem Op.max2 {a b : Int} : Op G k (opCall (.builtin "max")) [.int a, .int b] (.int (max a b)) := by
  intro P A s E Q vals hr ok inn l hQ
  cases l with
  | cons l1 l =>
    cases l with
    | cons l2 l =>
      cases l; cases l1; cases l2
      refine max_two_ints hr.1 fun h' tk hk => ?_
      have fin : ∀ c t, c = max a b → Q (.int c t) { s with heap := h', toks := tk } := fun c t e => by
        subst e; exact hQ _ P h' tk hk (Part.le.refl _) (fun b o e => hk _ _ (inn b o e)) (fun _ _ e => .inl e) (.int _ _)
      split
      · exact fin _ _ (by omega)
      · exact fin _ _ (by omega)
end
end Mine

namespace Mine
section
variable {G : Glo} {F : Fst} {k k' : Nat} {σ σ' σ₁ σ₂ : List Slot} {Γ : Act} {P : Part} {s : Shared}

theorem bindL_other {kd : Str → Option NameKind} {x : Str} : ∀ (b : List (Str × Value)) (m : Str → Option Value), (∀ p ∈ b, p.1 ≠ x) → bindL kd b m x = m x
  | [], m, _ => rfl
  | (n, v) :: r, m, h => by
    rw [bindL, bindL_other r _ fun p hp => h p (List.mem_cons_of_mem _ hp)]
    split
    · have : x ≠ n := fun e => h (n, v) List.mem_cons_self e.symm
      simp [this]
    · rfl
theorem bindC_other {kd : Str → Option NameKind} {x : Str} : ∀ (b : List (Str × Value)) (m : Str → Option Value), (∀ p ∈ b, p.1 ≠ x) → bindC kd b m x = m x
  | [], m, _ => rfl
  | (n, v) :: r, m, h => by
    rw [bindC, bindC_other r _ fun p hp => h p (List.mem_cons_of_mem _ hp)]
    split
    · rfl
    · have : x ≠ n := fun e => h (n, v) List.mem_cons_self e.symm
      simp [this]
theorem zip_fst {pn : List Str} {vs : List Value} {p : Str × Value} (h : p ∈ pn.zip vs) : p.1 ∈ pn := (List.of_mem_zip h).1
theorem bindL_get {kd : Str → Option NameKind} {x : Str} {v : Value} : ∀ (pn : List Str) (vs : List Value) (m : Str → Option Value) (i : Nat), pn.Nodup → pn[i]? = some x → vs[i]? = some v → kd x = some .local → bindL kd (pn.zip vs) m x = some v
  | [], _, _, i, _, h, _, _ => by simp at h
  | _ :: _, [], _, i, _, _, h, _ => by simp at h
  | n :: pn, w :: vs, m, 0, hn, hx, hv, hk => by
    simp at hx hv; subst hx; subst hv
    have ho : ∀ p ∈ pn.zip vs, p.1 ≠ n := fun p hp e => (List.nodup_cons.mp hn).1 (by rw [← e]; exact zip_fst hp)
    rw [List.zip_cons_cons, bindL, bindL_other _ _ ho, if_pos hk]
    simp
  | n :: pn, w :: vs, m, i + 1, hn, hx, hv, hk => by
    rw [List.zip_cons_cons, bindL]
    exact bindL_get pn vs _ i (List.nodup_cons.mp hn).2 (by simpa using hx) (by simpa using hv) hk
theorem bindC_get {kd : Str → Option NameKind} {x : Str} {v : Value} : ∀ (pn : List Str) (vs : List Value) (m : Str → Option Value) (i : Nat), pn.Nodup → pn[i]? = some x → vs[i]? = some v → kd x ≠ some .local → bindC kd (pn.zip vs) m x = some v
  | [], _, _, i, _, h, _, _ => by simp at h
  | _ :: _, [], _, i, _, _, h, _ => by simp at h
  | n :: pn, w :: vs, m, 0, hn, hx, hv, hk => by
    simp at hx hv; subst hx; subst hv
    have ho : ∀ p ∈ pn.zip vs, p.1 ≠ n := fun p hp e => (List.nodup_cons.mp hn).1 (by rw [← e]; exact zip_fst hp)
    rw [List.zip_cons_cons, bindC, bindC_other _ _ ho, if_neg hk]
    simp
  | n :: pn, w :: vs, m, i + 1, hn, hx, hv, hk => by
    rw [List.zip_cons_cons, bindC]
    exact bindC_get pn vs _ i (List.nodup_cons.mp hn).2 (by simpa using hx) (by simpa using hv) hk

/-- the arguments' binding -/
def BindF (G : Glo) (fd : FuncData) (args : List V) (pn : List Str) (av : List V) : Prop :=
  ∀ (P : Part) (A : Around) (s : Shared) (E : Value → Shared → Prop) (Q : List (Str × Value) → Shared → Prop) (vals : List Value), G.Ok s → P.In s.heap → LayAll G.C P vals args →
    (∀ bvals P' h', Kept s.heap h' → P.le P' → P'.In h' → (∀ a o, P' a = some o → P a = some o ∨ s.heap.get? a = none) → LayAll G.C P' bvals av → Q (pn.zip bvals) { s with heap := h' }) →
    wpAny (model G.prog G.w) A (bindArgs fd ⟨vals, []⟩) Q E s
theorem BindF.one {fd : FuncData} {x : Str} {a : V} (h : ∀ v, bindArgs fd ⟨[v], []⟩ = pure [(x, v)]) : BindF G fd [a] [x] [a] := by
  intro P A s E Q vals ok inn l hQ
  cases l with
  | cons l1 l => cases l; rw [h]; exact wpAny_pure (hQ [_] P s.heap (Kept.refl _) (Part.le.refl _) inn (fun _ _ e => .inl e) (.cons l1 .nil))
theorem BindF.two {fd : FuncData} {x y : Str} {a b : V} (h : ∀ v w, bindArgs fd ⟨[v, w], []⟩ = pure [(x, v), (y, w)]) : BindF G fd [a, b] [x, y] [a, b] := by
  intro P A s E Q vals ok inn l hQ
  cases l with
  | cons l1 l => cases l with
    | cons l2 l => cases l; rw [h]; exact wpAny_pure (hQ [_, _] P s.heap (Kept.refl _) (Part.le.refl _) inn (fun _ _ e => .inl e) (.cons l1 (.cons l2 .nil)))
theorem BindF.three {fd : FuncData} {x y z : Str} {a b c : V} (h : ∀ u v w, bindArgs fd ⟨[u, v, w], []⟩ = pure [(x, u), (y, v), (z, w)]) : BindF G fd [a, b, c] [x, y, z] [a, b, c] := by
  intro P A s E Q vals ok inn l hQ
  cases l with
  | cons l1 l => cases l with
    | cons l2 l => cases l with
      | cons l3 l => cases l; rw [h]; exact wpAny_pure (hQ [_, _, _] P s.heap (Kept.refl _) (Part.le.refl _) inn (fun _ _ e => .inl e) (.cons l1 (.cons l2 (.cons l3 .nil))))
/-- f(a), the second parameter by its default -/
theorem BindF.dflt {fd : FuncData} {x y : Str} {a : V} {i : Int} {t : Tok} (h : ∀ v S, peek G.K S (bindArgs fd ⟨[v], []⟩) = some [(x, v), (y, .int i t)]) : BindF G fd [a] [x, y] [a, .int i] := by
  intro P A s E Q vals ok inn l hQ
  cases l with
  | cons l1 l =>
    cases l
    intro Γ p hΓ
    exact wp_of_peek ok.kin (hQ [_, _] P s.heap (Kept.refl _) (Part.le.refl _) inn (fun _ _ e => .inl e) (.cons l1 (.cons (.int i t) .nil))) _ (h _ _)
/-- f(a, *[b, c]) -/
theorem BindF.star {fd : FuncData} {x y : Str} {a b c : V} (h : ∀ u v w, bindArgs fd ⟨[u, v, w], []⟩ = (newTuple [v, w] >>= fun t => pure [(x, u), (y, t)])) : BindF G fd [a, b, c] [x, y] [a, .tup [b, c]] := by
  intro P A s E Q vals ok inn l hQ
  cases l with
  | cons l1 l => cases l with
    | cons l2 l => cases l with
      | cons l3 l =>
        cases l
        rename_i u v w
        rw [h]
        obtain ⟨f1, f2, f3⟩ := put_facts (P := P) (h := s.heap) (o := tupO [v, w] 0) inn rfl
        refine wpAny_bind (wpAny_newObj_type (wpAny_pure ?_))
        exact hQ [u, .ref s.heap.objs.size] _ _ (Kept.push _ _) f1 f2 f3 (.cons (l1.mono f1) (.cons (.tup (Part.put_self _ _ _) (.cons (l2.mono f1) (.cons (l3.mono f1) .nil))) .nil))

theorem get?_ge {h : Heap} {a : Addr} (ha : h.objs.size ≤ a) : h.get? a = none := by
  cases e : h.get? a with
  | none => rfl
  | some o => exact absurd (Heap.lt_size e) (Nat.not_lt.mpr ha)

/-- a frame just made -/
theorem St.start {pn rest : List Str} {av : List V} {env : Env} {bvals : List Value} {s1 s2 : Shared} (ok1 : G.Ok s1) (inn : P.In s1.heap) (hsc : env.scope = F.scope) (hk : F.scope.kind = .function) (hgl : env.globals = mainGlobals) (hbl : env.builtins = builtinsNs)
    (hL : env.locals = s1.heap.objs.size) (hcs : env.cells = cellsFrom (s1.heap.objs.size + 1) F.scope.names []) (hnames : F.names = pn ++ rest) (hnd : F.names.Nodup)
    (hkinds : (pn.all fun x => F.scope.names.lookup x == some .local || F.owns.contains x) = true) (howns : (F.owns.all fun x => F.scope.names.lookup x == some .cell) = true) (l : LayAll G.C P bvals av) (hlen : pn.length = av.length)
    (x : InCallC s1 env.locals (bindL env.kindOf (pn.zip bvals) fun _ => none) env.cells (bindC env.kindOf (pn.zip bvals) fun _ => none) s2) :
    St G F ⟨env, fun a => s1.heap.get? a, P⟩ P (av.map .val ++ rest.map fun _ => .un) s2 := by
  have hsz : ∀ a, s1.heap.objs.size ≤ a → P a = none := fun a ha => by
    cases e : P a with
    | none => rfl
    | some q => have := inn _ _ e; rw [get?_ge ha] at this; cases this
  obtain ⟨h', tk, es⟩ := x.toInCall.same
  have hcell : ∀ y ∈ F.owns, env.kindOf y = some .cell ∧ ∃ c, env.cells.lookup y = some c ∧ s2.heap.IsCell c (bindC env.kindOf (pn.zip bvals) (fun _ => none) y) ∧ s1.heap.get? c = none ∧ P c = none := fun y hy => by
    have h1 : F.scope.names.lookup y = some .cell := by
      have := List.all_eq_true.mp howns y hy
      simpa using this
    have h2 : ((cellsFrom (s1.heap.objs.size + 1) F.scope.names []).lookup y).isSome = true := cellsFrom_some _ _ _ (.inl h1)
    rw [← hcs] at h2
    obtain ⟨c, hc⟩ := Option.isSome_iff_exists.mp h2
    have hab := x.above y c (mem_of_lookup hc)
    rw [hL] at hab
    refine ⟨by show env.scope.names.lookup y = _; rw [hsc]; exact h1, c, hc, x.cell y c hc, get?_ge (Nat.le_of_lt hab), hsz c (Nat.le_of_lt hab)⟩
  have hpn : pn.Nodup := by rw [hnames] at hnd; exact (List.nodup_append.mp hnd).1
  refine ⟨⟨?_, fun a o e => x.toInCall.keep a o (ok1.keep a o e)⟩, hsc, hk, hgl, hbl, hnd, fun p _ q c h1 h2 => ?_, fun a o e => ok1.keep a o e, fun a o e => x.toInCall.keep a o e, fun a o e => x.toInCall.keep a o (inn a o e), Part.le.refl _, fun a o e => .inl e, ⟨_, x.toInCall.ns⟩, ?_, ?_, fun y hy => ?_, ?_⟩
  · obtain ⟨h0, t0, e0⟩ := ok1.same
    exact ⟨h', tk, by rw [es, e0]⟩
  · exact name_of_addr x.apart (mem_of_lookup h1) (mem_of_lookup h2)
  · show s1.heap.get? env.locals = none
    rw [hL]; exact get?_size _
  · show P env.locals = none
    rw [hL]; exact hsz _ (Nat.le_refl _)
  · obtain ⟨h1, c, h2, h3, h4, h5⟩ := hcell y hy
    exact ⟨h1, c, _, h2, h3, h4, h5⟩
  · have hslot : ∀ (i : Nat) (sl : Slot), (av.map Slot.val ++ rest.map fun _ => Slot.un)[i]? = some sl → sl = .un ∨ ∃ v, sl = .val v ∧ av[i]? = some v := fun i sl h => by
      rw [List.getElem?_append] at h
      split at h
      · rw [List.getElem?_map] at h
        obtain ⟨v, h1, h2⟩ := Option.map_eq_some_iff.mp h
        exact .inr ⟨v, h2.symm, h1⟩
      · rw [List.getElem?_map] at h
        obtain ⟨v, h1, h2⟩ := Option.map_eq_some_iff.mp h
        exact .inl h2.symm
    refine ⟨fun _ => 0, fun i j a b ha hb h1 _ _ => ?_, fun i y sl hy hsl => ?_⟩
    · rcases hslot i a ha with rfl | ⟨v, rfl, _⟩ <;> cases h1
    · rcases hslot i sl hsl with rfl | ⟨v, rfl, hv⟩
      · trivial
      · obtain ⟨val, hval, lv⟩ := l.get hv
        have hi : i < pn.length := by rw [hlen]; exact (List.getElem?_eq_some_iff.mp hv).1
        have hy' : pn[i]? = some y := by rw [hnames, List.getElem?_append_left hi] at hy; exact hy
        refine ⟨val, ?_, lv⟩
        have hky := List.all_eq_true.mp hkinds y (List.mem_of_getElem? hy')
        rcases Bool.or_eq_true_iff.mp hky with h1 | h1
        · have h1' : env.kindOf y = some .local := by show env.scope.names.lookup y = _; rw [hsc]; simpa using h1
          exact .inl ⟨h1', _, x.toInCall.ns, bindL_get pn bvals _ i hpn hy' hval h1'⟩
        · obtain ⟨q1, c, q2, q3, _, _⟩ := hcell y (by simpa using h1)
          rw [bindC_get pn bvals _ i hpn hy' hval (by rw [q1]; decide)] at q3
          exact .inr ⟨.inl q1, c, q2, q3⟩

/-- a def of the text's -/
structure IsDef (G : Glo) (a : Addr) (fd : FuncData) (body : List Stmt) : Prop where
  obj : ∃ o, G.K.lookup a = some o ∧ o.data = .func fd
  code : codeIn G.K fd.code fd.qualname = true
  body : fd.body = .stmts body
  closure : fd.closure = []
  globals : fd.globals = mainGlobals
  builtins : fd.builtins = builtinsNs
  co : fd.scope.isCoroutine = false
  gen : fd.scope.isGenerator = false

theorem Room.deeper {k k' : Nat} {A : Around} {env : Env} (r : Room k A) (h : k' + 5 ≤ k) : Room k' (A.deeper env) := by
  obtain ⟨r1, r2, r3⟩ := r
  refine ⟨r1, ?_, ?_⟩
  · show A.depth + 1 + k' ≤ 900; omega
  · show A.units + 3 + 20 * k' + 200 ≤ 9900; omega

theorem St.ofOut {v : V} {fl : Flow} (o : OutIs G F Γ P fl s (.ret v)) : ∃ val, fl = .ret val ∧ Lay G.C P val v ∧ ∃ σ, St G F Γ P σ s := o

theorem Op.def_ {a : Addr} {fd : FuncData} {body : List Stmt} {pn rest : List Str} {args av : List V} {v : V} (D : IsDef G a fd body) (hsc : fd.scope = F.scope) (hb : BindF G fd args pn av)
    (hnames : F.names = pn ++ rest) (hnd : F.names.Nodup) (hk : F.scope.kind = .function) (hkinds : (pn.all fun x => F.scope.names.lookup x == some .local || F.owns.contains x) = true) (howns : (F.owns.all fun x => F.scope.names.lookup x == some .cell) = true) (hlen : pn.length = av.length)
    (hE : Exs G F k' (av.map .val ++ rest.map fun _ => .un) body (.ret v)) (hkk : k' + 5 ≤ k) : Op G k (opCall (.ref a)) args v := by
  intro P A s E Q vals hr ok inn l hQ
  obtain ⟨o, ho, hd⟩ := D.obj
  refine wpAny_call (codeAny_call_function (by have := hr.2.1; show A.depth < 1000; omega) (ok.kin _ _ ho) hd D.co D.gen D.body (codeRec_of ok.kin D.code) ?_)
  refine hb P A.in1 s _ _ vals ok inn l fun bvals P1 h1 kp le1 in1 nw1 l1 => ?_
  rw [D.closure]
  have ok1 : G.Ok { s with heap := h1 } := ok.to (tk := s.toks) kp
  have hlb : pn.length = bvals.length := by rw [hlen, l1.length]
  refine wpAny_newFunctionEnv_cells (by rw [hsc]; exact hk) (fun p hp => ?_) fun env he s2 x => ?_
  · have hky := List.all_eq_true.mp hkinds p.1 (zip_fst hp)
    rw [hsc]
    rcases Bool.or_eq_true_iff.mp hky with q | q
    · exact .inl (by simpa using q)
    · have q' : F.scope.names.lookup p.1 = some .cell := by
        have := List.all_eq_true.mp howns p.1 (by simpa using q)
        simpa using this
      exact .inr ⟨q', cellsFrom_some _ _ _ (.inl q')⟩
  · have st := St.start (F := F) (rest := rest) (env := env) (s2 := s2) ok1 in1 (by rw [he]; exact hsc) hk (by rw [he]; exact D.globals) (by rw [he]; exact D.builtins) (by rw [he]; rfl) (by rw [he, ← hsc]; rfl) hnames hnd hkinds howns l1 hlen x
    refine ⟨G.nolimit.keeps st.ok.keep, codeAny_func ?_⟩
    refine hE ⟨env, fun a => h1.get? a, P1⟩ P1 (A.deeper env) s2 _ _ (hr.deeper hkk) st fun fl P2 s3 le2 ou => ?_
    obtain ⟨val, rfl, lv, σ3, st3⟩ := ou
    obtain ⟨h0, t0, e0⟩ := ok.same
    obtain ⟨h3, t3, e3⟩ := st3.ok.same
    have es : s3 = { s with heap := s3.heap, toks := s3.toks } := by rw [e3, e0]
    show Q val s3
    rw [es]
    refine hQ val P2 s3.heap s3.toks (fun b q e => st3.keep b q (kp b q e)) (le1.trans le2) st3.inP (fun b q e => ?_) lv
    rcases st3.new b q e with h | h
    · exact nw1 b q h
    · refine .inr ?_
      cases e4 : s.heap.get? b with
      | none => rfl
      | some o4 => have := kp b o4 e4; rw [show h1.get? b = none from h] at this; cases this
end
end Mine

namespace Mine
section
variable {G : Glo} {F Fc : Fst} {k k' : Nat} {σ σ' σ₁ σ₂ σc : List Slot} {Γ : Act} {P : Part} {s : Shared}

theorem get?_push_ne {h : Heap} {o : Obj} {a : Addr} (ha : a ≠ h.objs.size) : (h.push o).get? a = h.get? a := by
  cases h with
  | mk objs life =>
    simp only at ha
    unfold Heap.get? Heap.push
    simp only [Array.getElem?_push]
    rw [if_neg ha]
theorem base_push {h : Heap} {o : Obj} (hf : o.isFreed = false) : (fun a => (h.push o).get? a) = Part.put (fun a => h.get? a) h.objs.size o := by
  funext a
  by_cases ha : a = h.objs.size
  · subst ha; rw [Part.put_self]; exact Heap.get?_push_size _ hf
  · rw [Part.put_ne _ _ ha]; exact get?_push_ne ha

/-- slots forgotten -/
def Wk (σ' σc : List Slot) : Prop := ∀ (i : Nat) (sl : Slot), σc[i]? = some sl → sl = Slot.un ∨ σ'[i]? = some sl
theorem St.weak (st : St G F Γ P σ s) (h : Wk σ σ') : St G F Γ P σ' s := by
  obtain ⟨α, hinj, hvar⟩ := st.vars
  refine { st with vars := ⟨α, fun i j a b ha hb h1 h2 e => ?_, fun i x sl h1 h2 => ?_⟩ }
  · rcases h i a ha with rfl | ha'
    · cases h1
    · rcases h j b hb with rfl | hb'
      · cases h2
      · exact hinj i j a b ha' hb' h1 h2 e
  · rcases h i sl h2 with rfl | h2'
    · trivial
    · exact hvar i x sl h1 h2'
theorem Wk.refl (σ : List Slot) : Wk σ σ := fun _ _ h => .inr h

def closL (cells : List (Str × Addr)) : List (Str × NameKind) → List (Str × Addr) → List (Str × Addr)
  | [], acc => acc
  | (n, kd) :: r, acc => if kd == .free then (match cells.lookup n with | some c => closL cells r ((n, c) :: acc) | none => closL cells r acc) else closL cells r acc
theorem closureFor_eq {scope : Scope} {env : Env} (h : ∀ n, (n, NameKind.free) ∈ scope.names → (env.cells.lookup n).isSome = true) : closureFor scope env = pure (closL env.cells scope.names []) := by
  have key : ∀ (names : List (Str × NameKind)) (acc : List (Str × Addr)), (∀ n, (n, NameKind.free) ∈ names → (env.cells.lookup n).isSome = true) →
      (forIn names acc fun x r => if (x.2 == NameKind.free) = true then (do let a ← cellOf env x.1; pure (ForInStep.yield ((x.1, a) :: r))) else pure (ForInStep.yield r) : Sem _) = pure (closL env.cells names acc) := by
    intro names
    induction names with
    | nil => intro acc _; rfl
    | cons x r ih =>
      intro acc hn
      obtain ⟨n, kd⟩ := x
      have hr : ∀ n, (n, NameKind.free) ∈ r → (env.cells.lookup n).isSome = true := fun n hm => hn n (List.mem_cons_of_mem _ hm)
      rw [List.forIn_cons]
      by_cases hk : (kd == NameKind.free) = true
      · have hk' : kd = .free := by simpa using hk
        obtain ⟨c, hc⟩ := Option.isSome_iff_exists.mp (hn n (by rw [hk']; exact List.mem_cons_self))
        have e1 : cellOf env n = pure c := by unfold cellOf; rw [hc]
        simp only [hk, if_true, e1, pure_bind]
        rw [ih _ hr, closL, if_pos hk, hc]
      · simp only [hk, if_false, pure_bind, Bool.false_eq_true]
        rw [ih _ hr, closL, if_neg hk]
  simp only [closureFor]
  rw [key _ _ h]
  rfl
theorem closL_some {cells : List (Str × Addr)} {x : Str} {c : Addr} : ∀ (names : List (Str × NameKind)) (acc : List (Str × Addr)), (∀ c, acc.lookup x = some c → cells.lookup x = some c) → (closL cells names acc).lookup x = some c → cells.lookup x = some c
  | [], acc, h, e => h c e
  | (n, kd) :: r, acc, h, e => by
    rw [closL] at e
    split at e
    · split at e
      · rename_i c' hc'
        refine closL_some r _ (fun c'' h'' => ?_) e
        rw [List.lookup_cons] at h''
        split at h''
        · rename_i hb; cases h''; rw [beq_iff_eq.mp hb]; exact hc'
        · exact h _ h''
      · exact closL_some r _ h e
    · exact closL_some r _ h e
theorem closL_has {cells : List (Str × Addr)} {x : Str} {c : Addr} (hc : cells.lookup x = some c) : ∀ (names : List (Str × NameKind)) (acc : List (Str × Addr)), ((x, NameKind.free) ∈ names ∨ (acc.lookup x).isSome = true) → ((closL cells names acc).lookup x).isSome = true
  | [], acc, h => h.elim (fun e => nomatch e) id
  | (n, kd) :: r, acc, h => by
    rw [closL]
    split
    · rename_i hk
      split
      · rename_i c' hc'
        refine closL_has hc r _ ?_
        by_cases hx : x = n
        · subst hx; exact .inr (by rw [List.lookup_cons]; simp)
        · rcases h with h | h
          · rcases List.mem_cons.mp h with e | h
            · exact absurd (Prod.mk.inj e).1 hx
            · exact .inl h
          · refine .inr ?_
            rw [List.lookup_cons]
            have : (x == n) = false := by simpa using hx
            rw [this]; exact h
      · rename_i hc'
        refine closL_has hc r _ ?_
        rcases h with h | h
        · rcases List.mem_cons.mp h with e | h
          · have := (Prod.mk.inj e).1; rw [this, hc'] at hc; cases hc
          · exact .inl h
        · exact .inr h
    · rename_i hk
      refine closL_has hc r _ ?_
      rcases h with h | h
      · rcases List.mem_cons.mp h with e | h
        · exact absurd (by rw [← (Prod.mk.inj e).2]; rfl) hk
        · exact .inl h
      · exact .inr h

/-- the frame of a comprehension: no cell of its own, or one -/
def cellsOf : Option Str → Nat → List (Str × Addr) → List (Str × Addr)
  | none, _, acc => acc
  | some x, n, acc => (x, n) :: acc
def heapOf : Option Str → Heap → Heap
  | none, h => h
  | some _, h => h.push { cls := .type "cell", data := .cell none }

theorem newEnvC {scope : Scope} {globals : Addr} {clos : List (Str × Addr)} {qual : Str} {env : Env} {oc : Option Str} {M : Model} {A : Around} {E : Value → Shared → Prop} {Q : Env → Shared → Prop} (hc : ∀ n acc, cellsFrom n scope.names acc = cellsOf oc n acc) (hp : ∀ h, pushCells h scope.names = heapOf oc h)
    (h : Q (newEnv scope s.heap.objs.size globals (cellsOf oc (s.heap.objs.size + 1) clos) qual none .none (some env) builtinsNs) { s with heap := heapOf oc (s.heap.push { cls := .type "dict", data := .dict #[] }) }) :
    wpAny M A (newFunctionEnv scope globals clos [] qual none .none (some env)) Q E s := by
  simp only [newFunctionEnv, Option.isSome_some, if_true]
  refine wpAny_bind (wpAny_alloc ?_)
  refine wpAny_bind (wpAny_layCells _ (fun name kind cells => by cases hkc : kind == NameKind.cell <;> simp [hkc]) _ _ _ _ ?_)
  rw [hp, show ({ s with heap := s.heap.push { cls := .type "dict", data := .dict #[] } } : Shared).heap.objs.size = s.heap.objs.size + 1 from Heap.size_push .., hc]
  exact wpAny_bind (wpAny_pure (wpAny_pure h))

/-- the scope that a comprehension's frame has within that of its def -/
def compScope (outer scope : Scope) : Scope :=
  { scope with names := scope.names.map fun x => if x.2 == .free && outer.kind == .function && outer.names.lookup x.1 == some .cell then (x.1, .cell) else (x.1, x.2) }

/-- what is fixed of a comprehension: its scope as written, its own names, what it sees of the frame around with the values there -/
structure CompOk (F Fc : Fst) (sc : Scope) (σ : List Slot) (vs : List Str) (oc : Option Str) (cap : List (Str × V)) : Prop where
  scope : Fc.scope = compScope F.scope sc
  kind : sc.kind = .function
  names : Fc.names = vs ++ cap.map (·.1)
  nodup : Fc.names.Nodup
  owns : Fc.owns = oc.toList
  own : ∀ x, oc = some x → Fc.scope.names.lookup x = some .cell ∧ sc.names.lookup x = some .cell
  cells : ∀ n acc, cellsFrom n sc.names acc = cellsOf oc n acc
  push : ∀ h, pushCells h sc.names = heapOf oc h
  free : ∀ n, (n, NameKind.free) ∈ sc.names → n ∈ cap.map (·.1)
  caps : ∀ p ∈ cap, oc ≠ some p.1 ∧ (p.1, NameKind.free) ∈ sc.names ∧ (Fc.scope.names.lookup p.1 = some .cell ∨ Fc.scope.names.lookup p.1 = some .free) ∧ (F.scope.names.lookup p.1 = some .cell ∨ F.scope.names.lookup p.1 = some .free) ∧ ∃ i : Nat, F.names[i]? = some p.1 ∧ σ[i]? = some (.val p.2)
  locals : ∀ x ∈ sc.names, x.2 = .local → Fc.scope.names.lookup x.1 = some .local

theorem CompOk.bnd {scope : Scope} {vs : List Str} {oc : Option Str} {cap : List (Str × V)} (c : CompOk F Fc scope σ vs oc cap) (st : St G F Γ P σ s) {p : Str × V} (hp : p ∈ cap) : ∃ a val, Γ.env.cells.lookup p.1 = some a ∧ s.heap.IsCell a (some val) ∧ Lay G.C P val p.2 := by
  obtain ⟨_, _, _, h2, i, h3, h4⟩ := c.caps p hp
  obtain ⟨α, _, hvar⟩ := st.vars
  obtain ⟨val, b, l⟩ := hvar i _ _ h3 h4
  rcases b with ⟨e, _⟩ | ⟨_, a, q, r⟩
  · have e' : F.scope.names.lookup p.1 = some .local := by rw [← st.scope]; exact e
    rcases h2 with h2 | h2 <;> rw [h2] at e' <;> cases e'
  · exact ⟨a, val, q, r, l⟩

def compEnv (env : Env) (Fc : Fst) (scope : Scope) (L : Addr) (cells : List (Str × Addr)) : Env := { newEnv scope L env.globals cells env.qual none .none (some env) builtinsNs with scope := Fc.scope }

theorem heapOf_kept (oc : Option Str) (h : Heap) : Kept h (heapOf oc h) := by
  cases oc with
  | none => exact Kept.refl _
  | some x => exact Kept.push _ _

theorem St.startC {scope : Scope} {vs : List Str} {oc : Option Str} {cap : List (Str × V)} (c : CompOk F Fc scope σ vs oc cap) (st : St G F Γ P σ s) {o : Obj} (hf : o.isFreed = false) :
    St G Fc (((⟨compEnv Γ.env Fc scope (s.heap.objs.size + 2) (cellsOf oc (s.heap.objs.size + 3) (closL Γ.env.cells scope.names [])), fun a => s.heap.get? a, P⟩ : Act).prot s.heap.objs.size o).prot (s.heap.objs.size + 1) (listO [] 0)) P
      ((vs.map fun _ => Slot.un) ++ cap.map fun p => .val p.2)
      { s with heap := heapOf oc (((s.heap.push o).push (listO [] 0)).push { cls := .type "dict", data := .dict #[] }) } := by
  have hz1 : (s.heap.push o).objs.size = s.heap.objs.size + 1 := Heap.size_push ..
  have hz2 : ((s.heap.push o).push (listO [] 0)).objs.size = s.heap.objs.size + 2 := by rw [Heap.size_push, hz1]
  have hz3 : (((s.heap.push o).push (listO [] 0)).push { cls := .type "dict", data := .dict #[] }).objs.size = s.heap.objs.size + 3 := by rw [Heap.size_push, hz2]
  have hbase : (((⟨compEnv Γ.env Fc scope (s.heap.objs.size + 2) (cellsOf oc (s.heap.objs.size + 3) (closL Γ.env.cells scope.names [])), fun a => s.heap.get? a, P⟩ : Act).prot s.heap.objs.size o).prot (s.heap.objs.size + 1) (listO [] 0)).base = fun a => ((s.heap.push o).push (listO [] 0)).get? a := by
    rw [base_push (h := s.heap.push o) rfl, base_push (h := s.heap) hf, hz1]; rfl
  have k1 : Kept s.heap ((s.heap.push o).push (listO [] 0)) := (Kept.push _ _).trans (Kept.push _ _)
  have k2 : Kept ((s.heap.push o).push (listO [] 0)) (heapOf oc (((s.heap.push o).push (listO [] 0)).push { cls := .type "dict", data := .dict #[] })) := (Kept.push _ _).trans (heapOf_kept _ _)
  have hP : ∀ a, s.heap.objs.size ≤ a → P a = none := fun a ha => by
    cases e : P a with
    | none => rfl
    | some q => have := st.inP _ _ e; rw [get?_ge ha] at this; cases this
  have hclos : ∀ y a, (closL Γ.env.cells scope.names []).lookup y = some a → Γ.env.cells.lookup y = some a := fun y a e => closL_some _ [] (fun _ e => nomatch e) e
  have hlt : ∀ y a, (closL Γ.env.cells scope.names []).lookup y = some a → a < s.heap.objs.size ∨ y ∉ cap.map (·.1) := fun y a e => by
    by_cases hy : y ∈ cap.map (·.1)
    · obtain ⟨p, hp, rfl⟩ := List.mem_map.mp hy
      obtain ⟨a', val, h1, ⟨oc', h2, _⟩, _⟩ := c.bnd st hp
      rw [hclos _ _ e] at h1; cases h1
      exact .inl (Heap.lt_size h2)
    · exact .inr hy
  have hkfree : ∀ (names : List (Str × NameKind)) (acc : List (Str × Addr)) y a, (closL Γ.env.cells names acc).lookup y = some a → (y, NameKind.free) ∈ names ∨ (acc.lookup y).isSome = true := by
    intro names
    induction names with
    | nil => intro acc y a e; exact .inr (by rw [show acc.lookup y = some a from e]; rfl)
    | cons x r ih =>
      intro acc y a e
      obtain ⟨n, kd⟩ := x
      rw [closL] at e
      split at e
      · rename_i hk
        have hk' : kd = .free := by simpa using hk
        split at e
        · rcases ih _ y a e with h | h
          · exact .inl (List.mem_cons_of_mem _ h)
          · rw [List.lookup_cons] at h
            split at h
            · rename_i hb; exact .inl (by rw [beq_iff_eq.mp hb, hk']; exact List.mem_cons_self)
            · exact .inr h
        · exact (ih _ y a e).imp (List.mem_cons_of_mem _) id
      · exact (ih _ y a e).imp (List.mem_cons_of_mem _) id
  have hcl : ∀ y a, (closL Γ.env.cells scope.names []).lookup y = some a → a < s.heap.objs.size := fun y a e => by
    rcases hlt y a e with h | h
    · exact h
    · rcases hkfree _ _ _ _ e with h1 | h1
      · exact absurd (c.free y h1) h
      · cases h1
  refine ⟨⟨let ⟨_, _, e⟩ := st.ok.same; ⟨_, _, by rw [e]⟩, st.ok.keep.trans (k1.trans k2)⟩, rfl, ?_, st.globals, st.builtins, c.nodup, fun x hx y a h1 h2 => ?_, fun a q e => ?_, fun a q e => ?_, fun a q e => k2 _ _ (k1 _ _ (st.inP a q e)), Part.le.refl _, fun a q e => .inl e, ?_, ?_, ?_, fun x hx => ?_, ?_⟩
  · rw [c.scope]; exact c.kind
  · rw [c.owns] at hx
    cases oc with
    | none => cases hx
    | some x0 =>
      have ex : x = x0 := by simpa using hx
      subst ex
      have e1 : a = s.heap.objs.size + 3 := by
        have : (List.lookup x ((x, s.heap.objs.size + 3) :: closL Γ.env.cells scope.names [])) = some a := h1
        rw [List.lookup_cons] at this
        simp at this; exact this.symm
      have h2' : (List.lookup y ((x, s.heap.objs.size + 3) :: closL Γ.env.cells scope.names [])) = some a := h2
      rw [List.lookup_cons] at h2'
      split at h2'
      · rename_i hb; exact (beq_iff_eq.mp hb).symm
      · have h9 : a < s.heap.objs.size := hcl y a h2'
        rw [e1] at h9; exact absurd h9 (Nat.not_lt.mpr (Nat.le_add_right _ 3))
  · rw [hbase]; exact k1 _ _ (st.ok.keep a q e)
  · rw [hbase] at e; exact k2 _ _ e
  · have hm := Heap.Ns.keeps (Heap.Ns.new ((s.heap.push o).push (listO [] 0)) (.type "dict")) (heapOf_kept oc _)
    rw [hz2] at hm
    exact ⟨_, hm⟩
  · rw [hbase]
    show ((s.heap.push o).push (listO [] 0)).get? (s.heap.objs.size + 2) = none
    rw [← hz2]; exact get?_size _
  · exact hP _ (by show s.heap.objs.size ≤ s.heap.objs.size + 2; omega)
  · rw [c.owns] at hx
    cases oc with
    | none => cases hx
    | some x0 =>
      have ex : x = x0 := by simpa using hx
      subst ex
      refine ⟨(c.own x rfl).1, s.heap.objs.size + 3, none, ?_, ⟨{ cls := .type "cell", data := .cell none }, ?_, rfl⟩, ?_, hP _ (by omega)⟩
      · show List.lookup x ((x, s.heap.objs.size + 3) :: closL Γ.env.cells scope.names []) = _
        rw [List.lookup_cons]; simp
      · show ((((s.heap.push o).push (listO [] 0)).push _).push _).get? (s.heap.objs.size + 3) = _
        rw [← hz3]; exact Heap.get?_push_size _ rfl
      · rw [hbase]; exact get?_ge (by rw [hz2]; omega)
  · have hslot : ∀ (i : Nat) (sl : Slot), ((vs.map fun _ => Slot.un) ++ cap.map fun p => Slot.val p.2)[i]? = some sl → sl = .un ∨ ∃ p, sl = .val p.2 ∧ vs.length ≤ i ∧ cap[i - vs.length]? = some p := fun i sl h => by
      rw [List.getElem?_append] at h
      split at h
      · rw [List.getElem?_map] at h
        obtain ⟨v, h1, h2⟩ := Option.map_eq_some_iff.mp h
        exact .inl h2.symm
      · rename_i hi
        rw [List.getElem?_map, List.length_map] at h
        obtain ⟨p, h1, h2⟩ := Option.map_eq_some_iff.mp h
        rw [List.length_map] at hi
        exact .inr ⟨p, h2.symm, by omega, h1⟩
    refine ⟨fun _ => 0, fun i j a b ha hb h1 _ _ => ?_, fun i y sl hy hsl => ?_⟩
    · rcases hslot i a ha with rfl | ⟨v, rfl, _⟩ <;> cases h1
    · rcases hslot i sl hsl with rfl | ⟨p, rfl, hi, hpi⟩
      · trivial
      · have hp : p ∈ cap := List.mem_of_getElem? hpi
        have hy' : y = p.1 := by
          rw [c.names, List.getElem?_append_right hi, List.getElem?_map, hpi] at hy
          exact (Option.some.inj hy).symm
        subst hy'
        obtain ⟨a, val, h1, h2, h3⟩ := c.bnd st hp
        obtain ⟨q0, q1, q2, q3, _⟩ := c.caps p hp
        refine ⟨val, .inr ⟨q2, a, ?_, h2.keeps (k1.trans k2)⟩, h3⟩
        have hsome := closL_has h1 scope.names [] (.inl q1)
        obtain ⟨a', ha'⟩ := Option.isSome_iff_exists.mp hsome
        have := hclos _ _ ha'
        rw [h1] at this; cases this
        cases oc with
        | none => exact ha'
        | some x0 =>
          show List.lookup p.1 ((x0, _) :: _) = _
          rw [List.lookup_cons]
          have hne : (p.1 == x0) = false := by
            have e : p.1 ≠ x0 := fun e => q0 (by rw [e])
            simpa using e
          rw [hne]; exact ha'
end
end Mine

namespace Mine
section
variable {G : Glo} {F Fc : Fst} {k k' : Nat} {σ σ' σ₁ σ₂ σc : List Slot} {Γ : Act} {P P1 : Part} {s : Shared}

theorem prot_comm (Γ : Act) {I D : Addr} (o l : Obj) (h : I ≠ D) : (Γ.prot I o).prot D l = (Γ.prot D l).prot I o := by
  unfold Act.prot
  congr 1
  funext a
  unfold Part.put
  by_cases h1 : a = D
  · subst h1; simp [Ne.symm h]
  · simp [h1]

def Tests (G : Glo) (F : Fst) (k : Nat) (σ : List Slot) : List Expr → Bool → List Slot → Prop
  | [], b, σ' => b = true ∧ σ' = σ
  | [c], b, σ' => Tr G F k σ c b σ'
  | _, _, _ => False
theorem Tests.run {ifs : List Expr} {b : Bool} (h : Tests G F k σ ifs b σ') {A : Around} {E : Value → Shared → Prop} {Q : Bool → Shared → Prop} (hr : Room k A) (st : St G F Γ P σ s) (hQ : ∀ P' s', P.le P' → St G F Γ P' σ' s' → Q b s') :
    wpAny (model G.prog G.w) A (forIn ifs true fun c r => if r = true then do let ok ← isTrue c Γ.env (eval c Γ.env); pure (ForInStep.yield ok) else pure (ForInStep.yield r)) Q E s := by
  cases ifs with
  | nil => obtain ⟨rfl, rfl⟩ := h; exact wpAny_tests_nil (hQ _ _ (Part.le.refl _) st)
  | cons c r =>
    cases r with
    | nil => exact wpAny_tests_one (h Γ P A s E Q hr st hQ)
    | cons _ _ => exact h.elim

/-- one turn of a comprehension: the item it is given, what it adds -/
def CTurn (G : Glo) (F : Fst) (k : Nat) (σc : List Slot) (target : Expr) (ifs : List Expr) (elt : Expr) (d : V) (r : Option V) : Prop :=
  ∃ σa b σb, Asg G F k σc target d σa ∧ Tests G F k σa ifs b σb ∧ (b = false → r = none ∧ Wk σb σc) ∧ (b = true → ∃ w σd, r = some w ∧ Ev G F k σb elt w σd ∧ Wk σd σc)
def CLoop (G : Glo) (F : Fst) (k : Nat) (σc : List Slot) (target : Expr) (ifs : List Expr) (elt : Expr) : List V → List V → Prop
  | [], outs => outs = []
  | d :: ds, outs => ∃ r outs', CTurn G F k σc target ifs elt d r ∧ CLoop G F k σc target ifs elt ds outs' ∧ outs = r.toList ++ outs'

theorem append_step {D : Addr} {ws : List Value} {n : Nat} {x : Value} {A : Around} {E : Value → Shared → Prop} {Q : Value → Shared → Prop} (hl : s.heap.get? D = some (listO ws n)) (hsz : ws.length ≤ 1000000)
    (hQ : ∀ h' n', h'.get? D = some (listO (ws ++ [x]) n') → Heap.SameBut D s.heap h' → Q .none { s with heap := h' }) : wpAny (model G.prog G.w) A (call (.builtin "list.append") [.ref D, x]) Q E s := by
  refine wpAny_list_append_plain (items := ws.toArray) ⟨n, hl⟩ (fun h' ⟨n', hp⟩ hs => hQ h' n' ?_ hs) (by rw [List.size_toArray]; exact Nat.le_trans hsz (by decide))
  rw [hp]
  unfold listO
  simp

/-- what a comprehension's loop keeps -/
structure CInv (G : Glo) (Fc : Fst) (Γ : Act) (I D : Addr) (SI : Nat → Heap → Prop) (P1 : Part) (σc : List Slot) (i : Nat) (outs : List V) (s : Shared) : Prop where
  ex : ∃ o ws n P', P1.le P' ∧ St G Fc ((Γ.prot D (listO ws n)).prot I o) P' σc s ∧ LayAll G.C P' ws outs ∧ SI i s.heap

theorem CLoop.length {target elt : Expr} {ifs : List Expr} : ∀ {items outs : List V}, CLoop G Fc k σc target ifs elt items outs → outs.length ≤ items.length
  | [], _, h => by rw [show _ = [] from h]; exact Nat.le_refl _
  | d :: ds, _, ⟨r, outs', _, h, e⟩ => by
    have := CLoop.length h
    rw [e, List.length_append, List.length_cons]
    cases r <;> simp <;> omega

set_option maxHeartbeats 1000000 in
theorem comp_loop {e target iter elt : Expr} {ifs : List Expr} {d : Nat} {items outs0 outs : List V} {I D : Addr} {fp : List Addr} {SI : Nat → Heap → Prop} {A : Around} {R : Result → Shared → Prop}
    (hq : (Code.compLoop e d (.ref I) (.ref D) Γ.env).quiet = true) (hu : A.under (Code.compLoop e d (.ref I) (.ref D) Γ.env) = A) (hfr : (Code.compLoop e d (.ref I) (.ref D) Γ.env).isFrame = false)
    (hturn : compTurn e d (.ref I) (.ref D) Γ.env = (do
      standAt iter.pos
      match ← pyNext (.ref I) with
      | none => pure (.done .next)
      | some v =>
        letOwnedTupleGo target (.ref I) v
        assign target Γ.env v
        let mut ok := true
        for c in ifs do
          if ok then ok ← isTrue c Γ.env (eval c Γ.env)
        if ok then
          (do let _ ← call (.builtin "list.append") [.ref D, ← eval elt Γ.env])
        again (.compLoop e d (.ref I) (.ref D) Γ.env)))
    (it : Iter G I fp items.length (fun i w => ∃ d, items[i]? = some d ∧ Lay G.C P1 w d) SI) (hfp : ∀ b ∈ fp, b = I ∨ ∃ q, P1 b = some q) (hID : I ≠ D)
    (hr : Room k A) (hI0 : Γ.P0 I = none) (hD0 : Γ.P0 D = none) (hIb : Γ.base I = none) (hDb : Γ.base D = none) (hIs : G.s0.heap.get? I = none) (hDs : G.s0.heap.get? D = none)
    (hl : CLoop G Fc k σc target ifs elt items outs) (hsz : items.length + outs0.length ≤ 1000000) (h0 : CInv G Fc Γ I D SI P1 σc 0 outs0 s)
    (hR : ∀ ws n P' s', P1.le P' → St G Fc (Γ.prot D (listO ws n)) P' σc s' → LayAll G.C P' ws (outs0 ++ outs) → R (.ok .next) s') :
    codeAny (model G.prog G.w) A (.compLoop e d (.ref I) (.ref D) Γ.env) R s := by
  have W := it.walks A hr.1
  refine codeAny_loop hq (fun n s' => ∃ i done rest, i + n = items.length ∧ CInv G Fc Γ I D SI P1 σc i done s' ∧ CLoop G Fc k σc target ifs elt (items.drop i) rest ∧ done ++ rest = outs0 ++ outs ∧ done.length ≤ outs0.length + i) (fun n s' hI => ?_) items.length ⟨0, outs0, outs, by omega, h0, by simpa using hl, rfl, by omega⟩
  obtain ⟨i, done, rest, hn, ⟨o, ws, m, P', le', st', lw, si⟩, hlp, heq, hdl⟩ := hI
  rw [hu]
  show wpAny _ A (if (Code.compLoop e d (.ref I) (.ref D) Γ.env).isFrame then (compTurn e d (.ref I) (.ref D) Γ.env).onRaise (leaving Γ.env) else (compTurn e d (.ref I) (.ref D) Γ.env).onRaise (fun x => do noteFrame x Γ.env; theTreesLotGoes x)) _ _ s'
  rw [if_neg (by rw [hfr]; exact Bool.false_ne_true)]
  refine wpAny_noted ?_
  rw [hturn]
  refine wpAny_bind (wpAny_standAt (wpAny_bind ?_))
  have hd' : o.data ≠ .plain ∧ ∀ v, o.data ≠ .cell v := by
    obtain ⟨q, g1, vs, g2⟩ := it.obj i _ si
    have := st'.keep I o (prot_self _ _ _)
    rw [g1] at this; cases this
    rw [g2]; exact ⟨fun e => (nomatch e), fun v e => (nomatch e)⟩
  cases n with
  | zero =>
    have hii : i = items.length := by omega
    subst hii
    refine W.done s' _ _ si fun h' tk hk => ?_
    rw [List.drop_length] at hlp
    obtain rfl := hlp
    have hk' : ∀ b q, b ≠ I → s'.heap.get? b = some q → h'.get? b = some q := fun b q hb e => hk b q (by simp [hb]) e
    refine wpAny_pure (hR ws m P' _ le' (st'.leave hd' hI0 (by rw [prot_ne _ _ hID]; exact hIb) hIs hk') ?_)
    rw [← heq, List.append_nil]; exact lw
  | succ n =>
    have hii : i < items.length := by omega
    refine W.item i s' _ _ hii si fun v' h' tk hp si' hk => ?_
    have hk' : ∀ b q, b ≠ I → s'.heap.get? b = some q → h'.get? b = some q := fun b q hb e => hk b q (by simp [hb]) e
    obtain ⟨o2, g1, vs2, g2⟩ := it.obj (i + 1) h' si'
    have st2 := st'.step (tk := tk) hd' hI0 hIs hk' g1
    obtain ⟨d', hd, ld⟩ := hp
    rw [List.drop_eq_getElem_cons hii] at hlp
    obtain ⟨r, outs', ⟨σa, b, σb, ha, ht, hf, hg⟩, hrest, hout⟩ := hlp
    have hdd : items[i] = d' := by rw [List.getElem?_eq_getElem hii] at hd; exact Option.some.inj hd
    rw [hdd] at ha
    have frame : ∀ s4 P4 σ4 ws' m', P'.le P4 → St G Fc ((Γ.prot D (listO ws' m')).prot I o2) P4 σ4 s4 → SI (i + 1) s4.heap := fun s4 P4 σ4 ws' m' le4 st4 => by
      refine W.frame (i + 1) h' s4.heap si' fun b hb q e => ?_
      rcases hfp b hb with rfl | ⟨q', e'⟩
      · rw [g1] at e; cases e; exact st4.keep _ _ (prot_self _ _ _)
      · have h5 : h'.get? b = some q' := st2.inP _ _ (le' _ _ e')
        rw [h5] at e; cases e
        exact st4.inP _ _ (le4 _ _ (le' _ _ e'))
    dsimp only
    refine wpAny_bind (it.go (i + 1) A _ target v' _ _ si' ?_)
    refine wpAny_bind (ha ((Γ.prot D (listO ws m)).prot I o2) P' A _ _ _ v' hr st2 (ld.mono le') fun P3 s3 le3 st3 => ?_)
    refine wpAny_bind (Tests.run (Γ := (Γ.prot D (listO ws m)).prot I o2) ht hr st3 fun P4 s4 le4 st4 => ?_)
    have le04 := le3.trans le4
    cases b with
    | false =>
      obtain ⟨rfl, wk⟩ := hf rfl
      simp only [Bool.false_eq_true, if_false]
      refine wpAny_pure ⟨rfl, n, Nat.lt_succ_self n, i + 1, done, outs', by omega, ⟨o2, ws, m, P4, le'.trans le04, st4.weak wk, lw.mono le04, frame s4 P4 _ ws m le04 st4⟩, hrest, ?_, by omega⟩
      rw [← heq, hout]; rfl
    | true =>
      obtain ⟨w, σd, rfl, hev, wk⟩ := hg rfl
      simp only [if_true]
      refine wpAny_bind (wpAny_bind (hev ((Γ.prot D (listO ws m)).prot I o2) P4 A s4 _ _ hr st4 fun val P5 s5 le5 st5 lv => ?_))
      have hDk : s5.heap.get? D = some (listO ws m) := st5.keep D _ (by rw [prot_ne _ _ (Ne.symm hID), prot_self])
      have hwl : ws.length ≤ 1000000 := by rw [lw.length]; omega
      refine wpAny_bind (append_step hDk hwl fun h6 m' hD6 hs6 => ?_)
      have le05 := le04.trans le5
      have hk6 : ∀ b q, b ≠ D → s5.heap.get? b = some q → h6.get? b = some q := fun b q hb e => by rw [hs6.2 b hb]; exact e
      have st5' := st5
      rw [← prot_comm _ _ _ hID] at st5'
      have st6 := st5'.step (tk := s5.toks) (o' := listO (ws ++ [val]) m') ⟨fun e => (nomatch e), fun v e => (nomatch e)⟩ hD0 hDs hk6 hD6
      rw [prot_comm _ _ _ hID] at st6
      refine wpAny_pure (wpAny_pure ⟨rfl, n, Nat.lt_succ_self n, i + 1, done ++ [w], outs', by omega, ⟨o2, ws ++ [val], m', P5, le'.trans le05, st6.weak wk, (lw.mono le05).append (.cons lv .nil), frame _ P5 _ (ws ++ [val]) m' le05 st6⟩, hrest, ?_, ?_⟩)
      · rw [← heq, hout]; simp
      · simp; omega
end
end Mine

namespace Mine
section
variable {G : Glo} {F Fc : Fst} {k k' : Nat} {σ σ' σ₁ σ₂ σc : List Slot} {Γ : Act} {P P1 : Part} {s : Shared}

theorem St.extProt (st : St G F Γ P σ s) {P' : Part} {h' : Heap} {tk : Nat} {C : Addr} {oC : Obj} (k : Kept s.heap h') (le : P.le P') (inn : P'.In h') (nw : ∀ b o, P' b = some o → P b = some o ∨ s.heap.get? b = none)
    (hC : s.heap.get? C = none) (hC' : h'.get? C = some oC) (hPC : P' C = none) : St G F (Γ.prot C oC) P' σ { s with heap := h', toks := tk } := by
  have st1 := st.ext (tk := tk) k le inn nw
  have nz : ∀ a q, s.heap.get? a = some q → a ≠ C := fun a q e ha => by subst ha; rw [hC] at e; cases e
  refine ⟨st1.ok, st1.scope, st1.kind, st1.globals, st1.builtins, st1.nodup, st1.apart, fun a q e => ?_, fun a q e => ?_, st1.inP, st1.le, fun a q e => ?_, st1.ns, ?_, st1.PL, fun y hy => ?_, ?_⟩
  · rw [prot_ne _ _ (nz a q (st.ok.keep a q e))]; exact st.top a q e
  · by_cases ha : a = C
    · subst ha; rw [prot_self] at e; cases e; exact hC'
    · rw [prot_ne _ _ ha] at e; exact st1.keep a q e
  · rcases st1.new a q e with h | h
    · exact .inl h
    · by_cases ha : a = C
      · subst ha; rw [hPC] at e; cases e
      · exact .inr (by rw [prot_ne _ _ ha]; exact h)
  · obtain ⟨m, oL, es, ep, h1, r⟩ := st.ns
    exact (prot_ne _ _ (nz _ _ h1)).trans st.baseL
  · obtain ⟨h1, c, v, h2, h3, h4, h5⟩ := st1.cell y hy
    obtain ⟨h1', c', v', h2', h3', h4', h5'⟩ := st.cell y hy
    rw [h2] at h2'; cases h2'
    obtain ⟨oc, g1, g2⟩ := h3'
    exact ⟨h1, c, v, h2, h3, by rw [prot_ne _ _ (nz _ _ g1)]; exact h4, h5⟩
  · obtain ⟨α, hinj, hvar⟩ := st.vars
    refine ⟨α, hinj, fun i x sl h1 h2 => ?_⟩
    have z := hvar i x sl h1 h2
    have z1 := z.base (Γ' := Γ.prot C oC) rfl fun q g _ hb => by rw [prot_ne _ _ (nz _ _ g)]; exact hb
    exact z1.kept k le nw

/-- the loop of a comprehension run from its start to its end -/
structure CRun (G : Glo) (Fc : Fst) (k : Nat) (e : Expr) (σc : List Slot) (items outs : List V) : Prop where
  run : ∀ (Γ : Act) (P1 : Part) (A : Around) (s : Shared) (R : Result → Shared → Prop) (I D : Addr) (o : Obj) (fp : List Addr) (SI : Nat → Heap → Prop), Room k A → I ≠ D → Γ.P0 = P1 → P1 I = none → P1 D = none → Γ.base I = none → Γ.base D = none → G.s0.heap.get? I = none → G.s0.heap.get? D = none →
    Iter G I fp items.length (fun i w => ∃ d, items[i]? = some d ∧ Lay G.C P1 w d) SI → (∀ b ∈ fp, b = I ∨ ∃ q, P1 b = some q) → St G Fc ((Γ.prot D (listO [] 0)).prot I o) P1 σc s → SI 0 s.heap →
    (∀ ws n P' s', P1.le P' → St G Fc (Γ.prot D (listO ws n)) P' σc s' → LayAll G.C P' ws outs → R (.ok .next) s') →
    codeAny (model G.prog G.w) A (.compStart e 0 (.ref I) (.ref D) Γ.env) R s

theorem CRun.one {target iter elt : Expr} {ifs : List Expr} {scope : Scope} {pos : Pos} {items outs : List V} (hl : CLoop G Fc k σc target ifs elt items outs) (hsz : items.length ≤ 1000000) : CRun G Fc k (.ListComp elt [⟨target, iter, ifs, 0⟩] scope pos) σc items outs := by
  refine ⟨fun Γ P1 A s R I D o fp SI hr hID hP0 hPI hPD hbI hbD hsI hsD it hfp st si hR => ?_⟩
  have main : codeAny (model G.prog G.w) A (.compLoop (.ListComp elt [⟨target, iter, ifs, 0⟩] scope pos) 0 (.ref I) (.ref D) Γ.env) R s :=
    comp_loop (k := k) (d := 0) (iter := iter) (outs0 := []) rfl rfl rfl (compTurn_list elt target iter ifs scope pos (.ref I) (.ref D) Γ.env) it hfp hID hr (by rw [hP0]; exact hPI) (by rw [hP0]; exact hPD) hbI hbD hsI hsD hl (by simpa using hsz)
      ⟨o, [], 0, P1, Part.le.refl _, st, .nil, si⟩ (by simpa using hR)
  exact codeAny_compStart_list main ((it.walks A hr.1).self 0 s _ _ si main)

set_option maxHeartbeats 1000000 in
theorem comp_wrap {e : Expr} {scope : Scope} {pos : Pos} {g : Comprehension} {gs : List Comprehension} {use : Option (Value → Sem Unit)} {first : Sem Value} {A : Around} {E : Value → Shared → Prop} {Q : Value → Shared → Prop} {v : V} {items outs : List V} {vs : List Str} {oc : Option Str} {cap : List (Str × V)}
    (hcl : clausesOf e = g :: gs) (hs : ∀ x, foldedSetIterable g.iter Γ.env x = pure x) (hr : Room k A)
    (hfirst : ∀ Q' : Value → Shared → Prop, (∀ val P' s', P.le P' → St G F Γ P' σ₁ s' → Lay G.C P' val v → Q' val s') → wpAny (model G.prog G.w) A first Q' E s)
    (hi : iterOf v = some items) (c : CompOk F Fc scope σ₁ vs oc cap) (hrun : CRun G Fc k e ((vs.map fun _ => Slot.un) ++ cap.map fun p => .val p.2) items outs)
    (hnone : use = none → ∀ val P' s', P.le P' → St G F Γ P' σ₁ s' → Lay G.C P' val (.lst outs) → Q val s')
    (huse : ∀ u, use = some u → ∀ (Γ' : Act) val P' s' (Q' : Unit → Shared → Prop), Γ'.env = Γ.env → P.le P' → St G F Γ' P' σ₁ s' → Lay G.C P' val (.lst outs) → (∀ P'' s'', P'.le P'' → St G F Γ' P'' σ₂ s'' → Q' () s'') → wpAny (model G.prog G.w) A (u val) Q' E s')
    (husd : use.isSome = true → ∀ P' s', P.le P' → St G F Γ P' σ₂ s' → Q .none s') :
    wpAny (model G.prog G.w) A (comprehension e scope Γ.env pos (newList []) false first use) Q E s := by
  unfold comprehension
  rw [hcl]
  refine wpAny_bind (hfirst _ fun x P1 s1 le1 st1 l1 => wpAny_bind (wpAny_standAt (wpAny_bind (wpAny_of_eq (hs x) (wpAny_bind (wpAny_holding ?_))))))
  refine iter_of st1.inP l1 hi fun o fp SI hf it si0 hfp => ?_
  have hz1 : (s1.heap.push o).objs.size = s1.heap.objs.size + 1 := Heap.size_push ..
  have hz2 : ((s1.heap.push o).push (listO [] 0)).objs.size = s1.heap.objs.size + 2 := by rw [Heap.size_push, hz1]
  refine wpAny_standIf (wpAny_bind (wpAny_newObj_type ?_))
  have hclo : closureFor scope Γ.env = pure (closL Γ.env.cells scope.names []) := closureFor_eq fun n hn => by
    obtain ⟨p, hp, rfl⟩ := List.mem_map.mp (c.free n hn)
    obtain ⟨a, val, h1, _⟩ := c.bnd st1 hp
    rw [h1]; rfl
  rw [hclo]
  refine wpAny_bind (wpAny_pure (wpAny_bind (newEnvC c.cells c.push ?_)))
  rw [show ({ s1 with heap := (s1.heap.push o).push { cls := .type "list", data := .seq #[] } } : Shared).heap.objs.size = s1.heap.objs.size + 2 from hz2]
  dsimp only
  have est := St.startC c st1 hf
  have hbI : s1.heap.get? s1.heap.objs.size = none := get?_size _
  have hbD : s1.heap.get? (s1.heap.objs.size + 1) = none := get?_ge (by omega)
  have hbC : s1.heap.get? (s1.heap.objs.size + 2) = none := get?_ge (by omega)
  have hP1 : ∀ a, s1.heap.get? a = none → P1 a = none := fun a ha => by
    cases e : P1 a with
    | none => rfl
    | some q => have := st1.inP _ _ e; rw [ha] at this; cases this
  have hs0 : ∀ a, s1.heap.get? a = none → G.s0.heap.get? a = none := fun a ha => by
    cases e : G.s0.heap.get? a with
    | none => rfl
    | some q => have := st1.ok.keep _ _ e; rw [ha] at this; cases this
  have hID : s1.heap.objs.size ≠ s1.heap.objs.size + 1 := by omega
  have hCD : s1.heap.objs.size + 2 ≠ s1.heap.objs.size + 1 := by omega
  rw [prot_comm _ _ _ hID] at est
  have hcenv : ({ newEnv scope (s1.heap.objs.size + 2) Γ.env.globals (cellsOf oc (s1.heap.objs.size + 2 + 1) (closL Γ.env.cells scope.names [])) Γ.env.qual none .none (some Γ.env) builtinsNs with
      scope := { scope with names := scope.names.map fun (x : Str × NameKind) => if (x.2 == .free && Γ.env.scope.kind == .function && Γ.env.kindOf x.1 == some .cell) = true then (x.1, .cell) else (x.1, x.2) } } : Env) =
      compEnv Γ.env Fc scope (s1.heap.objs.size + 2) (cellsOf oc (s1.heap.objs.size + 3) (closL Γ.env.cells scope.names [])) := by
    unfold compEnv
    rw [c.scope]
    unfold compScope Env.kindOf
    rw [st1.scope]
  dsimp only at hcenv
  generalize hX : (newEnv scope (s1.heap.objs.size + 2) Γ.env.globals (cellsOf oc (s1.heap.objs.size + 2 + 1) (closL Γ.env.cells scope.names [])) Γ.env.qual none .none (some Γ.env) builtinsNs) = X at hcenv ⊢
  have hXL : X.locals = s1.heap.objs.size + 2 := by rw [← hX]; rfl
  rw [hcenv]
  generalize hcv : compEnv Γ.env Fc scope (s1.heap.objs.size + 2) (cellsOf oc (s1.heap.objs.size + 3) (closL Γ.env.cells scope.names [])) = cenv at est ⊢
  have hcL : cenv.locals = s1.heap.objs.size + 2 := by rw [← hcv]; rfl
  have hck : cenv.scope = Fc.scope := by rw [← hcv]; rfl
  have hckind : cenv.scope.kind = .function := by rw [hck, c.scope]; exact c.kind
  have hv : ∀ (l : List (Str × NameKind)), (∀ x ∈ l, x ∈ scope.names) → ∀ x ∈ l, x.2 = .local → cenv.kindOf x.1 = some .local := fun l hl x hx hk => by
    show cenv.scope.names.lookup x.1 = _
    rw [hck]; exact c.locals x (hl x hx) hk
  rw [hz1]
  have hrr : Room k (A.mark none) := hr
  refine wpAny_holding (wpAny_bind (wpAny_attempt (wpAny_holding (wpAny_run ?_))))
  refine hrun.run ⟨cenv, fun a => s1.heap.get? a, P1⟩ P1 (A.mark none) _ _ s1.heap.objs.size (s1.heap.objs.size + 1) o fp SI hrr hID rfl (hP1 _ hbI) (hP1 _ hbD) hbI hbD (hs0 _ hbI) (hs0 _ hbD) it hfp est ?_ fun ws n P2 s2 le2 st2 lw => ?_
  · refine (it.walks A hr.1).frame 0 _ _ si0 fun b hb q e => ?_
    exact heapOf_kept _ _ _ _ (Heap.get?_push_of_some _ (Heap.get?_push_of_some _ e))
  · have kp : Kept s1.heap s2.heap := fun a q e => st2.keep a q (by
      have : a ≠ s1.heap.objs.size + 1 := fun ha => by subst ha; rw [hbD] at e; cases e
      rw [prot_ne _ _ this]; exact e)
    have hD2 : s2.heap.get? (s1.heap.objs.size + 1) = some (listO ws n) := st2.keep _ _ (prot_self _ _ _)
    have hPD : P2 (s1.heap.objs.size + 1) = none := by
      cases e : P2 (s1.heap.objs.size + 1) with
      | none => rfl
      | some q => rcases st2.new _ q e with h | h
                  · have h' : P1 (s1.heap.objs.size + 1) = some q := h
                    rw [hP1 _ hbD] at h'; cases h'
                  · rw [prot_self] at h; cases h
    have hPC : P2 (s1.heap.objs.size + 2) = none := by have := st2.PL; rwa [show (Act.prot ⟨cenv, fun a => s1.heap.get? a, P1⟩ (s1.heap.objs.size + 1) (listO ws n)).env.locals = s1.heap.objs.size + 2 from hcL] at this
    have le3 : P2.le (P2.put (s1.heap.objs.size + 1) (listO ws n)) := Part.le_put _ hPD
    have inn3 : ∀ h', (∀ b q, b ≠ s1.heap.objs.size + 2 → s2.heap.get? b = some q → h'.get? b = some q) → (P2.put (s1.heap.objs.size + 1) (listO ws n)).In h' := fun h' hk a q e => by
      by_cases ha : a = s1.heap.objs.size + 1
      · subst ha; rw [Part.put_self] at e; cases e; exact hk _ _ (by omega) hD2
      · rw [Part.put_ne _ _ ha] at e
        exact hk a q (fun hb => by subst hb; rw [hPC] at e; cases e) (st2.inP a q e)
    have nw3 : ∀ b q, P2.put (s1.heap.objs.size + 1) (listO ws n) b = some q → P1 b = some q ∨ s1.heap.get? b = none := fun b q e => by
      by_cases ha : b = s1.heap.objs.size + 1
      · subst ha; exact .inr hbD
      · rw [Part.put_ne _ _ ha] at e
        rcases st2.new b q e with h | h
        · exact .inl h
        · rw [prot_ne _ _ ha] at h; exact .inr h
    have lD : Lay G.C (P2.put (s1.heap.objs.size + 1) (listO ws n)) (.ref (s1.heap.objs.size + 1)) (.lst outs) := .lst (Part.put_self _ _ _) (lw.mono le3)
    have e2 : s2 = { s1 with heap := s2.heap, toks := s2.toks } := by
      obtain ⟨_, _, q1⟩ := st1.ok.same
      obtain ⟨_, _, q2⟩ := st2.ok.same
      rw [q2, q1]
    obtain ⟨m2, hns⟩ := st2.ns
    rw [show (Act.prot ⟨cenv, fun a => s1.heap.get? a, P1⟩ (s1.heap.objs.size + 1) (listO ws n)).env.locals = cenv.locals from rfl] at hns
    cases use with
    | none =>
      dsimp only
      refine wpAny_bind (wpAny_holding (wpAny_comp_letGo hckind _ s2 m2 (hv _ fun x hx => (List.mem_filter.mp (List.mem_reverse.mp hx)).1) hns fun h' m' _ hs' => wpAny_pure ?_))
      rw [hcL] at hs'
      have hk : ∀ b q, b ≠ s1.heap.objs.size + 2 → s2.heap.get? b = some q → h'.get? b = some q := fun b q hb e => by rw [hs'.2 b hb]; exact e
      have kp' : Kept s1.heap h' := fun a q e => hk a q (fun ha => by subst ha; rw [hbC] at e; cases e) (kp a q e)
      have := hnone rfl (.ref (s1.heap.objs.size + 1)) _ _ (le1.trans (le2.trans le3)) (st1.ext (tk := s2.toks) kp' (le2.trans le3) (inn3 h' hk) nw3) lD
      rw [e2]; exact this
    | some u =>
      dsimp only
      obtain ⟨oC, esC, epC, gC, dC, rC⟩ := id hns
      rw [hcL] at gC
      have stU : St G F (Γ.prot (s1.heap.objs.size + 2) oC) (P2.put (s1.heap.objs.size + 1) (listO ws n)) σ₁ s2 := by
        have := st1.extProt (tk := s2.toks) (C := s1.heap.objs.size + 2) (oC := oC) kp (le2.trans le3) (inn3 s2.heap fun _ _ _ e => e) nw3 hbC gC (by rw [Part.put_ne _ _ hCD]; exact hPC)
        rw [e2]; exact this
      refine wpAny_bind (wpAny_rule (wpAny_bind (wpAny_holding (huse u rfl (Γ.prot (s1.heap.objs.size + 2) oC) (.ref (s1.heap.objs.size + 1)) _ s2 _ rfl (le1.trans (le2.trans le3)) stU lD fun P4 s4 le4 st4 => ?_))))
      have hns4 : s4.heap.Ns cenv.locals m2 := ⟨oC, esC, epC, by rw [hcL]; exact st4.keep _ _ (prot_self _ _ _), dC, rC⟩
      refine wpAny_bind (wpAny_comp_letGo hckind _ s4 m2 (hv _ fun x hx => ?_) hns4 fun h' m' _ hs' => wpAny_pure ?_)
      · rcases List.mem_append.mp hx with h1 | h1
        · exact (List.mem_filter.mp (List.mem_reverse.mp (List.mem_of_mem_drop h1))).1
        · exact (List.mem_filter.mp (List.mem_reverse.mp (List.mem_of_mem_take h1))).1
      · rw [hcL] at hs'
        refine husd rfl P4 _ (le1.trans (le2.trans (le3.trans le4))) (st4.leave (tk := s4.toks) ⟨fun e => ?_, fun v e => ?_⟩ ?_ ?_ (hs0 _ hbC) fun b q hb e => ?_)
        · rw [dC] at e; cases e
        · rw [dC] at e; cases e
        · cases e : Γ.P0 (s1.heap.objs.size + 2) with
          | none => rfl
          | some q => have := st1.le _ _ e; rw [hP1 _ hbC] at this; cases this
        · cases e : Γ.base (s1.heap.objs.size + 2) with
          | none => rfl
          | some q => have := st1.keep _ _ e; rw [hbC] at this; cases this
        · rw [hs'.2 b hb]; exact e
end
end Mine

namespace Mine
section
variable {G : Glo} {F Fc : Fst} {k k' : Nat} {σ σ' σ₁ σ₂ σc : List Slot} {Γ : Act} {P P1 : Part} {s : Shared}

theorem Ev.comp {elt target iter : Expr} {ifs : List Expr} {rest : List Comprehension} {scope : Scope} {pos : Pos} {v : V} {items outs : List V} {vs : List Str} {oc : Option Str} {cap : List (Str × V)} (h1 : Ev G F k σ iter v σ₁) (hi : iterOf v = some items) (c : CompOk F Fc scope σ₁ vs oc cap)
    (hrun : CRun G Fc k (.ListComp elt (⟨target, iter, ifs, 0⟩ :: rest) scope pos) ((vs.map fun _ => Slot.un) ++ cap.map fun p => .val p.2) items outs) (hs : ∀ env x, foldedSetIterable iter env x = pure x := by intros; rfl) :
    Ev G F k σ (.ListComp elt (⟨target, iter, ifs, 0⟩ :: rest) scope pos) (.lst outs) σ₁ := by
  intro Γ P A s E Q hr st hQ
  show wpAny _ A (comprehension (.ListComp elt (⟨target, iter, ifs, 0⟩ :: rest) scope pos) scope Γ.env (firstIterPos (⟨target, iter, ifs, 0⟩ :: rest) pos) (newList []) false (eval iter Γ.env) none) Q E s
  refine comp_wrap (σ₂ := σ₁) (use := none) (g := ⟨target, iter, ifs, 0⟩) (gs := rest) (by rfl) (hs _) hr (fun Q' h => h1 Γ P A s E Q' hr st h) hi c hrun (fun _ => hQ) (fun u hu => ?_) (fun h => ?_)
  · cases hu
  · cases h

theorem exec_Assign_eq (ts : List Expr) (e : Expr) (pos : Pos) (env : Env) : exec (.Assign ts e pos) env = (do
    standAt pos
    if ← swapsWithSole ts e pos.line env then do
      evalThenUse e env fun v => assignAll v ((assignEach ts env).map (·.2))
      pure .next
    else do
      let v ← eval e env
      assignStores env v (← swappedStores ts e env) ((assignEach ts env).map (·.2))) := rfl
theorem evalThenUse_eq (elt : Expr) (gens : List Comprehension) (scope : Scope) (pos : Pos) (env : Env) (u : Value → Sem Unit) : evalThenUse (.ListComp elt gens scope pos) env u = (do
    let _ ← comprehension (.ListComp elt gens scope pos) scope env (firstIterPos gens pos) (newList []) (firstAsync gens) (firstIter gens env) (some u)) := rfl

theorem Ex.comp {elt target iter : Expr} {ifs : List Expr} {rest : List Comprehension} {scope : Scope} {pos spos : Pos} {t : Expr} {v : V} {items outs : List V} {vs : List Str} {oc : Option Str} {cap : List (Str × V)} (h1 : Ev G F k σ iter v σ₁) (hi : iterOf v = some items) (c : CompOk F Fc scope σ₁ vs oc cap)
    (hrun : CRun G Fc k (.ListComp elt (⟨target, iter, ifs, 0⟩ :: rest) scope pos) ((vs.map fun _ => Slot.un) ++ cap.map fun p => .val p.2) items outs) (ha : Asg G F k σ₁ t (.lst outs) σ₂)
    (hsw : ∀ env : Env, env.scope = F.scope → swapsWithSole [t] (.ListComp elt (⟨target, iter, ifs, 0⟩ :: rest) scope pos) spos.line env = pure true) (hst : isStarred t = false := by rfl) (hs : ∀ env x, foldedSetIterable iter env x = pure x := by intros; rfl) :
    Ex G F k σ (.Assign [t] (.ListComp elt (⟨target, iter, ifs, 0⟩ :: rest) scope pos) spos) (.next σ₂) := by
  intro Γ P A s E Q hr st hQ
  rw [exec_Assign_eq]
  rw [hsw _ st.scope]
  refine wpAny_bind (wpAny_standAt (wpAny_bind (wpAny_pure ?_)))
  simp only [if_true]
  refine wpAny_bind ?_
  rw [evalThenUse_eq]
  refine wpAny_bind ?_
  rw [show firstAsync (⟨target, iter, ifs, 0⟩ :: rest) = false from rfl, show firstIter (⟨target, iter, ifs, 0⟩ :: rest) Γ.env = eval iter Γ.env from rfl]
  refine comp_wrap (σ₂ := σ₂) (use := some _) (g := ⟨target, iter, ifs, 0⟩) (gs := rest) (by rfl) (hs _) hr (fun Q' h => h1 Γ P A s E Q' hr st h) hi c hrun (fun h => by cases h) (fun u hu Γ' val P' s' Q' he le st' l h => ?_) (fun _ P' s' le st' => wpAny_pure (wpAny_pure (hQ _ _ _ le ⟨rfl, st'⟩)))
  cases hu
  have := AsgAll.one ha hst Γ' P' A s' E Q' val hr st' l h
  rw [he] at this
  exact this

/-! two loops in one comprehension -/
theorem compTurn_two (elt t1 i1 t2 i2 : Expr) (scope : Scope) (pos : Pos) (it acc : Value) (env : Env) :
    compTurn (.ListComp elt [⟨t1, i1, [], 0⟩, ⟨t2, i2, [], 0⟩] scope pos) 0 it acc env = (do
      standAt i1.pos
      match ← pyNext it with
      | none => pure (.done .next)
      | some v =>
        letOwnedTupleGo t1 it v
        assign t1 env v
        let x ← eval i2 env
        standAt i2.pos
        let x ← foldedSetIterable i2 env x
        let _ ← runOwn (.compStart (.ListComp elt [⟨t1, i1, [], 0⟩, ⟨t2, i2, [], 0⟩] scope pos) 1 (← holding [x] (pyIter x)) acc env) env
        again (.compLoop (.ListComp elt [⟨t1, i1, [], 0⟩, ⟨t2, i2, [], 0⟩] scope pos) 0 it acc env)) := by rfl
theorem compTurn_inner (elt t1 i1 t2 i2 : Expr) (scope : Scope) (pos : Pos) (it acc : Value) (env : Env) :
    compTurn (.ListComp elt [⟨t1, i1, [], 0⟩, ⟨t2, i2, [], 0⟩] scope pos) 1 it acc env = (do
      standAt i2.pos
      match ← pyNext it with
      | none => pure (.done .next)
      | some v =>
        letOwnedTupleGo t2 it v
        assign t2 env v
        let mut ok := true
        for c in ([] : List Expr) do
          if ok then ok ← isTrue c env (eval c env)
        if ok then
          (do let _ ← call (.builtin "list.append") [acc, ← eval elt env])
        again (.compLoop (.ListComp elt [⟨t1, i1, [], 0⟩, ⟨t2, i2, [], 0⟩] scope pos) 1 it acc env)) := by rfl
end
end Mine

namespace Mine
section
variable {G : Glo} {F Fc : Fst} {k k' : Nat} {σ σ' σ₁ σ₂ σc : List Slot} {Γ : Act} {P P1 : Part} {s : Shared}

def CTurn2 (G : Glo) (F : Fst) (k : Nat) (σc : List Slot) (t1 i2 t2 elt : Expr) (d : V) (outs : List V) : Prop :=
  ∃ σa v2 σb items2, Asg G F k σc t1 d σa ∧ Ev G F k σa i2 v2 σb ∧ iterOf v2 = some items2 ∧ CLoop G F k σb t2 [] elt items2 outs ∧ items2.length ≤ 1000 ∧ Wk σb σc
def CLoop2 (G : Glo) (F : Fst) (k : Nat) (σc : List Slot) (t1 i2 t2 elt : Expr) : List V → List V → Prop
  | [], outs => outs = []
  | d :: ds, outs => ∃ o1 o2, CTurn2 G F k σc t1 i2 t2 elt d o1 ∧ CLoop2 G F k σc t1 i2 t2 elt ds o2 ∧ outs = o1 ++ o2

theorem compStart1 {elt t1 i1 t2 i2 : Expr} {scope : Scope} {pos : Pos} {it acc : Value} {env : Env} {A : Around} {R : Result → Shared → Prop}
    (h0 : codeAny (model G.prog G.w) A (.compLoop (.ListComp elt [⟨t1, i1, [], 0⟩, ⟨t2, i2, [], 0⟩] scope pos) 1 it acc env) R s)
    (h : wpAny (model G.prog G.w) A (pyIter it) (fun it' s' => codeAny (model G.prog G.w) A (.compLoop (.ListComp elt [⟨t1, i1, [], 0⟩, ⟨t2, i2, [], 0⟩] scope pos) 1 it' acc env) R s')
      (notedBy (model G.prog G.w) A env fun x s' => R (.error x) s') s) :
    codeAny (model G.prog G.w) A (.compStart (.ListComp elt [⟨t1, i1, [], 0⟩, ⟨t2, i2, [], 0⟩] scope pos) 1 it acc env) R s := by
  refine codeAny_of_tree ?_
  show wpAny _ _ ((compStart (.ListComp elt [⟨t1, i1, [], 0⟩, ⟨t2, i2, [], 0⟩] scope pos) 1 it acc env).onRaise (fun x => do noteFrame x env; standAt theWindowsPlace)) _ _ s
  refine wpAny_notedAt ?_
  unfold compStart
  show wpAny _ _ (ask >>= _) _ _ s
  refine wpAny_bind (wpAny_askSetting (wpAny_ite ?_))
  split
  · first
      | exact wpAny_bind (wpAny_pure (wpAny_pure (And.intro rfl h0)))
      | exact wpAny_pure (And.intro rfl h0)
  · first
      | exact wpAny_bind (wpAny_rule (wpAny_bind (wpAny_standAt (wpAny_bind (wpAny_mono h (fun it' s' h' => wpAny_pure (And.intro rfl h')) fun _ _ x => x)))))
      | (refine wpAny_bind (wpAny_rule ?_); show wpAny _ _ (standAt i2.pos >>= _) _ _ s; exact wpAny_bind (wpAny_standAt (wpAny_bind (wpAny_mono h (fun it' s' h' => wpAny_pure (And.intro rfl h')) fun _ _ x => x))))

set_option maxHeartbeats 2000000 in
theorem CRun.two {t1 i1 t2 i2 elt : Expr} {scope : Scope} {pos : Pos} {items outs : List V} (hl : CLoop2 G Fc k σc t1 i2 t2 elt items outs) (hsz : outs.length ≤ 900000) (hs : ∀ env x, foldedSetIterable i2 env x = pure x := by intros; rfl) :
    CRun G Fc k (.ListComp elt [⟨t1, i1, [], 0⟩, ⟨t2, i2, [], 0⟩] scope pos) σc items outs := by
  refine ⟨fun Γ P1 A s R I D o fp SI hr hID hP0 hPI hPD hbI hbD hsI hsD it hfp st si hR => ?_⟩
  have main : codeAny (model G.prog G.w) A (.compLoop (.ListComp elt [⟨t1, i1, [], 0⟩, ⟨t2, i2, [], 0⟩] scope pos) 0 (.ref I) (.ref D) Γ.env) R s := by
    have W := it.walks A hr.1
    refine codeAny_loop rfl (fun n s' => ∃ i done rest, i + n = items.length ∧ CInv G Fc Γ I D SI P1 σc i done s' ∧ CLoop2 G Fc k σc t1 i2 t2 elt (items.drop i) rest ∧ done ++ rest = outs) (fun n s' hI => ?_) items.length ⟨0, [], outs, by omega, ⟨o, [], 0, P1, Part.le.refl _, st, .nil, si⟩, by simpa using hl, rfl⟩
    obtain ⟨i, done, rest, hn, ⟨o, ws, m, P', le', st', lw, si⟩, hlp, heq⟩ := hI
    show wpAny _ A ((compTurn (.ListComp elt [⟨t1, i1, [], 0⟩, ⟨t2, i2, [], 0⟩] scope pos) 0 (.ref I) (.ref D) Γ.env).onRaise (fun x => do noteFrame x Γ.env; theTreesLotGoes x)) _ _ s'
    refine wpAny_noted ?_
    rw [compTurn_two]
    refine wpAny_bind (wpAny_standAt (wpAny_bind ?_))
    have hd' : o.data ≠ .plain ∧ ∀ v, o.data ≠ .cell v := by
      obtain ⟨q, g1, vs, g2⟩ := it.obj i _ si
      have := st'.keep I o (prot_self _ _ _)
      rw [g1] at this; cases this
      rw [g2]; exact ⟨fun e => (nomatch e), fun v e => (nomatch e)⟩
    have hI0 : Γ.P0 I = none := by rw [hP0]; exact hPI
    have hD0 : Γ.P0 D = none := by rw [hP0]; exact hPD
    cases n with
    | zero =>
      have hii : i = items.length := by omega
      subst hii
      refine W.done s' _ _ si fun h' tk hk => ?_
      rw [List.drop_length] at hlp
      obtain rfl := hlp
      have hk' : ∀ b q, b ≠ I → s'.heap.get? b = some q → h'.get? b = some q := fun b q hb e => hk b q (by simp [hb]) e
      refine wpAny_pure (hR ws m P' _ le' (st'.leave hd' hI0 (by rw [prot_ne _ _ hID]; exact hbI) hsI hk') ?_)
      rw [← heq, List.append_nil]; exact lw
    | succ n =>
      have hii : i < items.length := by omega
      refine W.item i s' _ _ hii si fun v' h' tk hp si' hk => ?_
      have hk' : ∀ b q, b ≠ I → s'.heap.get? b = some q → h'.get? b = some q := fun b q hb e => hk b q (by simp [hb]) e
      obtain ⟨o2, g1, vs2, g2⟩ := it.obj (i + 1) h' si'
      have st2 := st'.step (tk := tk) hd' hI0 hsI hk' g1
      obtain ⟨d', hd, ld⟩ := hp
      rw [List.drop_eq_getElem_cons hii] at hlp
      obtain ⟨q1, q2, ⟨σa, v2, σb, items2, ha, hev, hit, hcl, hlen, wk⟩, hrest, hout⟩ := hlp
      have hdd : items[i] = d' := by rw [List.getElem?_eq_getElem hii] at hd; exact Option.some.inj hd
      rw [hdd] at ha
      dsimp only
      refine wpAny_bind (it.go (i + 1) A _ t1 v' _ _ si' ?_)
      refine wpAny_bind (ha ((Γ.prot D (listO ws m)).prot I o2) P' A _ _ _ v' hr st2 (ld.mono le') fun P3 s3 le3 st3 => ?_)
      refine wpAny_bind (hev ((Γ.prot D (listO ws m)).prot I o2) P3 A s3 _ _ hr st3 fun val P4 s4 le4 st4 lv => wpAny_bind (wpAny_standAt (wpAny_bind (wpAny_of_eq (hs _ val) ?_))))
      have le04 := le3.trans le4
      refine wpAny_bind (wpAny_holding (iter_of st4.inP lv hit fun oj fp2 SI2 hf2 it2 si2 hfp2 => ?_))
      have hI2b : s4.heap.get? s4.heap.objs.size = none := get?_size _
      have hDk : s4.heap.get? D = some (listO ws m) := st4.keep D _ (by rw [prot_ne _ _ (Ne.symm hID), prot_self])
      have hIk : s4.heap.get? I = some o2 := st4.keep I _ (prot_self _ _ _)
      have hI2D : s4.heap.objs.size ≠ D := fun e => by rw [← e, hI2b] at hDk; cases hDk
      have hI2I : s4.heap.objs.size ≠ I := fun e => by rw [← e, hI2b] at hIk; cases hIk
      have hP4 : P4 s4.heap.objs.size = none := by
        cases e : P4 s4.heap.objs.size with
        | none => rfl
        | some q => have := st4.inP _ _ e; rw [hI2b] at this; cases this
      have hb4 : ((Γ.prot D (listO ws m)).prot I o2).base s4.heap.objs.size = none := by
        cases e : ((Γ.prot D (listO ws m)).prot I o2).base s4.heap.objs.size with
        | none => rfl
        | some q => have := st4.keep _ _ e; rw [hI2b] at this; cases this
      have hbΓ : Γ.base s4.heap.objs.size = none := by rw [prot_ne _ _ hI2I, prot_ne _ _ hI2D] at hb4; exact hb4
      have hs2 : G.s0.heap.get? s4.heap.objs.size = none := by
        cases e : G.s0.heap.get? s4.heap.objs.size with
        | none => rfl
        | some q => have := st4.ok.keep _ _ e; rw [hI2b] at this; cases this
      have st5 := st4.prot (tk := s4.toks) hf2
      have hDP4 : P4 D = none := by
        cases e : P4 D with
        | none => rfl
        | some q => rcases st4.new D q e with h | h
                    · rw [show ((Γ.prot D (listO ws m)).prot I o2).P0 = Γ.P0 from rfl, hD0] at h; cases h
                    · rw [prot_ne _ _ (Ne.symm hID), prot_self] at h; cases h
      have hIP4 : P4 I = none := by
        cases e : P4 I with
        | none => rfl
        | some q => rcases st4.new I q e with h | h
                    · rw [show ((Γ.prot D (listO ws m)).prot I o2).P0 = Γ.P0 from rfl, hI0] at h; cases h
                    · rw [prot_self] at h; cases h
      have hE : (Γ.prot I o2).base D = none := by rw [prot_ne _ _ (Ne.symm hID)]; exact hbD
      have hEP : (Γ.prot I o2).P0 s4.heap.objs.size = none := by
        cases e : Γ.P0 s4.heap.objs.size with
        | none => exact e
        | some q => have := st4.le _ _ e; rw [hP4] at this; cases this
      rw [← prot_comm _ _ _ hID] at st5
      have inner : ∀ R' : Result → Shared → Prop, (∀ s5, (∃ m, m < n + 1 ∧ ∃ i done rest, i + m = items.length ∧ CInv G Fc Γ I D SI P1 σc i done s5 ∧ CLoop2 G Fc k σc t1 i2 t2 elt (items.drop i) rest ∧ done ++ rest = outs) → R' (.ok .next) s5) →
          codeAny (model G.prog G.w) (A.mark none) (.compLoop (.ListComp elt [⟨t1, i1, [], 0⟩, ⟨t2, i2, [], 0⟩] scope pos) 1 (.ref s4.heap.objs.size) (.ref D) Γ.env) R' { s4 with heap := s4.heap.push oj } := by
        intro R' hR'
        refine comp_loop (Γ := Γ.prot I o2) (k := k) (d := 1) (iter := i2) (outs0 := done) (σc := σb) (P1 := P4) rfl rfl rfl (compTurn_inner elt t1 i1 t2 i2 scope pos _ (.ref D) Γ.env) it2 hfp2 hI2D (show Room k (A.mark none) from hr) hEP (show Γ.P0 D = none from hD0) (by rw [prot_ne _ _ hI2I]; exact hbΓ) hE hs2 hsD hcl ?_ ⟨oj, ws, m, P4, Part.le.refl _, st5, lw.mono le04, si2⟩ fun ws' m' P5 s5 le5 st6 lw5 => ?_
        · have hdl : done.length ≤ outs.length := by rw [← heq]; simp
          omega
        · rw [prot_comm _ _ _ hID] at st6
          refine hR' _ ⟨n, Nat.lt_succ_self n, i + 1, done ++ q1, q2, by omega, ⟨o2, ws', m', P5, le'.trans (le04.trans le5), st6.weak wk, lw5, ?_⟩, hrest, by rw [← heq, hout]; simp⟩
          refine W.frame (i + 1) h' s5.heap si' fun b hb q e => ?_
          rcases hfp b hb with rfl | ⟨q', e'⟩
          · rw [g1] at e; cases e; exact st6.keep _ _ (prot_self _ _ _)
          · have h5 : h'.get? b = some q' := st2.inP _ _ (le' _ _ e')
            rw [h5] at e; cases e
            exact st6.inP _ _ (le5 _ _ (le04 _ _ (le' _ _ e')))
      refine wpAny_bind (wpAny_runOwn ?_)
      refine compStart1 (inner _ fun s5 h5 => ?_) ((it2.walks _ hr.1).self 0 _ _ _ si2 (inner _ fun s5 h5 => ?_))
      · exact wpAny_pure ⟨rfl, h5⟩
      · exact wpAny_pure ⟨rfl, h5⟩
  exact codeAny_compStart_list main ((it.walks A hr.1).self 0 s _ _ si main)
end
end Mine

namespace Mine
section
variable {G : Glo} {F Fc : Fst} {k k' : Nat} {σ σ' σ₁ σ₂ σc : List Slot} {Γ : Act} {P P1 : Part} {s : Shared}

/-! lists that a variable owns -/
theorem listO_data {ws : List Value} {n : Nat} : (listO ws n).data ≠ .plain ∧ ∀ v, (listO ws n).data ≠ .cell v := ⟨fun e => (nomatch e), fun v e => (nomatch e)⟩

theorem St.toRaw (st : St G F Γ P σ s) {i : Nat} {x : Str} {vs : List V} (hn : F.names[i]? = some x) (hs : σ[i]? = some (.own vs)) :
    ∃ a ws n, s.heap.get? a = some (listO ws n) ∧ LayAll G.C P ws vs ∧ Bnd Γ.env s.heap x (.ref a) ∧ P a = none ∧ Γ.base a = none ∧ G.s0.heap.get? a = none ∧ Γ.P0 a = none ∧ St G F (Γ.prot a (listO ws n)) P (σ.set i (.raw (.ref a))) s := by
  obtain ⟨α, hinj, hvar⟩ := st.vars
  obtain ⟨b, h1, h2, ws, n, h3, h4⟩ := hvar i x _ hn hs
  have hs0 : G.s0.heap.get? (α i) = none := by
    cases e : G.s0.heap.get? (α i) with
    | none => rfl
    | some q => have := st.top _ _ e; rw [h2] at this; cases this
  have hP0 : Γ.P0 (α i) = none := by
    cases e : Γ.P0 (α i) with
    | none => rfl
    | some q => have := st.le _ _ e; rw [h1] at this; cases this
  refine ⟨α i, ws, n, h3, h4, b, h1, h2, hs0, hP0, ?_⟩
  have up : ∀ a, a ≠ α i → Γ.base a = none → (Γ.prot (α i) (listO ws n)).base a = none := fun a ha e => by rw [prot_ne _ _ ha]; exact e
  refine ⟨st.ok, st.scope, st.kind, st.globals, st.builtins, st.nodup, st.apart, fun a q e => ?_, fun a q e => ?_, st.inP, st.le, fun a q e => ?_, st.ns, up _ (st.notL_list h3) st.baseL, st.PL, fun y hy => ?_, α, fun p q a b ha hb h1 h2 e => ?_, fun j y sl hy hsl => ?_⟩
  · rw [prot_ne _ _ (by rintro rfl; rw [hs0] at e; cases e)]; exact st.top a q e
  · by_cases ha : a = α i
    · subst ha; rw [prot_self] at e; cases e; exact h3
    · rw [prot_ne _ _ ha] at e; exact st.keep a q e
  · rcases st.new a q e with h | h
    · exact .inl h
    · exact .inr (up a (by rintro rfl; rw [h1] at e; cases e) h)
  · obtain ⟨e1, c, v, e2, e3, e4, e5⟩ := st.cell y hy
    refine ⟨e1, c, v, e2, e3, up c ?_ e4, e5⟩
    obtain ⟨oc, g1, g2⟩ := e3
    rintro rfl; rw [h3] at g1; cases g1; cases g2
  · rcases set_get ha with ⟨rfl, rfl⟩ | ⟨n1, ha⟩
    · cases h1
    · rcases set_get hb with ⟨rfl, rfl⟩ | ⟨n2, hb⟩
      · cases h2
      · exact hinj p q a b ha hb h1 h2 e
  · rcases set_get hsl with ⟨rfl, rfl⟩ | ⟨n1, hsl⟩
    · rw [hn] at hy; cases hy; exact b
    · by_cases hh : sl.holds = true
      · exact (hvar j y sl hy hsl).base rfl fun q _ _ hb => up _ (fun e => n1 (hinj j i sl _ hsl hs hh rfl e)) hb
      · cases sl with
        | un => trivial
        | val v => exact hvar j y _ hy hsl
        | raw v => exact hvar j y _ hy hsl
        | own _ => exact absurd rfl hh
        | self _ _ _ => exact absurd rfl hh

theorem St.ofRaw {a : Addr} {o : Obj} (st : St G F (Γ.prot a o) P σ s) {i : Nat} {x : Str} {ws : List Value} {n : Nat} {vs : List V} {h' : Heap} {tk : Nat} (hn : F.names[i]? = some x) (hs : σ[i]? = some (.raw (.ref a))) (hlen : σ.length = F.names.length) (hd : o.data ≠ .plain ∧ ∀ v, o.data ≠ .cell v)
    (hP : P a = none) (hb : Γ.base a = none) (hs0 : G.s0.heap.get? a = none) (hP0 : Γ.P0 a = none) (hk : ∀ b q, b ≠ a → s.heap.get? b = some q → h'.get? b = some q) (hg : h'.get? a = some (listO ws n)) (l : LayAll G.C P ws vs) :
    St G F Γ P (σ.set i (.own vs)) { s with heap := h', toks := tk } := by
  have st1 : St G F (Γ.prot a (listO ws n)) P σ { s with heap := h', toks := tk } := st.step hd hP0 hs0 hk hg
  have st2 := st1.unprot hb hs0
  obtain ⟨α, hinj, hvar⟩ := st2.vars
  obtain ⟨α1, _, hvar1⟩ := st1.vars
  have ne : ∀ (j : Nat) (sl : Slot), σ[j]? = some sl → sl.holds = true → ∀ y, F.names[j]? = some y → ∀ α0 : Addr, SlotIs G.C (Γ.prot a (listO ws n)) P h' α0 y sl → α0 ≠ a := fun j sl hj hh y hy α0 z => by
    cases sl with
    | own vs => obtain ⟨b, h1, h2, _⟩ := z; rintro rfl; rw [prot_self] at h2; cases h2
    | self x' fs vs => obtain ⟨b, h1, h2, h3, h4, h4', h5, _⟩ := z; rintro rfl; rw [prot_self] at h5; cases h5
    | _ => cases hh
  obtain ⟨α1, hinj1, hvar1⟩ := st1.vars
  have hnm : ∀ (j : Nat) (sl : Slot), σ[j]? = some sl → ∃ y, F.names[j]? = some y := fun j sl hj => by
    have hlt : j < F.names.length := by rw [← hlen]; exact (List.getElem?_eq_some_iff.mp hj).1
    exact ⟨_, List.getElem?_eq_getElem hlt⟩
  refine ⟨st2.ok, st2.scope, st2.kind, st2.globals, st2.builtins, st2.nodup, st2.apart, st2.top, st2.keep, st2.inP, st2.le, st2.new, st2.ns, st2.baseL, st2.PL, st2.cell, fun j => if j = i then a else α1 j, fun p q a' b' ha' hb' h1 h2 e => ?_, fun j y sl hy hsl => ?_⟩
  · rcases set_get ha' with ⟨e1, e2⟩ | ⟨n1, k1⟩ <;> rcases set_get hb' with ⟨e3, e4⟩ | ⟨n2, k2⟩
    · rw [e1, e3]
    · simp only [if_pos e1, if_neg n2] at e
      obtain ⟨y, hy⟩ := hnm q _ k2
      exact absurd e.symm (ne q _ k2 h2 y hy _ (hvar1 q y _ hy k2))
    · simp only [if_pos e3, if_neg n1] at e
      obtain ⟨y, hy⟩ := hnm p _ k1
      exact absurd e (ne p _ k1 h1 y hy _ (hvar1 p y _ hy k1))
    · simp only [if_neg n1, if_neg n2] at e; exact hinj1 p q a' b' k1 k2 h1 h2 e
  · rcases set_get hsl with ⟨rfl, rfl⟩ | ⟨n1, hsl⟩
    · rw [hn] at hy; cases hy
      simp only [if_pos]
      exact ⟨hvar1 j x _ hn hs, hP, hb, ws, n, hg, l⟩
    · simp only [if_neg n1]
      refine (hvar1 j y sl hy hsl).base rfl fun q _ _ hb' => ?_
      by_cases e : α1 j = a
      · rw [e]; exact hb
      · rwa [prot_ne _ _ e] at hb'

/-- read once more, not to be changed any more -/
theorem St.freeze (st : St G F Γ P σ s) {i : Nat} {x : Str} {vs : List V} (hn : F.names[i]? = some x) (hs : σ[i]? = some (.own vs)) :
    ∃ a P', Bnd Γ.env s.heap x (.ref a) ∧ P.le P' ∧ Lay G.C P' (.ref a) (.lst vs) ∧ St G F Γ P' (σ.set i (.val (.lst vs))) s := by
  obtain ⟨α, hinj, hvar⟩ := st.vars
  obtain ⟨b, h1, h2, ws, n, h3, h4⟩ := hvar i x _ hn hs
  have le : P.le (P.put (α i) (listO ws n)) := Part.le_put _ h1
  have up : ∀ a, a ≠ α i → P a = none → P.put (α i) (listO ws n) a = none := fun a ha e => by rw [Part.put_ne _ _ ha]; exact e
  refine ⟨α i, P.put (α i) (listO ws n), b, le, .lst (Part.put_self _ _ _) (h4.mono le), ?_⟩
  refine ⟨st.ok, st.scope, st.kind, st.globals, st.builtins, st.nodup, st.apart, st.top, st.keep, fun a q e => ?_, st.le.trans le, fun a q e => ?_, st.ns, st.baseL, up _ (st.notL_list h3) st.PL, fun y hy => ?_, α, fun p q a b ha hb h1 h2 e => ?_, fun j y sl hy hsl => ?_⟩
  · by_cases ha : a = α i
    · subst ha; rw [Part.put_self] at e; cases e; exact h3
    · rw [Part.put_ne _ _ ha] at e; exact st.inP a q e
  · by_cases ha : a = α i
    · subst ha; exact .inr h2
    · rw [Part.put_ne _ _ ha] at e; exact st.new a q e
  · obtain ⟨e1, c, v, e2, e3, e4, e5⟩ := st.cell y hy
    refine ⟨e1, c, v, e2, e3, e4, up c ?_ e5⟩
    obtain ⟨oc, g1, g2⟩ := e3
    rintro rfl; rw [h3] at g1; cases g1; cases g2
  · rcases set_get ha with ⟨rfl, rfl⟩ | ⟨n1, ha⟩
    · cases h1
    · rcases set_get hb with ⟨rfl, rfl⟩ | ⟨n2, hb⟩
      · cases h2
      · exact hinj p q a b ha hb h1 h2 e
  · rcases set_get hsl with ⟨rfl, rfl⟩ | ⟨n1, hsl⟩
    · rw [hn] at hy; cases hy; exact ⟨_, b, .lst (Part.put_self _ _ _) (h4.mono le)⟩
    · have z := hvar j y sl hy hsl
      cases sl with
      | un => trivial
      | val v => obtain ⟨w, b, l⟩ := z; exact ⟨w, b, l.mono le⟩
      | raw v => exact z
      | own us =>
        have hne : α j ≠ α i := fun e => n1 (hinj j i _ _ hsl hs rfl rfl e)
        obtain ⟨b, k1, k2, us', m, k3, k4⟩ := z
        exact ⟨b, up _ hne k1, k2, us', m, k3, k4.mono le⟩
      | self x' fs us =>
        have hne : α j ≠ α i := fun e => n1 (hinj j i _ _ hsl hs rfl rfl e)
        obtain ⟨b, k1, k2, k3, k4, k4', k5, es, us', m, k6, k7, k8, k9⟩ := z
        exact ⟨b, k1, k2, k3, up _ hne k4, up _ (by rintro rfl; rw [h3] at k1; cases k1) k4', k5, es, us', m, k6, k7, k8.mono le, k9⟩

theorem Ev.freeze {i : Nat} {x : Str} {pos : Pos} {vs : List V} (hn : F.names[i]? = some x) (hs : σ[i]? = some (.own vs)) (hd : okName x = true) : Ev G F k σ (.Name x pos) (.lst vs) (σ.set i (.val (.lst vs))) := by
  intro Γ P A s E Q hr st h
  obtain ⟨a, P', b, le, l, st'⟩ := st.freeze hn hs
  exact wpAny_Name (b.load st.fn (h _ _ _ le st' l) (okName.cls hd)) (okName.debug hd)

/-- x = [] -/
theorem Ex.ownNil {i : Nat} {x : Str} {p lp pos : Pos} (hn : F.names[i]? = some x) (hl : Loc F x = true) (hlen : σ.length = F.names.length)
    (hs : ∀ env : Env, env.scope = F.scope → swapsWithSole [.Name x p] (.List [] lp) pos.line env = pure false := by intros; rfl) : Ex G F k σ (.Assign [.Name x p] (.List [] lp) pos) (.next (σ.set i (.own []))) := by
  intro Γ P A s E Q hr st hQ
  rw [exec_Assign_eq, hs _ st.scope]
  refine wpAny_bind (wpAny_standAt (wpAny_bind (wpAny_pure ?_)))
  simp only [Bool.false_eq_true, if_false]
  refine wpAny_bind (List_ (wpAny_pure (wpAny_newObj_type ?_ (by show (0 : Nat) ≤ _; exact Nat.zero_le _))))
  refine wpAny_bind (wpAny_pure ?_)
  show wpAny _ A (do assignAll _ ((assignEach [.Name x p] Γ.env).map (·.2)); pure .next) Q E _
  refine wpAny_bind ?_
  show wpAny _ A (PySem.assign (.Name x p) Γ.env (.ref s.heap.objs.size)) _ E _
  exact wpAny_assign_Name (st.setOwn (ws := []) (tk := s.toks) hn hlen (Loc.of st hl) .nil fun s' st' => wpAny_pure (hQ _ _ _ (Part.le.refl _) ⟨rfl, st'⟩))

/-- x = a + b, a list of one's own -/
theorem Ex.ownAdd {i : Nat} {x : Str} {p bp pos : Pos} {l r : Expr} {us vs : List V} (h1 : Ev G F k σ l (.lst us) σ₁) (h2 : Ev G F k σ₁ r (.lst vs) σ₂) (hn : F.names[i]? = some x) (hl : Loc F x = true) (hlen : σ₂.length = F.names.length) (hz : us.length + vs.length ≤ 1000000)
    (hs : ∀ env : Env, env.scope = F.scope → swapsWithSole [.Name x p] (.BinOp l .Add r bp) pos.line env = pure false := by intros; rfl) : Ex G F k σ (.Assign [.Name x p] (.BinOp l .Add r bp) pos) (.next (σ₂.set i (.own (us ++ vs)))) := by
  intro Γ P A s E Q hr st hQ
  rw [exec_Assign_eq, hs _ st.scope]
  refine wpAny_bind (wpAny_standAt (wpAny_bind (wpAny_pure ?_)))
  simp only [Bool.false_eq_true, if_false]
  refine wpAny_bind (wpAny_BinOp (h1 Γ P A s E _ hr st fun va P1 s1 le1 st1 l1 => h2 Γ P1 A s1 E _ hr st1 fun vb P2 s2 le2 st2 l2 => ?_))
  have l1' := l1.mono le2
  cases l1' with
  | lst pa la =>
    cases l2 with
    | lst pb lb =>
      rename_i a wa na b wb nb
      refine PySem.P.add_list (st2.inP _ _ pa) (st2.inP _ _ pb) ?_ (by rw [List.size_toArray, List.size_toArray, la.length, lb.length]; exact Nat.le_trans hz (by decide))
      refine wpAny_bind (wpAny_pure ?_)
      show wpAny _ A (do assignAll _ ((assignEach [.Name x p] Γ.env).map (·.2)); pure .next) Q E _
      refine wpAny_bind ?_
      show wpAny _ A (PySem.assign (.Name x p) Γ.env (.ref s2.heap.objs.size)) _ E _
      rw [show wa.toArray ++ wb.toArray = (wa ++ wb).toArray by simp]
      exact wpAny_assign_Name (st2.setOwn (ws := wa ++ wb) (tk := s2.toks) hn hlen (Loc.of st2 hl) (la.append lb) fun s' st' => wpAny_pure (hQ _ _ _ (le1.trans le2) ⟨rfl, st'⟩))

theorem St.loadOwn {x : Str} {pos : Pos} {v : Value} (st : St G F Γ P σ s) (b : Bnd Γ.env s.heap x v) (hd : okName x = true) {A : Around} {M : Model} {E : Value → Shared → Prop} {Q : Value → Shared → Prop} (h : Q v s) : wpAny M A (eval (.Name x pos) Γ.env) Q E s :=
  wpAny_Name (b.load st.fn h (okName.cls hd)) (okName.debug hd)

/-- len(x) -/
theorem Ev.len_own {i : Nat} {x : Str} {p q pos : Pos} {vs : List V} (g : GName G F "len" (.builtin "len")) (hn : F.names[i]? = some x) (hs : σ[i]? = some (.own vs)) (hd : okName x = true) (hz : vs.length ≤ 1000000) :
    Ev G F k σ (.Call (.Name "len" p) [.Name x q] [] pos) (.int vs.length) σ := by
  intro Γ P A s E Q hr st hQ
  refine wpAny_Call_NameR (g.load st ?_)
  obtain ⟨a, ws, n, g1, ls, b, _⟩ := st.toRaw hn hs
  have hL : s.heap.IsList a ws.toArray := ⟨_, g1, rfl, _, rfl⟩
  have e : (ws.toArray.size : Int) = vs.length := by rw [List.size_toArray, ls.length]
  refine Calls.callWith_builtin rfl (Calls.evalArgs_plain (Calls.spliced_cons (st.loadOwn b hd (Calls.spliced_nil ?_))))
  refine PyProof.Rows.len_list hL (by omega) ?_
  rw [e]; exact hQ _ _ _ (Part.le.refl _) st.tok (.int _ _)

theorem list_set_self {α : Type} {l : List α} {i : Nat} {a : α} (h : l[i]? = some a) : l.set i a = l := by
  obtain ⟨h1, h2⟩ := List.getElem?_eq_some_iff.mp h
  rw [← h2]; exact List.set_getElem_self h1
theorem list_set_get {α : Type} {l : List α} {i : Nat} {a b : α} (h : l[i]? = some a) : (l.set i b)[i]? = some b := by
  obtain ⟨h1, h2⟩ := List.getElem?_eq_some_iff.mp h
  simp [h1]

/-- x[j] -/
theorem Ev.item_own {i : Nat} {x : Str} {p pos : Pos} {slice : Expr} {vs : List V} {j : Int} {w : V} (hn : F.names[i]? = some x) (hs : σ[i]? = some (.own vs)) (hlen : σ.length = F.names.length) (hd : okName x = true) (h2 : ∀ r, Ev G F k (σ.set i (.raw r)) slice (.int j) (σ.set i (.raw r)))
    (hw : itemV (.lst vs) j = some w) (hi : -1000000000 ≤ j ∧ j ≤ 1000000000) (hsl : ∀ o i, subscripted slice false o i = operate [o, i] (getItem o i) := by intros; rfl) : Ev G F k σ (.Subscript (.Name x p) slice pos) w σ := by
  intro Γ P A s E Q hr st hQ
  obtain ⟨a, ws, n, g1, ls, b, c1, c2, c3, c4, st'⟩ := st.toRaw hn hs
  refine Subscript_ (st.loadOwn b hd ?_)
  refine h2 _ (Γ.prot a (listO ws n)) P A s E _ hr st' fun jv P2 s2 le2 st2 l2 => ?_
  cases l2
  have g2 : s2.heap.get? a = some (listO ws n) := st2.keep _ _ (prot_self _ _ _)
  have hPa : P2 a = none := by
    cases e : P2 a with
    | none => rfl
    | some q => rcases st2.new a q e with h | h
                · rw [show (Γ.prot a (listO ws n)).P0 = Γ.P0 from rfl, c4] at h; cases h
                · rw [prot_self] at h; cases h
  have st3 : ∀ tk, St G F Γ P2 σ { s2 with toks := tk } := fun tk => by
    have := st2.ofRaw (tk := tk) (h' := s2.heap) (vs := vs) hn (list_set_get hs) (by simpa using hlen) listO_data hPa c2 c3 c4 (fun _ _ _ e => e) g2 (ls.mono le2)
    rwa [List.set_set, list_set_self hs] at this
  have lay : Lay G.C (P2.put a (listO ws n)) (.ref a) (.lst vs) := .lst (Part.put_self _ _ _) (ls.mono (le2.trans (Part.le_put _ hPa)))
  have inn : (P2.put a (listO ws n)).In s2.heap := fun b q e => by
    by_cases hb : b = a
    · subst hb; rw [Part.put_self] at e; cases e; exact g2
    · rw [Part.put_ne _ _ hb] at e; exact st2.inP _ _ e
  have hL : s2.heap.IsList a ws.toArray := ⟨_, g2, rfl, _, rfl⟩
  have hsz : ws.toArray.size = vs.length := by rw [List.size_toArray, ls.length]
  simp only [itemV] at hw
  obtain ⟨m, hj, hdd⟩ := Option.bind_eq_some_iff.mp hw
  obtain ⟨val, hv, lv⟩ := (ls.mono le2).get hdd
  have fin : Q val s2 := hQ _ _ _ le2 (st3 s2.toks) lv
  refine tail_any hL.typeIs slot_list_getitem.lookup ?_ (hsl _ _)
  rcases seqIndex_cases hj with ⟨h0, e, _⟩ | ⟨h0, h1, e, _⟩
  · exact wpAny_getItem_list hL h0 (by omega) (by rw [← e]; simpa using hv) fin
  · refine wpAny_getItem_list_neg hL h0 (by rw [hsz]; exact h1) (by omega) ?_ fin
    rw [hsz, ← e]; simpa using hv

/-- x.append(e) -/
theorem Ev.append {i : Nat} {x : Str} {p apos pos : Pos} {e : Expr} {vs : List V} {v : V} (hn : F.names[i]? = some x) (hs : σ[i]? = some (.own vs)) (hlen : σ.length = F.names.length) (hd : okName x = true) (h2 : ∀ r, Ev G F k (σ.set i (.raw r)) e v (σ.set i (.raw r))) (hz : vs.length ≤ 1000000)
    (hl : (apos.endLine == pos.line) = true := by rfl) (he : ∀ env, backTo pos (starEach [e] env) = [(false, eval e env)] := by intros; rfl) : Ev G F k σ (.Call (.Attribute (.Name x p) "append" apos) [e] [] pos) .none (σ.set i (.own (vs ++ [v]))) := by
  intro Γ P A s E Q hr st hQ
  obtain ⟨a, ws, n, g1, ls, b, c1, c2, c3, c4, st'⟩ := st.toRaw hn hs
  refine wpAny_Call_append rfl (by rw [he]; rfl) hl (he _) (st.loadOwn b hd ⟨a, ws.toArray, rfl, ⟨_, _, g1, rfl, rfl, rfl⟩, ?_⟩)
  refine h2 _ (Γ.prot a (listO ws n)) P A s E _ hr st' fun vv P2 s2 le2 st2 l2 => ?_
  have g2 : s2.heap.get? a = some (listO ws n) := st2.keep _ _ (prot_self _ _ _)
  have hPa : P2 a = none := by
    cases e : P2 a with
    | none => rfl
    | some q => rcases st2.new a q e with h | h
                · rw [show (Γ.prot a (listO ws n)).P0 = Γ.P0 from rfl, c4] at h; cases h
                · rw [prot_self] at h; cases h
  refine append_step g2 (by rw [ls.length]; exact hz) fun h' n' g3 sb => ?_
  have st3 := st2.ofRaw (tk := s2.toks) (h' := h') (vs := vs ++ [v]) hn (list_set_get hs) (by simpa using hlen) listO_data hPa c2 c3 c4 (fun b q hb e => by rw [sb.2 b hb]; exact e) g3 ((ls.mono le2).append (.cons l2 .nil))
  rw [List.set_set] at st3
  exact hQ _ _ _ le2 st3 .none

/-- x.pop() -/
theorem Ev.pop {i : Nat} {x : Str} {p apos pos : Pos} {vs : List V} {v : V} (hn : F.names[i]? = some x) (hs : σ[i]? = some (.own (vs ++ [v]))) (hlen : σ.length = F.names.length) (hd : okName x = true) (hz : vs.length ≤ 1000000)
    (hl : (apos.endLine == pos.line) = true := by rfl) : Ev G F k σ (.Call (.Attribute (.Name x p) "pop" apos) [] [] pos) v (σ.set i (.own vs)) := by
  intro Γ P A s E Q hr st hQ
  obtain ⟨a, ws, n, g1, ls, b, c1, c2, c3, c4, st'⟩ := st.toRaw hn hs
  have hL : s.heap.IsList a ws.toArray := ⟨_, g1, rfl, _, rfl⟩
  have hlw : ws.length = vs.length + 1 := by rw [ls.length]; simp
  obtain ⟨y, hy, ly⟩ := ls.get (i := vs.length) (d := v) (by simp)
  show wpAny _ A (do
    let ov ← attributeBase (.Name x p) "pop" Γ.env (eval (.Name x p) Γ.env)
    standAt apos.atName
    methodCall (.Name x p) "pop" apos pos Γ.env ov (([] : List Expr).length + ([] : List Keyword).length) (backTo pos (starEach [] Γ.env)) (backToKw pos (keywordEach [] Γ.env))) Q E s
  rw [show attributeBase (.Name x p) "pop" Γ.env (eval (.Name x p) Γ.env) = eval (.Name x p) Γ.env from rfl]
  refine wpAny_bind (st.loadOwn b hd (wpAny_bind (wpAny_standAt ?_)))
  unfold methodCall
  rw [few_args (es := []) rfl (by decide)]
  refine wpAny_bind (wpAny_holding ?_)
  unfold calleeOf
  refine getMethod_list_of PySem.F.slot_list_pop PySem.F.type_list_pop hL ?_ ?_
  · exact ⟨_, g1, rfl⟩
  refine wpAny_bind (method_pos hl ?_)
  refine PySem.P.pop_list g1 (y := y) (by simpa [hlw] using hy) ?_ (by rw [List.size_toArray, hlw]; exact Nat.le_trans (Nat.succ_le_succ hz) (by decide))
  have g3 : (s.heap.update a (Obj.mapSeq fun xs => xs.eraseIdxIfInBounds (ws.toArray.size - 1))).get? a = some (listO (ws.take vs.length) (n + 1)) := by
    have := IsL.update (h := s.heap) (l := a) (items := ws.toArray) (n := n) g1 (fun xs => xs.eraseIdxIfInBounds (ws.toArray.size - 1))
    rw [this]
    unfold listO
    have e : (ws.toArray.eraseIdxIfInBounds (ws.toArray.size - 1)) = (ws.take vs.length).toArray := by
      rw [List.size_toArray, hlw, Nat.add_sub_cancel, List.eraseIdxIfInBounds_toArray]
      congr 1
      rw [List.eraseIdx_eq_take_drop_succ, List.drop_eq_nil_of_le (by omega), List.append_nil]
    simp only [e]
    rw [List.size_toArray, List.size_toArray, List.length_take, hlw]
    simp
  have lt : LayAll G.C P (ws.take vs.length) vs := by simpa using ls.take vs.length
  have st3 := st'.ofRaw (tk := s.toks) (vs := vs) hn (list_set_get hs) (by simpa using hlen) listO_data c1 c2 c3 c4 (fun b q hb e => by rw [Heap.get?_update_other _ _ (Ne.symm hb)]; exact e) g3 lt
  rw [List.set_set] at st3
  exact hQ _ _ _ (Part.le.refl _) st3 ly
end
end Mine

namespace Mine
section
variable {G : Glo} {F Fc : Fst} {k k' : Nat} {σ σ' σ₁ σ₂ σc : List Slot} {Γ : Act} {P P1 : Part} {s : Shared}

theorem listO_update {h : Heap} {l : Addr} {ws : List Value} {n : Nat} (g : h.get? l = some (listO ws n)) (j : Nat) (v : Value) : ∃ n', (h.update l (Obj.mapSeq (·.setIfInBounds j v))).get? l = some (listO (ws.set j v) n') := by
  have := IsL.update (h := h) (l := l) (items := ws.toArray) (n := n) g (fun xs => xs.setIfInBounds j v)
  simp only [List.setIfInBounds_toArray] at this
  exact ⟨_, this⟩

theorem setItem_listO {l : Addr} {ws : List Value} {n : Nat} {q : Int} {t : Tok} {v : Value} {A : Around} {E : Value → Shared → Prop} {Q : Unit → Shared → Prop} (g : s.heap.get? l = some (listO ws n)) (h0 : 0 ≤ q) (hj : q < ws.length) (hfit : q < 2 ^ 63)
    (hQ : ∀ h' n', h'.get? l = some (listO (ws.set q.toNat v) n') → Heap.SameBut l s.heap h' → Q () { s with heap := h' }) : wpAny (model G.prog G.w) A (setItem (.ref l) (.int q t) v) Q E s := by
  have hl : s.heap.IsList l ws.toArray := ⟨_, g, rfl, _, rfl⟩
  have hup : ∃ n', (s.heap.update l (Obj.mapSeq (·.setIfInBounds q.toNat v))).get? l = some (listO (ws.set q.toNat v) n') := listO_update g q.toNat v
  obtain ⟨o, ho, hd⟩ : ∃ o, s.heap.get? l = some o ∧ o.data = .seq ws.toArray n := ⟨_, g, rfl⟩
  clear g
  unfold setItem
  try with_reducible refine wpAny_holding ?_
  first | refine wpAny_bind (wpAny_pure ?_) | skip
  refine wpAny_bind (wpAny_sequenceKey hl.typeIs (by decide) ?_)
  refine wpAny_bind (wpAny_callSpecial?_slot (name := Str.ofString "__setitem__") hl.typeIs slot_list_setitem
    (wpAny_call_entry slot_list_setitem hl.typeIs entry_list_setitem ?_ (args_list_setitem _ _ _)))
  show wpAny _ _ (Builtin.List.listSubscript? (.int q t) >>= _) _ _ s
  refine wpAny_bind (wpAny_listSubscript_int (fitsIndex_of h0 hfit) ?_)
  clear hfit
  obtain ⟨j, rfl⟩ := Int.eq_ofNat_of_zero_le h0
  have hj' : j < ws.toArray.size := by rw [List.size_toArray]; omega
  have hx' : ws.toArray[j]? = some ws.toArray[j] := Array.getElem?_eq_getElem hj'
  show wpAny _ _ ((seqItemAt l j >>= fun r => pure (r.map (j, ·))) >>= _) _ _ s
  refine wpAny_bind (wpAny_bind (wpAny_seqItemAt ho hd (wpAny_pure ?_)))
  rw [hx']
  show wpAny _ _ (setSeqItemAt l j v >>= _) _ _ s
  obtain ⟨n', hn'⟩ := hup
  refine wpAny_bind (wpAny_setSeqItemAt ho hd ?_)
  first
    | exact wpAny_bind (wpAny_pure (wpAny_pure ⟨.none, rfl, wpAny_pure (hQ _ _ hn' (Heap.SameBut.update ..))⟩))
    | exact wpAny_pure ⟨.none, rfl, wpAny_pure (hQ _ _ hn' (Heap.SameBut.update ..))⟩

theorem LayAll.set {C : Addr} {P : Part} : ∀ {vs : List Value} {ds : List V} (j : Nat) {v : Value} {d : V}, LayAll C P vs ds → Lay C P v d → LayAll C P (vs.set j v) (ds.set j d)
  | _, _, _, _, _, .nil, _ => by simp; exact .nil
  | _, _, 0, _, _, .cons x r, l => by simpa using LayAll.cons l r
  | _, _, j + 1, _, _, .cons x r, l => by simpa using LayAll.cons x (r.set j l)

/-- x[b] = e, for a list that x owns -/
theorem Ex.setitem {i : Nat} {x : Str} {p sp pos : Pos} {e b : Expr} {vs : List V} {j : Nat} {v : V} (hn : F.names[i]? = some x) (hlen : σ.length = F.names.length) (hs : σ[i]? = some (.own vs)) (hd : okName x = true) (h1 : Ev G F k σ e v σ) (h2 : ∀ r, Ev G F k (σ.set i (.raw r)) b (.int j) (σ.set i (.raw r)))
    (hj : j < vs.length) (hz : vs.length ≤ 1000000) (hsw : ∀ env, swapsWith e (some (.Subscript (.Name x p) b sp)) pos.line env = pure false := by intros; rfl) :
    Ex G F k σ (.Assign [.Subscript (.Name x p) b sp] e pos) (.next (σ.set i (.own (vs.set j v)))) := by
  intro Γ P A s E Q hr st hQ
  refine wpAny_Assign_Subscript (h1 Γ P A s E _ hr st fun ev P1 s1 le1 st1 l1 => ?_) (hsw _)
  obtain ⟨a, ws, n, g1, ls, b, c1, c2, c3, c4, st'⟩ := st1.toRaw hn hs
  refine st1.loadOwn b hd ?_
  refine h2 _ (Γ.prot a (listO ws n)) P1 A s1 E _ hr st' fun jv P2 s2 le2 st2 l2 => ?_
  cases l2
  have g2 : s2.heap.get? a = some (listO ws n) := st2.keep _ _ (prot_self _ _ _)
  have hPa : P2 a = none := by
    cases e : P2 a with
    | none => rfl
    | some q => rcases st2.new a q e with h | h
                · rw [show (Γ.prot a (listO ws n)).P0 = Γ.P0 from rfl, c4] at h; cases h
                · rw [prot_self] at h; cases h
  refine setItem_listO g2 (by omega) (by rw [ls.length]; omega) (by omega) fun h' n' g3 sb => ?_
  have st3 := st2.ofRaw (tk := s2.toks) (h' := h') (vs := vs.set j v) hn (list_set_get hs) (by simpa using hlen) listO_data hPa c2 c3 c4 (fun b q hb e => by rw [sb.2 b hb]; exact e) g3 ((ls.mono le2).set j (l1.mono le2))
  rw [List.set_set] at st3
  exact hQ _ _ _ (le1.trans le2) ⟨rfl, st3⟩

/-- tuple(list) -/
theorem Op.tuple {vs : List V} (hz : vs.length ≤ 1000000) : Op G k (opCall (.type "tuple")) [.lst vs] (.tup vs) := by
  intro P A s E Q vals hr ok inn l hQ
  cases l with
  | cons l1 l =>
    cases l
    cases l1 with
    | lst p ls =>
      rename_i a ws n
      have hL : s.heap.IsList a ws.toArray := ⟨_, inn _ _ p, rfl, _, rfl⟩
      refine call_tuple_list hL (fun h' hk => ?_) (by rw [List.size_toArray, ls.length]; exact Nat.le_trans hz (by decide))
      have inn' : P.In h' := fun b q e => hk b q (inn b q e)
      obtain ⟨f1, f2, f3⟩ := put_facts (P := P) (h := h') (o := tupO ws 0) inn' rfl
      refine hQ _ _ _ s.toks (Kept.trans (fun b q e => hk b q e) (Kept.push _ (tupO ws 0))) f1 f2 (fun b q e => ?_) (.tup (Part.put_self _ _ _) (ls.mono f1))
      rcases f3 b q e with h | h
      · exact .inl h
      · refine .inr ?_
        cases e : s.heap.get? b with
        | none => rfl
        | some q' => rw [hk b q' e] at h; cases h

/-- is not None -/
def notNone : V → Bool
  | .none => false
  | _ => true
theorem Op.isNot {v : V} : Op G k (opCmp .IsNot) [v, .none] (.bool (notNone v)) := by
  intro P A s E Q vals hr ok inn l hQ
  cases l with
  | cons l1 l =>
    cases l with
    | cons l2 l =>
      cases l; cases l2
      have fin : Q (.bool (notNone v)) s := hQ _ P s.heap s.toks (Kept.refl _) (Part.le.refl _) inn (fun _ _ e => .inl e) (.bool _)
      cases l1 with
      | none => exact wpAny_isNot_self (by rfl) fin
      | _ => exact isnot_none_ne (by intro e; cases e) fin

/-- minus a number -/
theorem Ev.neg {e : Expr} {pos : Pos} {i : Int} (h : Ev G F k σ e (.int i) σ') : Ev G F k σ (.UnaryOp .USub e pos) (.int (-i)) σ' := by
  intro Γ P A s E Q hr st hQ
  refine wpAny_UnaryOp (h Γ P A s E _ hr st fun v P1 s1 le1 st1 l1 => ?_)
  cases l1
  exact PyProof.Rows.neg_int (hQ _ _ _ le1 st1.tok (.int _ _))
end
end Mine

namespace Mine
section
variable {G : Glo} {F Fc : Fst} {k k' : Nat} {σ σ' σ₁ σ₂ σc : List Slot} {Γ : Act} {P P1 : Part} {s : Shared}

/-- what is to be known of the class -/
structure ClsOk (G : Glo) : Prop where
  ga : findIn G.K (.ref G.C) "__getattribute__" = some (some (.builtin "object.__getattribute__"))
  gattr : findIn G.K (.ref G.C) "__getattr__" = some none
  sattr : findIn G.K (.ref G.C) "__setattr__" = some (some (.builtin "object.__setattr__"))
  has : ∃ cd, clsIn G.K G.C = some cd ∧ cd.hasDict = true
  plain : plainOver G.K G.C = true
  fields : ∀ f ∈ fieldNames, findIn G.K (.ref G.C) f = some none
  makes : makesIn G.K G.C = true

/-! entries of an object's dict -/
theorem isStr_iff (a b : Str) (t : Tok) : (Value.str a t).isStr b = decide (a = b) := by
  show (a == b) = _
  by_cases h : a = b
  · subst h; simp
  · simp [h]
theorem Ents.find {ns : List Str} {ws : List Value} {es : List DictEntry} (h : Ents ns ws es) : ∀ {j : Nat} {x : Str} {v : Value}, ns.Nodup → ns[j]? = some x → ws[j]? = some v → ∃ e, es.find? (·.key.isStr x) = some e ∧ e.val = v := by
  induction h with
  | nil => intro j x v _ h1; simp at h1
  | cons hr ih =>
    rename_i n ns v' vs hh t es
    intro j x v hd h1 h2
    rw [List.find?_cons]
    show ∃ e : DictEntry, (match (Value.str n t).isStr x with | true => some _ | false => _) = some e ∧ e.val = v
    rw [isStr_iff]
    cases j with
    | zero =>
      simp at h1 h2; subst h1 h2
      exact ⟨⟨hh, .str n t, v'⟩, by simp, rfl⟩
    | succ j =>
      have h1' : ns[j]? = some x := by simpa using h1
      have h2' : vs[j]? = some v := by simpa using h2
      have hne : n ≠ x := by
        intro e; subst e
        exact (List.nodup_cons.mp hd).1 (List.mem_of_getElem? h1')
      simp only [decide_eq_false hne]
      exact ih (List.nodup_cons.mp hd).2 h1' h2'
theorem Ents.absent {ns : List Str} {ws : List Value} {es : List DictEntry} (h : Ents ns ws es) {x : Str} (hx : x ∉ ns) : es.any (·.key.isStr x) = false := by
  induction h with
  | nil => rfl
  | cons hr ih =>
    rename_i n ns v' vs hh t es
    simp only [List.mem_cons, not_or] at hx
    rw [List.any_cons, ih hx.2]
    show ((Value.str n t).isStr x || false) = false
    rw [isStr_iff, decide_eq_false (Ne.symm hx.1)]; rfl
theorem Ents.noRef {ns : List Str} {ws : List Value} {es : List DictEntry} (h : Ents ns ws es) : es.any (·.refKey) = false := by
  induction h with
  | nil => rfl
  | cons hr ih => rw [List.any_cons, ih]; rfl
theorem Ents.snoc {ns : List Str} {ws : List Value} {es : List DictEntry} (h : Ents ns ws es) {x : Str} {v : Value} {hh : Int} {t : Tok} : Ents (ns ++ [x]) (ws ++ [v]) (es ++ [⟨hh, .str x t, v⟩]) := by
  induction h with
  | nil => exact .cons .nil
  | cons hr ih => exact .cons ih
theorem Ents.length {ns : List Str} {ws : List Value} {es : List DictEntry} (h : Ents ns ws es) : es.length = ns.length := by
  induction h with
  | nil => rfl
  | cons hr ih => simp [ih]

theorem Lay.handed {C : Addr} {P : Part} {v : Value} {d : V} (l : Lay C P v d) : handedIn v = true := by cases l <;> rfl

theorem findObj_field (c : ClsOk G) {ns : List Str} {ws : List Value} {es : List DictEntry} {n j : Nat} {x : Str} {v : Value} (h : Ents ns ws es) (hd : ns.Nodup) (h1 : ns[j]? = some x) (h2 : ws[j]? = some v) (hx : x ∈ fieldNames) :
    findObj G.K G.C (some (dictOf es n)) x = some (.value v) := by
  obtain ⟨cd, e1, e2⟩ := c.has
  unfold findObj
  rw [e1, Option.bind_some, c.fields x hx, Option.bind_some]
  show (some none).bind _ = _
  rw [Option.bind_some]
  show (some false).bind _ = _
  rw [Option.bind_some]
  show (W.ownOf cd (some (dictOf es n)) x).bind _ = _
  have e3 : W.ownOf cd (some (dictOf es n)) x = some (some v) := by
    unfold W.ownOf
    rw [if_pos e2]
    show lookIn x (dictOf es n) = _
    obtain ⟨e, f1, f2⟩ := h.find hd h1 h2
    show (match es.toArray.toList.find? (·.key.isStr x) with | some e => some (some e.val) | none => _) = _
    rw [show es.toArray.toList = es from rfl, f1, ← f2]
  rw [e3]; rfl

theorem attr_get (c : ClsOk G) {x d : Addr} {es : List DictEntry} {ns : List Str} {ws : List Value} {n j : Nat} {f : Str} {v : Value} {A : Around} {E : Value → Shared → Prop} {Q : Value → Shared → Prop} {ex : Bool} (ok : G.Ok s) (hx : s.heap.get? x = some (instObj G.C d)) (hd : s.heap.get? d = some (dictOf es n)) (h : Ents ns ws es) (hnd : ns.Nodup) (h1 : ns[j]? = some f) (h2 : ws[j]? = some v) (hf : f ∈ fieldNames) (hh : handedIn v = true)
    (hQ : Q v { s with toks := s.toks + 1 }) : wpAny (model G.prog G.w) A (getAttr (.ref x) f ex) Q E s :=
  get_value ok.kin ⟨hx, rfl, rfl, hd⟩ c.ga (findObj_field c h hnd h1 h2 hf) hh hQ

theorem fields_nodup : fieldNames.Nodup := by decide +kernel

/-- o.f, f a field -/
theorem Ev.attr (c : ClsOk G) {o : Expr} {f : Str} {pos : Pos} {vs : List V} {v : V} {j : Nat} (h1 : Ev G F k σ o (.obj vs) σ') (hf : fieldNames[j]? = some f) (hv : vs[j]? = some v)
    (he : ∀ env, eval (.Attribute o f pos) env = (do
      let o' ← eval o env
      standAt pos.atName
      let r ← holding [o'] (getAttr o' f true)
      letTemporaryGo o o' r
      pure r) := by intro _; with_unfolding_all rfl) : Ev G F k σ (.Attribute o f pos) v σ' := by
  intro Γ P A s E Q hr st hQ
  refine Attribute_any_ (h1 Γ P A s E _ hr st fun val P1 s1 le1 st1 l1 => ?_) (he _)
  cases l1 with
  | obj p1 p2 en ls =>
    rename_i a d es ws n
    obtain ⟨w, hw, lw⟩ := ls.get hv
    exact attr_get c st1.ok (st1.inP _ _ p1) (st1.inP _ _ p2) en fields_nodup hf hw (List.mem_of_getElem? hf) lw.handed (hQ _ _ _ le1 st1.tok lw)

/-- self.f in __init__ -/
theorem Ev.attr_self (c : ClsOk G) {i : Nat} {x f : Str} {p pos : Pos} {x' : Addr} {fs : List Str} {vs : List V} {v : V} {j : Nat} (hn : F.names[i]? = some x) (hs : σ[i]? = some (.self x' fs vs)) (hd : okName x = true) (hnd : fs.Nodup) (hf : fs[j]? = some f) (hff : f ∈ fieldNames) (hv : vs[j]? = some v) :
    Ev G F k σ (.Attribute (.Name x p) f pos) v σ := by
  intro Γ P A s E Q hr st hQ
  obtain ⟨α, hinj, hvar⟩ := st.vars
  obtain ⟨b, h1, h2, h3, h4, h4', h5, es, ws, n, h6, h7, h8, h9⟩ := hvar i x _ hn hs
  obtain ⟨w, hw, lw⟩ := h8.get hv
  exact Attribute_name (st.loadOwn b hd (attr_get c st.ok h1 h6 h7 hnd hf hw hff lw.handed (hQ _ _ _ (Part.le.refl _) st.tok lw)))

/-- the methods of the class's -/
theorem Meth.cls (c : ClsOk G) {vs : List V} {name : Str} {f : Addr} (hf : findIn G.K (.ref G.C) name = some (some (.ref f))) (ht : typeIn G.K (.ref f) = some (.type "function")) (hn : name ∉ fieldNames) : Meth G (.obj vs) name (.ref f) := by
  intro P A s E Q val pl ok inn l h
  cases l with
  | obj p1 p2 en ls =>
    rename_i a d es ws n
    refine method_fn (od := some (dictOf es n)) ok.kin ⟨inn _ _ p1, rfl, rfl, inn _ _ p2⟩ c.ga c.gattr hf ht ?_ h
    show (lookIn name (dictOf es n)).map (·.isSome) = some false
    have h1 := en.absent hn
    have h2 := en.noRef
    have e : es.find? (·.key.isStr name) = none := by
      rw [List.find?_eq_none]
      intro e he
      have := List.any_eq_false.mp h1 e he
      exact this
    show Option.map _ (match es.toArray.toList.find? (·.key.isStr name) with | some e => some (some e.val) | none => if es.toArray.toList.any (·.refKey) then none else some none) = _
    rw [show es.toArray.toList = es from rfl, e]
    show Option.map _ (if es.any (·.refKey) then none else some none) = _
    rw [h2]; rfl
end
end Mine

namespace Mine
section
variable {G : Glo} {F Fc : Fst} {k k' : Nat} {σ σ' σ₁ σ₂ σc : List Slot} {Γ : Act} {P P1 : Part} {s : Shared}

/-- C.f, a text of the class's own -/
theorem Ev.clsattr {x f : Str} {p pos : Pos} {y : Str} {t : Tok} (g : GName G F x (.ref G.C)) (hr : readsIn G.K G.C (.type "type") = true) (hf : findCls G.K (.ref G.C) (.type "type") f = some (.val (.str y t))) :
    Ev G F k σ (.Attribute (.Name x p) f pos) (.str y.cps.toList) σ := by
  intro Γ P A s E Q hr' st hQ
  refine Attribute_name (g.load st ?_)
  exact cls_value st.ok.kin hr hf rfl (hQ _ _ _ (Part.le.refl _) st.tok (Lay.ofStr _ _))

/-- x, y = (a, b): the stores come in turn from behind -/
theorem Ex.swapped2 {x y : Str} {i j : Nat} {px py tp vp pos : Pos} {n m : Nat} {a b : Expr} {u v : V} (h : Evs G F k σ [a, b] [u, v] σ₁) (hi : F.names[i]? = some x) (hj : F.names[j]? = some y) (hx : Loc F x = true) (hy : Loc F y = true)
    (hs : ∀ env : Env, env.scope = F.scope → swapsWithSole [.Tuple [.Name x px, .Name y py] n tp] (.Tuple [a, b] m vp) pos.line env = pure false := by intros; rfl)
    (hw : ∀ env : Env, env.scope = F.scope → swappedStores [.Tuple [.Name x px, .Name y py] n tp] (.Tuple [a, b] m vp) env = pure (some [x, y])) :
    Ex G F k σ (.Assign [.Tuple [.Name x px, .Name y py] n tp] (.Tuple [a, b] m vp) pos) (.next ((σ₁.set j (.val v)).set i (.val u))) := by
  intro Γ P A s E Q hr st hQ
  refine Assign_Tuple_swapped (names := [x, y]) ?_ (hs _ st.scope) (hw _ st.scope)
  refine Ev.tuple h (by simp) Γ P A s E _ hr st fun val P1 s1 le1 st1 l1 => ?_
  obtain ⟨ad, rfl⟩ := l1.tup_ref
  obtain ⟨ws, ht, ls⟩ := isTup_of st1.inP l1
  cases ls with
  | cons la ls =>
    cases ls with
    | cons lb ls =>
      cases ls
      rename_i va vb
      refine PyProof.Rows.unpackItems_tuple (items := #[va, vb]) hr.1 ht fun h' hx' => ?_
      have kp : Kept s1.heap h' := fun b o e => hx' b o (Nat.ne_of_lt (Heap.lt_size e)) e
      have st2 : St G F Γ P1 σ₁ { s1 with heap := h' } := st1.grow (tk := s1.toks) kp
      show wpAny _ A (do holding _ (bindName Γ.env y vb); assignInOrder [bindName Γ.env x] [va]) _ E _
      refine wpAny_bind (wpAny_holding (bindName_ (st2.set hj (Loc.of st2 hy) lb fun s3 st3 => ?_)))
      show wpAny _ A (do holding _ (bindName Γ.env x va); assignInOrder [] []) _ E _
      refine wpAny_bind (wpAny_holding (bindName_ (st3.set hi (Loc.of st3 hx) la fun s4 st4 => ?_)))
      exact wpAny_pure (hQ _ _ _ le1 ⟨rfl, st4⟩)

/-- the object in the making gets another dict -/
theorem St.setSelf (st : St G F Γ P σ s) {i : Nat} {x : Str} {x' : Addr} {fs fs' : List Str} {vs vs' : List V} (hn : F.names[i]? = some x) (hs : σ[i]? = some (.self x' fs vs)) :
    ∃ a es ws n, Bnd Γ.env s.heap x (.ref x') ∧ s.heap.get? x' = some (instObj G.C a) ∧ s.heap.get? a = some (dictOf es n) ∧ Ents fs ws es ∧ LayAll G.C P ws vs ∧
      ∀ h' tk es' ws' n', Heap.SameBut a s.heap h' → h'.get? a = some (dictOf es' n') → Ents fs' ws' es' → LayAll G.C P ws' vs' → St G F Γ P (σ.set i (.self x' fs' vs')) { s with heap := h', toks := tk } := by
  obtain ⟨α, hinj, hvar⟩ := st.vars
  obtain ⟨b, h1, h2, h3, h4, h4', h5, es, ws, n, h6, h7, h8, h9⟩ := hvar i x _ hn hs
  refine ⟨α i, es, ws, n, b, h1, h6, h7, h8, fun h' tk es' ws' n' sb g' en' l' => ?_⟩
  have hs0 : ∀ a o, G.s0.heap.get? a = some o → a ≠ α i := fun a o e => by
    rintro rfl; have := st.top _ _ e; rw [h5] at this; cases this
  have bk : ∀ y v, Bnd Γ.env s.heap y v → Bnd Γ.env h' y v := fun y v b => b.sameBut' sb h9 h6 (fun v e => nomatch e)
  refine ⟨⟨?_, fun a o e => ?_⟩, st.scope, st.kind, st.globals, st.builtins, st.nodup, st.apart, st.top, fun a o e => ?_, fun a o e => ?_, st.le, st.new, ?_, st.baseL, st.PL, fun y hy => ?_, α, fun p q a b ha hb k1 k2 e => ?_, fun j y sl hy hsl => ?_⟩
  · obtain ⟨h0, t0, e0⟩ := st.ok.same; exact ⟨h', tk, by rw [e0]⟩
  · show h'.get? a = some o
    rw [sb.2 a (hs0 a o e)]; exact st.ok.keep a o e
  · show h'.get? a = some o
    rw [sb.2 a (by rintro rfl; rw [h5] at e; cases e)]; exact st.keep a o e
  · show h'.get? a = some o
    rw [sb.2 a (by rintro rfl; rw [h4] at e; cases e)]; exact st.inP a o e
  · obtain ⟨m, nn⟩ := st.ns
    exact ⟨m, nn.sameBut sb h9⟩
  · obtain ⟨e1, c, v, e2, e3, e4, e5⟩ := st.cell y hy
    refine ⟨e1, c, v, e2, e3.sameBut sb ?_, e4, e5⟩
    obtain ⟨oc, g1, g2⟩ := e3
    rintro rfl; rw [h6] at g1; cases g1; cases g2
  · rcases set_get ha with ⟨e1, e2⟩ | ⟨n1, ha1⟩ <;> rcases set_get hb with ⟨e3, e4⟩ | ⟨n2, hb1⟩
    · exact e1.trans e3.symm
    · rw [e1] at e ⊢; exact hinj i q _ b hs hb1 rfl k2 e
    · rw [e3] at e ⊢; exact hinj p i a _ ha1 hs k1 rfl e
    · exact hinj p q a b ha1 hb1 k1 k2 e
  · rcases set_get hsl with ⟨rfl, rfl⟩ | ⟨n1, hsl⟩
    · rw [hn] at hy; cases hy
      exact ⟨bk _ _ b, by rw [sb.2 _ h2]; exact h1, h2, h3, h4, h4', h5, es', ws', n', g', en', l', h9⟩
    · have z := hvar j y sl hy hsl
      cases sl with
      | un => trivial
      | val v => obtain ⟨w, b, l⟩ := z; exact ⟨w, bk _ _ b, l⟩
      | raw v => exact bk _ _ z
      | own us =>
        have hne : α j ≠ α i := fun e => n1 (hinj j i _ _ hsl hs rfl rfl e)
        obtain ⟨b, k1, k2, us', m, k3, k4⟩ := z
        exact ⟨bk _ _ b, k1, k2, us', m, by rw [sb.2 _ hne]; exact k3, k4⟩
      | self y' fs us =>
        have hne : α j ≠ α i := fun e => n1 (hinj j i _ _ hsl hs rfl rfl e)
        obtain ⟨b, k1, k2, k3, k4, k4', k5, es, us', m, k6, k7, k8, k9⟩ := z
        exact ⟨bk _ _ b, by rw [sb.2 _ (by rintro rfl; rw [h6] at k1; cases k1)]; exact k1, k2, k3, k4, k4', k5, es, us', m, by rw [sb.2 _ hne]; exact k6, k7, k8, k9⟩

theorem putName_new {es : List DictEntry} {n : Nat} {name : Str} {hh : Int} {key v : Value} (h : es.any (·.key.isStr name) = false) : Obj.putName name hh key v (dictOf es n) = dictOf (es ++ [⟨hh, key, v⟩]) (n + 1) := by
  rw [Obj.putName_eq]
  show (match es.toArray.findIdx? (·.key.isStr name) with | some i => _ | none => _) = _
  have e : es.toArray.findIdx? (fun x => x.key.isStr name) = none := by
    rw [List.findIdx?_toArray, List.findIdx?_eq_none_iff]
    intro x hx
    have := List.any_eq_false.mp h x hx
    simpa using this
  rw [e]
  simp [dictOf]

theorem set_field (c : ClsOk G) {x d : Addr} {es : List DictEntry} {ns : List Str} {ws : List Value} {n : Nat} {f : Str} {v : Value} {A : Around} {E : Value → Shared → Prop} {Q : Unit → Shared → Prop} (ok : G.Ok s) (hx : s.heap.get? x = some (instObj G.C d)) (hd : s.heap.get? d = some (dictOf es n)) (h : Ents ns ws es) (hf : f ∈ fieldNames) (hn : f ∉ ns) (hz : ns.length ≤ 900)
    (hQ : ∀ h' tk hh t n', Heap.SameBut d s.heap h' → h'.get? d = some (dictOf (es ++ [⟨hh, .str f t, v⟩]) n') → Q () { s with heap := h', toks := tk }) : wpAny (model G.prog G.w) A (setAttr (.ref x) f v) Q E s := by
  obtain ⟨cd, e1, e2⟩ := c.has
  have I : InstAt s.heap x (instObj G.C d) G.C (some (dictOf es n)) := ⟨hx, rfl, rfl, hd⟩
  refine set_plain ok.kin I c.sattr ?_
  refine osa_open (s := { s with toks := s.toks + 1 }) (r := none) ok.kin I c.plain (by unfold takerIn; rw [c.fields f hf]; rfl) fun b => ?_
  refine wpAny_bind (wpAny_pure (wpAny_bind (wpAny_bind (wpAny_loadPart hx (wpAny_bind (looks_clsIn (K := G.K) (h := s.heap) ok.kin e1 _ _ _ _ (fun _ _ e => e) ?_))))))
  rw [e2]
  refine wpAny_pure (a := some d) (wpAny_bind (wpAny_pure (wpAny_bind ?_)))
  unfold nsSet
  refine wpAny_bind (wpAny_bind (wpAny_askSetting (wpAny_pure (wpAny_bind (wpAny_mkText (wpAny_bind (wpAny_loadPart hd ?_)))))))
  have ha := h.absent hn
  have hr := h.noRef
  dsimp only
  have cc : (!es.toArray.any (·.key.isStr f) && es.toArray.any (·.refKey)) = false := by
    rw [← Array.any_toList, ← Array.any_toList]
    show (!es.any _ && es.any _) = false
    rw [hr, Bool.and_false]
  rw [aRefKeyMayBeTheName_at, cc]
  have g' : ∀ hh t, (s.heap.update d (Obj.putName f hh (.str f t) v)).get? d = some (dictOf (es ++ [⟨hh, .str f t, v⟩]) (n + 1)) := fun hh t => by
    have e : Obj.putName f hh (.str f t) v (dictOf es n) = dictOf (es ++ [⟨hh, .str f t, v⟩]) (n + 1) := putName_new ha
    have := Heap.get?_update_self (h := s.heap) (a := d) (Obj.putName f hh (.str f t) v) hd (by rw [e]; rfl)
    rw [e] at this; exact this
  refine wpAny_updatePart hd ?_
  refine wpAny_bind (wpAny_lookBehind (g' _ _) (pastItsLine_dict (by rw [List.size_toArray, sizeLine_eq, List.length_append, h.length]; simp; omega)) ?_)
  exact wpAny_pure (hQ _ _ _ _ _ (Heap.SameBut.update ..) (g' _ _))

/-- self.f = e -/
theorem Ex.setattr (c : ClsOk G) {i : Nat} {x f : Str} {p ap pos : Pos} {e : Expr} {x' : Addr} {fs : List Str} {vs : List V} {v : V} (h1 : Ev G F k σ e v σ₁) (hn : F.names[i]? = some x) (hs : σ₁[i]? = some (.self x' fs vs)) (hd : okName x = true) (hf : f ∈ fieldNames) (hff : f ∉ fs) (hz : fs.length ≤ 900)
    (hsw : ∀ env : Env, env.scope = F.scope → swapsWithSole [.Attribute (.Name x p) f ap] e pos.line env = pure false := by intros; rfl) (hw : ∀ env, swappedStores [.Attribute (.Name x p) f ap] e env = pure none := by intros; rfl) :
    Ex G F k σ (.Assign [.Attribute (.Name x p) f ap] e pos) (.next (σ₁.set i (.self x' (fs ++ [f]) (vs ++ [v])))) := by
  intro Γ P A s E Q hr st hQ
  rw [exec_Assign_eq, hsw _ st.scope, hw]
  refine wpAny_bind (wpAny_standAt (wpAny_bind (wpAny_pure ?_)))
  simp only [Bool.false_eq_true, if_false]
  refine wpAny_bind (h1 Γ P A s E _ hr st fun val P' s' le st' l => wpAny_bind (wpAny_pure ?_))
  show wpAny _ A (do PySem.assign (.Attribute (.Name x p) f ap) Γ.env val; pure .next) Q E s'
  refine wpAny_bind ?_
  obtain ⟨a, es, ws, n, b, g1, g2, en, ls, go⟩ := st'.setSelf (fs' := fs ++ [f]) (vs' := vs ++ [v]) hn hs
  rw [arm_assign_Attribute]
  refine wpAny_bind (wpAny_holding (st'.loadOwn b hd (wpAny_bind (wpAny_standAt (wpAny_bind (wpAny_holding ?_))))))
  refine set_field c st'.ok g1 g2 en hf hff hz fun h' tk hh t n' sb g3 => ?_
  exact wpAny_release (wpAny_pure (hQ _ _ _ le ⟨rfl, go h' tk _ _ _ sb g3 en.snoc (ls.append (.cons l .nil))⟩))
end
end Mine

namespace Mine
section
variable {G : Glo} {F Fc : Fst} {k k' : Nat} {σ σ' σ₁ σ₂ σc : List Slot} {Γ : Act} {P P1 : Part} {s : Shared}

/-- the frame of __init__, just made -/
theorem St.startSelf {x0 x1 : Str} {rest : List Str} {v1 : V} {env : Env} {bv : Value} {x d : Addr} {s1 s2 : Shared} (ok1 : G.Ok s1) (inn : P.In s1.heap) (hsc : env.scope = F.scope) (hk : F.scope.kind = .function) (hgl : env.globals = mainGlobals) (hbl : env.builtins = builtinsNs)
    (hL : env.locals = s1.heap.objs.size) (hnames : F.names = x0 :: x1 :: rest) (hnd : F.names.Nodup) (hk0 : F.scope.names.lookup x0 = some .local) (hk1 : F.scope.names.lookup x1 = some .local) (howns : F.owns = []) (l : Lay G.C P bv v1)
    (hx : s1.heap.get? x = some (instObj G.C d)) (hd : s1.heap.get? d = some (dictOf [] 0)) (hPx : P x = none) (hPd : P d = none) (hd0 : G.s0.heap.get? d = none)
    (y : InCallC s1 env.locals (bindL env.kindOf [(x0, .ref x), (x1, bv)] fun _ => none) env.cells (bindC env.kindOf [(x0, .ref x), (x1, bv)] fun _ => none) s2) :
    St G F ⟨env, fun a => if a = d then none else s1.heap.get? a, P⟩ P (.self x [] [] :: .val v1 :: rest.map fun _ => .un) s2 := by
  have hsz : ∀ a, s1.heap.objs.size ≤ a → P a = none := fun a ha => by
    cases e : P a with
    | none => rfl
    | some q => have := inn _ _ e; rw [get?_ge ha] at this; cases this
  obtain ⟨h', tk, es⟩ := y.toInCall.same
  have nz : ∀ a o, s1.heap.get? a = some o → env.locals ≠ a := fun a o e h => by rw [hL] at h; subst h; rw [get?_size] at e; cases e
  have hne : x0 ≠ x1 := by
    rw [hnames] at hnd
    intro e; subst e
    exact (List.nodup_cons.mp hnd).1 (List.mem_cons_self ..)
  have k0 : env.kindOf x0 = some .local := by show env.scope.names.lookup x0 = _; rw [hsc]; exact hk0
  have k1 : env.kindOf x1 = some .local := by show env.scope.names.lookup x1 = _; rw [hsc]; exact hk1
  have hxd : x ≠ d := by rintro rfl; rw [hx] at hd; cases hd
  have pn : [x0, x1].Nodup := by simp [hne]
  have b0 : Bnd env s2.heap x0 (.ref x) := .inl ⟨k0, _, y.toInCall.ns, bindL_get [x0, x1] [.ref x, bv] _ 0 pn rfl rfl k0⟩
  have b1 : Bnd env s2.heap x1 bv := .inl ⟨k1, _, y.toInCall.ns, bindL_get [x0, x1] [.ref x, bv] _ 1 pn rfl rfl k1⟩
  refine ⟨⟨?_, fun a o e => y.toInCall.keep a o (ok1.keep a o e)⟩, hsc, hk, hgl, hbl, hnd, fun p hp => ?_, fun a o e => ?_, fun a o e => ?_, fun a o e => y.toInCall.keep a o (inn a o e), Part.le.refl _, fun a o e => .inl e, ⟨_, y.toInCall.ns⟩, ?_, ?_, fun z hz => ?_, ?_⟩
  · obtain ⟨h0, t0, e0⟩ := ok1.same
    exact ⟨h', tk, by rw [es, e0]⟩
  · rw [howns] at hp; cases hp
  · show (if a = d then none else s1.heap.get? a) = some o
    rw [if_neg (by rintro rfl; rw [hd0] at e; cases e)]; exact ok1.keep a o e
  · have e' : (if a = d then none else s1.heap.get? a) = some o := e
    by_cases ha : a = d
    · rw [if_pos ha] at e'; cases e'
    · rw [if_neg ha] at e'; exact y.toInCall.keep a o e'
  · show (if env.locals = d then none else s1.heap.get? env.locals) = none
    rw [hL, get?_size]; simp
  · show P env.locals = none
    rw [hL]; exact hsz _ (Nat.le_refl _)
  · rw [howns] at hz; cases hz
  · refine ⟨fun _ => d, fun i j a b ha hb h1 h2 _ => ?_, fun i z sl hz hsl => ?_⟩
    · have only : ∀ (i : Nat) (a : Slot), (Slot.self x [] [] :: .val v1 :: rest.map fun _ => Slot.un)[i]? = some a → a.holds = true → i = 0 := fun i a h hh => by
        match i, h with
        | 0, _ => rfl
        | 1, h => simp at h; subst h; cases hh
        | i + 2, h =>
          simp at h
          obtain ⟨_, rfl⟩ := h
          cases hh
      rw [only i a ha h1, only j b hb h2]
    · rw [hnames] at hz
      match i, hz, hsl with
      | 0, hz, hsl =>
        simp at hz hsl; subst hz; subst hsl
        exact ⟨b0, y.toInCall.keep _ _ hx, hxd, nz _ _ hx, hPd, hPx, if_pos rfl, [], [], 0, y.toInCall.keep _ _ hd, .nil, .nil, nz _ _ hd⟩
      | 1, hz, hsl =>
        simp at hz hsl; subst hz; subst hsl
        exact ⟨bv, b1, l⟩
      | i + 2, hz, hsl =>
        simp at hsl
        obtain ⟨_, rfl⟩ := hsl
        trivial

/-- the object is made -/
theorem St.freezeSelf (st : St G F Γ P σ s) {i : Nat} {x : Str} {x' : Addr} {vs : List V} (hn : F.names[i]? = some x) (hs : σ[i]? = some (.self x' fieldNames vs)) :
    ∃ P', P.le P' ∧ P'.In s.heap ∧ (∀ b o, P' b = some o → P b = some o ∨ b = x' ∨ Γ.base b = none) ∧ Lay G.C P' (.ref x') (.obj vs) := by
  obtain ⟨α, hinj, hvar⟩ := st.vars
  obtain ⟨b, h1, h2, h3, h4, h4', h5, es, ws, n, h6, h7, h8, h9⟩ := hvar i x _ hn hs
  have le1 : P.le (P.put (α i) (dictOf es n)) := Part.le_put _ h4
  have le2 : (P.put (α i) (dictOf es n)).le ((P.put (α i) (dictOf es n)).put x' (instObj G.C (α i))) := Part.le_put _ (by rw [Part.put_ne _ _ h2]; exact h4')
  refine ⟨_, le1.trans le2, fun c o e => ?_, fun c o e => ?_, .obj (Part.put_self _ _ _) (le2 _ _ (Part.put_self _ _ _)) h7 (h8.mono (le1.trans le2))⟩
  · by_cases hc : c = x'
    · subst hc; rw [Part.put_self] at e; cases e; exact h1
    · rw [Part.put_ne _ _ hc] at e
      by_cases hc' : c = α i
      · subst hc'; rw [Part.put_self] at e; cases e; exact h6
      · rw [Part.put_ne _ _ hc'] at e; exact st.inP _ _ e
  · by_cases hc : c = x'
    · exact .inr (.inl hc)
    · rw [Part.put_ne _ _ hc] at e
      by_cases hc' : c = α i
      · subst hc'; exact .inr (.inr h5)
      · rw [Part.put_ne _ _ hc'] at e; exact .inl e

theorem Room.make {k k' : Nat} {A : Around} {C : Addr} {vals : List Value} (r : Room k A) (h : k' + 6 ≤ k) (env : Env) : Room k' ((A.under (.builtin "type.__call__" ⟨.ref C :: vals, []⟩)).deeper env) ∧ (A.under (.builtin "type.__call__" ⟨.ref C :: vals, []⟩)).depth < 1000 := by
  obtain ⟨r1, r2, r3⟩ := r
  have e1 : (A.under (.builtin "type.__call__" ⟨.ref C :: vals, []⟩)).depth = A.depth + 1 := rfl
  have e2 : (A.under (.builtin "type.__call__" ⟨.ref C :: vals, []⟩)).units = A.units + 1 := rfl
  refine ⟨⟨r1, ?_, ?_⟩, ?_⟩
  · show (A.under (.builtin "type.__call__" ⟨.ref C :: vals, []⟩)).depth + 1 + k' ≤ 900
    omega
  · show (A.under (.builtin "type.__call__" ⟨.ref C :: vals, []⟩)).units + 3 + 20 * k' + 200 ≤ 9900
    omega
  · omega

/-- C(v) -/
theorem Op.make (c : ClsOk G) {fI : Addr} {fd : FuncData} {body : List Stmt} {x0 x1 : Str} {rest : List Str} {v1 : V} {vs : List V} (hi : findIn G.K (.ref G.C) "__init__" = some (some (.ref fI))) (hf : typeIn G.K (.ref fI) = some (.type "function")) (D : IsDef G fI fd body) (hsc : fd.scope = F.scope) (hb : ∀ v w, bindArgs fd ⟨[v, w], []⟩ = pure [(x0, v), (x1, w)])
    (hnames : F.names = x0 :: x1 :: rest) (hnd : F.names.Nodup) (hk : F.scope.kind = .function) (hk0 : F.scope.names.lookup x0 = some .local) (hk1 : F.scope.names.lookup x1 = some .local) (howns : F.owns = [])
    (hE : ∀ x, ∃ σf, Exs G F k' (.self x [] [] :: .val v1 :: rest.map fun _ => .un) body (.next σf) ∧ σf[0]? = some (.self x fieldNames vs)) (hkk : k' + 6 ≤ k) : Op G k (opCall (.ref G.C)) [v1] (.obj vs) := by
  intro P A s E Q vals hr ok inn l hQ
  cases l with
  | cons l1 l =>
    cases l
    rename_i bv
    obtain ⟨hh, g, dr, t, os⟩ := s
    refine wpAny_call (make_core (makes_of ok.kin c.makes) (looks_findIn ok.kin hi) (fun self => bind_fn ok.kin self hf) (.inl rfl) ?_)
    have kp : Kept hh ((hh.push emptyDict).push (instObj G.C hh.objs.size)) := (Kept.push _ _).trans (Kept.push _ _)
    have ok1 : G.Ok ⟨(hh.push emptyDict).push (instObj G.C hh.objs.size), g, dr, t, os⟩ := ok.to (tk := t) kp
    have hd : ((hh.push emptyDict).push (instObj G.C hh.objs.size)).get? hh.objs.size = some (dictOf [] 0) := Heap.get?_push_of_some _ (Heap.get?_push_size _ rfl)
    have hx : ((hh.push emptyDict).push (instObj G.C hh.objs.size)).get? (hh.objs.size + 1) = some (instObj G.C hh.objs.size) := by
      have : ((hh.push emptyDict).push (instObj G.C hh.objs.size)).get? (hh.push emptyDict).objs.size = some (instObj G.C hh.objs.size) := Heap.get?_push_size _ rfl
      rwa [Heap.size_push] at this
    have nP : ∀ a, hh.objs.size ≤ a → P a = none := fun a ha => by
      cases e : P a with
      | none => rfl
      | some q => have := inn _ _ e; rw [get?_ge ha] at this; cases this
    have hd0 : G.s0.heap.get? hh.objs.size = none := by
      cases e : G.s0.heap.get? hh.objs.size with
      | none => rfl
      | some q => have := ok.keep _ _ e; rw [get?_size] at this; cases this
    obtain ⟨o, ho, hdd⟩ := D.obj
    refine codeAny_call_function (hr.make hkk default).2 (ok1.kin _ _ ho) hdd D.co D.gen D.body (codeRec_of ok1.kin D.code) ?_
    rw [hb, D.closure]
    refine wpAny_pure ?_
    refine wpAny_newFunctionEnv_cells (by rw [hsc]; exact hk) (fun p hp => ?_) fun env he s2 y => ?_
    · rw [hsc]
      rcases List.mem_cons.mp hp with rfl | hp
      · exact .inl hk0
      · rcases List.mem_cons.mp hp with rfl | hp
        · exact .inl hk1
        · cases hp
    · have st := St.startSelf (F := F) (rest := rest) (env := env) (s2 := s2) (P := P) ok1 (fun a o e => kp a o (inn a o e)) (by rw [he]; exact hsc) hk (by rw [he]; exact D.globals) (by rw [he]; exact D.builtins) (by rw [he]; rfl) hnames hnd hk0 hk1 howns l1 hx hd (nP _ (Nat.le_succ _)) (nP _ (Nat.le_refl _)) hd0 y
      refine ⟨G.nolimit.keeps st.ok.keep, codeAny_func ?_⟩
      obtain ⟨σf, hEx, hσ⟩ := hE (hh.objs.size + 1)
      refine hEx _ P _ s2 _ _ (hr.make hkk env).1 st fun fl P2 s3 le2 ou => ?_
      obtain ⟨rfl, st3⟩ := ou
      obtain ⟨P3, le3, in3, nw3, lv⟩ := st3.freezeSelf (i := 0) (x := x0) (by rw [hnames]; rfl) hσ
      obtain ⟨h0, t0, e0⟩ := ok.same
      obtain ⟨h3, t3, e3⟩ := st3.ok.same
      refine ⟨rfl, ?_⟩
      show Q (.ref (hh.objs.size + 1)) s3
      have es : s3 = { (⟨hh, g, dr, t, os⟩ : Shared) with heap := s3.heap, toks := s3.toks } := by rw [e3, e0]
      rw [es]
      have bne : ∀ b q, hh.get? b = some q → b ≠ hh.objs.size := fun b q e h => by subst h; rw [get?_size] at e; cases e
      have bs : ∀ b q, hh.get? b = some q → (if b = hh.objs.size then none else ((hh.push emptyDict).push (instObj G.C hh.objs.size)).get? b) = some q := fun b q e => by
        rw [if_neg (bne b q e)]; exact kp b q e
      refine hQ _ P3 s3.heap s3.toks (fun b q e => st3.keep b q (bs b q e)) (le2.trans le3) in3 (fun b q e => ?_) lv
      have un : ∀ b, (if b = hh.objs.size then none else ((hh.push emptyDict).push (instObj G.C hh.objs.size)).get? b) = none → hh.get? b = none := fun b h => by
        cases e4 : hh.get? b with
        | none => rfl
        | some o4 => rw [bs b o4 e4] at h; cases h
      rcases nw3 b q e with h | h | h
      · rcases st3.new b q h with h | h
        · exact .inl h
        · exact .inr (un b h)
      · subst h; exact .inr (get?_ge (Nat.le_succ _))
      · exact .inr (un b h)
end
end Mine

namespace Mine

/-! texts, plainly -/
theorem findL_length (p : List Nat) (hp : p ≠ []) : ∀ (x : List Nat) (q : List Nat × List Nat), findL p x = some q → q.1.length + p.length + q.2.length = x.length
  | [], q, h => by simp [findL] at h
  | c :: cs, q, h => by
    unfold findL at h
    split at h
    · rename_i h1
      cases h
      have := congrArg List.length h1
      simp only [List.length_take, List.length_nil, List.length_drop, List.length_cons] at this ⊢
      omega
    · cases e : findL p cs with
      | none => rw [e] at h; cases h
      | some r =>
        rw [e] at h; cases h
        have := findL_length p hp cs r e
        simp only [List.length_cons]; omega
theorem splitL_ne (p : List Nat) : ∀ (n : Nat) (x : List Nat), splitL p n x ≠ []
  | 0, x => by simp [splitL]
  | n + 1, x => by unfold splitL; split <;> simp
theorem splitL_sum (p : List Nat) (hp : p ≠ []) : ∀ (n : Nat) (x : List Nat), ((splitL p n x).map List.length).sum ≤ x.length ∧ (splitL p n x).length ≤ x.length + 1
  | 0, x => by simp [splitL]
  | n + 1, x => by
    unfold splitL
    split
    · simp
    · rename_i q h
      have h1 := findL_length p hp x q h
      have h2 := splitL_sum p hp n q.2
      have h3 := List.length_pos_iff.mpr hp
      simp only [List.map_cons, List.sum_cons, List.length_cons]
      omega
theorem splitT_ne (p x : List Nat) : splitT p x ≠ [] := splitL_ne _ _ _
theorem splitT_sum (p : List Nat) (hp : p ≠ []) (x : List Nat) : ((splitT p x).map List.length).sum ≤ x.length ∧ (splitT p x).length ≤ x.length + 1 := splitL_sum p hp _ _
theorem rstripT_le (x : List Nat) : (rstripT x).length ≤ x.length := by
  unfold rstripT
  have := (List.dropWhile_sublist sp (l := x.reverse)).length_le
  simpa using this
theorem stripT_le (x : List Nat) : (stripT x).length ≤ x.length := by
  unfold stripT
  have := (List.dropWhile_sublist sp (l := x)).length_le
  have := rstripT_le (x.dropWhile sp)
  omega
theorem joinT_cons (s x : List Nat) {r : List (List Nat)} (h : r ≠ []) : joinT s (x :: r) = x ++ s ++ joinT s r := by
  cases r with
  | nil => exact absurd rfl h
  | cons y r => rfl
theorem joinT_length (s : List Nat) : ∀ ls : List (List Nat), (joinT s ls).length ≤ (ls.map List.length).sum + ls.length * s.length
  | [] => by simp [joinT]
  | [x] => by simp [joinT]
  | x :: y :: r => by
    have := joinT_length s (y :: r)
    rw [joinT_cons s x (by simp)]
    simp only [List.map_cons, List.sum_cons, List.length_append, List.length_cons, Nat.add_mul] at *
    omega

/-- x.replace(p, s), by split and join -/
def repl (p s : List Nat) (n : Nat) (x : List Nat) : List Nat := joinT s (splitL p n x)
theorem repl_none {p s x : List Nat} {n : Nat} (h : findL p x = none) : repl p s (n + 1) x = x := by
  unfold repl splitL; rw [h]; rfl
theorem repl_some {p s x a b : List Nat} {n : Nat} (h : findL p x = some (a, b)) : repl p s (n + 1) x = a ++ s ++ repl p s n b := by
  unfold repl; rw [splitL, h]; exact joinT_cons _ _ (splitL_ne _ _ _)
theorem repl_pre {p s z y : List Nat} {n : Nat} (h : findL p (z ++ y) = (findL p y).map fun q => (z ++ q.1, q.2)) : repl p s (n + 1) (z ++ y) = z ++ repl p s (n + 1) y := by
  cases e : findL p y with
  | none => rw [e] at h; rw [repl_none h, repl_none e]
  | some q => rw [e] at h; rw [repl_some h, repl_some e]; simp

/-- lines, each with a line end ahead -/
def cat (ls : List (List Nat)) : List Nat := ls.flatMap fun l => 10 :: l
theorem cat_join : ∀ {ls : List (List Nat)}, ls ≠ [] → cat ls = 10 :: joinT [10] ls
  | [x], _ => by simp [cat, joinT]
  | x :: y :: r, _ => by
    have := cat_join (ls := y :: r) (by simp)
    rw [joinT_cons _ _ (by simp)]
    unfold cat at *
    rw [List.flatMap_cons, this]; simp
def Plain (l : List Nat) : Prop := 10 ∉ l
theorem find_skip (u : List Nat) (y : List Nat) : ∀ (z : List Nat), Plain z → findL (10 :: u) (z ++ y) = (findL (10 :: u) y).map fun q => (z ++ q.1, q.2)
  | [], _ => by simp
  | c :: cs, h => by
    have hc : c ≠ 10 := fun e => h (by simp [e])
    have ih := find_skip u y cs (fun e => h (by simp [e]))
    rw [List.cons_append, findL, if_neg (by simp [hc]), ih]
    cases findL (10 :: u) y <;> simp
theorem take_plain {u l : List Nat} (hu : Plain u) (hl : Plain l) (ls : List (List Nat)) : (l ++ cat ls).take u.length = u ↔ u <+: l := by
  constructor
  · intro h
    by_cases hle : u.length ≤ l.length
    · rw [List.take_append_of_le_length hle] at h
      exact ⟨l.drop u.length, by have := List.take_append_drop u.length l; rw [h] at this; exact this⟩
    · exfalso
      cases ls with
      | nil =>
        have := congrArg List.length h
        simp [cat] at this; omega
      | cons y ys =>
        apply hu
        rw [← h]
        have e : l ++ cat (y :: ys) = l ++ 10 :: (y ++ cat ys) := by simp [cat]
        rw [e, List.take_append]
        refine List.mem_append_right _ ?_
        obtain ⟨m, hm⟩ : ∃ m, u.length - l.length = m + 1 := ⟨u.length - l.length - 1, by omega⟩
        rw [hm]; simp
  · rintro ⟨t, rfl⟩
    simp
theorem repl_cat {u s : List Nat} (hu : Plain u) : ∀ (ls : List (List Nat)) (n : Nat), (∀ l ∈ ls, Plain l) → (cat ls).length < n → repl (10 :: u) s n (cat ls) = ls.flatMap fun l => if u <+: l then s ++ l.drop u.length else 10 :: l
  | [], n, _, hn => by
    cases n with
    | zero => simp at hn
    | succ n => exact repl_none rfl
  | l :: ls, n, hp, hn => by
    obtain ⟨m, rfl⟩ : ∃ m, n = m + 1 := ⟨n - 1, by omega⟩
    have e : cat (l :: ls) = 10 :: (l ++ cat ls) := by simp [cat]
    have hl := hp l (by simp)
    have hls : ∀ l ∈ ls, Plain l := fun y hy => hp y (by simp [hy])
    rw [e] at hn ⊢
    simp only [List.length_cons, List.length_append] at hn
    rw [List.flatMap_cons]
    by_cases h : u <+: l
    · rw [if_pos h]
      have h1 : findL (10 :: u) (10 :: (l ++ cat ls)) = some ([], l.drop u.length ++ cat ls) := by
        rw [findL, if_pos (by simp [(take_plain hu hl ls).mpr h])]
        obtain ⟨t, rfl⟩ := h
        simp
      rw [repl_some h1]
      obtain ⟨k, rfl⟩ : ∃ k, m = k + 1 := ⟨m - 1, by omega⟩
      rw [repl_pre (find_skip u _ _ fun e => hl (List.mem_of_mem_drop e)), repl_cat hu ls _ hls (by omega)]
      simp
    · rw [if_neg h]
      have h1 : findL (10 :: u) ((10 :: l) ++ cat ls) = (findL (10 :: u) (cat ls)).map fun q => ((10 :: l) ++ q.1, q.2) := by
        rw [List.cons_append, findL, if_neg (by simp [take_plain hu hl ls, h]), find_skip u _ l hl]
        cases findL (10 :: u) (cat ls) <;> simp
      rw [← List.cons_append, repl_pre h1, repl_cat hu ls _ hls (by omega)]

/-- the unit ahead of a line that isn't empty -/
def ind (u l : List Nat) : List Nat := if l = [] then [] else u ++ l
theorem ind_ind (a b l : List Nat) : ind a (ind b l) = ind (a ++ b) l := by
  unfold ind
  by_cases h : l = [] <;> simp [h]
theorem ind_plain {u l : List Nat} (hu : Plain u) (hl : Plain l) : Plain (ind u l) := by
  unfold ind Plain at *
  split <;> simp_all
theorem repl_back {u : List Nat} (hu : Plain u) {ls : List (List Nat)} (hp : ∀ l ∈ ls, Plain l) {n : Nat} (hn : (cat (ls.map (ind u))).length < n) : repl (10 :: u) [10] n (cat (ls.map (ind u))) = cat ls := by
  rw [repl_cat hu _ _ (fun l hl => by obtain ⟨y, hy, rfl⟩ := List.mem_map.mp hl; exact ind_plain hu (hp y hy)) hn, List.flatMap_map]
  unfold cat
  congr 1
  funext l
  by_cases h : l = []
  · subst h
    by_cases h2 : u <+: ind u [] <;> simp [ind]
  · simp [ind, h]
theorem repl_tab {ls : List (List Nat)} (hp : ∀ l ∈ ls, Plain l) {n : Nat} (hn : (cat (ls.map (ind [32]))).length < n) : repl [10, 32] [10, 9] n (cat (ls.map (ind [32]))) = cat (ls.map (ind [9])) := by
  have hu : Plain [32] := by simp [Plain]
  rw [repl_cat hu _ _ (fun l hl => by obtain ⟨y, hy, rfl⟩ := List.mem_map.mp hl; exact ind_plain hu (hp y hy)) hn, List.flatMap_map]
  unfold cat
  rw [List.flatMap_map]
  congr 1
  funext l
  by_cases h : l = []
  · subst h; simp [ind]
  · simp [ind, h]

/-- the lines of joined lines -/
theorem split_join {c : Nat} : ∀ {ls : List (List Nat)} {n : Nat}, ls ≠ [] → (∀ l ∈ ls, c ∉ l) → (joinT [c] ls).length < n → splitL [c] n (joinT [c] ls) = ls := by
  have skip : ∀ (y : List Nat) (z : List Nat), c ∉ z → findL [c] (z ++ y) = (findL [c] y).map fun q => (z ++ q.1, q.2) := by
    intro y z
    induction z with
    | nil => intro _; simp
    | cons d ds ih =>
      intro h
      have hc : d ≠ c := fun e => h (by simp [e])
      rw [List.cons_append, findL, if_neg (by simp [hc]), ih (fun e => h (by simp [e]))]
      cases findL [c] y <;> simp
  intro ls
  induction ls with
  | nil => intro n h; exact absurd rfl h
  | cons x r ih =>
    intro n _ hp hn
    obtain ⟨m, rfl⟩ : ∃ m, n = m + 1 := ⟨n - 1, by omega⟩
    have hx := hp x (by simp)
    by_cases hr : r = []
    · subst hr
      have h1 : findL [c] x = none := by
        have := skip [] x hx
        simpa [findL] using this
      show splitL [c] (m + 1) x = _
      rw [splitL, h1]
    · rw [joinT_cons _ _ hr] at hn ⊢
      have h1 : findL [c] (x ++ [c] ++ joinT [c] r) = some (x, joinT [c] r) := by
        rw [List.append_assoc, skip _ _ hx]
        simp [findL]
      rw [splitL, h1]
      simp only
      rw [ih hr (fun l hl => hp l (by simp [hl])) (by simp at hn; omega)]
theorem splitT_join {c : Nat} {ls : List (List Nat)} (h : ls ≠ []) (hp : ∀ l ∈ ls, c ∉ l) : splitT [c] (joinT [c] ls) = ls := split_join h hp (by omega)

/-! white signs at the ends -/
theorem rstripT_end {x : List Nat} {c : Nat} (hc : sp c = false) : rstripT (x ++ [c]) = x ++ [c] := by
  unfold rstripT; simp [List.dropWhile_cons, hc]
theorem dropWhile_white {w x : List Nat} (hw : ∀ c ∈ w, sp c = true) : (w ++ x).dropWhile sp = x.dropWhile sp := by
  induction w with
  | nil => rfl
  | cons c w ih => rw [List.cons_append, List.dropWhile_cons, if_pos (hw c (by simp)), ih fun d hd => hw d (by simp [hd])]
theorem rstripT_white {w : List Nat} (hw : ∀ c ∈ w, sp c = true) : rstripT w = [] := by
  unfold rstripT
  have := dropWhile_white (w := w.reverse) (x := []) (fun c hc => hw c (by simpa using hc))
  simp at this
  rw [List.reverse_eq_nil_iff]
  simpa using this
theorem stripT_mid {w x : List Nat} {a b : Nat} (hw : ∀ c ∈ w, sp c = true) (ha : sp a = false) (hb : sp b = false) : stripT (w ++ a :: (x ++ [b])) = a :: (x ++ [b]) := by
  unfold stripT
  rw [dropWhile_white hw, List.dropWhile_cons, if_neg (by simp [ha])]
  exact rstripT_end (x := a :: x) hb
theorem stripT_one {w : List Nat} {a : Nat} (hw : ∀ c ∈ w, sp c = true) (ha : sp a = false) : stripT (w ++ [a]) = [a] := by
  unfold stripT
  rw [dropWhile_white hw, List.dropWhile_cons, if_neg (by simp [ha])]
  exact rstripT_end (x := []) ha

/-! the lines of a text, each set in -/
def indL (u : List Nat) : Bool → List Nat → List Nat
  | _, [] => []
  | true, c :: cs => if c = 10 then 10 :: indL u true cs else u ++ c :: indL u false cs
  | false, c :: cs => c :: indL u (c == 10) cs
def indentT (u x : List Nat) : List Nat := indL u true x
theorem indL_false (u : List Nat) : ∀ (z y : List Nat), Plain z → indL u false (z ++ y) = z ++ indL u false y
  | [], y, _ => rfl
  | c :: cs, y, h => by
    have hc : c ≠ 10 := fun e => h (by simp [e])
    rw [List.cons_append, indL, show (c == 10) = false by simp [hc], indL_false u cs y (fun e => h (by simp [e]))]
    rfl
theorem indL_line (u : List Nat) (l y : List Nat) (h : Plain l) : indL u true (l ++ 10 :: y) = ind u l ++ 10 :: indL u true y := by
  cases l with
  | nil => simp [ind, indL]
  | cons c cs =>
    have hc : c ≠ 10 := fun e => h (by simp [e])
    rw [List.cons_append, indL, if_neg hc, indL_false u cs _ (fun e => h (by simp [e]))]
    simp [ind, indL]
theorem indL_last (u : List Nat) (l : List Nat) (h : Plain l) : indL u true l = ind u l := by
  cases l with
  | nil => simp [ind, indL]
  | cons c cs =>
    have hc : c ≠ 10 := fun e => h (by simp [e])
    have := indL_false u cs [] (fun e => h (by simp [e]))
    rw [indL, if_neg hc]
    simp only [List.append_nil] at this
    rw [this]; simp [ind, indL]
theorem indentT_join (u : List Nat) : ∀ (ls : List (List Nat)), (∀ l ∈ ls, Plain l) → indentT u (joinT [10] ls) = joinT [10] (ls.map (ind u))
  | [], _ => rfl
  | [x], h => by exact indL_last u x (h x (by simp))
  | x :: y :: r, h => by
    have ih := indentT_join u (y :: r) fun l hl => h l (by simp [hl])
    rw [joinT_cons [10] x (r := y :: r) (by simp), List.map_cons, joinT_cons [10] (ind u x) (r := (y :: r).map (ind u)) (by simp), ← ih]
    rw [List.append_assoc]
    exact (indL_line u x _ (h x (by simp))).trans (by simp [indentT])
end Mine

namespace Mine

def splitdocP (doc : List Nat) : List Nat × List Nat :=
  match splitT [10] (stripT doc) with
  | [] => ([], [])
  | [a] => (a, [])
  | a :: b :: r => if (rstripT b).length = 0 then (a, joinT [10] r) else ([], joinT [10] (a :: b :: r))

structure Row where
  lead : List Nat
  name : List Nat
  above : List Nat
def Row.text (r : Row) : List Nat := r.lead ++ r.name
def txt (rows : List Row) : List Nat := joinT [10] (rows.map Row.text)
def White (l : List Nat) : Prop := ∀ c ∈ l, c = 32 ∨ c = 9
theorem White.sp {l : List Nat} (h : White l) : ∀ c ∈ l, sp c = true := fun c hc => by
  rcases h c hc with rfl | rfl <;> decide +kernel
theorem White.plain {l : List Nat} (h : White l) : Plain l := fun hc => by
  rcases h 10 hc with e | e <;> cases e
theorem White.append {a b : List Nat} (h : White a) (h' : White b) : White (a ++ b) := fun c hc => by
  rcases List.mem_append.mp hc with h1 | h1
  · exact h c h1
  · exact h' c h1
theorem sp10 : sp 10 = true := by decide +kernel
structure Word (r : Row) : Prop where
  lead : White r.lead
  name : ∃ c, r.name = [c] ∧ sp c = false
  above : r.above ≠ [45]
structure Gap (r : Row) : Prop where
  lead : White r.lead
  name : r.name = [] ∨ r.name = [32]
  above : r.above = [45]
theorem Word.plain {r : Row} (h : Word r) : Plain r.text := fun hc => by
  obtain ⟨c, h1, h2⟩ := h.name
  unfold Row.text at hc
  rw [h1] at hc
  rcases List.mem_append.mp hc with h3 | h3
  · exact h.lead.plain h3
  · rw [List.mem_singleton] at h3; rw [← h3, sp10] at h2; cases h2
theorem Gap.white {r : Row} (h : Gap r) : White r.text := by
  unfold Row.text
  refine h.lead.append ?_
  rcases h.name with e | e <;> rw [e] <;> simp [White]
inductive Pg : List Row → Prop
  | one {w : Row} : Word w → Pg [w]
  | cons {w g : Row} {rest : List Row} : Word w → Gap g → Pg rest → Pg (w :: g :: rest)
theorem Pg.ne {rows : List Row} (h : Pg rows) : rows ≠ [] := by cases h <;> simp
theorem Pg.join {a b : List Row} {g : Row} (h : Pg a) (hg : Gap g) (h' : Pg b) : Pg (a ++ g :: b) := by
  induction h with
  | one hw => exact .cons hw hg h'
  | cons hw hg' _ ih => exact .cons hw hg' ih
theorem Pg.plain {rows : List Row} (h : Pg rows) : ∀ l ∈ rows.map Row.text, Plain l := by
  induction h with
  | one hw => intro l hl; simp at hl; subst hl; exact hw.plain
  | cons hw hg _ ih =>
    intro l hl
    rw [List.map_cons, List.map_cons] at hl
    rcases List.mem_cons.mp hl with rfl | hl
    · exact hw.plain
    · rcases List.mem_cons.mp hl with rfl | hl
      · exact hg.white.plain
      · exact ih l hl
theorem txt_cons (r : Row) {rows : List Row} (h : rows ≠ []) : txt (r :: rows) = r.text ++ [10] ++ txt rows := joinT_cons _ _ (by simpa using h)
theorem txt_append {a b : List Row} (ha : a ≠ []) (hb : b ≠ []) : txt (a ++ b) = txt a ++ [10] ++ txt b := by
  induction a with
  | nil => exact absurd rfl ha
  | cons r a ih =>
    by_cases h : a = []
    · subst h; exact txt_cons r hb
    · rw [List.cons_append, txt_cons r (by simp [h]), ih h, txt_cons r h]; simp
theorem Word.split {w : Row} (h : Word w) : ∃ c, w.text = w.lead ++ [c] ∧ w.name = [c] ∧ Mine.sp c = false := by
  obtain ⟨c, h1, h2⟩ := h.name
  exact ⟨c, by rw [Row.text, h1], h1, h2⟩
theorem Pg.last {rows : List Row} (h : Pg rows) : ∃ y c, txt rows = y ++ [c] ∧ sp c = false := by
  induction h with
  | one hw =>
    obtain ⟨c, h1, _, h2⟩ := hw.split
    exact ⟨_, c, h1, h2⟩
  | cons hw hg hr ih =>
    obtain ⟨y, c, h1, h2⟩ := ih
    rw [txt_cons _ (by simp), txt_cons _ hr.ne, h1]
    exact ⟨_, c, by simp only [← List.append_assoc]; rfl, h2⟩
theorem splitdoc_word {w : Row} (h : Word w) : splitdocP (txt [w]) = (w.name, []) := by
  obtain ⟨c, h1, h2, h3⟩ := h.split
  have e : stripT (txt [w]) = joinT [10] [[c]] := by
    show stripT w.text = [c]
    rw [h1]; exact stripT_one h.lead.sp h3
  have hs : splitT [10] (stripT (txt [w])) = [[c]] := by
    rw [e]; refine splitT_join (by simp) fun l hl => ?_
    simp at hl; subst hl
    intro hc; simp at hc; rw [← hc, sp10] at h3; cases h3
  unfold splitdocP
  rw [hs, h2]
theorem splitdoc_cons {w g : Row} {rest : List Row} (h : Word w) (hg : Gap g) (hr : Pg rest) : splitdocP (txt (w :: g :: rest)) = (w.name, txt rest) := by
  obtain ⟨c, h1, h2, h3⟩ := h.split
  obtain ⟨y, d, h4, h5⟩ := hr.last
  have e : stripT (txt (w :: g :: rest)) = joinT [10] ([c] :: g.text :: rest.map Row.text) := by
    rw [txt_cons _ (by simp), txt_cons _ hr.ne, h1, h4]
    rw [show w.lead ++ [c] ++ [10] ++ (g.text ++ [10] ++ (y ++ [d])) = w.lead ++ c :: (([10] ++ g.text ++ [10] ++ y) ++ [d]) by simp]
    rw [stripT_mid h.lead.sp h3 h5, joinT_cons _ _ (by simp), joinT_cons _ _ (by simpa using hr.ne)]
    rw [show joinT [10] (rest.map Row.text) = y ++ [d] from h4]; simp
  have hs : splitT [10] (stripT (txt (w :: g :: rest))) = [c] :: g.text :: rest.map Row.text := by
    rw [e]; refine splitT_join (by simp) fun l hl => ?_
    rcases List.mem_cons.mp hl with rfl | hl
    · intro hc; simp at hc; rw [← hc, sp10] at h3; cases h3
    · rcases List.mem_cons.mp hl with rfl | hl
      · exact hg.white.plain
      · exact hr.plain l hl
  unfold splitdocP
  rw [hs]
  simp only
  rw [if_pos (by rw [rstripT_white hg.white.sp]; rfl), h2]; rfl
theorem splitdoc_z {rows : List Row} (h : Pg rows) : splitdocP ([122, 10] ++ txt rows) = ([], [122, 10] ++ txt rows) := by
  obtain ⟨y, d, h4, h5⟩ := h.last
  have hz : sp 122 = false := by decide +kernel
  have e : stripT ([122, 10] ++ txt rows) = joinT [10] ([122] :: rows.map Row.text) := by
    rw [joinT_cons _ _ (by simpa using h.ne), show joinT [10] (rows.map Row.text) = y ++ [d] from h4, h4]
    exact stripT_mid (w := []) (x := 10 :: y) (by simp) hz h5
  have hs : splitT [10] (stripT ([122, 10] ++ txt rows)) = [122] :: rows.map Row.text := by
    rw [e]; refine splitT_join (by simp) fun l hl => ?_
    rcases List.mem_cons.mp hl with rfl | hl
    · simp
    · exact h.plain l hl
  have key : ∀ w r', rows = w :: r' → Word w → splitdocP ([122, 10] ++ txt rows) = ([], [122, 10] ++ txt rows) := by
    intro w r' hr hw
    obtain ⟨c, g1, g2, g3⟩ := hw.split
    unfold splitdocP
    rw [hs, hr, List.map_cons]
    simp only
    rw [if_neg (by rw [g1, rstripT_end g3]; simp), joinT_cons _ _ (by simp)]
    rfl
  cases h with
  | one hw => exact key _ _ rfl hw
  | cons hw _ _ => exact key _ _ rfl hw

/-! a row below a head -/
def below (u head : List Nat) (r : Row) : Row := if r.text = [] then r else if r.above = [] ∧ u ≠ [] then ⟨u ++ r.lead, r.name, head⟩ else ⟨u ++ r.lead, r.name, r.above⟩
theorem below_text (u head : List Nat) (r : Row) : (below u head r).text = ind u r.text := by
  unfold below ind
  by_cases h : r.text = []
  · rw [if_pos h, if_pos h, h]
  · rw [if_neg h, if_neg h]
    by_cases h2 : r.above = [] ∧ u ≠ []
    · rw [if_pos h2]; unfold Row.text; simp
    · rw [if_neg h2]; unfold Row.text; simp
theorem below_texts (u head : List Nat) (rows : List Row) : (rows.map (below u head)).map Row.text = (rows.map Row.text).map (ind u) := by
  rw [List.map_map, List.map_map]; congr 1; funext r; exact below_text u head r
theorem Word.ne {r : Row} (h : Word r) : r.text ≠ [] := by
  obtain ⟨c, h1, _⟩ := h.split; rw [h1]; simp
theorem Word.below {u head : List Nat} {r : Row} (h : Word r) (hu : White u) (hh : head ≠ [45]) : Word (below u head r) := by
  unfold Mine.below
  rw [if_neg h.ne]
  split
  · exact ⟨hu.append h.lead, h.name, hh⟩
  · exact ⟨hu.append h.lead, h.name, h.above⟩
theorem Gap.below {u head : List Nat} {r : Row} (h : Gap r) (hu : White u) : Gap (below u head r) := by
  unfold Mine.below
  split
  · exact h
  · rw [if_neg (by rw [h.above]; simp)]
    exact ⟨hu.append h.lead, h.name, h.above⟩
theorem Pg.setin {u head : List Nat} {rows : List Row} (h : Pg rows) (hu : White u) (hh : head ≠ [45]) : Pg (rows.map (Mine.below u head)) := by
  induction h with
  | one hw => exact .one (hw.below hu hh)
  | cons hw hg _ ih => exact .cons (hw.below hu hh) (hg.below hu) ih
theorem White.rep32 (n : Nat) : White (List.replicate n 32) := fun c hc => .inl (List.eq_of_mem_replicate hc)
theorem White.rep9 (n : Nat) : White (List.replicate n 9) := fun c hc => .inr (List.eq_of_mem_replicate hc)

/-- set in by blanks -/
theorem indentT_txt {rows : List Row} (h : Pg rows) (u head : List Nat) : indentT u (txt rows) = txt (rows.map (below u head)) := by
  unfold txt
  rw [below_texts, indentT_join u _ h.plain]
theorem txt_ne {rows : List Row} (h : rows ≠ []) : rows.map Row.text ≠ [] := by simpa using h
/-- .. then the blank made a tab -/
theorem tab_txt {rows : List Row} (h : Pg rows) (head : List Nat) : (joinT [10, 9] (splitT [10, 32] (10 :: indentT [32] (txt rows)))).drop 1 = txt (rows.map (below [9] head)) := by
  have e1 : 10 :: indentT [32] (txt rows) = cat ((rows.map Row.text).map (ind [32])) := by
    rw [indentT_txt h [32] head]; unfold txt; rw [below_texts, cat_join (by simpa using h.ne)]
  rw [e1]
  show (repl [10, 32] [10, 9] _ _).drop 1 = _
  rw [repl_tab h.plain (by omega)]
  unfold txt
  rw [below_texts, cat_join (by simpa using h.ne)]; rfl
theorem back_txt {rows : List Row} (h : Pg rows) {u : List Nat} (hu : White u) (head : List Nat) : (joinT [10] (splitT (10 :: u) (10 :: txt (rows.map (below u head))))).drop 1 = txt rows := by
  have e1 : 10 :: txt (rows.map (below u head)) = cat ((rows.map Row.text).map (ind u)) := by
    unfold txt; rw [below_texts, cat_join (by simpa using h.ne)]
  rw [e1]
  show (repl (10 :: u) [10] _ _).drop 1 = _
  rw [repl_back hu.plain h.plain (by omega)]
  unfold txt
  rw [cat_join (by simpa using h.ne)]; rfl
theorem below_below {rows : List Row} (a b head head' h2 : List Nat) : txt ((rows.map (below b head)).map (below a head')) = txt (rows.map (below (a ++ b) h2)) := by
  unfold txt
  rw [below_texts, below_texts, below_texts, List.map_map]
  congr 2; funext l; exact ind_ind a b l
end Mine

namespace Mine

theorem rep_one (c : Nat) (n : Int) : rep [c] n = List.replicate n.toNat c := by
  unfold rep
  induction n.toNat with
  | zero => rfl
  | succ n ih => rw [List.replicate_succ, List.flatten_cons, ih, List.replicate_succ]; rfl
theorem white_rep32 (n : Int) : White (rep [32] n) := by rw [rep_one]; exact White.rep32 _
theorem white_rep9 (n : Int) : White (rep [9] n) := by rw [rep_one]; exact White.rep9 _
def unitT (act : Int) : List Nat := rep [32] (act / 4 % 4) ++ rep [9] (act / 16 % 2)
theorem unitT_white (act : Int) : White (unitT act) := (white_rep32 _).append (white_rep9 _)
theorem unitT_length (act : Int) : (unitT act).length ≤ 4 := by
  unfold unitT
  rw [rep_one, rep_one, List.length_append, List.length_replicate, List.length_replicate]
  omega
def gapR (act : Int) : Row := ⟨[], rep [32] (act / 32), [45]⟩
def freshR (k : Nat) : Row := ⟨[], [99 + k], []⟩
def grow (k : Nat) (act : Int) (rows : List Row) : List Row :=
  if act / 2 % 2 = 1 then rows ++ [gapR act, freshR k] else freshR k :: gapR act :: rows.map (below (unitT act) [99 + k])
def step1 (k : Nat) (act : Int) (st : List Row × List Row) : List Row × List Row :=
  if act % 2 = 1 then (st.1, grow k act st.2) else (grow k act st.1, st.2)
def steps : Nat → List Int → List Row × List Row → List Row × List Row
  | _, [], st => st
  | k, a :: as, st => steps (k + 1) as (step1 k a st)
def gap0 : Row := ⟨[], [], [45]⟩
def start0 : List Row × List Row := ([⟨[], [97], []⟩], [⟨[], [98], []⟩])
def allRows (acts : List Int) : List Row := (steps 0 acts start0).1 ++ gap0 :: (steps 0 acts start0).2

theorem gapR_gap {act : Int} (h : 0 ≤ act ∧ act < 64) : Gap (gapR act) := by
  refine ⟨fun c hc => (nomatch hc), ?_, rfl⟩
  have e : (act / 32).toNat = 0 ∨ (act / 32).toNat = 1 := by omega
  unfold gapR
  rw [rep_one]
  rcases e with e | e <;> rw [e] <;> simp
theorem gap0_gap : Gap gap0 := ⟨fun c hc => (nomatch hc), .inl rfl, rfl⟩
theorem letter {k : Nat} (h : k < 5) : sp (99 + k) = false := by
  have : k = 0 ∨ k = 1 ∨ k = 2 ∨ k = 3 ∨ k = 4 := by omega
  rcases this with rfl | rfl | rfl | rfl | rfl <;> decide +kernel
theorem freshR_word {k : Nat} (h : k < 5) : Word (freshR k) := ⟨fun c hc => (nomatch hc), ⟨_, rfl, letter h⟩, by simp [freshR]⟩

structure Fits (n : Nat) (r : Row) : Prop where
  lead : r.lead.length ≤ 4 * n
  name : r.name.length ≤ 1
  above : r.above.length ≤ 1
  nameC : ∀ c ∈ r.name, c < 128
  aboveC : ∀ c ∈ r.above, c < 128
theorem Fits.mono {n m : Nat} {r : Row} (h : Fits n r) (hm : n ≤ m) : Fits m r := ⟨by have := h.lead; omega, h.name, h.above, h.nameC, h.aboveC⟩
structure PageOk (n : Nat) (rows : List Row) : Prop where
  pg : Pg rows
  first : ∃ w rest, rows = w :: rest ∧ w.lead = [] ∧ Word w
  len : rows.length ≤ 2 * n + 1
  fits : ∀ r ∈ rows, Fits n r
theorem PageOk.mono {n m : Nat} {rows : List Row} (h : PageOk n rows) (hm : n ≤ m) : PageOk m rows := ⟨h.pg, h.first, by have := h.len; omega, fun r hr => (h.fits r hr).mono hm⟩
theorem fits_gap {act : Int} (h : 0 ≤ act ∧ act < 64) (n : Nat) : Fits n (gapR act) := by
  refine ⟨by simp [gapR], ?_, by simp [gapR], fun c hc => ?_, fun c hc => ?_⟩
  · show (rep [32] (act / 32)).length ≤ 1
    rw [rep_one, List.length_replicate]; omega
  · have hc' : c ∈ rep [32] (act / 32) := hc
    rw [rep_one] at hc'
    rw [List.eq_of_mem_replicate hc']; omega
  · simp [gapR] at hc; omega
theorem fits_fresh {k : Nat} (h : k < 5) (n : Nat) : Fits n (freshR k) := by
  refine ⟨by simp [freshR], by simp [freshR], by simp [freshR], fun c hc => ?_, fun c hc => ?_⟩
  · simp [freshR] at hc; omega
  · simp [freshR] at hc
theorem fits_below {n k : Nat} {act : Int} (hk : k < 5) {r : Row} (h : Fits n r) : Fits (n + 1) (below (unitT act) [99 + k] r) := by
  have hu := unitT_length act
  have hl := h.lead
  unfold below
  split
  · exact h.mono (by omega)
  · split
    · refine ⟨?_, h.name, by simp, h.nameC, fun c hc => ?_⟩
      · show (unitT act ++ r.lead).length ≤ _
        rw [List.length_append]; omega
      · simp at hc; omega
    · refine ⟨?_, h.name, h.above, h.nameC, h.aboveC⟩
      show (unitT act ++ r.lead).length ≤ _
      rw [List.length_append]; omega
theorem PageOk.grow {n k : Nat} {act : Int} {rows : List Row} (h : PageOk n rows) (hk : k < 5) (ha : 0 ≤ act ∧ act < 64) : PageOk (n + 1) (grow k act rows) := by
  unfold Mine.grow
  obtain ⟨w, rest, e, hw, hww⟩ := h.first
  split
  · refine ⟨h.pg.join (gapR_gap ha) (.one (freshR_word hk)), ⟨w, rest ++ [gapR act, freshR k], by rw [e]; rfl, hw, hww⟩, ?_, fun r hr => ?_⟩
    · have := h.len; simp only [List.length_append, List.length_cons, List.length_nil]; omega
    · rcases List.mem_append.mp hr with hr | hr
      · exact (h.fits r hr).mono (by omega)
      · simp at hr
        rcases hr with rfl | rfl
        · exact fits_gap ha _
        · exact fits_fresh hk _
  · refine ⟨.cons (freshR_word hk) (gapR_gap ha) (h.pg.setin (unitT_white _) (by simp; omega)), ⟨_, _, rfl, rfl, freshR_word hk⟩, ?_, fun r hr => ?_⟩
    · have := h.len; simp only [List.length_cons, List.length_map]; omega
    · rcases List.mem_cons.mp hr with rfl | hr
      · exact fits_fresh hk _
      · rcases List.mem_cons.mp hr with rfl | hr
        · exact fits_gap ha _
        · obtain ⟨q, hq, rfl⟩ := List.mem_map.mp hr
          exact fits_below hk (h.fits q hq)
structure Two (n : Nat) (st : List Row × List Row) : Prop where
  one : PageOk n st.1
  two : PageOk n st.2
theorem Two.step {n k : Nat} {act : Int} {st : List Row × List Row} (h : Two n st) (hk : k < 5) (ha : 0 ≤ act ∧ act < 64) : Two (n + 1) (step1 k act st) := by
  unfold step1
  split
  · exact ⟨h.one.mono (by omega), h.two.grow hk ha⟩
  · exact ⟨h.one.grow hk ha, h.two.mono (by omega)⟩
theorem two_start : Two 0 start0 := by
  have h : ∀ c, sp c = false → c < 128 → PageOk 0 [⟨[], [c], []⟩] := fun c hc h8 => by
    have hw : Word ⟨[], [c], []⟩ := ⟨fun d hd => (nomatch hd), ⟨c, rfl, hc⟩, by simp⟩
    refine ⟨.one hw, ⟨_, [], rfl, rfl, hw⟩, by simp, fun r hr => ?_⟩
    simp at hr; subst hr
    exact ⟨by simp, by simp, by simp, fun d hd => by simp at hd; omega, fun d hd => (nomatch hd)⟩
  exact ⟨h 97 (by decide +kernel) (by omega), h 98 (by decide +kernel) (by omega)⟩
theorem steps_ok : ∀ (acts : List Int) (k n : Nat) (st : List Row × List Row), k + acts.length ≤ 5 → (∀ a ∈ acts, 0 ≤ a ∧ a < 64) → Two n st → Two (n + acts.length) (steps k acts st)
  | [], _, _, _, _, _, h => h
  | a :: as, k, n, st, hk, ha, h => by
    have := steps_ok as (k + 1) (n + 1) (step1 k a st) (by simp at hk; omega) (fun b hb => ha b (by simp [hb])) (h.step (by simp at hk; omega) (ha a (by simp)))
    rw [List.length_cons, show n + (as.length + 1) = n + 1 + as.length by omega]
    exact this
theorem txt_length {n : Nat} : ∀ {rows : List Row}, (∀ r ∈ rows, Fits n r) → (txt rows).length ≤ rows.length * (4 * n + 2) := by
  intro rows h
  have h1 := joinT_length [10] (rows.map Row.text)
  have h2 : ∀ {rows : List Row}, (∀ r ∈ rows, Fits n r) → ((rows.map Row.text).map List.length).sum ≤ rows.length * (4 * n + 1) := by
    intro rows
    induction rows with
    | nil => intro _; simp
    | cons r rows ih =>
      intro h
      have h3 := ih fun q hq => h q (by simp [hq])
      have h4 := h r (by simp)
      have h5 : r.text.length ≤ 4 * n + 1 := by have := h4.lead; have := h4.name; unfold Row.text; rw [List.length_append]; omega
      rw [List.map_cons, List.map_cons, List.sum_cons, List.length_cons, Nat.succ_mul]
      omega
  have h3 := h2 h
  unfold txt
  rw [List.length_map] at h1
  simp only [List.length_cons, List.length_nil] at h1
  have : rows.length * (4 * n + 2) = rows.length * (4 * n + 1) + rows.length := by rw [← Nat.mul_succ]
  omega
theorem PageOk.small {n : Nat} {rows : List Row} (h : PageOk n rows) (hn : n ≤ 5) : (txt rows).length ≤ 300 := by
  have h1 := txt_length (h.mono hn).fits
  have h2 := (h.mono hn).len
  have h3 : rows.length * (4 * 5 + 2) ≤ (2 * 5 + 1) * (4 * 5 + 2) := Nat.mul_le_mul_right _ h2
  omega
end Mine

namespace Mine

/-- count[b] + 1, the list made longer where it must be -/
def bump : List Nat → Nat → List Nat
  | [], 0 => [1]
  | [], b + 1 => 0 :: bump [] b
  | x :: xs, 0 => (x + 1) :: xs
  | x :: xs, b + 1 => x :: bump xs b
structure Ws where
  count : List Nat
  b : Nat
  n : Nat
  nt : Nat
def ws0 : Ws := ⟨[], 0, 0, 0⟩
def wsRun : Ws → List Nat → Ws
  | s, [] => s
  | s, c :: cs => if c = 32 then wsRun ⟨s.count, s.b + 1, s.n + 1, s.nt⟩ cs else if c = 9 then wsRun ⟨bump s.count s.b, 0, s.n + 1, s.nt + 1⟩ cs else s
theorem wsRun_stop {c : Nat} (h1 : c ≠ 32) (h2 : c ≠ 9) (x : List Nat) : ∀ (l : List Nat) (s : Ws), White l → wsRun s (l ++ c :: x) = wsRun s l
  | [], s, _ => by simp [wsRun, h1, h2]
  | d :: l, s, h => by
    have hl : White l := fun e he => h e (by simp [he])
    rcases h d (by simp) with rfl | rfl
    · simp only [List.cons_append, wsRun, if_true]; exact wsRun_stop h1 h2 x l _ hl
    · have e : ∀ y, wsRun s (9 :: y) = wsRun ⟨bump s.count s.b, 0, s.n + 1, s.nt + 1⟩ y := fun y => by rw [wsRun, if_neg (by decide), if_pos rfl]
      rw [List.cons_append, e, e]; exact wsRun_stop h1 h2 x l _ hl

def at_ (c : List Nat) (i : Nat) : Nat := c.getD i 0
theorem at_cons (x : Nat) (c : List Nat) (i : Nat) : at_ (x :: c) (i + 1) = at_ c i := rfl
theorem bump_at : ∀ (c : List Nat) (b i : Nat), at_ (bump c b) i = if i = b then at_ c i + 1 else at_ c i
  | [], 0, 0 => rfl
  | [], 0, i + 1 => by simp [bump, at_]
  | [], b + 1, 0 => by simp [bump, at_]
  | [], b + 1, i + 1 => by
    have := bump_at [] b i
    rw [bump, at_cons, this]; simp [at_]
  | x :: xs, 0, 0 => by simp [bump, at_]
  | x :: xs, 0, i + 1 => by simp [bump, at_]
  | x :: xs, b + 1, 0 => by simp [bump, at_]
  | x :: xs, b + 1, i + 1 => by
    have := bump_at xs b i
    rw [bump, at_cons, at_cons, this]; simp
theorem bump_ne : ∀ (c : List Nat) (b : Nat), bump c b ≠ []
  | [], 0 => by simp [bump]
  | [], b + 1 => by simp [bump]
  | x :: xs, 0 => by simp [bump]
  | x :: xs, b + 1 => by simp [bump]
theorem bump_length : ∀ (c : List Nat) (b : Nat), (bump c b).length = max c.length (b + 1)
  | [], 0 => rfl
  | [], b + 1 => by have := bump_length [] b; simp [bump, this]
  | x :: xs, 0 => by simp [bump]
  | x :: xs, b + 1 => by have := bump_length xs b; simp [bump, this]
def lastPos : List Nat → Prop
  | [] => True
  | [x] => 0 < x
  | _ :: y :: r => lastPos (y :: r)
theorem lastPos_cons {x : Nat} {c : List Nat} (h : c ≠ []) : lastPos (x :: c) ↔ lastPos c := by
  cases c with
  | nil => exact absurd rfl h
  | cons y r => rfl
theorem bump_last : ∀ (c : List Nat) (b : Nat), lastPos c → lastPos (bump c b)
  | [], 0, _ => by simp [bump, lastPos]
  | [], b + 1, h => by rw [bump, lastPos_cons (bump_ne _ _)]; exact bump_last [] b h
  | [x], 0, h => by simp [bump, lastPos]
  | x :: y :: r, 0, h => h
  | [x], b + 1, h => by rw [bump, lastPos_cons (bump_ne _ _)]; exact bump_last [] b trivial
  | x :: y :: r, b + 1, h => by rw [bump, lastPos_cons (bump_ne _ _)]; exact bump_last (y :: r) b h
theorem at_beyond {c : List Nat} {i : Nat} (h : c.length ≤ i) : at_ c i = 0 := by
  unfold at_; rw [List.getD_eq_getElem?_getD, List.getElem?_eq_none h]; rfl
theorem last_zero : ∀ {c : List Nat}, lastPos c → (∀ i, at_ c i = 0) → c = []
  | [], _, _ => rfl
  | [x], h, e => by have := e 0; simp [at_] at this; simp [lastPos] at h; omega
  | x :: y :: r, h, e => by
    have := last_zero (c := y :: r) h fun i => by have := e (i + 1); rwa [at_cons] at this
    cases this
theorem last_ext : ∀ {c d : List Nat}, lastPos c → lastPos d → (∀ i, at_ c i = at_ d i) → c = d
  | [], d, _, hd, e => (last_zero hd fun i => by rw [← e]; rfl).symm
  | c, [], hc, _, e => last_zero hc fun i => by rw [e]; rfl
  | x :: c, y :: d, hc, hd, e => by
    have h0 : x = y := e 0
    have ht : ∀ i, at_ c i = at_ d i := fun i => e (i + 1)
    have lc : lastPos c := by
      cases c with
      | nil => trivial
      | cons a r => exact hc
    have ld : lastPos d := by
      cases d with
      | nil => trivial
      | cons a r => exact hd
    rw [h0, last_ext lc ld ht]

/-- the sum of c i * (i / t) below N -/
def wsum (t : Nat) (c : Nat → Nat) : Nat → Nat
  | 0 => 0
  | N + 1 => wsum t c N + N / t * c N
def ssum (c : Nat → Nat) : Nat → Nat
  | 0 => 0
  | N + 1 => ssum c N + c N
theorem wsum_congr {t : Nat} {c d : Nat → Nat} : ∀ {N : Nat}, (∀ i, i < N → c i = d i) → wsum t c N = wsum t d N
  | 0, _ => rfl
  | N + 1, h => by rw [wsum, wsum, wsum_congr fun i hi => h i (by omega), h N (by omega)]
theorem wsum_bump {t b : Nat} {c d : Nat → Nat} (h : ∀ i, d i = if i = b then c i + 1 else c i) : ∀ (N : Nat), wsum t d N = wsum t c N + if b < N then b / t else 0
  | 0 => rfl
  | N + 1 => by
    rw [wsum, wsum, wsum_bump h N, h N]
    by_cases h1 : N = b
    · subst h1
      rw [if_pos rfl, if_neg (Nat.lt_irrefl _), if_pos (by omega), Nat.mul_add]; omega
    · rw [if_neg h1]
      by_cases h2 : b < N
      · rw [if_pos h2, if_pos (by omega)]; omega
      · rw [if_neg h2, if_neg (by omega)]; omega
theorem ssum_bump {b : Nat} {c d : Nat → Nat} (h : ∀ i, d i = if i = b then c i + 1 else c i) : ∀ (N : Nat), ssum d N = ssum c N + if b < N then 1 else 0
  | 0 => rfl
  | N + 1 => by
    rw [ssum, ssum, ssum_bump h N, h N]
    by_cases h1 : N = b
    · subst h1
      rw [if_pos rfl, if_neg (Nat.lt_irrefl _), if_pos (by omega)]; omega
    · rw [if_neg h1]
      by_cases h2 : b < N
      · rw [if_pos h2, if_pos (by omega)]; omega
      · rw [if_neg h2, if_neg (by omega)]; omega
theorem wsum_small {t : Nat} {c : Nat → Nat} : ∀ {N : Nat}, (∀ i, i < N → c i ≠ 0 → i < t) → wsum t c N = 0
  | 0, _ => rfl
  | N + 1, h => by
    rw [wsum, wsum_small fun i hi => h i (by omega)]
    by_cases hc : c N = 0
    · rw [hc]; simp
    · rw [Nat.div_eq_of_lt (h N (by omega) hc)]; simp
theorem wsum_more {t : Nat} {c : Nat → Nat} {L : Nat} (h : ∀ i, L ≤ i → c i = 0) : ∀ {N : Nat}, L ≤ N → wsum t c N = wsum t c L
  | 0, hl => by rw [show L = 0 by omega]
  | N + 1, hl => by
    by_cases e : L = N + 1
    · rw [e]
    · rw [wsum, wsum_more h (by omega), h N (by omega)]; simp
theorem ssum_tail {c d : Nat → Nat} (ht : ∀ i, 1 ≤ i → c i = d i) : ∀ N, 0 < N → ssum c N + d 0 = ssum d N + c 0
  | 0, h => by omega
  | 1, _ => by simp [ssum]; omega
  | N + 2, _ => by
    have := ssum_tail ht (N + 1) (by omega)
    show ssum c (N + 1) + c (N + 1) + d 0 = ssum d (N + 1) + d (N + 1) + c 0
    rw [ht (N + 1) (by omega)]; omega
theorem wsum_at {t : Nat} {c d : Nat → Nat} (h0 : 0 < t) (ht : ∀ i, t < i → c i = d i) : ∀ N, (N ≤ t → wsum t c N = 0 ∧ wsum t d N = 0) ∧ (t < N → wsum t c N + d t = wsum t d N + c t)
  | 0 => ⟨fun _ => ⟨rfl, rfl⟩, fun h => by omega⟩
  | N + 1 => by
    obtain ⟨h1, h2⟩ := wsum_at h0 ht N
    refine ⟨fun h => ?_, fun h => ?_⟩
    · obtain ⟨e1, e2⟩ := h1 (by omega)
      rw [wsum, wsum, e1, e2, Nat.div_eq_of_lt (by omega)]; simp
    · rw [wsum, wsum]
      by_cases e : t = N
      · subst e
        obtain ⟨e1, e2⟩ := h1 (Nat.le_refl _)
        rw [e1, e2, Nat.div_self h0]; omega
      · rw [ht N (by omega)]
        have := h2 (by omega)
        omega

/-- where the walk sign by sign comes to -/
def colStep (t : Nat) (p c : Nat) : Nat := if c = 9 then p - p % t + t else p + 1
def colL (t : Nat) (l : List Nat) : Nat := l.foldl (colStep t) 0

/-- no run of blanks above M, b blanks already passed -/
def runsLe (M : Nat) : Nat → List Nat → Prop
  | b, [] => b ≤ M
  | b, c :: l => if c = 9 then b ≤ M ∧ runsLe M 0 l else runsLe M (b + 1) l

structure WsOk (M : Nat) (s : Ws) (place : Nat → Nat) (len : Nat) : Prop where
  last : lastPos s.count
  fits : s.count.length ≤ M + 1
  sum : ssum (at_ s.count) (M + 1) = s.nt
  n : s.n = len
  col : ∀ t, 0 < t → place t = s.b + t * (wsum t (at_ s.count) (M + 1) + s.nt)
theorem tab_place {b t m : Nat} (h : 0 < t) : b + t * m - (b + t * m) % t + t = t * (b / t + m + 1) := by
  rw [Nat.add_mul_mod_self_left]
  have := Nat.div_add_mod b t
  rw [Nat.mul_add, Nat.mul_add, Nat.mul_one]
  have := Nat.mod_le b t
  omega
theorem wsRun_ok {M : Nat} : ∀ (l : List Nat) (s : Ws) (place : Nat → Nat) (len : Nat), White l → runsLe M s.b l → WsOk M s place len → WsOk M (wsRun s l) (fun t => l.foldl (colStep t) (place t)) (len + l.length) ∧ (wsRun s l).b ≤ M
  | [], s, place, len, _, hr, h => ⟨h, hr⟩
  | c :: l, s, place, len, hw, hr, h => by
    have hl : White l := fun e he => hw e (by simp [he])
    rcases hw c (by simp) with rfl | rfl
    · rw [wsRun, if_pos rfl]
      have := wsRun_ok l ⟨s.count, s.b + 1, s.n + 1, s.nt⟩ (fun t => place t + 1) (len + 1) hl (by simpa [runsLe] using hr) ⟨h.last, h.fits, h.sum, by rw [h.n], fun t ht => by rw [h.col t ht]; simp only; omega⟩
      simp only [List.foldl_cons, List.length_cons]
      rw [show len + (l.length + 1) = len + 1 + l.length by omega]
      exact this
    · rw [wsRun, if_neg (by decide), if_pos rfl]
      have hr' : s.b ≤ M ∧ runsLe M 0 l := by simpa [runsLe] using hr
      have hb := bump_at s.count s.b
      have := wsRun_ok l ⟨bump s.count s.b, 0, s.n + 1, s.nt + 1⟩ (fun t => place t - place t % t + t) (len + 1) hl hr'.2
        ⟨bump_last _ _ h.last, by rw [bump_length]; have := h.fits; omega, by rw [ssum_bump hb, h.sum, if_pos (by omega)], by rw [h.n], fun t ht => by
          rw [h.col t ht, tab_place ht, wsum_bump hb, if_pos (by omega)]
          simp only [Nat.zero_add]
          congr 1; omega⟩
      simp only [List.foldl_cons, List.length_cons]
      rw [show len + (l.length + 1) = len + 1 + l.length by omega]
      exact this
theorem ws_ok {M : Nat} {l : List Nat} (hw : White l) (hr : runsLe M 0 l) : WsOk M (wsRun ws0 l) (fun t => colL t l) l.length ∧ (wsRun ws0 l).b ≤ M := by
  have h0 : ∀ N, ssum (at_ []) N = 0 := fun N => by
    induction N with
    | zero => rfl
    | succ N ih => rw [ssum, ih]; rfl
  have h1 : ∀ t N, wsum t (at_ []) N = 0 := fun t N => wsum_small fun i _ h => absurd rfl h
  have := wsRun_ok (M := M) l ws0 (fun _ => 0) 0 hw hr ⟨trivial, by simp [ws0], h0 _, rfl, fun t _ => by simp [ws0, h1]⟩
  rw [Nat.zero_add] at this
  exact this
theorem colL_one (l : List Nat) : colL 1 l = l.length := by
  unfold colL
  have : ∀ (l : List Nat) (p : Nat), l.foldl (colStep 1) p = p + l.length := by
    intro l
    induction l with
    | nil => intro p; rfl
    | cons c l ih =>
      intro p
      rw [List.foldl_cons, ih, List.length_cons]
      unfold colStep
      split
      · rw [Nat.mod_one]; omega
      · omega
  rw [this]; omega
end Mine

namespace Mine

theorem find9 (y : List Nat) : ∀ (z : List Nat), 9 ∉ z → findL [9] (z ++ 9 :: y) = some (z, y)
  | [], _ => by simp [findL]
  | c :: z, h => by
    have hc : c ≠ 9 := fun e => h (by simp [e])
    rw [List.cons_append, findL, if_neg (by simp [hc]), find9 y z fun e => h (by simp [e])]; rfl
theorem runs_split {M : Nat} : ∀ (l z : List Nat) (n : Nat), White l → 9 ∉ z → l.length < n → (∀ p ∈ splitL [9] n (z ++ l), p.length ≤ M) → runsLe M z.length l
  | [], z, n, _, hz, hn, h => by
    obtain ⟨m, rfl⟩ : ∃ m, n = m + 1 := ⟨n - 1, by omega⟩
    obtain ⟨q, hq, hl⟩ : ∃ q ∈ splitL [9] (m + 1) (z ++ []), z.length ≤ q.length := by
      rw [List.append_nil]
      have : findL [9] z = none := by
        clear h hn
        induction z with
        | nil => rfl
        | cons c z ih =>
          have hc : c ≠ 9 := fun e => hz (by simp [e])
          rw [findL, if_neg (by simp [hc]), ih fun e => hz (by simp [e])]; rfl
      rw [splitL, this]
      exact ⟨z, by simp, Nat.le_refl _⟩
    have := h q hq
    show z.length ≤ M
    omega
  | c :: l, z, n, hw, hz, hn, h => by
    have hl : White l := fun e he => hw e (by simp [he])
    obtain ⟨m, rfl⟩ : ∃ m, n = m + 1 := ⟨n - 1, by omega⟩
    simp only [List.length_cons] at hn
    rcases hw c (by simp) with rfl | rfl
    · have := runs_split l (z ++ [32]) (m + 1) hl (by simp [hz]) (by omega) (by simpa using h)
      simpa [runsLe] using this
    · rw [splitL, find9 l z hz] at h
      have h1 := h z (by simp)
      have := runs_split l [] m hl (by simp) (by omega) fun p hp => h p (by simpa using .inr hp)
      simp [runsLe]
      exact ⟨h1, this⟩
theorem runs_of {M : Nat} {l : List Nat} (hw : White l) (h : ∀ p ∈ splitT [9] l, p.length ≤ M) : runsLe M 0 l :=
  runs_split l [] (l.length + 1) hw (by simp) (by omega) h

def longest (s : Ws) : Int := max ((s.count.length : Int) - 1) s.b
def lvl (s : Ws) (t : Nat) : Nat := s.b + t * (wsum t (at_ s.count) s.count.length + s.nt)
def LessP (s o : Ws) : Prop := s.n < o.n ∧ if s.count.length ≤ 1 ∧ o.count.length ≤ 1 then s.nt ≤ o.nt else ∀ t : Nat, 2 ≤ t → (t : Int) ≤ max (longest s) (longest o) + 1 → lvl s t < lvl o t

section
variable {M : Nat} {s o : Ws} {p q : Nat → Nat} {n m : Nat}
theorem WsOk.lvl (h : WsOk M s p n) {t : Nat} (ht : 0 < t) : p t = lvl s t := by
  rw [h.col t ht, Mine.lvl, wsum_more (L := s.count.length) (fun i hi => at_beyond hi) h.fits]
theorem WsOk.flat (h : WsOk M s p n) {t : Nat} (ht : 0 < t) (hl : s.count.length ≤ t) : p t = s.b + t * s.nt := by
  rw [h.lvl ht, Mine.lvl, wsum_small fun i hi _ => by omega, Nat.zero_add]
theorem flat_nt {b b' a c t : Nat} (h : b + t * a < b' + t * c) (hb : b' < t) : a ≤ c := by
  by_cases hac : a ≤ c
  · exact hac
  · exfalso
    have : t * (c + 1) ≤ t * a := Nat.mul_le_mul_left _ (by omega)
    rw [Nat.mul_add] at this
    omega
theorem flat_up {b b' a c t u : Nat} (h : b + t * a < b' + t * c) (hb : a ≤ c) (hu : t ≤ u) : b + u * a < b' + u * c := by
  obtain ⟨d, rfl⟩ := Nat.le.dest hu
  have : d * a ≤ d * c := Nat.mul_le_mul_left _ hb
  rw [Nat.add_mul, Nat.add_mul]
  omega
theorem less_all (h1 : WsOk M s p n) (b1 : s.b ≤ M) (h2 : WsOk M o q m) (b2 : o.b ≤ M) (e1 : p 1 = n) (e2 : q 1 = m) (h : LessP s o) : ∀ t, 0 < t → p t < q t := by
  obtain ⟨hn, h⟩ := h
  rw [h1.n, h2.n] at hn
  have hone : p 1 < q 1 := by rw [e1, e2]; exact hn
  intro t ht
  by_cases hs : s.count.length ≤ 1 ∧ o.count.length ≤ 1
  · rw [if_pos hs] at h
    rw [h1.flat ht (by omega), h2.flat ht (by omega)]
    rw [h1.flat (t := 1) (by omega) hs.1, h2.flat (t := 1) (by omega) hs.2] at hone
    exact flat_up hone h ht
  · rw [if_neg hs] at h
    have key : ∀ t : Nat, 0 < t → (t : Int) ≤ max (longest s) (longest o) + 1 → p t < q t := fun t ht hle => by
      by_cases e : t = 1
      · subst e; exact hone
      · rw [h1.lvl ht, h2.lvl ht]; exact h t (by omega) hle
    by_cases hle : (t : Int) ≤ max (longest s) (longest o) + 1
    · exact key t ht hle
    · have hl : ∃ k : Nat, (k : Int) = max (longest s) (longest o) + 1 ∧ 0 < k := by
        unfold longest at *
        refine ⟨(max (max ((s.count.length : Int) - 1) s.b) (max ((o.count.length : Int) - 1) o.b) + 1).toNat, ?_, ?_⟩ <;> omega
      obtain ⟨k, hk, hk0⟩ := hl
      have hk' := key k hk0 (by omega)
      unfold longest at hk hle
      rw [h1.flat hk0 (by omega), h2.flat hk0 (by omega)] at hk'
      rw [h1.flat ht (by omega), h2.flat ht (by omega)]
      exact flat_up hk' (flat_nt hk' (by omega)) (by omega)
theorem less_of (h1 : WsOk M s p n) (b1 : s.b ≤ M) (h2 : WsOk M o q m) (b2 : o.b ≤ M) (e1 : p 1 = n) (e2 : q 1 = m) (h : ∀ t, 0 < t → t ≤ M + 1 → p t < q t) : LessP s o := by
  have hone := h 1 (by omega) (by omega)
  refine ⟨by rw [h1.n, h2.n, ← e1, ← e2]; exact hone, ?_⟩
  have f1 := h1.fits
  have f2 := h2.fits
  split
  · have := h (M + 1) (by omega) (Nat.le_refl _)
    rw [h1.flat (by omega) f1, h2.flat (by omega) f2] at this
    exact flat_nt this (by omega)
  · intro t ht hle
    rw [← h1.lvl (by omega), ← h2.lvl (by omega)]
    refine h t (by omega) ?_
    unfold longest at hle
    omega
theorem same_of (h1 : WsOk M s p n) (b1 : s.b ≤ M) (h2 : WsOk M o q m) (b2 : o.b ≤ M) (h : ∀ t, 0 < t → t ≤ M + 1 → p t = q t) : s.count = o.count ∧ s.b = o.b := by
  have f1 := h1.fits
  have f2 := h2.fits
  have htop := h (M + 1) (by omega) (Nat.le_refl _)
  rw [h1.flat (by omega) f1, h2.flat (by omega) f2] at htop
  have hb : s.b = o.b ∧ s.nt = o.nt := by
    have hnt : s.nt = o.nt := by
      rcases Nat.lt_trichotomy s.nt o.nt with g | g | g
      · have : (M + 1) * (s.nt + 1) ≤ (M + 1) * o.nt := Nat.mul_le_mul_left _ g
        rw [Nat.mul_add] at this; omega
      · exact g
      · have : (M + 1) * (o.nt + 1) ≤ (M + 1) * s.nt := Nat.mul_le_mul_left _ g
        rw [Nat.mul_add] at this; omega
    rw [hnt] at htop
    exact ⟨by omega, hnt⟩
  refine ⟨?_, hb.1⟩
  have hw : ∀ t, 0 < t → t ≤ M + 1 → wsum t (at_ s.count) (M + 1) = wsum t (at_ o.count) (M + 1) := fun t ht hle => by
    have := h t ht hle
    rw [h1.col t ht, h2.col t ht, hb.1, hb.2] at this
    have h3 : t * (wsum t (at_ s.count) (M + 1) + o.nt) = t * (wsum t (at_ o.count) (M + 1) + o.nt) := by omega
    have := Nat.eq_of_mul_eq_mul_left ht h3
    omega
  have up : ∀ (d j : Nat), j + d = M + 1 → 1 ≤ j → ∀ i, j ≤ i → at_ s.count i = at_ o.count i := by
    intro d
    induction d with
    | zero => intro j hj _ i hi; rw [at_beyond (by omega), at_beyond (by omega)]
    | succ d ih =>
      intro j hj h1' i hi
      by_cases e : i = j
      · subst e
        have := (wsum_at (t := i) (c := at_ s.count) (d := at_ o.count) (by omega) (fun k hk => ih (i + 1) (by omega) (by omega) k (by omega)) (M + 1)).2 (by omega)
        have := hw i (by omega) (by omega)
        omega
      · exact ih (j + 1) (by omega) (by omega) i (by omega)
  have tail := up M 1 (by omega) (Nat.le_refl _)
  have h0 := ssum_tail tail (M + 1) (by omega)
  rw [h1.sum, h2.sum, hb.2] at h0
  refine last_ext h1.last h2.last fun i => ?_
  cases i with
  | zero => omega
  | succ i => exact tail (i + 1) (by omega)
end

/-! columns grow sign by sign -/
theorem colStep_lt {t : Nat} (ht : 0 < t) (p c : Nat) : p < colStep t p c := by
  unfold colStep
  split
  · have := Nat.mod_lt p ht; have := Nat.mod_le p t; omega
  · omega
theorem fold_lt {t : Nat} (ht : 0 < t) : ∀ (x : List Nat) (p : Nat), p ≤ x.foldl (colStep t) p ∧ (x ≠ [] → p < x.foldl (colStep t) p)
  | [], p => ⟨Nat.le_refl _, fun h => absurd rfl h⟩
  | c :: x, p => by
    have h1 := colStep_lt ht p c
    have h2 := (fold_lt ht x (colStep t p c)).1
    rw [List.foldl_cons]
    exact ⟨by omega, fun _ => by omega⟩
theorem colL_prefix {t : Nat} (ht : 0 < t) (a x : List Nat) (hx : x ≠ []) : colL t a < colL t (a ++ x) := by
  unfold colL
  rw [List.foldl_append]
  exact (fold_lt ht x _).2 hx

/-- less and equal upon the leads themselves -/
def wsOf (l : List Nat) : Ws := wsRun ws0 l
theorem runs_some (l : List Nat) (hw : White l) : runsLe l.length 0 l := runs_of hw fun p hp => by
  have h1 := (splitT_sum [9] (by simp) l).1
  have h2 : p.length ≤ ((splitT [9] l).map List.length).sum := by
    have : p.length ∈ (splitT [9] l).map List.length := List.mem_map.mpr ⟨p, hp, rfl⟩
    generalize (splitT [9] l).map List.length = L at this
    induction L with
    | nil => cases this
    | cons x L ih =>
      rw [List.sum_cons]
      rcases List.mem_cons.mp this with rfl | h
      · omega
      · have := ih h; omega
  omega
theorem runsLe.mono {M N : Nat} (h : M ≤ N) : ∀ {l : List Nat} {b : Nat}, runsLe M b l → runsLe N b l
  | [], b, hr => Nat.le_trans hr h
  | c :: l, b, hr => by
    unfold runsLe at *
    split
    · rename_i e; rw [if_pos e] at hr; exact ⟨by omega, hr.2.mono h⟩
    · rename_i e; rw [if_neg e] at hr; exact hr.mono h
theorem less_lead {M : Nat} {a b : List Nat} (ha : White a) (hb : White b) (ra : runsLe M 0 a) (rb : runsLe M 0 b) : (LessP (wsOf a) (wsOf b) ↔ ∀ t, 0 < t → t ≤ M + 1 → colL t a < colL t b) ∧ (LessP (wsOf a) (wsOf b) → ∀ t, 0 < t → colL t a < colL t b) := by
  obtain ⟨h1, h1'⟩ := ws_ok ha ra
  obtain ⟨h2, h2'⟩ := ws_ok hb rb
  have key := less_all h1 h1' h2 h2' (colL_one a) (colL_one b)
  exact ⟨⟨fun h t ht _ => key h t ht, less_of h1 h1' h2 h2' (colL_one a) (colL_one b)⟩, key⟩
theorem same_lead {M : Nat} {a b : List Nat} (ha : White a) (hb : White b) (ra : runsLe M 0 a) (rb : runsLe M 0 b) : ((wsOf a).count = (wsOf b).count ∧ (wsOf a).b = (wsOf b).b) ↔ ∀ t, 0 < t → t ≤ M + 1 → colL t a = colL t b := by
  obtain ⟨h1, h1'⟩ := ws_ok ha ra
  obtain ⟨h2, h2'⟩ := ws_ok hb rb
  refine ⟨fun h t ht _ => ?_, same_of h1 h1' h2 h2'⟩
  have e1 := h1.col t ht
  have e2 := h2.col t ht
  have s1 := h1.sum
  have s2 := h2.sum
  have : (wsOf a).nt = (wsOf b).nt := by unfold wsOf at *; rw [← s1, ← s2, h.1]
  unfold wsOf at *
  rw [e1, e2, h.1, h.2, this]
theorem less_prefix {a x : List Nat} (hw : White (a ++ x)) (hx : x ≠ []) : LessP (wsOf a) (wsOf (a ++ x)) := by
  have ha : White a := fun c hc => hw c (by simp [hc])
  have r1 := (runs_some a ha).mono (N := (a ++ x).length) (by simp)
  exact (less_lead ha hw r1 (runs_some _ hw)).1.mpr fun t ht _ => colL_prefix ht a x hx
theorem not_less {a b : List Nat} (ha : White a) (hb : White b) (h : b.length ≤ a.length) : ¬ LessP (wsOf a) (wsOf b) := fun hl => by
  have r1 := (runs_some a ha).mono (N := a.length + b.length) (by omega)
  have r2 := (runs_some b hb).mono (N := a.length + b.length) (by omega)
  have := (less_lead ha hb r1 r2).2 hl 1 (by omega)
  rw [colL_one, colL_one] at this
  omega
end Mine

namespace Mine

def wds (rows : List Row) : List Row := rows.filter fun r => r.above != [45]
theorem wds_cons {w g : Row} {rest : List Row} (hw : Word w) (hg : Gap g) : wds (w :: g :: rest) = w :: wds rest := by
  unfold wds
  rw [List.filter_cons, if_pos (by simpa using hw.above), List.filter_cons, if_neg (by simp [hg.above])]
theorem wds_one {w : Row} (hw : Word w) : wds [w] = [w] := by
  unfold wds
  rw [List.filter_cons, if_pos (by simpa using hw.above)]; rfl
theorem wds_append (a b : List Row) : wds (a ++ b) = wds a ++ wds b := List.filter_append ..
theorem wds_gap {g : Row} (hg : Gap g) (rest : List Row) : wds (g :: rest) = wds rest := by
  unfold wds
  rw [List.filter_cons, if_neg (by simp [hg.above])]
theorem wds_word {w : Row} (hw : Word w) (rest : List Row) : wds (w :: rest) = w :: wds rest := by
  unfold wds
  rw [List.filter_cons, if_pos (by simpa using hw.above)]
theorem Pg.words {rows : List Row} (h : Pg rows) : ∀ r ∈ wds rows, Word r := by
  induction h with
  | one hw => intro r hr; rw [wds_one hw] at hr; simp at hr; subst hr; exact hw
  | cons hw hg _ ih =>
    intro r hr
    rw [wds_cons hw hg] at hr
    rcases List.mem_cons.mp hr with rfl | hr
    · exact hw
    · exact ih r hr
theorem Pg.words_below {rows : List Row} (h : Pg rows) {u f : List Nat} (hu : White u) (hf : f ≠ [45]) : wds (rows.map (Mine.below u f)) = (wds rows).map (Mine.below u f) := by
  induction h with
  | one hw => rw [wds_one hw]; exact wds_one (hw.below hu hf)
  | cons hw hg _ ih => rw [wds_cons hw hg, List.map_cons, List.map_cons, wds_cons (hw.below hu hf) (hg.below hu), ih]; rfl

abbrev Pile := List (List Nat × List Nat)
def topName : Pile → List Nat
  | [] => []
  | p :: _ => p.2
structure Pops (pile popped rest : Pile) (l : List Nat) : Prop where
  split : pile = popped ++ rest
  pops : ∀ p ∈ popped, ¬ LessP (wsOf p.1) (wsOf l)
  stays : ∀ p r, rest = p :: r → LessP (wsOf p.1) (wsOf l)
  same : ∀ p, popped.getLast? = some p → p.1 = l
inductive Runs : Pile → List Row → Pile → Prop
  | nil (p : Pile) : Runs p [] p
  | cons {pile popped rest p' : Pile} {r : Row} {rows : List Row} : Pops pile popped rest r.lead → r.above = topName rest → Runs ((r.lead, r.name) :: rest) rows p' → Runs pile (r :: rows) p'
theorem Runs.append {p p' p'' : Pile} {a b : List Row} (h : Runs p a p') (h' : Runs p' b p'') : Runs p (a ++ b) p'' := by
  induction h with
  | nil p => exact h'
  | cons hp ha _ ih => exact .cons hp ha (ih h')
def Base (pile : Pile) : Prop := ∃ q n, pile = q ++ [([], n)]
theorem less_nil (s : Ws) : ¬ LessP s (wsOf []) := fun h => Nat.not_lt_zero _ h.1
theorem Base.pops {pile : Pile} (h : Base pile) : Pops pile pile [] [] := by
  obtain ⟨q, n, rfl⟩ := h
  refine ⟨by simp, fun p _ => less_nil _, fun p r e => (nomatch e), fun p e => ?_⟩
  rw [List.getLast?_append] at e
  simp at e; subst e; rfl
theorem Runs.restart {pile p' : Pile} {r : Row} {rows : List Row} (h : Runs [] (r :: rows) p') (hr : r.lead = []) (hb : Base pile) : Runs pile (r :: rows) p' := by
  cases h with
  | cons hp ha hrest =>
    rename_i popped rest
    obtain ⟨rfl, rfl⟩ : popped = [] ∧ rest = [] := List.append_eq_nil_iff.mp hp.split.symm
    exact .cons (popped := pile) (rest := []) (by rw [hr]; exact hb.pops) ha hrest
theorem Runs.single {r : Row} (ha : r.above = []) : Runs [] [r] [(r.lead, r.name)] :=
  .cons (popped := []) (rest := []) ⟨rfl, fun p h => (nomatch h), fun p r e => (nomatch e), fun p e => (nomatch e)⟩ ha (.nil _)

theorem prefix_less {Z a b : List Nat} (hZ : White Z) (ha : a <+: Z) (hb : b <+: Z) (h : a.length < b.length) : ∃ x, x ≠ [] ∧ b = a ++ x := by
  obtain ⟨x, e⟩ := List.prefix_of_prefix_length_le ha hb (by omega)
  refine ⟨x, fun hx => ?_, e.symm⟩
  rw [← e, hx] at h; simp at h
theorem White.prefix {Z a : List Nat} (hZ : White Z) (ha : a <+: Z) : White a := fun c hc => hZ c (ha.subset hc)
def sh (u f : List Nat) (pile : Pile) : Pile := pile.map (fun p => (u ++ p.1, p.2)) ++ [([], f)]
theorem Runs.shift {u f Z : List Nat} (hu : White u) (hne : u ≠ []) (hZ : White Z) {pile p' : Pile} {rows : List Row} (h : Runs pile rows p') :
    (∀ p ∈ pile, p.1 <+: Z ∧ p.2 ≠ []) → (∀ r ∈ rows, r.lead <+: Z ∧ r.name ≠ []) → Runs (sh u f pile) (rows.map (Mine.below u f)) (sh u f p') := by
  induction h with
  | nil p => intro _ _; exact .nil _
  | cons hp ha _ ih =>
    rename_i pile popped rest p' r rows _
    intro h1 h2
    obtain ⟨hrl, hrn⟩ := h2 r (by simp)
    have hrt : r.text ≠ [] := by unfold Row.text; simp [hrn]
    have hwr := hZ.prefix hrl
    have hbl : (Mine.below u f r).lead = u ++ r.lead := by unfold Mine.below; rw [if_neg hrt]; split <;> rfl
    have hbn : (Mine.below u f r).name = r.name := by unfold Mine.below; rw [if_neg hrt]; split <;> rfl
    have hs := hp.split
    rw [List.map_cons]
    refine .cons (popped := popped.map fun p => (u ++ p.1, p.2)) (rest := sh u f rest) ⟨?_, ?_, ?_, ?_⟩ ?_ ?_
    · unfold sh; rw [hs]; simp
    · intro p hpm
      obtain ⟨q, hq, rfl⟩ := List.mem_map.mp hpm
      have hqz := (h1 q (by rw [hs]; simp [hq])).1
      rw [hbl]
      refine not_less (hu.append (hZ.prefix hqz)) (hu.append hwr) ?_
      rw [List.length_append, List.length_append]
      rcases Nat.lt_or_ge q.1.length r.lead.length with g | g
      · exfalso
        obtain ⟨x, hx, e⟩ := prefix_less hZ hqz hrl g
        refine hp.pops q hq ?_
        rw [e] at hwr ⊢
        exact less_prefix hwr hx
      · omega
    · intro p r' e
      rw [hbl]
      cases rest with
      | nil =>
        simp [sh] at e
        obtain ⟨rfl, _⟩ := e
        exact less_prefix (a := []) (x := u ++ r.lead) (hu.append hwr) (by simp [hne])
      | cons q rest =>
        simp [sh] at e
        obtain ⟨rfl, _⟩ := e
        have hqz := (h1 q (by rw [hs]; simp)).1
        have hl := hp.stays q rest rfl
        have hlen : q.1.length < r.lead.length := by
          rcases Nat.lt_or_ge q.1.length r.lead.length with g | g
          · exact g
          · exact absurd hl (not_less (hZ.prefix hqz) hwr g)
        obtain ⟨x, hx, e⟩ := prefix_less hZ hqz hrl hlen
        simp only
        rw [e, ← List.append_assoc]
        exact less_prefix (by rw [List.append_assoc, ← e]; exact hu.append hwr) hx
    · intro p e
      rw [List.getLast?_map] at e
      cases g : popped.getLast? with
      | none => rw [g] at e; cases e
      | some q =>
        rw [g] at e; cases e
        simp only
        rw [hp.same q g, hbl]
    · cases rest with
      | nil =>
        unfold Mine.below
        rw [if_neg hrt, if_pos ⟨ha, hne⟩]; rfl
      | cons q rest =>
        have hq := (h1 q (by rw [hs]; simp)).2
        unfold Mine.below
        rw [if_neg hrt, if_neg (by rw [ha]; exact fun e => hq e.1), ha]; rfl
    · rw [hbl, hbn]
      refine ih (fun p hp' => ?_) (fun q hq => h2 q (by simp [hq]))
      rcases List.mem_cons.mp hp' with rfl | hp'
      · exact ⟨hrl, hrn⟩
      · exact h1 p (by rw [hs]; simp [hp'])

structure HOk (rows : List Row) : Prop where
  runs : ∃ pile, Runs [] (wds rows) pile ∧ Base pile
  chain : ∃ Z, White Z ∧ ∀ r ∈ wds rows, r.lead <+: Z
theorem HOk.start {c : Nat} (hc : sp c = false) : HOk [⟨[], [c], []⟩] := by
  have hw : Word ⟨[], [c], []⟩ := ⟨fun d hd => (nomatch hd), ⟨c, rfl, hc⟩, by simp⟩
  refine ⟨⟨[([], [c])], by rw [wds_one hw]; exact Runs.single rfl, [], [c], rfl⟩, [], fun d hd => (nomatch hd), fun r hr => ?_⟩
  rw [wds_one hw] at hr; simp at hr; subst hr; exact List.nil_prefix
theorem HOk.grow {n k : Nat} {act : Int} {rows : List Row} (h : HOk rows) (hp : PageOk n rows) (hk : k < 5) (ha : 0 ≤ act ∧ act < 64) : HOk (grow k act rows) := by
  obtain ⟨⟨pile, hr, hb⟩, Z, hZ, hc⟩ := h
  obtain ⟨w, rest, he, hw, hww⟩ := hp.first
  have hfw := freshR_word hk
  have hgap := gapR_gap ha
  unfold Mine.grow
  split
  · have e : wds (rows ++ [gapR act, freshR k]) = wds rows ++ [freshR k] := by rw [wds_append, wds_gap hgap, wds_one hfw]
    refine ⟨⟨[([], [99 + k])], ?_, [], _, rfl⟩, Z, hZ, fun r hr' => ?_⟩
    · rw [e]; exact hr.append ((Runs.single rfl).restart rfl hb)
    · rw [e] at hr'
      rcases List.mem_append.mp hr' with g | g
      · exact hc r g
      · simp at g; subst g; exact List.nil_prefix
  · have hu := unitT_white act
    have e : wds (freshR k :: gapR act :: rows.map (below (unitT act) [99 + k])) = freshR k :: (wds rows).map (below (unitT act) [99 + k]) := by
      rw [wds_cons hfw hgap, hp.pg.words_below hu (by simp; omega)]
    rw [show (freshR k :: gapR act :: rows.map (below (unitT act) [99 + k])) = (freshR k :: gapR act :: rows.map (below (unitT act) [99 + k])) from rfl]
    have hwo := hp.pg.words
    have hbl : ∀ r ∈ wds rows, (below (unitT act) [99 + k] r).lead = unitT act ++ r.lead := fun r hr => by
      unfold below; rw [if_neg (hwo r hr).ne]; split <;> rfl
    have first : Runs [] [freshR k] [([], [99 + k])] := Runs.single rfl
    refine ⟨?_, unitT act ++ Z, hu.append hZ, fun r hr' => ?_⟩
    · rw [e]
      by_cases hne : unitT act = []
      · have e2 : (wds rows).map (below (unitT act) [99 + k]) = wds rows := by
          rw [show (wds rows) = (wds rows).map id by simp, List.map_map]
          refine List.map_congr_left fun r hr => ?_
          show below (unitT act) [99 + k] r = r
          unfold below
          rw [hne, if_neg (hwo r hr).ne, if_neg (by simp)]; rfl
        rw [e2]
        refine ⟨pile, ?_, hb⟩
        refine first.append (a := [freshR k]) (b := wds rows) ?_
        have ew : wds rows = w :: wds rest := by rw [he, wds_word hww]
        rw [ew] at hr ⊢
        exact hr.restart hw ⟨[], _, rfl⟩
      · refine ⟨sh (unitT act) [99 + k] pile, ?_, _, _, rfl⟩
        refine first.append (a := [freshR k]) ?_
        have := hr.shift (f := [99 + k]) hu hne hZ (fun p hp => (nomatch hp)) fun r hr => ⟨hc r hr, by obtain ⟨c, h1, _⟩ := (hwo r hr).name; rw [h1]; simp⟩
        simpa [sh] using this
    · rw [e] at hr'
      rcases List.mem_cons.mp hr' with rfl | hr'
      · exact List.nil_prefix
      · obtain ⟨q, hq, rfl⟩ := List.mem_map.mp hr'
        rw [hbl q hq]
        exact (List.prefix_append_right_inj _).mpr (hc q hq)
theorem steps_heads : ∀ (acts : List Int) (k n : Nat) (st : List Row × List Row), k + acts.length ≤ 5 → (∀ a ∈ acts, 0 ≤ a ∧ a < 64) → Two n st → HOk st.1 ∧ HOk st.2 → HOk (steps k acts st).1 ∧ HOk (steps k acts st).2
  | [], _, _, _, _, _, _, h => h
  | a :: as, k, n, st, hk, ha, h2, h => by
    refine steps_heads as (k + 1) (n + 1) (step1 k a st) (by simp at hk; omega) (fun b hb => ha b (by simp [hb])) (h2.step (by simp at hk; omega) (ha a (by simp))) ?_
    unfold step1
    split
    · exact ⟨h.1, h.2.grow h2.two (by simp at hk; omega) (ha a (by simp))⟩
    · exact ⟨h.1.grow h2.one (by simp at hk; omega) (ha a (by simp)), h.2⟩

/-- all that is to be known of the rows -/
structure AllOk (rows : List Row) : Prop where
  pg : Pg rows
  len : rows.length ≤ 23
  fits : ∀ r ∈ rows, Fits 5 r
  runs : ∃ pile, Runs [] (wds rows) pile
theorem all_ok {acts : List Int} (hl : acts.length ≤ 5) (ha : ∀ a ∈ acts, 0 ≤ a ∧ a < 64) : AllOk (allRows acts) := by
  have h1 := (steps_ok acts 0 0 start0 (by omega) ha two_start)
  have h2 := steps_heads acts 0 0 start0 (by omega) ha two_start ⟨HOk.start (by decide +kernel), HOk.start (by decide +kernel)⟩
  obtain ⟨h1a, h1b⟩ := h1
  obtain ⟨⟨⟨p1, r1, b1⟩, _⟩, ⟨⟨p2, r2, b2⟩, _⟩⟩ := h2
  have k1 := h1a.mono (m := 5) (by omega)
  have k2 := h1b.mono (m := 5) (by omega)
  obtain ⟨w, rest, he, hw, hww⟩ := k2.first
  refine ⟨k1.pg.join gap0_gap k2.pg, ?_, fun r hr => ?_, p2, ?_⟩
  · unfold allRows
    have := k1.len; have := k2.len
    simp only [List.length_append, List.length_cons]; omega
  · unfold allRows at hr
    rcases List.mem_append.mp hr with g | g
    · exact k1.fits r g
    · rcases List.mem_cons.mp g with rfl | g
      · exact ⟨by simp [gap0], by simp [gap0], by simp [gap0], fun c hc => (nomatch hc), fun c hc => by simp [gap0] at hc; omega⟩
      · exact k2.fits r g
  · unfold allRows
    rw [wds_append, wds_gap gap0_gap]
    refine r1.append ?_
    have ew : wds (steps 0 acts start0).2 = w :: wds rest := by rw [he, wds_word hww]
    rw [ew] at r2 ⊢
    exact r2.restart hw b1
end Mine

namespace Mine

theorem txt_one (r : Row) : txt [r] = r.text := rfl
theorem gap_text (act : Int) : (gapR act).text = rep [32] (act / 32) := by simp [gapR, Row.text]
theorem fresh_text (k : Nat) : (freshR k).text = [99 + k] := by simp [freshR, Row.text]
theorem txt_behind {rows : List Row} (h : rows ≠ []) (act : Int) (k : Nat) : txt (rows ++ [gapR act, freshR k]) = txt rows ++ ([10] ++ rep [32] (act / 32) ++ [10]) ++ [99 + k] := by
  rw [txt_append h (by simp), txt_cons _ (by simp), txt_one, gap_text, fresh_text]; simp
theorem txt_head {rows : List Row} (h : rows ≠ []) (act : Int) (k : Nat) : txt (freshR k :: gapR act :: rows) = [99 + k] ++ ([10] ++ rep [32] (act / 32) ++ [10]) ++ txt rows := by
  rw [txt_cons _ (by simp), txt_cons _ h, gap_text, fresh_text]; simp
theorem ind_length (u l : List Nat) : (ind u l).length ≤ l.length + u.length := by
  unfold ind; split
  · simp
  · rw [List.length_append]; omega
theorem join_ind_length (u : List Nat) : ∀ ls : List (List Nat), (joinT [10] (ls.map (ind u))).length ≤ (joinT [10] ls).length + ls.length * u.length
  | [] => by simp [joinT]
  | [x] => by have := ind_length u x; simp only [List.map_cons, List.map_nil, joinT, List.length_cons, List.length_nil]; omega
  | x :: y :: r => by
    have h1 := join_ind_length u (y :: r)
    have h2 := ind_length u x
    rw [List.map_cons, joinT_cons [10] (ind u x) (by simp), joinT_cons [10] x (r := y :: r) (by simp)]
    simp only [List.length_append, List.length_cons, Nat.add_mul, Nat.one_mul] at *
    omega
theorem below_length (u f : List Nat) (rows : List Row) : (txt (rows.map (below u f))).length ≤ (txt rows).length + rows.length * u.length := by
  unfold txt
  rw [below_texts]
  have := join_ind_length u (rows.map Row.text)
  rwa [List.length_map] at this
theorem indent_length {rows : List Row} (h : Pg rows) (u : List Nat) : (indentT u (txt rows)).length ≤ (txt rows).length + rows.length * u.length := by
  rw [indentT_txt h u []]; exact below_length u [] rows
theorem repl_length (a b t : List Nat) (ha : a ≠ []) (n : Nat) (hb : b.length ≤ n) : (joinT b (splitT a t)).length ≤ t.length + (t.length + 1) * n := by
  have h1 := joinT_length b (splitT a t)
  have h2 := splitT_sum a ha t
  have : (splitT a t).length * b.length ≤ (t.length + 1) * n := Nat.mul_le_mul h2.2 hb
  omega
theorem White.small {l : List Nat} (h : White l) : ∀ c ∈ l, c < 128 := fun c hc => by rcases h c hc with rfl | rfl <;> omega
theorem txt_small {n : Nat} : ∀ {rows : List Row}, (∀ r ∈ rows, White r.lead) → (∀ r ∈ rows, Fits n r) → ∀ c ∈ txt rows, c < 128
  | [], _, _, c, hc => by simp [txt, joinT] at hc
  | [r], hw, h, c, hc => by
    rw [txt_one, Row.text] at hc
    rcases List.mem_append.mp hc with h1 | h1
    · exact (hw r (by simp)).small c h1
    · exact (h r (by simp)).nameC c h1
  | r :: q :: rs, hw, h, c, hc => by
    rw [txt_cons _ (by simp)] at hc
    rcases List.mem_append.mp hc with h1 | h1
    · rcases List.mem_append.mp h1 with h1 | h1
      · unfold Row.text at h1
        rcases List.mem_append.mp h1 with h1 | h1
        · exact (hw r (by simp)).small c h1
        · exact (h r (by simp)).nameC c h1
      · simp at h1; omega
    · exact txt_small (fun r' hr => hw r' (by simp [hr])) (fun r' hr => h r' (by simp [hr])) c h1
theorem Pg.white {rows : List Row} (h : Pg rows) : ∀ r ∈ rows, White r.lead := by
  induction h with
  | one hw => intro r hr; simp at hr; subst hr; exact hw.lead
  | cons hw hg _ ih =>
    intro r hr
    rcases List.mem_cons.mp hr with rfl | hr
    · exact hw.lead
    · rcases List.mem_cons.mp hr with rfl | hr
      · exact hg.lead
      · exact ih r hr
theorem okStr {x : List Nat} (h : ∀ c ∈ x, c < 128) (bl : Bool) (n : Nat) : okV bl n (.str x) = true := by
  have : x.all (· < 0x110000) = true := List.all_eq_true.mpr fun c hc => by have := h c hc; simp; omega
  cases n <;> simpa [okV] using this
theorem slice_one {x : List Nat} (h : 1 ≤ x.length) : sliceV (.str x) (some 1) none = some (.str (x.drop 1)) := by
  show (if (0 : Int) ≤ 1 ∧ (1 : Int) ≤ x.length then some (V.str (x.drop (1 : Int).toNat)) else none) = _
  rw [if_pos (by omega)]; rfl
/-- what is set in by the act's own steps -/
theorem set_in {rows : List Row} (h : Pg rows) (act : Int) (f : List Nat) (hf : f ≠ [45]) (ha : act / 16 % 2 = 1) : indentT (rep [32] (act / 4 % 4)) (txt (rows.map (below [9] f))) = txt (rows.map (below (unitT act) f)) := by
  have h9 : White [9] := by simp [White]
  rw [indentT_txt (h.setin h9 hf) _ f, below_below _ _ f f f]
  unfold unitT
  rw [ha, rep_one 9]; rfl
theorem set_in0 {rows : List Row} (h : Pg rows) (act : Int) (f : List Nat) (ha : act / 16 % 2 ≠ 1) : indentT (rep [32] (act / 4 % 4)) (txt rows) = txt (rows.map (below (unitT act) f)) := by
  have : act / 16 % 2 = 0 := by omega
  rw [indentT_txt h _ f]
  unfold unitT
  rw [this, rep_one 9]; simp
end Mine

namespace Mine

/-- the words with the text from each on -/
def sufL : List Row → List (List Nat × Row)
  | [] => []
  | [w] => [(txt [w], w)]
  | w :: g :: rest => (txt (w :: g :: rest), w) :: sufL rest
theorem sufL_words {rows : List Row} (h : Pg rows) : (sufL rows).map (·.2) = wds rows := by
  induction h with
  | one hw => rw [wds_one hw]; rfl
  | cons hw hg _ ih => rw [wds_cons hw hg, sufL, List.map_cons, ih]
structure SufAt (rows : List Row) (j : Nat) (p : List Nat × Row) : Prop where
  text : p.1 = txt (rows.drop (2 * j))
  word : Word p.2
  next : splitdocP p.1 = (p.2.name, txt (rows.drop (2 * (j + 1))))
  ws : wsRun ws0 p.1 = wsOf p.2.lead
  take : p.1.take p.2.lead.length = p.2.lead
  len : p.1.length ≤ (txt rows).length
  lead : p.2.lead.length ≤ p.1.length
theorem word_text {w : Row} {rest : List Row} (h : Word w) : ∃ c x, txt (w :: rest) = w.lead ++ c :: x ∧ c ≠ 32 ∧ c ≠ 9 := by
  obtain ⟨c, h1, h2, h3⟩ := h.split
  have hc : c ≠ 32 ∧ c ≠ 9 := by
    refine ⟨?_, ?_⟩ <;> rintro rfl
    · have : sp 32 = true := by decide +kernel
      rw [this] at h3; cases h3
    · have : sp 9 = true := by decide +kernel
      rw [this] at h3; cases h3
  by_cases hr : rest = []
  · subst hr; exact ⟨c, [], by rw [txt_one, h1], hc⟩
  · exact ⟨c, [10] ++ txt rest, by rw [txt_cons _ hr, h1]; simp, hc⟩
theorem suf_at {rows : List Row} (h : Pg rows) : ∀ (j : Nat) (p : List Nat × Row), (sufL rows)[j]? = some p → SufAt rows j p := by
  have base : ∀ (w : Row) (rest : List Row), Word w → splitdocP (txt (w :: rest)) = (w.name, txt ((w :: rest).drop (2 * (0 + 1)))) → SufAt (w :: rest) 0 (txt (w :: rest), w) := fun w rest hw hs => by
    obtain ⟨c, x, e, h1, h2⟩ := word_text (rest := rest) hw
    refine ⟨rfl, hw, hs, ?_, ?_, Nat.le_refl _, ?_⟩
    · show wsRun ws0 (txt (w :: rest)) = _
      rw [e]; exact wsRun_stop h1 h2 x _ _ hw.lead
    · show (txt (w :: rest)).take _ = _
      rw [e]; simp
    · show _ ≤ (txt (w :: rest)).length
      rw [e]; simp
  induction h with
  | one hw =>
    intro j p hp
    cases j with
    | zero => simp [sufL] at hp; subst hp; exact base _ [] hw (splitdoc_word hw)
    | succ j => simp [sufL] at hp
  | cons hw hg hr ih =>
    rename_i w g rest
    intro j p hp
    rw [sufL] at hp
    cases j with
    | zero => simp at hp; subst hp; exact base _ _ hw (splitdoc_cons hw hg hr)
    | succ j =>
      have := ih j p (by simpa using hp)
      refine ⟨?_, this.word, ?_, this.ws, this.take, ?_, this.lead⟩
      · rw [this.text]; congr 1
      · rw [this.next]; congr 2
      · have h1 := this.len
        have : (txt (w :: g :: rest)).length = w.text.length + 1 + (g.text.length + 1 + (txt rest).length) := by
          rw [txt_cons _ (by simp), txt_cons _ hr.ne]; simp only [List.length_append, List.length_cons, List.length_nil]
        omega
theorem sufL_end {rows : List Row} (h : Pg rows) : rows.drop (2 * (sufL rows).length) = [] := by
  induction h with
  | one hw => rfl
  | cons hw hg hr ih =>
    rw [sufL, List.length_cons, Nat.mul_succ]
    simpa using ih
theorem sufL_length {rows : List Row} (h : Pg rows) : (sufL rows).length ≤ rows.length := by
  induction h with
  | one hw => exact Nat.le_refl _
  | cons hw hg hr ih => rw [sufL]; simp only [List.length_cons]; omega
theorem txt_all {rows : List Row} (h : AllOk rows) : (txt rows).length ≤ 506 := by
  have h1 := txt_length h.fits
  have h2 := h.len
  have h3 : rows.length * (4 * 5 + 2) ≤ 23 * (4 * 5 + 2) := Nat.mul_le_mul_right _ h2
  omega
theorem wsOf_small {l : List Nat} (hw : White l) (hl : l.length ≤ 20) : (wsOf l).count.length ≤ 21 ∧ (wsOf l).b ≤ 20 ∧ (wsOf l).n = l.length := by
  obtain ⟨h1, h2⟩ := ws_ok hw (runs_some l hw)
  have := h1.fits
  have := h1.n
  unfold wsOf
  omega
end Mine

namespace Mine

/-! the machine of the indent pattern -/
def xcode : Array Nat := #[14, 4, 0, 0, 0, 6, 1, 5, 5, 0, 6, 6, 1, 1]
def bol (t : Array Nat) (p : Nat) : Bool := p == 0 || t.getD (p - 1) 0 == 10
def eol (t : Array Nat) (p : Nat) : Bool := p == t.size || t.getD p 0 == 10
def okAt (t : Array Nat) (p : Nat) : Bool := bol t p && !eol t p

abbrev SM := PySem.Sre.M
def fr0 (s : Nat) (first : Bool) : PySem.Sre.Frame := { wait := .nextStart, pc := 5, pos := s, outermost := first }
def att (t : Array Nat) (s : Nat) (must first : Bool) (seen : PySem.Sre.Seen) : SM :=
  { code := xcode, text := t, lim := t.size, start := s, lastStart := t.size, mustAdvance := must, pc := 5, pos := s, handed := s, outermost := first, marks := #[], frames := [fr0 s first], weight := 1, seen := seen }

theorem run_add (a b : Nat) (m : SM) : m.runFor (a + b) = (m.runFor a).runFor b := by
  induction a generalizing m with
  | zero => rw [Nat.zero_add]; rfl
  | succ a ih =>
    rw [Nat.add_right_comm]
    show (if m.outcome.isSome then m else (m.step).runFor (a + b)) = (if m.outcome.isSome then m else (m.step).runFor a).runFor b
    by_cases h : m.outcome.isSome = true
    · rw [if_pos h, if_pos h]
      cases b with
      | zero => rfl
      | succ b => show _ = (if m.outcome.isSome then m else _); rw [if_pos h]
    · rw [if_neg h, if_neg h, ih]
theorem run_done {m : SM} (h : m.outcome.isSome = true) (n : Nat) : m.runFor n = m := by
  cases n with
  | zero => rfl
  | succ n => show (if m.outcome.isSome then m else _) = m; rw [if_pos h]

/-- one attempt, from its place -/
theorem att_no {t : Array Nat} {s : Nat} {must first : Bool} {seen : PySem.Sre.Seen} (h : bol t s = false) : ∃ seen', (att t s must first seen).runFor 2 = if s < t.size then att t (s + 1) false false seen' else { att t s must first seen' with answer := some false, frames := [], weight := 0 } := by
  have h' : (s == 0 || t.getD (s - 1) 0 == 10) = false := h
  refine ⟨((seen.add 6).add 44), ?_⟩
  have e1 : (att t s must first seen).step = { att t s must first ((seen.add 6).add 44) with answer := some false } := by
    show (if (s == 0 || t.getD (s - 1) 0 == 10) = true then _ else _) = _
    rw [h']; rfl
  show (if (none : Option PySem.Sre.Outcome).isSome then _ else (PySem.Sre.M.runFor 1 (att t s must first seen).step)) = _
  rw [e1]
  show (if s < t.size then _ else _) = _
  by_cases hs : s < t.size
  · rw [if_pos hs, if_pos hs]; rfl
  · rw [if_neg hs, if_neg hs]; rfl

def frL (s : Nat) (om : Bool) : PySem.Sre.Frame := { wait := .lookNot, pc := 7, pos := s, outermost := om, kept := { lastmark := -1, lastindex := -1, whole := false, marks := #[] } }
theorem att_bol {t : Array Nat} {s : Nat} {must first : Bool} {seen : PySem.Sre.Seen} (h : bol t s = true) : ∃ seen', (att t s must first seen).runFor 2 = { att t s must first seen' with pc := 10, outermost := false, frames := [frL s first, fr0 s first], weight := 2 } := by
  have h' : (s == 0 || t.getD (s - 1) 0 == 10) = true := h
  refine ⟨((seen.add 6).add 44).add 5, ?_⟩
  have e1 : (att t s must first seen).step = { att t s must first ((seen.add 6).add 44) with pc := 7 } := by
    show (if (s == 0 || t.getD (s - 1) 0 == 10) = true then _ else _) = _
    rw [h']; rfl
  show (if (none : Option PySem.Sre.Outcome).isSome then _ else (PySem.Sre.M.runFor 1 (att t s must first seen).step)) = _
  rw [e1]
  rfl
theorem look_eol {t : Array Nat} {s : Nat} {must first : Bool} {seen : PySem.Sre.Seen} (h : eol t s = true) : ∃ seen', ({ att t s must first seen with pc := 10, outermost := false, frames := [frL s first, fr0 s first], weight := 2 } : SM).runFor 4 = if s < t.size then att t (s + 1) false false seen' else { att t s must first seen' with answer := some false, frames := [], weight := 0 } := by
  have h' : (s == t.size || t.getD s 0 == 10) = true := h
  refine ⟨((seen.add 6).add 49).add 1, ?_⟩
  have e1 : ({ att t s must first seen with pc := 10, outermost := false, frames := [frL s first, fr0 s first], weight := 2 } : SM).step = { att t s must first ((seen.add 6).add 49) with pc := 12, outermost := false, frames := [frL s first, fr0 s first], weight := 2 } := by
    show (if (s == t.size || t.getD s 0 == 10) = true then _ else _) = _
    rw [h']; rfl
  show (if (none : Option PySem.Sre.Outcome).isSome then _ else (PySem.Sre.M.runFor 3 (PySem.Sre.M.step _))) = _
  rw [e1]
  show (if s < t.size then _ else _) = _
  by_cases hs : s < t.size
  · rw [if_pos hs, if_pos hs]; rfl
  · rw [if_neg hs, if_neg hs]; rfl
theorem look_not {t : Array Nat} {s : Nat} {must first : Bool} {seen : PySem.Sre.Seen} (h : eol t s = false) : ∃ seen', ({ att t s must first seen with pc := 10, outermost := false, frames := [frL s first, fr0 s first], weight := 2 } : SM).runFor 2 = { att t s must first seen' with pc := 13, outermost := first } := by
  have h' : (s == t.size || t.getD s 0 == 10) = false := h
  refine ⟨((seen.add 6).add 49), ?_⟩
  have e1 : ({ att t s must first seen with pc := 10, outermost := false, frames := [frL s first, fr0 s first], weight := 2 } : SM).step = { att t s must first ((seen.add 6).add 49) with pc := 10, outermost := false, frames := [frL s first, fr0 s first], weight := 2, answer := some false } := by
    show (if (s == t.size || t.getD s 0 == 10) = true then _ else _) = _
    rw [h']; rfl
  show (if (none : Option PySem.Sre.Outcome).isSome then _ else (PySem.Sre.M.runFor 1 (PySem.Sre.M.step _))) = _
  rw [e1]
  rfl
theorem end_must {t : Array Nat} {s : Nat} {seen : PySem.Sre.Seen} : ∃ seen', ({ att t s true true seen with pc := 13, outermost := true } : SM).runFor 2 = if s < t.size then att t (s + 1) false false seen' else { att t s true true seen' with answer := some false, frames := [], weight := 0 } := by
  refine ⟨(seen.add 1), ?_⟩
  have e1 : ({ att t s true true seen with pc := 13, outermost := true } : SM).step = { att t s true true (seen.add 1) with pc := 13, answer := some false } := by
    show (if (true && ((false && s != t.size) || (true && s == s))) = true then _ else _) = _
    rw [if_pos (by simp)]; rfl
  show (if (none : Option PySem.Sre.Outcome).isSome then _ else (PySem.Sre.M.runFor 1 (PySem.Sre.M.step _))) = _
  rw [e1]
  show (if s < t.size then _ else _) = _
  by_cases hs : s < t.size
  · rw [if_pos hs, if_pos hs]; rfl
  · rw [if_neg hs, if_neg hs]; rfl
theorem end_match {t : Array Nat} {s : Nat} {must first : Bool} {seen : PySem.Sre.Seen} (h : (first && must) = false) : ∃ m', ({ att t s must first seen with pc := 13, outermost := first } : SM).runFor 3 = m' ∧ m'.outcome = some .matched ∧ m'.start = s ∧ m'.handed = s := by
  have e1 : ({ att t s must first seen with pc := 13, outermost := first } : SM).step = { att t s must first (seen.add 1) with pc := 13, answer := some true } := by
    show (if (first && ((false && s != t.size) || (must && s == s))) = true then _ else _) = _
    rw [if_neg (by simpa using h)]; rfl
  refine ⟨_, rfl, ?_⟩
  have e2 : ({ att t s must first seen with pc := 13, outermost := first } : SM).runFor 3 = PySem.Sre.M.runFor 2 (PySem.Sre.M.step ({ att t s must first seen with pc := 13, outermost := first } : SM)) := rfl
  rw [e2, e1]
  exact ⟨rfl, rfl, rfl⟩

/-- the search's answer -/
def found (t : Array Nat) (must first : Bool) (s : Nat) (r : Option Nat) : Prop :=
  match r with
  | some p => s ≤ p ∧ okAt t p = true ∧ (first && must = true → p ≠ s) ∧ ∀ q, s ≤ q → q < p → okAt t q = true → q = s ∧ (first && must) = true
  | none => ∀ q, s ≤ q → q ≤ t.size → okAt t q = true → q = s ∧ (first && must) = true
def Ends (m : SM) (r : Option Nat) : Prop := match r with
  | some p => m.outcome = some .matched ∧ m.start = p ∧ m.handed = p
  | none => m.outcome = some .failed
theorem okAt_lt {t : Array Nat} {p : Nat} (h : okAt t p = true) (hp : p ≤ t.size) : p < t.size := by
  unfold okAt eol at h
  simp at h
  omega
theorem att_run (t : Array Nat) : ∀ (d s : Nat) (must first : Bool) (seen : PySem.Sre.Seen), s + d = t.size → ∃ r n, n ≤ 6 * d + 7 ∧ found t must first s r ∧ Ends ((att t s must first seen).runFor n) r := by
  intro d
  induction d with
  | zero =>
    intro s must first seen hs
    have hlt : ¬ s < t.size := by omega
    have he : eol t s = true := by unfold eol; simp; omega
    have hno : ∀ q, s ≤ q → q ≤ t.size → okAt t q = true → q = s ∧ (first && must) = true := fun q h1 h2 h3 => by
      have : q = s := by omega
      subst this; unfold okAt at h3; rw [he] at h3; simp at h3
    cases hb : bol t s with
    | false =>
      obtain ⟨sn, e⟩ := att_no (must := must) (first := first) (seen := seen) hb
      rw [if_neg hlt] at e
      refine ⟨none, 2 + 1, by omega, hno, ?_⟩
      rw [run_add, e]; rfl
    | true =>
      obtain ⟨sn, e⟩ := att_bol (must := must) (first := first) (seen := seen) hb
      obtain ⟨sn2, e2⟩ := look_eol (must := must) (first := first) (seen := sn) he
      rw [if_neg hlt] at e2
      refine ⟨none, 2 + (4 + 1), by omega, hno, ?_⟩
      rw [run_add, e, run_add, e2]; rfl
  | succ d ih =>
    intro s must first seen hs
    have hlt : s < t.size := by omega
    -- go on from the next place
    have go : (okAt t s = true → (first && must) = true) → ∀ n sn, n ≤ 6 → (att t s must first seen).runFor n = att t (s + 1) false false sn → ∃ r n, n ≤ 6 * (d + 1) + 7 ∧ found t must first s r ∧ Ends ((att t s must first seen).runFor n) r := fun hno n sn hn e => by
      obtain ⟨r, k, hk, hf, hE⟩ := ih (s + 1) false false sn (by omega)
      refine ⟨r, n + k, by omega, ?_, by rw [run_add, e]; exact hE⟩
      cases r with
      | none =>
        intro q h1 h2 h3
        by_cases hq : q = s
        · subst hq; exact ⟨rfl, hno h3⟩
        · have := (hf q (by omega) h2 h3).2; simp at this
      | some p =>
        obtain ⟨f1, f2, f3, f4⟩ := hf
        refine ⟨by omega, f2, fun _ => by omega, fun q h1 h2 h3 => ?_⟩
        by_cases hq : q = s
        · subst hq; exact ⟨rfl, hno h3⟩
        · have := (f4 q (by omega) h2 h3).2; simp at this
    cases hb : bol t s with
    | false =>
      obtain ⟨sn, e⟩ := att_no (must := must) (first := first) (seen := seen) hb
      rw [if_pos hlt] at e
      exact go (fun h => by unfold okAt at h; rw [hb] at h; simp at h) 2 sn (by omega) e
    | true =>
      obtain ⟨sn, e⟩ := att_bol (must := must) (first := first) (seen := seen) hb
      cases he : eol t s with
      | true =>
        obtain ⟨sn2, e2⟩ := look_eol (must := must) (first := first) (seen := sn) he
        rw [if_pos hlt] at e2
        exact go (fun h => by unfold okAt at h; rw [he] at h; simp at h) (2 + 4) sn2 (by omega) (by rw [run_add, e, e2])
      | false =>
        obtain ⟨sn2, e2⟩ := look_not (must := must) (first := first) (seen := sn) he
        cases hm : first && must with
        | true =>
          have h1 : first = true := by simp at hm; exact hm.1
          have h2 : must = true := by simp at hm; exact hm.2
          subst h1 h2
          obtain ⟨sn3, e3⟩ := end_must (t := t) (s := s) (seen := sn2)
          rw [if_pos hlt] at e3
          exact go (fun _ => rfl) (2 + (2 + 2)) sn3 (by omega) (by rw [run_add, e, run_add, e2, e3])
        | false =>
          obtain ⟨m', e3, h1, h2, h3⟩ := end_match (t := t) (s := s) (seen := sn2) hm
          refine ⟨some s, 2 + (2 + 3), by omega, ⟨Nat.le_refl _, by unfold okAt; rw [hb, he]; rfl, fun h => by simp [hm] at h, fun q h1 h2 => by omega⟩, ?_⟩
          rw [run_add, e, run_add, e2, e3]
          exact ⟨h1, h2, h3⟩
theorem search_is (t : Array Nat) (s : Nat) (must : Bool) (hs : s ≤ t.size) : ∃ seen, PySem.Sre.forSearch xcode t 0 s t.size must = att t s must true seen := by
  refine ⟨({} : PySem.Sre.Seen).add 14, ?_⟩
  unfold PySem.Sre.forSearch
  show (if (decide (s > t.size) || decide (t.size - s < 0)) = true then _ else _) = _
  rw [if_neg (by simp; omega)]
  rfl
end Mine

namespace Mine

theorem plainAttrs_pat : PlainAttrs "re.Pattern" :=
  ⟨⟨"object.__getattribute__", by rw [typeLookup_type, builtinLookup_eq_fast]; kernel_rfl, by decide +kernel⟩, by rw [typeLookup_type, builtinLookup_eq_fast]; kernel_rfl⟩
theorem slot_sub : PySem.Slot "re.Pattern" "sub" "re.Pattern.sub" :=
  .of (owner := "re.Pattern") (n := "sub") (by rw [typeLookup_type, builtinLookup_eq_fast]; kernel_rfl) (by decide +kernel) (by decide +kernel) (by decide +kernel)
    (by first | exact .inl (by decide +kernel) | exact .inr (by decide +kernel)) (by rw [isSubtype_type]; kernel_rfl)
theorem type_sub : typeOf (.builtin "re.Pattern.sub") = pure (.type "method_descriptor") := by show builtinType _ = _; rw [builtinType_eq_fast]; kernel_rfl
theorem entry_sub : entryFor table "re.Pattern.sub" = some Builtin.«re.Pattern.sub» := entryFor_of_tree (by kernel_rfl)
theorem entry_loop : entryFor table "re.Pattern.sub.loop" = some Builtin.«re.Pattern.sub.loop» := entryFor_of_tree (by kernel_rfl)
theorem owner_pat : Manifest.owners.lookup (String.ofList "re.Pattern".toList.reverse.reverse) = some Manifest.sig_re_Pattern := by kernel_rfl
theorem args_sub (a b c : Value) : argsOk "re.Pattern.sub" ⟨[a, b, c], []⟩ := by
  unfold argsOk; rw [signature?_of (id := "re.Pattern.sub") (n := "sub".toList.reverse) (o := "re.Pattern".toList.reverse) (by kernel_rfl) owner_pat]; kernel_rfl

open Builtin Builtin.Re
section
variable {M : Model} {A : Around} {E : Value → Shared → Prop} {s : Shared}
theorem drive : ∀ (turns : Nat) (m : SM) (n : Nat) (Q : SM → Shared → Prop), n < 4 * turns → (m.runFor n).outcome.isSome = true → Q (m.runFor n) s → wpAny M A (reDrive turns m) Q E s
  | 0, m, n, Q, h, _, _ => by omega
  | t + 1, m, n, Q, hn, hd, hq => by
    unfold reDrive
    show wpAny M A (if (m.runFor 4).outcome.isSome = true then pure (m.runFor 4) else (do rule "sre.turn"; reDrive t (m.runFor 4))) Q E s
    by_cases h : (m.runFor 4).outcome.isSome = true
    · rw [if_pos h]
      have e : m.runFor 4 = m.runFor n := by
        rcases Nat.le_total n 4 with g | g
        · obtain ⟨d, hd'⟩ := Nat.le.dest g
          rw [← hd', run_add, run_done hd]
        · obtain ⟨d, hd'⟩ := Nat.le.dest g
          rw [← hd', run_add, run_done h]
      rw [e]; exact wpAny_pure hq
    · rw [if_neg h]
      have g : 4 < n := by
        rcases Nat.lt_or_ge 4 n with g | g
        · exact g
        · exfalso
          obtain ⟨d, hd'⟩ := Nat.le.dest g
          apply h
          rw [← hd', run_add, run_done hd]; exact hd
      obtain ⟨d, hd'⟩ := Nat.le.dest (Nat.le_of_lt g)
      rw [← hd', run_add] at hd hq
      exact wpAny_bind (wpAny_rule (drive t (m.runFor 4) d Q (by omega) hd hq))
theorem forRules {f : Nat → PUnit → Sem (ForInStep PUnit)} (hf : ∀ i u (Q : ForInStep PUnit → Shared → Prop), Q (.yield ⟨⟩) s → wpAny M A (f i u) Q E s) : ∀ (l : List Nat) (Q : PUnit → Shared → Prop), Q ⟨⟩ s → wpAny M A (forIn l PUnit.unit f) Q E s
  | [], Q, h => by rw [List.forIn_nil]; exact wpAny_pure h
  | i :: l, Q, h => by
    rw [List.forIn_cons]
    exact wpAny_bind (hf i _ _ (forRules hf l Q h))
theorem runEnd {m : SM} {n : Nat} {r : Option Nat} {Q : Option SM → Shared → Prop} (hn : n < 2 ^ 60) (hE : Ends (m.runFor n) r)
    (h : ∀ o, (∀ p, r = some p → ∃ m', o = some m' ∧ m'.start = p ∧ m'.handed = p) → (r = none → o = none) → Q o s) : wpAny M A (reRunToEnd m) Q E s := by
  unfold reRunToEnd
  have hd : (m.runFor n).outcome.isSome = true := by
    cases r with
    | none => rw [show (m.runFor n).outcome = some .failed from hE]; rfl
    | some p => rw [hE.1]; rfl
  refine wpAny_bind (drive (2 ^ 64) m n _ (by have : (2 : Nat) ^ 60 < 4 * 2 ^ 64 := by decide
                                              omega) hd ?_)
  refine wpAny_bind (forRules (fun i u Q' hQ' => ?_) _ _ ?_)
  · split
    · exact wpAny_bind (wpAny_rule (wpAny_pure hQ'))
    · exact wpAny_pure hQ'
  · cases r with
    | none =>
      have e : (m.runFor n).outcome = some .failed := hE
      rw [e]
      exact wpAny_pure (h none (fun p hp => by cases hp) fun _ => rfl)
    | some p =>
      obtain ⟨e, h1, h2⟩ := hE
      rw [e]
      exact wpAny_pure (h _ (fun q hq => by cases hq; exact ⟨_, rfl, h1, h2⟩) fun hq => by cases hq)
end
end Mine

namespace Mine
noncomputable section

/-- G stands upon the law's own text -/
structure Here (G : Glo) : Prop where
  K : G.K = Mine.hd.heap_39 G.w.params
  C : G.C = (127 : Nat)

def fdOf (P : Params) (a : Nat) : FuncData :=
  match (Mine.hd.heap_39 P).lookup a with
  | some ⟨_, _, .func fd, _⟩ => fd
  | _ => default
def bodyOf (P : Params) (a : Nat) : List Stmt :=
  match (fdOf P a).body with
  | .stmts b => b
  | _ => []
end
end Mine

namespace Mine
noncomputable section
variable {G : Glo} {F : Fst} {k : Nat} {σ σ' σ₁ σ₂ : List Slot} {Γ : Act} {P : Part} {s : Shared}

theorem Ev.str {x : Str} {n : Nat} {pos : Pos} {l : List Nat} (h : x.cps.toList = l := by rfl) : Ev G F k σ (.Constant (.str x) n pos) (.str l) σ := h ▸ Ev.const_str
theorem Ev.to {e : Expr} {v w : V} (h : Ev G F k σ e v σ') (hw : v = w) : Ev G F k σ e w σ' := hw ▸ h
theorem Ex.ite_t {t : Expr} {a b : List Stmt} {pos : Pos} {c : Bool} {out : Out} (h : Tr G F k σ t c σ₁) (hc : c = true) (h1 : Exs G F k σ₁ a out) : Ex G F k σ (.If t a b pos) out :=
  Ex.ite h (fun _ => h1) fun e => by rw [hc] at e; cases e
theorem Ex.ite_f {t : Expr} {a b : List Stmt} {pos : Pos} {c : Bool} {out : Out} (h : Tr G F k σ t c σ₁) (hc : c = false) (h1 : Exs G F k σ₁ b out) : Ex G F k σ (.If t a b pos) out :=
  Ex.ite h (fun e => by rw [hc] at e; cases e) fun _ => h1
theorem Ev.ife_t {t a b : Expr} {pos : Pos} {c : Bool} {v : V} (h : Tr G F k σ t c σ₁) (hc : c = true) (h1 : Ev G F k σ₁ a v σ₂) : Ev G F k σ (.IfExp t a b pos) v σ₂ :=
  Ev.ife h (fun _ => h1) fun e => by rw [hc] at e; cases e
theorem Ev.ife_f {t a b : Expr} {pos : Pos} {c : Bool} {v : V} (h : Tr G F k σ t c σ₁) (hc : c = false) (h1 : Ev G F k σ₁ b v σ₂) : Ev G F k σ (.IfExp t a b pos) v σ₂ :=
  Ev.ife h (fun e => by rw [hc] at e; cases e) fun _ => h1

/-! names of the top -/
section
variable (H : Here G)
include H
theorem gn_len (h : F.scope.names.lookup ("len" : Str) = some NameKind.globalImplicit := by rfl) : GName G F "len" (.builtin "len") := ⟨h, by rfl, .inr ⟨by rw [H.K]; rfl, by rfl, by decide +kernel⟩⟩
theorem gn_max (h : F.scope.names.lookup ("max" : Str) = some NameKind.globalImplicit := by rfl) : GName G F "max" (.builtin "max") := ⟨h, by rfl, .inr ⟨by rw [H.K]; rfl, by rfl, by decide +kernel⟩⟩
theorem gn_range (h : F.scope.names.lookup ("range" : Str) = some NameKind.globalImplicit := by rfl) : GName G F "range" (.type "range") := ⟨h, by rfl, .inr ⟨by rw [H.K]; rfl, by rfl, by decide +kernel⟩⟩
theorem gn_tuple (h : F.scope.names.lookup ("tuple" : Str) = some NameKind.globalImplicit := by rfl) : GName G F "tuple" (.type "tuple") := ⟨h, by rfl, .inr ⟨by rw [H.K]; rfl, by rfl, by decide +kernel⟩⟩
theorem gn_twin (h : F.scope.names.lookup ("_twin_re_1" : Str) = some NameKind.globalImplicit := by rfl) : GName G F "_twin_re_1" (.ref (43 : Nat)) := ⟨h, by rfl, .inl (by rw [H.K]; rfl)⟩
theorem gn_indent (h : F.scope.names.lookup ("_indent" : Str) = some NameKind.globalImplicit := by rfl) : GName G F "_indent" (.ref (51 : Nat)) := ⟨h, by rfl, .inl (by rw [H.K]; rfl)⟩
theorem gn_splitdoc (h : F.scope.names.lookup ("splitdoc" : Str) = some NameKind.globalImplicit := by rfl) : GName G F "splitdoc" (.ref (58 : Nat)) := ⟨h, by rfl, .inl (by rw [H.K]; rfl)⟩
theorem gn_replace (h : F.scope.names.lookup ("replace" : Str) = some NameKind.globalImplicit := by rfl) : GName G F "replace" (.ref (65 : Nat)) := ⟨h, by rfl, .inl (by rw [H.K]; rfl)⟩
theorem gn_ws (h : F.scope.names.lookup ("Whitespace" : Str) = some NameKind.globalImplicit := by rfl) : GName G F "Whitespace" (.ref (127 : Nat)) := ⟨h, by rfl, .inl (by rw [H.K]; rfl)⟩
theorem gn_unit (h : F.scope.names.lookup ("_law_unit" : Str) = some NameKind.globalImplicit := by rfl) : GName G F "_law_unit" (.ref (138 : Nat)) := ⟨h, by rfl, .inl (by rw [H.K]; rfl)⟩
theorem gn_below (h : F.scope.names.lookup ("_law_below" : Str) = some NameKind.globalImplicit := by rfl) : GName G F "_law_below" (.ref (145 : Nat)) := ⟨h, by rfl, .inl (by rw [H.K]; rfl)⟩
theorem gn_rows (h : F.scope.names.lookup ("_law_rows" : Str) = some NameKind.globalImplicit := by rfl) : GName G F "_law_rows" (.ref (150 : Nat)) := ⟨h, by rfl, .inl (by rw [H.K]; rfl)⟩
theorem gn_page (h : F.scope.names.lookup ("_law_page" : Str) = some NameKind.globalImplicit := by rfl) : GName G F "_law_page" (.ref (157 : Nat)) := ⟨h, by rfl, .inl (by rw [H.K]; rfl)⟩
theorem gn_read (h : F.scope.names.lookup ("_law_read" : Str) = some NameKind.globalImplicit := by rfl) : GName G F "_law_read" (.ref (164 : Nat)) := ⟨h, by rfl, .inl (by rw [H.K]; rfl)⟩
theorem gn_heads (h : F.scope.names.lookup ("_law_heads" : Str) = some NameKind.globalImplicit := by rfl) : GName G F "_law_heads" (.ref (171 : Nat)) := ⟨h, by rfl, .inl (by rw [H.K]; rfl)⟩
theorem gn_columns (h : F.scope.names.lookup ("_law_columns" : Str) = some NameKind.globalImplicit := by rfl) : GName G F "_law_columns" (.ref (178 : Nat)) := ⟨h, by rfl, .inl (by rw [H.K]; rfl)⟩
theorem gn_smaller (h : F.scope.names.lookup ("_law_smaller" : Str) = some NameKind.globalImplicit := by rfl) : GName G F "_law_smaller" (.ref (183 : Nat)) := ⟨h, by rfl, .inl (by rw [H.K]; rfl)⟩
/-- a def of the text's may be called -/
theorem callee (a : Nat) (h : keepIn (Mine.hd.heap_39 G.w.params) (.ref a) = true := by rfl) : CalleeOk G (.ref a) = true := by
  show keepIn G.K (.ref a) = true
  rw [H.K]; exact h

theorem clsOk : ClsOk G := by
  refine ⟨?_, ?_, ?_, ?_, ?_, ?_, ?_⟩
  · rw [H.K, H.C]; rfl
  · rw [H.K, H.C]; rfl
  · rw [H.K, H.C]; rfl
  · rw [H.K, H.C]; exact ⟨_, rfl, rfl⟩
  · rw [H.K, H.C]; rfl
  · rw [H.K, H.C]; intro f hf
    simp only [fieldNames, List.mem_cons, List.not_mem_nil, or_false] at hf
    rcases hf with rfl | rfl | rfl | rfl | rfl <;> rfl
  · rw [H.K, H.C]; rfl
end

theorem isDef (H : Here G) (a : Nat) (h1 : ∃ o, (Mine.hd.heap_39 G.w.params).lookup a = some o ∧ o.data = .func (fdOf G.w.params a) := by exact ⟨_, rfl, rfl⟩)
    (h2 : codeIn (Mine.hd.heap_39 G.w.params) (fdOf G.w.params a).code (fdOf G.w.params a).qualname = true := by rfl) (h3 : (fdOf G.w.params a).body = .stmts (bodyOf G.w.params a) := by rfl)
    (h4 : (fdOf G.w.params a).closure = [] := by rfl) (h5 : (fdOf G.w.params a).globals = mainGlobals := by rfl) (h6 : (fdOf G.w.params a).builtins = builtinsNs := by rfl) (h7 : (fdOf G.w.params a).scope.isCoroutine = false := by rfl) (h8 : (fdOf G.w.params a).scope.isGenerator = false := by rfl) :
    IsDef G a (fdOf G.w.params a) (bodyOf G.w.params a) := by
  refine ⟨?_, ?_, h3, h4, h5, h6, h7, h8⟩
  · rw [H.K]; exact h1
  · rw [H.K]; exact h2
theorem t58 (H : Here G) : IsDef G (58 : Nat) (fdOf G.w.params 58) (bodyOf G.w.params 58) := isDef H 58
end
end Mine

namespace Mine
open Builtin Builtin.Re
section
variable {G : Glo} {P : Part} {s : Shared} {k : Nat}

theorem K43 (H : Here G) (hk : G.K.In s.heap) : ∃ o, s.heap.get? (43 : Nat) = some o ∧ o.cls = .type "re.Pattern" ∧ o.dict = none ∧ ∃ a b d e, o.data = .fields #[a, b, .int 0 0, d, e, .ref (42 : Nat), .int 0 0] :=
  ⟨_, hk (43 : Nat) _ (by rw [H.K]; rfl), rfl, rfl, _, _, _, _, rfl⟩
theorem K42 (H : Here G) (hk : G.K.In s.heap) : ∃ o n, s.heap.get? (42 : Nat) = some o ∧ o.data = .seq #[.int 14 0, .int 4 0, .int 0 0, .int 0 0, .int 0 0, .int 6 0, .int 1 0, .int 5 0, .int 5 0, .int 0 0, .int 6 0, .int 6 0, .int 1 0, .int 1 0] n :=
  ⟨_, _, hk (42 : Nat) _ (by rw [H.K]; rfl), rfl⟩
def targetOf (x : Array Nat) (t : Tok) : ReTarget := { pattern := .ref (43 : Nat), string := .str ⟨x⟩ t, code := xcode, text := x, kind := 0, groups := 0, pos := 0, lim := x.size }
theorem target {M : Model} {A : Around} {E : Value → Shared → Prop} (H : Here G) (hk : G.K.In s.heap) {x : Array Nat} {t : Tok} {Q : ReTarget → Shared → Prop} (h : Q (targetOf x t) s) : wpAny M A (reWholeTarget (.ref (43 : Nat)) (.str ⟨x⟩ t)) Q E s := by
  obtain ⟨o, h1, _, _, a, b, d, e, h2⟩ := K43 H hk
  obtain ⟨o', n, h3, h4⟩ := K42 H hk
  unfold reWholeTarget
  refine wpAny_bind (wpAny_fieldsOf h1 h2 ?_)
  refine wpAny_bind (wpAny_of_eq (a := (x, 0)) rfl ?_)
  show wpAny M A (reRawItems (.ref (42 : Nat)) >>= fun y => _) Q E s
  refine wpAny_bind ?_
  unfold reRawItems
  refine wpAny_bind (wpAny_seqItems h3 h4 (wpAny_pure ?_))
  refine wpAny_pure ?_
  have e1 : Array.map (fun x => x.toNat) (Array.map reRawOf ((some #[Value.int 14 0, Value.int 4 0, Value.int 0 0, Value.int 0 0, Value.int 0 0, Value.int 6 0, Value.int 1 0, Value.int 5 0, Value.int 5 0, Value.int 0 0, Value.int 6 0, Value.int 6 0, Value.int 1 0, Value.int 1 0]).getD #[])) = xcode := by
    decide +kernel
  rw [e1]
  exact h

/-- a piece more -/
theorem push_piece {M : Model} {A : Around} {E : Value → Shared → Prop} {D : Addr} {ws : List Value} {n : Nat} {v : Value} {Q : Unit → Shared → Prop} (g : s.heap.get? D = some (listO ws n)) (hz : ws.length ≤ 1000000)
    (h : ∀ h' n', h'.get? D = some (listO (ws ++ [v]) n') → Heap.SameBut D s.heap h' → Q () { s with heap := h' }) : wpAny M A (updateSeq D (·.push v)) Q E s := by
  refine wpAny_updateSeq (xs := ws.toArray) (n := n) g rfl (h _ (if (ws.toArray.push v).size == ws.toArray.size then n else n + 1) ?_ (Heap.SameBut.update ..)) ?_ ?_
  · have := IsL.update (h := s.heap) (l := D) (items := ws.toArray) (n := n) g (fun xs => xs.push v)
    unfold IsL at this
    rw [this]
    unfold listO
    congr 2
    simp
  · rw [List.size_toArray]; exact Nat.le_trans hz (by decide)
  · rw [Array.size_push, List.size_toArray]; exact Nat.le_trans (Nat.succ_le_succ hz) (by decide)

structure Near (D : Addr) (s s' : Shared) : Prop where
  ex : ∃ h' tk, s' = { s with heap := h', toks := tk } ∧ Heap.SameBut D s.heap h'
theorem Near.refl (D : Addr) (s : Shared) : Near D s s := ⟨_, _, rfl, Heap.SameBut.refl _ _⟩
theorem Near.step {D : Addr} {s s' : Shared} (h : Near D s s') {h' : Heap} {tk : Nat} (hs : Heap.SameBut D s'.heap h') : Near D s { s' with heap := h', toks := tk } := by
  obtain ⟨h1, t1, rfl, h2⟩ := h.ex
  exact ⟨_, _, rfl, h2.trans hs⟩
theorem Near.get {D : Addr} {s s' : Shared} (h : Near D s s') {b : Addr} (hb : b ≠ D) : s'.heap.get? b = s.heap.get? b := by
  obtain ⟨h1, t1, rfl, h2⟩ := h.ex
  exact h2.2 b hb
theorem Near.kin {D : Addr} {s s' : Shared} (h : Near D s s') {K : Frag} (hk : K.In s.heap) (hD : s.heap.get? D = none ∨ ∀ o, K.lookup D ≠ some o) : K.In s'.heap := fun a o e => by
  by_cases ha : a = D
  · subst ha
    rcases hD with hD | hD
    · rw [hk a o e] at hD; cases hD
    · exact absurd e (hD o)
  · rw [h.get ha]; exact hk a o e

/-- a slice of the text -/
theorem slice_piece {M : Model} {A : Around} {E : Value → Shared → Prop} {x : List Nat} {b e : Nat} {Q : Value → Shared → Prop} (hx : x.length ≤ 100000) (h : ∀ t, Q (.str ⟨((x.take e).drop b).toArray⟩ t) { s with toks := s.toks + 1 }) : wpAny M A (reSlice x.toArray 0 b e) Q E s := by
  unfold reSlice
  show wpAny M A (mkStr ⟨x.toArray.extract b e⟩) Q E s
  have e1 : x.toArray.extract b e = ((x.take e).drop b).toArray := by rw [List.drop_take]; simp
  rw [e1]
  refine wpAny_mkStr (h _) ?_
  rw [strLen, List.length_drop, List.length_take]
  exact Nat.le_trans (by omega : _ ≤ 100000) (by decide)
theorem next_found {M : Model} {A : Around} {E : Value → Shared → Prop} {x : List Nat} {t : Tok} {start : Nat} {must : Bool} (hs : start ≤ x.length) (hx : x.length ≤ 100000) {Q : Option SM → Shared → Prop}
    (h : ∀ r o, found x.toArray must true start r → (∀ p, r = some p → ∃ m', o = some m' ∧ m'.start = p ∧ m'.handed = p) → (r = none → o = none) → Q o s) : wpAny M A (reNextFound (targetOf x.toArray t) start must) Q E s := by
  unfold reNextFound
  obtain ⟨seen, e⟩ := search_is x.toArray start must (by simpa using hs)
  show wpAny M A (reRunToEnd (PySem.Sre.forSearch xcode x.toArray 0 start x.toArray.size must)) Q E s
  rw [e]
  obtain ⟨d, hd⟩ := Nat.le.dest hs
  obtain ⟨r, n, hn, hf, hE⟩ := att_run x.toArray d start must true seen (by simpa using hd)
  refine runEnd (n := n) ?_ hE fun o h1 h2 => h r o hf h1 h2
  have : 6 * 100000 + 7 < 2 ^ 60 := by decide
  omega

/-- what is still to come behind start -/
def restT (u x : List Nat) (must : Bool) (start : Nat) : List Nat := if must then indL u false (x.drop start) else indL u true (x.drop start)
theorem ind_bol (u x : List Nat) {q : Nat} (hq : q < x.length) (hn : okAt x.toArray q = false) : indL u (bol x.toArray q) (x.drop q) = (x.take (q + 1)).drop q ++ indL u (bol x.toArray (q + 1)) (x.drop (q + 1)) := by
  have e1 : x.drop q = x[q] :: x.drop (q + 1) := List.drop_eq_getElem_cons hq
  have e2 : (x.take (q + 1)).drop q = [x[q]] := by
    rw [List.drop_take, show q + 1 - q = 1 by omega, e1]; rfl
  have e3 : bol x.toArray (q + 1) = (x[q] == 10) := by
    unfold bol
    simp [hq]
  have e4 : eol x.toArray q = (x[q] == 10) := by
    unfold eol
    have : (q == x.toArray.size) = false := by simp; omega
    rw [this]; simp [hq]
  rw [e2, e1, e3]
  unfold okAt at hn
  rw [e4] at hn
  cases hb : bol x.toArray q with
  | true =>
    rw [hb] at hn
    have hc : x[q] = 10 := by simpa using hn
    rw [hc]; simp [indL]
  | false => simp [indL]
theorem ind_skip (u x : List Nat) : ∀ (d q : Nat), q + d ≤ x.length → (∀ j, q ≤ j → j < q + d → okAt x.toArray j = false) → indL u (bol x.toArray q) (x.drop q) = (x.take (q + d)).drop q ++ indL u (bol x.toArray (q + d)) (x.drop (q + d))
  | 0, q, _, _ => by simp
  | d + 1, q, h, hn => by
    have ih := ind_skip u x d (q + 1) (by omega) fun j h1 h2 => hn j (by omega) (by omega)
    rw [ind_bol u x (by omega) (hn q (by omega) (by omega)), ih, show q + 1 + d = q + (d + 1) by omega, ← List.append_assoc]
    congr 1
    rw [List.drop_take, List.drop_take, List.drop_take, show q + 1 - q = 1 by omega, show q + (d + 1) - q = d + 1 by omega, show q + (d + 1) - (q + 1) = d by omega]
    rw [show x.drop q = x[q]'(by omega) :: x.drop (q + 1) from List.drop_eq_getElem_cons (by omega)]
    rfl
theorem rest_bol {u x : List Nat} {start : Nat} (hs : start < x.length) (h : okAt x.toArray start = true) : restT u x true start = (x.take (start + 1)).drop start ++ indL u (bol x.toArray (start + 1)) (x.drop (start + 1)) := by
  unfold restT
  rw [if_pos rfl]
  have e1 : x.drop start = x[start] :: x.drop (start + 1) := List.drop_eq_getElem_cons hs
  have e2 : (x.take (start + 1)).drop start = [x[start]] := by rw [List.drop_take, show start + 1 - start = 1 by omega, e1]; rfl
  have e3 : bol x.toArray (start + 1) = (x[start] == 10) := by unfold bol; simp [hs]
  rw [e2, e3, e1]; rfl
theorem rest_here {u x : List Nat} {p : Nat} (hp : p < x.length) (h : okAt x.toArray p = true) : indL u (bol x.toArray p) (x.drop p) = u ++ restT u x true p := by
  unfold okAt at h
  have hb : bol x.toArray p = true := by
    cases hb : bol x.toArray p with
    | true => rfl
    | false => rw [hb] at h; simp at h
  have e1 : x.drop p = x[p] :: x.drop (p + 1) := List.drop_eq_getElem_cons hp
  have hc : ¬ x[p] = 10 := by
    intro hc
    have : eol x.toArray p = true := by unfold eol; simp [hp, hc]
    rw [this, Bool.not_true, Bool.and_false] at h; cases h
  unfold restT
  rw [if_pos rfl, hb, e1]
  have : (x[p] == 10) = false := by simp [hc]
  simp [indL, hc, this]
theorem take_take_drop (x : List Nat) {a b c : Nat} (h1 : a ≤ b) (h2 : b ≤ c) : (x.take b).drop a ++ (x.take c).drop b = (x.take c).drop a := by
  rw [List.drop_take, List.drop_take, List.drop_take]
  have e : x.drop b = (x.drop a).drop (b - a) := by rw [List.drop_drop]; congr 1; omega
  rw [e, show c - a = (b - a) + (c - b) by omega, List.take_add]
theorem rest_some {u x : List Nat} {start p : Nat} {must : Bool} (hp : p < x.length) (hm : must = true → okAt x.toArray start = true) (h0 : must = false → start = 0) (h : found x.toArray must true start (some p)) :
    restT u x must start = (x.take p).drop start ++ u ++ restT u x true p := by
  obtain ⟨h1, h2, h3, h4⟩ := h
  cases must with
  | true =>
    have hne := h3 rfl
    rw [rest_bol (by omega) (hm rfl)]
    obtain ⟨d, hd⟩ := Nat.le.dest (show start + 1 ≤ p by omega)
    rw [ind_skip u x d (start + 1) (by omega) fun j g1 g2 => by
      cases hj : okAt x.toArray j with
      | false => rfl
      | true => have := h4 j (by omega) (by omega) hj; omega]
    rw [hd, rest_here hp h2, ← List.append_assoc, take_take_drop x (by omega) (by omega)]
    simp
  | false =>
    have := h0 rfl; subst this
    unfold restT
    rw [if_neg (by simp)]
    have := ind_skip u x p 0 (by omega) fun j g1 g2 => by
      cases hj : okAt x.toArray j with
      | false => rfl
      | true => have := h4 j (by omega) (by omega) hj; simp at this
    rw [show bol x.toArray 0 = true from rfl] at this
    rw [this, Nat.zero_add, rest_here hp h2]; simp [restT]
theorem rest_none {u x : List Nat} {start : Nat} {must : Bool} (hs : start ≤ x.length) (hm : must = true → okAt x.toArray start = true) (h0 : must = false → start = 0) (h : found x.toArray must true start none) : restT u x must start = x.drop start := by
  have fin : ∀ q, q ≤ x.length → (∀ j, q ≤ j → j ≤ x.length → okAt x.toArray j = false) → indL u (bol x.toArray q) (x.drop q) = x.drop q := fun q hq hj => by
    obtain ⟨d, hd⟩ := Nat.le.dest hq
    have := ind_skip u x d q (by omega) fun j g1 g2 => hj j g1 (by omega)
    rw [this, hd]
    simp [indL]
  cases must with
  | true =>
    have hlt : start < x.length := by
      have := okAt_lt (hm rfl) (by simpa using hs)
      simpa using this
    rw [rest_bol hlt (hm rfl), fin (start + 1) (by omega) fun j g1 g2 => by
      cases hj : okAt x.toArray j with
      | false => rfl
      | true => have := h j (by omega) (by simpa using g2) hj; omega]
    rw [List.drop_take, show start + 1 - start = 1 by omega, List.drop_eq_getElem_cons hlt]; rfl
  | false =>
    have := h0 rfl; subst this
    unfold restT
    rw [if_neg (by simp)]
    have := fin 0 (by omega) fun j g1 g2 => by
      cases hj : okAt x.toArray j with
      | false => rfl
      | true => have := h j g1 (by simpa using g2) hj; simp at this
    rwa [show bol x.toArray 0 = true from rfl] at this
end
end Mine

namespace Mine
open Builtin Builtin.Re
section
variable {G : Glo} {P : Part} {s : Shared} {k : Nat}

def loopArgs (x u : List Nat) (tx tu : Tok) (n start : Nat) (must : Bool) (D : Addr) : Args :=
  ⟨[.ref (43 : Nat), .str ⟨x.toArray⟩ tx, .str ⟨u.toArray⟩ tu, rawInt 0, rawInt 0, rawInt n, rawInt start, rawInt start, .bool must, .ref D, .bool false], []⟩
theorem quiet_loop (a : Args) : (Code.builtin "re.Pattern.sub.loop" a).quiet = true := plainId_quiet (by decide +kernel) a
theorem Near.trans {D : Addr} {a b c : Shared} (h : Near D a b) (h' : Near D b c) : Near D a c := by
  obtain ⟨h1, t1, rfl, h2⟩ := h.ex
  obtain ⟨h3, t3, rfl, h4⟩ := h'.ex
  exact ⟨_, _, rfl, h2.trans h4⟩
theorem texts_snoc {l : List (Str × Tok)} {ts : List (List Nat)} (h : l.map (·.1) = ts.map (fun t => (⟨t.toArray⟩ : Str))) (y : List Nat) (t : Tok) : (l ++ [((⟨y.toArray⟩ : Str), t)]).map (·.1) = (ts ++ [y]).map (fun t => (⟨t.toArray⟩ : Str)) := by
  rw [List.map_append, List.map_append, h]; rfl
theorem strValues_snoc (l : List (Str × Tok)) (y : Str) (t : Tok) : strValues l ++ [.str y t] = strValues (l ++ [(y, t)]) := by
  simp [strValues]
theorem strValues_length (l : List (Str × Tok)) : (strValues l).length = l.length := by simp [strValues]
theorem str_not_none (y : Str) (t : Tok) : (Value.str y t != Value.none) = true := by rfl
set_option maxHeartbeats 2000000 in
theorem sub_loop (H : Here G) {D : Addr} (hD0 : ∀ o, G.K.lookup D ≠ some o) {x u : List Nat} {tx tu : Tok} (hx : x.length ≤ 1000) (hu : u.length ≤ 100) {A : Around} {R : Result → Shared → Prop} :
    ∀ (N start n m : Nat) (must : Bool) (s : Shared) (l : List (Str × Tok)) (ts : List (List Nat)), 2 * (x.length - start) + (if must then 0 else 1) ≤ N → start ≤ x.length → (must = true → okAt x.toArray start = true) → (must = false → start = 0) →
      G.K.In s.heap → s.heap.get? D = some (listO (strValues l) m) → l.map (·.1) = ts.map (fun t => ⟨t.toArray⟩) → ts.length + 2 * (x.length - start) + (if must then 0 else 2) ≤ 2100 → (ts.map List.length).sum ≤ start + 100 * ts.length →
      (∀ s' t, Near D s s' → R (.ok (.ret (.str ⟨(ts.flatten ++ restT u x must start).toArray⟩ t))) s') →
      codeAny (model G.prog G.w) A (.builtin "re.Pattern.sub.loop" (loopArgs x u tx tu n start must D)) R s := by
  intro N
  induction N with
  | zero =>
    intro start n m must s l ts hN hs hm h0
    exfalso
    cases must with
    | false => simp at hN
    | true =>
      have := okAt_lt (hm rfl) (by simpa using hs)
      simp at hN this
      omega
  | succ N ih =>
    intro start n m must s l ts hN hs hm h0 hk hl hts hlen hsum hR
    have hll : l.length = ts.length := by have := congrArg List.length hts; simpa using this
    have hlen0 : ts.length ≤ 2100 := Nat.le_trans (Nat.le_trans (Nat.le_add_right _ _) (Nat.le_add_right _ _)) hlen
    refine codeAny_builtin entry_loop ?_
    unfold loopArgs Builtin.«re.Pattern.sub.loop»
    refine wpAny_bind (target H hk ?_)
    show wpAny _ _ (reLiteralCannotBeTurned (.str ⟨u.toArray⟩ tu) >>= fun _ => _) _ _ _
    refine wpAny_bind (wpAny_of_eq (a := ()) rfl ?_)
    show wpAny _ _ (reNextFound (targetOf x.toArray tx) start must >>= fun _ => _) _ _ _
    refine wpAny_bind (next_found hs (Nat.le_trans hx (by decide)) fun r o hf h1 h2 => ?_)
    cases r with
    | some p =>
      obtain ⟨m', rfl, e1, e2⟩ := h1 p rfl
      dsimp only
      rw [e1, e2]
      have hsp : start ≤ p := hf.1
      have hne : must = true → p ≠ start := fun e => hf.2.2.1 (by rw [e]; rfl)
      have hpl : p < x.length := by
        have : p ≤ x.toArray.size ∨ x.toArray.size < p := Nat.lt_or_ge x.toArray.size p |>.symm
        rcases this with g | g
        · have := okAt_lt hf.2.1 g; simpa using this
        · exfalso
          have h5 := hf.2.1
          have g' : x.length < p := by simpa using g
          have hb : bol x.toArray p = false := by
            unfold bol
            rw [show (p == 0) = false by simp; omega, Array.getD_eq_getD_getElem?, Array.getElem?_eq_none (by simp; omega)]; rfl
          unfold okAt at h5
          rw [hb] at h5; cases h5
      have hrest := rest_some hpl hm h0 hf (u := u)
      have tail : ∀ (s1 : Shared) (l1 : List (Str × Tok)) (ts1 : List (List Nat)) (m1 : Nat), Near D s s1 → s1.heap.get? D = some (listO (strValues l1) m1) → l1.map (·.1) = ts1.map (fun t => (⟨t.toArray⟩ : Str)) →
          ts1.flatten = ts.flatten ++ (x.take p).drop start → ts1.length ≤ ts.length + 1 → (start = p → ts1.length = ts.length) → (ts1.map List.length).sum ≤ p + 100 * ts1.length →
          wpAny (model G.prog G.w) (A.under (Code.builtin "re.Pattern.sub.loop" (loopArgs x u tx tu n start must D))) (updateSeq D (fun y => y.push (.str ⟨u.toArray⟩ tu)) >>= fun _ => again (.builtin "re.Pattern.sub.loop" ⟨[.ref (43 : Nat), .str ⟨x.toArray⟩ tx, .str ⟨u.toArray⟩ tu, rawInt 0, rawInt 0, rawInt ((n : Int) + 1), rawInt p, rawInt p, .bool (p == p), .ref D, .bool false], []⟩))
            (fun fin s' => match fin with | .done f => R (.ok f) s' | .again c' => c'.quiet = true ∧ codeAny (model G.prog G.w) A c' R s') (fun e s' => R (.error e) s') s1 := by
        intro s1 l1 ts1 m1 nr g1 g2 g3 g4 g4' g5
        have hl1 : l1.length = ts1.length := by have := congrArg List.length g2; simpa using this
        refine wpAny_bind (push_piece g1 (by rw [strValues_length, hl1]; exact Nat.le_trans g4 (Nat.le_trans (Nat.succ_le_succ hlen0) (by decide))) fun h' n' g6 sb => ?_)
        refine wpAny_pure ⟨quiet_loop _, ?_⟩
        have nr' : Near D s { s1 with heap := h' } := nr.step (tk := s1.toks) sb
        rw [show (p == p) = true by simp]
        refine ih p (n + 1) n' true { s1 with heap := h' } (l1 ++ [(⟨u.toArray⟩, tu)]) (ts1 ++ [u]) ?_ (Nat.le_of_lt hpl) (fun _ => hf.2.1) (fun e => by cases e) (nr'.kin hk (.inr hD0)) (by rw [← strValues_snoc]; exact g6) (texts_snoc g2 u tu) ?_ ?_ fun s' t nr2 => ?_
        · simp only [if_true]
          cases must with
          | true => have := hne rfl; simp at hN; omega
          | false => have := h0 rfl; simp at hN; omega
        · simp only [if_true, List.length_append, List.length_cons, List.length_nil]
          cases must with
          | true => have := hne rfl; simp at hlen; omega
          | false => have := h0 rfl; simp at hlen; by_cases e : start = p
                     · have := g4' e; omega
                     · omega
        · simp only [List.map_append, List.sum_append, List.map_cons, List.map_nil, List.sum_cons, List.sum_nil, List.length_append, List.length_cons, List.length_nil]
          omega
        · have := hR s' t (nr'.trans nr2)
          rw [hrest] at this
          rw [List.flatten_append, g3]
          simpa using this
      by_cases hlt : start < p
      · rw [if_pos (by simpa using hlt)]
        refine wpAny_bind (slice_piece (x := x) (b := start) (e := p) (Nat.le_trans hx (by decide)) fun t => ?_)
        refine wpAny_bind (push_piece (s := { s with toks := s.toks + 1 }) hl (by rw [strValues_length, hll]; exact Nat.le_trans hlen0 (by decide)) fun h' n' g6 sb => ?_)
        refine tail _ (l ++ [(⟨((x.take p).drop start).toArray⟩, t)]) (ts ++ [(x.take p).drop start]) n' ((Near.refl D s).step (tk := s.toks + 1) sb) ?_ (texts_snoc hts _ _) ?_ ?_ ?_ ?_
        · rw [← strValues_snoc]; exact g6
        · simp
        · simp
        · intro e; omega
        · simp only [List.map_append, List.sum_append, List.map_cons, List.map_nil, List.sum_cons, List.sum_nil, List.length_append, List.length_cons, List.length_nil, List.length_drop, List.length_take]
          omega
      · rw [if_neg (by simpa using hlt)]
        have hsp' : start = p := Nat.le_antisymm hsp (Nat.not_lt.mp hlt)
        exact tail s l ts m (Near.refl D s) hl hts (by rw [hsp', List.drop_take]; simp) (Nat.le_succ _) (fun _ => rfl) (hsp' ▸ hsum)
    | none =>
      obtain rfl := h2 rfl
      dsimp only
      have hrest := rest_none hs hm h0 hf (u := u)
      have tail : ∀ (s1 : Shared) (l1 : List (Str × Tok)) (ts1 : List (List Nat)) (m1 : Nat), Near D s s1 → s1.heap.get? D = some (listO (strValues l1) m1) → l1.map (·.1) = ts1.map (fun t => (⟨t.toArray⟩ : Str)) →
          ts1.flatten = ts.flatten ++ x.drop start → ts1.length ≤ 2200 → (ts1.map List.length).sum ≤ 1000000 →
          wpAny (model G.prog G.w) (A.under (Code.builtin "re.Pattern.sub.loop" (loopArgs x u tx tu n start must D))) (reSlice (targetOf x.toArray tx).text (targetOf x.toArray tx).kind 0 0 >>= fun joiner => seqItems? (.ref D) >>= fun it =>
              if (it.getD #[]).isEmpty = true then (do let text ← pure joiner; ret text) else (do let text ← call (.builtin "str.join") [joiner, .ref D]; ret text))
            (fun fin s' => match fin with | .done f => R (.ok f) s' | .again c' => c'.quiet = true ∧ codeAny (model G.prog G.w) A c' R s') (fun e s' => R (.error e) s') s1 := by
        intro s1 l1 ts1 m1 nr g1 g2 g3 g4 g5
        have hl1 : l1.length = ts1.length := by have := congrArg List.length g2; simpa using this
        refine wpAny_bind (slice_piece (x := x) (b := 0) (e := 0) (Nat.le_trans hx (by decide)) fun t => ?_)
        refine wpAny_bind (wpAny_seqItems (s := { s1 with toks := s1.toks + 1 }) g1 rfl ?_)
        have fin : ∀ s' t, Near D s s' → R (.ok (.ret (.str ⟨ts1.flatten.toArray⟩ t))) s' := fun s' t nr2 => by
          have := hR s' t nr2
          rw [hrest] at this
          rw [g3]; exact this
        cases ts1 with
        | nil =>
          have : l1 = [] := by cases l1 with
            | nil => rfl
            | cons _ _ => simp at hl1
          subst this
          rw [if_pos (by rfl)]
          refine wpAny_bind (wpAny_pure (wpAny_pure ?_))
          exact fin _ t (nr.step (h' := s1.heap) (tk := s1.toks + 1) (Heap.SameBut.refl _ _))
        | cons y ts1 =>
          have : ∃ z l2, l1 = z :: l2 := by cases l1 with
            | nil => simp at hl1
            | cons z l2 => exact ⟨z, l2, rfl⟩
          obtain ⟨z, l2, rfl⟩ := this
          rw [if_neg (by simp [strValues])]
          have hj : JoinOk ⟨(([] : List Nat)).toArray⟩ ((y :: ts1).map fun t => ⟨t.toArray⟩) = true := joinOk (sep := []) (ts := y :: ts1) (by simp only [List.length_nil, Nat.mul_zero]; omega)
          refine wpAny_bind ?_
          have hjj : Txt.join ⟨(([] : List Nat)).toArray⟩ ((y :: ts1).map fun t => ⟨t.toArray⟩) = ⟨(y :: ts1).flatten.toArray⟩ := by
            rw [join_eq]
            congr 2
            generalize (y :: ts1) = L
            induction L with
            | nil => rfl
            | cons a L ihL =>
              cases L with
              | nil => simp [joinT]
              | cons b L => rw [joinT_cons _ _ (by simp), ihL]; simp
          refine SC.join (l := z :: l2) ⟨_, g1, rfl, _, rfl⟩ g2 hj fun t' tk => ?_
          rw [show List.drop 0 (List.take 0 x) = [] by simp, hjj]
          exact wpAny_pure (fin _ t' (nr.step (h' := s1.heap) (tk := tk) (Heap.SameBut.refl _ _)))
      by_cases hlt : start < x.length
      · rw [if_pos (by show (start : Int).toNat < (targetOf x.toArray tx).lim; simpa [targetOf] using hlt)]
        refine wpAny_bind (slice_piece (x := x) (b := start) (e := x.length) (Nat.le_trans hx (by decide)) fun t => ?_)
        refine wpAny_bind (push_piece (s := { s with toks := s.toks + 1 }) hl (by rw [strValues_length, hll]; exact Nat.le_trans hlen0 (by decide)) fun h' n' g6 sb => ?_)
        refine tail _ (l ++ [(⟨((x.take x.length).drop start).toArray⟩, t)]) (ts ++ [(x.take x.length).drop start]) n' ((Near.refl D s).step (tk := s.toks + 1) sb) ?_ (texts_snoc hts _ _) ?_ ?_ ?_
        · rw [← strValues_snoc]; exact g6
        · simp
        · simp; omega
        · simp only [List.map_append, List.sum_append, List.map_cons, List.map_nil, List.sum_cons, List.sum_nil, List.length_drop, List.length_take]
          omega
      · rw [if_neg (by show ¬ (start : Int).toNat < (targetOf x.toArray tx).lim; simpa [targetOf] using hlt)]
        exact tail s l ts m (Near.refl D s) hl hts (by rw [List.drop_eq_nil_of_le (by omega)]; simp) (by omega) (by omega)
end
end Mine

namespace Mine
open Builtin Builtin.Re
section
variable {G : Glo} {F : Fst} {P : Part} {s : Shared} {k : Nat} {σ σ' : List Mine.Slot}

theorem str_no_call : typeLookup (.type "str") "__call__" = pure none := by rw [typeLookup_type, builtinLookup_eq_fast]; kernel_rfl
theorem sub_named (a b : Value) : reNamed "re.Pattern.sub" "sub" ["repl", "string", "count"] 2 [a, b] [] = pure [some a, some b, none] := by rfl
theorem sub_call (H : Here G) (hk : G.K.In s.heap) {x u : List Nat} {tx tu : Tok} (hx : x.length ≤ 1000) (hu : u.length ≤ 100) (h92 : u.toArray.contains 92 = false) (hD0 : ∀ o, G.K.lookup s.heap.objs.size ≠ some o) {A : Around} {E Q : Value → Shared → Prop}
    (hQ : ∀ h' tk t, Kept s.heap h' → Q (.str ⟨(indentT u x).toArray⟩ t) { s with heap := h', toks := tk }) :
    wpAny (model G.prog G.w) A (call (.builtin "re.Pattern.sub") [.ref (43 : Nat), .str ⟨u.toArray⟩ tu, .str ⟨x.toArray⟩ tx]) Q E s := by
  obtain ⟨o, h1, h2, _⟩ := K43 H hk
  refine wpAny_call (codeAny_call_builtin slot_sub.plain entry_sub (slot_sub.check _ _ _ _ _ _ _ _ ⟨o, h1, h2⟩ (args_sub _ _ _) ?_))
  unfold Builtin.«re.Pattern.sub» reSubstitute
  refine wpAny_bind (wpAny_of_eq (sub_named _ _) ?_)
  dsimp only
  refine wpAny_bind (wpAny_pure ?_)
  refine wpAny_bind (wpAny_specialOf (typeIs_str _ _ _) str_no_call ?_)
  simp only [Option.isSome_none, Bool.false_eq_true, if_false]
  refine wpAny_bind (wpAny_of_eq (a := some (⟨u.toArray⟩ : Str)) rfl ?_)
  refine wpAny_bind (wpAny_pure ?_)
  rw [h92]
  simp only [Bool.not_false, if_true]
  refine wpAny_bind (wpAny_pure ?_)
  refine wpAny_bind (wpAny_holding (target H hk ?_))
  rw [if_neg (by simp)]
  refine wpAny_bind (wpAny_newList ?_)
  refine wpAny_pure ⟨quiet_loop _, ?_⟩
  have hk' : G.K.In (s.heap.push { cls := .type "list", data := .seq ([] : List Value).toArray }) := fun a o e => Heap.get?_push_of_some _ (hk a o e)
  refine sub_loop H (tx := tx) (tu := tu) hD0 hx hu (2 * (x.length - 0) + 1) 0 0 0 false { s with heap := s.heap.push (listO [] 0) } [] [] (by simp) (by omega) (fun e => by cases e) (fun _ => rfl) hk' (Heap.get?_push_size _ rfl) rfl (by simp; omega) (by simp) fun s' t nr => ?_
  obtain ⟨h', tk, rfl, hs⟩ := nr.ex
  have := hQ h' tk t fun a o e => by
    have ha : a ≠ s.heap.objs.size := by rintro rfl; rw [get?_size] at e; cases e
    rw [hs.2 a ha]; exact Heap.get?_push_of_some _ e
  simpa [restT, indentT] using this

/-- the pattern's sub, as the text calls it -/
theorem Ev.sub (H : Here G) {x : Str} {p apos pos : Pos} {a b : Expr} {u t : List Nat} (g : GName G F x (.ref (43 : Nat))) (ha : Evs G F k σ [a, b] [.str u, .str t] σ') (ht : t.length ≤ 1000) (hu : u.length ≤ 100) (h92 : 92 ∉ u)
    (hp : [a, b].all (fun e => !isStarred e) = true) (hl : (apos.endLine == pos.line) = true) (hb : ∀ env w, attributeBase (.Name x p) "sub" env w = w) :
    Ev G F k σ (.Call (.Attribute (.Name x p) "sub" apos) [a, b] [] pos) (.str (indentT u t)) σ' := by
  intro Γ P A s E Q hr st hQ
  show wpAny _ A (do
    let ov ← attributeBase (.Name x p) "sub" Γ.env (eval (.Name x p) Γ.env)
    standAt apos.atName
    methodCall (.Name x p) "sub" apos pos Γ.env ov ([a, b].length + ([] : List Keyword).length) (backTo pos (starEach [a, b] Γ.env)) (backToKw pos (keywordEach [] Γ.env))) Q E s
  rw [hb]
  refine wpAny_bind (g.load st (wpAny_bind (wpAny_standAt ?_)))
  unfold methodCall
  rw [few_args hp (show 2 < 30 by decide)]
  refine wpAny_bind (wpAny_holding ?_)
  unfold calleeOf
  obtain ⟨o, h1, h2, h3, _⟩ := K43 H st.ok.kin
  refine getMethod_builtin ⟨o, h1, h2⟩ plainAttrs_pat slot_sub type_sub (fun a e => by cases e; exact ⟨o, h1, h3⟩) ?_
  refine wpAny_bind (method_pos hl ?_)
  refine callWith_any rfl hr st ha hp fun vals P' s' le st' l => ?_
  cases l with
  | cons l1 l =>
    cases l with
    | cons l2 l =>
      cases l; cases l1; cases l2
      refine sub_call H st'.ok.kin ht hu ?_ (fun o e => ?_) fun h' tk t2 kp => ?_
      · rw [Bool.eq_false_iff]; intro hc; exact h92 (by simpa using hc)
      · have := st'.ok.kin _ _ e
        rw [get?_size] at this; cases this
      · exact hQ _ _ _ le (st'.grow kp) (.str _ _)
end
end Mine

namespace Mine
noncomputable section
variable {G : Glo} {F : Fst} {k : Nat} {σ σ' σ₁ σ₂ : List Mine.Slot} {Γ : Act} {P : Part} {s : Shared}
theorem cs_nl {n : Nat} {pos : Pos} : Ev G F k σ (.Constant (.str "\n") n pos) (.str [10]) σ := Ev.str
theorem cs_sp {n : Nat} {pos : Pos} : Ev G F k σ (.Constant (.str " ") n pos) (.str [32]) σ := Ev.str
theorem cs_em {n : Nat} {pos : Pos} : Ev G F k σ (.Constant (.str "") n pos) (.str []) σ := Ev.str
theorem cs_tab {n : Nat} {pos : Pos} : Ev G F k σ (.Constant (.str "\t") n pos) (.str [9]) σ := Ev.str
theorem cs_a {n : Nat} {pos : Pos} : Ev G F k σ (.Constant (.str "a") n pos) (.str [97]) σ := Ev.str
theorem cs_b {n : Nat} {pos : Pos} : Ev G F k σ (.Constant (.str "b") n pos) (.str [98]) σ := Ev.str
theorem cs_dash {n : Nat} {pos : Pos} : Ev G F k σ (.Constant (.str "-") n pos) (.str [45]) σ := Ev.str
theorem cs_let {n : Nat} {pos : Pos} : Ev G F k σ (.Constant (.str "cdefg") n pos) (.str [99, 100, 101, 102, 103]) σ := Ev.str
theorem cs_sp4 {n : Nat} {pos : Pos} : Ev G F k σ (.Constant (.str "    ") n pos) (.str [32, 32, 32, 32]) σ := Ev.str
theorem cs_znl {n : Nat} {pos : Pos} : Ev G F k σ (.Constant (.str "z\n") n pos) (.str [122, 10]) σ := Ev.str
theorem cs_nlsp {n : Nat} {pos : Pos} : Ev G F k σ (.Constant (.str "\n ") n pos) (.str [10, 32]) σ := Ev.str
theorem cs_nltab {n : Nat} {pos : Pos} : Ev G F k σ (.Constant (.str "\n\t") n pos) (.str [10, 9]) σ := Ev.str
theorem cs_sptab {n : Nat} {pos : Pos} : Ev G F k σ (.Constant (.str " \t") n pos) (.str [32, 9]) σ := Ev.str
theorem cs_nlnl {n : Nat} {pos : Pos} : Ev G F k σ (.Constant (.str "\n\n") n pos) (.str [10, 10]) σ := Ev.str
abbrev fr (P : Params) (a : Nat) (names owns : List Str) : Fst := ⟨(fdOf P a).scope, names, owns⟩
end
end Mine

namespace Mine
noncomputable section
variable {G : Glo} {F : Fst} {k : Nat} {σ σ' σ₁ σ₂ : List Mine.Slot} {Γ : Act} {P : Part} {s : Shared}

/-- a def of these parameters, all else left out -/
def mini (names : List Str) (star : Option Str) (dflt : Value) (q : Str) : FuncData :=
  { name := q, qualname := q, params := { posonlyargs := [], args := names.map fun n => { arg := n, annotation := none, pos := default }, vararg := star.map fun n => { arg := n, annotation := none, pos := default }, kwonlyargs := [], kw_defaults := [], kwarg := none, defaults := [] },
    body := .stmts [], scope := { kind := .function, names := [], isGenerator := false, isCoroutine := false }, globals := 0, closure := [], defaults := dflt, kwdefaults := .none }
theorem bind_mini {fd : FuncData} {names : List Str} {star : Option Str} {dflt : Value} (h1 : fd.params.posonlyargs = []) (h2 : fd.params.args.map (·.arg) = names) (h3 : fd.params.kwonlyargs = []) (h4 : fd.params.vararg.map (·.arg) = star) (h5 : fd.params.kwarg = none)
    (h6 : fd.defaults = dflt) (h7 : fd.kwdefaults = .none) (a : Args) : bindArgs fd a = bindArgs (mini names star dflt fd.qualname) a := by
  obtain ⟨name, qual, ⟨po, ar, va, ko, kd, kw, df⟩, body, scope, globals, closure, defaults, kwdefaults, doc, pm, ann, code, ct, bi⟩ := fd
  simp only at h1 h2 h3 h4 h5 h6 h7
  subst h1 h3 h5 h6 h7
  have e : (names.map fun n => ({ arg := n, annotation := none, pos := default } : Arg)).map (·.arg) = names := by
    rw [List.map_map]; exact List.map_id' _
  unfold bindArgs mini
  dsimp only
  rw [e, h2]
  cases va with
  | none => subst h4; rfl
  | some x => subst h4; rfl

theorem b1 {fd : FuncData} {x : Str} {a : V} (h1 : fd.params.posonlyargs = [] := by rfl) (h2 : fd.params.args.map (·.arg) = [x] := by rfl) (h3 : fd.params.kwonlyargs = [] := by rfl) (h4 : fd.params.vararg.map (·.arg) = none := by rfl) (h5 : fd.params.kwarg = none := by rfl)
    (h6 : fd.defaults = .none := by rfl) (h7 : fd.kwdefaults = .none := by rfl) (h : ∀ q v, bindArgs (mini [x] none .none q) ⟨[v], []⟩ = pure [(x, v)] := by intros; rfl) : BindF G fd [a] [x] [a] := BindF.one fun v => (bind_mini h1 h2 h3 h4 h5 h6 h7 _).trans (h _ v)
theorem b2 {fd : FuncData} {x y : Str} {a b : V} (h1 : fd.params.posonlyargs = [] := by rfl) (h2 : fd.params.args.map (·.arg) = [x, y] := by rfl) (h3 : fd.params.kwonlyargs = [] := by rfl) (h4 : fd.params.vararg.map (·.arg) = none := by rfl) (h5 : fd.params.kwarg = none := by rfl)
    (h6 : fd.defaults = .none := by rfl) (h7 : fd.kwdefaults = .none := by rfl) (h : ∀ q v w, bindArgs (mini [x, y] none .none q) ⟨[v, w], []⟩ = pure [(x, v), (y, w)] := by intros; rfl) : BindF G fd [a, b] [x, y] [a, b] := BindF.two fun v w => (bind_mini h1 h2 h3 h4 h5 h6 h7 _).trans (h _ v w)
theorem b3 {fd : FuncData} {x y z : Str} {a b c : V} (h1 : fd.params.posonlyargs = [] := by rfl) (h2 : fd.params.args.map (·.arg) = [x, y, z] := by rfl) (h3 : fd.params.kwonlyargs = [] := by rfl) (h4 : fd.params.vararg.map (·.arg) = none := by rfl) (h5 : fd.params.kwarg = none := by rfl)
    (h6 : fd.defaults = .none := by rfl) (h7 : fd.kwdefaults = .none := by rfl) (h : ∀ q u v w, bindArgs (mini [x, y, z] none .none q) ⟨[u, v, w], []⟩ = pure [(x, u), (y, v), (z, w)] := by intros; rfl) : BindF G fd [a, b, c] [x, y, z] [a, b, c] := BindF.three fun u v w => (bind_mini h1 h2 h3 h4 h5 h6 h7 _).trans (h _ u v w)
theorem bstar {fd : FuncData} {x y : Str} {a b c : V} (h1 : fd.params.posonlyargs = [] := by rfl) (h2 : fd.params.args.map (·.arg) = [x] := by rfl) (h3 : fd.params.kwonlyargs = [] := by rfl) (h4 : fd.params.vararg.map (·.arg) = some y := by rfl) (h5 : fd.params.kwarg = none := by rfl)
    (h6 : fd.defaults = .none := by rfl) (h7 : fd.kwdefaults = .none := by rfl) (h : ∀ q u v w, bindArgs (mini [x] (some y) .none q) ⟨[u, v, w], []⟩ = (newTuple [v, w] >>= fun t => pure [(x, u), (y, t)]) := by intros; rfl) : BindF G fd [a, b, c] [x, y] [a, .tup [b, c]] := BindF.star fun u v w => (bind_mini h1 h2 h3 h4 h5 h6 h7 _).trans (h _ u v w)
/-- f(a, b), the second parameter having a default -/
theorem b2d {fd : FuncData} {x y : Str} {a b : V} {d : Addr} (h1 : fd.params.posonlyargs = [] := by rfl) (h2 : fd.params.args.map (·.arg) = [x, y] := by rfl) (h3 : fd.params.kwonlyargs = [] := by rfl) (h4 : fd.params.vararg.map (·.arg) = none := by rfl) (h5 : fd.params.kwarg = none := by rfl)
    (h6 : fd.defaults = .ref d := by rfl) (h7 : fd.kwdefaults = .none := by rfl) (h : ∀ q v w S, peek G.K S (bindArgs (mini [x, y] none (.ref d) q) ⟨[v, w], []⟩) = some [(x, v), (y, w)]) : BindF G fd [a, b] [x, y] [a, b] := by
  intro P A s E Q vals ok inn l hQ
  cases l with
  | cons l1 l => cases l with
    | cons l2 l =>
      cases l
      rw [bind_mini h1 h2 h3 h4 h5 h6 h7]
      intro Γ p hΓ
      exact wp_of_peek ok.kin (hQ [_, _] P s.heap (Kept.refl _) (Part.le.refl _) inn (fun _ _ e => .inl e) (.cons l1 (.cons l2 .nil))) _ (h _ _ _ _)
theorem b1d {fd : FuncData} {x y : Str} {a : V} {d : Addr} {i : Int} {t : Tok} (h1 : fd.params.posonlyargs = [] := by rfl) (h2 : fd.params.args.map (·.arg) = [x, y] := by rfl) (h3 : fd.params.kwonlyargs = [] := by rfl) (h4 : fd.params.vararg.map (·.arg) = none := by rfl) (h5 : fd.params.kwarg = none := by rfl)
    (h6 : fd.defaults = .ref d := by rfl) (h7 : fd.kwdefaults = .none := by rfl) (h : ∀ q v S, peek G.K S (bindArgs (mini [x, y] none (.ref d) q) ⟨[v], []⟩) = some [(x, v), (y, .int i t)]) : BindF G fd [a] [x, y] [a, .int i] :=
  BindF.dflt (t := t) fun v S => by rw [bind_mini h1 h2 h3 h4 h5 h6 h7]; exact h _ v S
theorem Tr.to {e : Expr} {b c : Bool} (h : Tr G F k σ e b σ') (hc : b = c) : Tr G F k σ e c σ' := hc ▸ h
theorem ix (i : Nat) {l : List Str} {x : Str} (h : l[i]? = some x) : l[i]? = some x := h
/-- a def's contract, the frame at its start written out -/
theorem Op.fn {a : Addr} {fd : FuncData} {body : List Stmt} {pn rest : List Str} {args av : List V} {v : V} {k' : Nat} (σ0 : List Mine.Slot) (D : IsDef G a fd body) (hb : BindF G fd args pn av) (hsc : fd.scope = F.scope)
    (hnames : F.names = pn ++ rest) (hnd : F.names.Nodup) (hk : F.scope.kind = .function) (hkinds : (pn.all fun x => F.scope.names.lookup x == some .local || F.owns.contains x) = true) (howns : (F.owns.all fun x => F.scope.names.lookup x == some .cell) = true) (hlen : pn.length = av.length)
    (h0 : av.map .val ++ rest.map (fun _ => .un) = σ0) (hE : Exs G F k' σ0 body (.ret v)) (hkk : k' + 5 ≤ k) : Op G k (opCall (.ref a)) args v :=
  Op.def_ D hsc hb hnames hnd hk hkinds howns hlen (by rw [h0]; exact hE) hkk
theorem item0 (a : V) (r : List V) : itemV (.lst (a :: r)) 0 = some a := by
  unfold itemV seqIndex?; simp
theorem item1 (a b : V) (r : List V) : itemV (.lst (a :: b :: r)) 1 = some b := by
  unfold itemV seqIndex?
  have h : (1 : Int) < (a :: b :: r).length := by simp; omega
  simp
  rw [if_pos (by simp at h; omega)]; rfl
theorem slice2 (a b : List Nat) (r : List (List Nat)) : sliceV (.lst ((a :: b :: r).map V.str)) (some 2) none = some (.lst (r.map V.str)) := rfl
theorem WLoop.go {test : Expr} {body : List Stmt} {n : Nat} {out : Out} (h : Tr G F k σ test true σ₁) (hb : Exs G F k σ₁ body (.next σ₂)) (hr : WLoop G F k test body n σ₂ out) : WLoop G F k test body (n + 1) σ out := ⟨true, _, h, fun e => (nomatch e), fun _ => ⟨_, hb, hr⟩⟩
theorem WLoop.stop {test : Expr} {body : List Stmt} {n : Nat} (h : Tr G F k σ test false σ₁) : WLoop G F k test body (n + 1) σ (.next σ₁) := ⟨false, _, h, fun _ => rfl, fun e => (nomatch e)⟩
theorem Loop.nil {target : Expr} {body : List Stmt} : Loop G F k target body [] σ (.next σ) := rfl
theorem Loop.go {target : Expr} {body : List Stmt} {d : V} {ds : List V} {out : Out} (ha : Asg G F k σ target d σ₁) (hb : Exs G F k σ₁ body (.next σ₂)) (hr : Loop G F k target body ds σ₂ out) : Loop G F k target body (d :: ds) σ out := ⟨_, _, ha, hb, hr⟩
theorem Loop.brk {target : Expr} {body : List Stmt} {d : V} {ds : List V} (ha : Asg G F k σ target d σ₁) (hb : Exs G F k σ₁ body (.brk σ₂)) : Loop G F k target body (d :: ds) σ (.next σ₂) := ⟨_, _, ha, hb, rfl⟩
theorem Loop.ret {target : Expr} {body : List Stmt} {d v : V} {ds : List V} (ha : Asg G F k σ target d σ₁) (hb : Exs G F k σ₁ body (.ret v)) : Loop G F k target body (d :: ds) σ (.ret v) := ⟨_, _, ha, hb, rfl⟩
theorem Exs.to {sts : List Stmt} {τ : List Mine.Slot} (h : Exs G F k σ sts (.next σ')) (e : σ' = τ) : Exs G F k σ sts (.next τ) := e ▸ h
theorem Ex.to {st : Stmt} {τ : List Mine.Slot} (h : Ex G F k σ st (.next σ')) (e : σ' = τ) : Ex G F k σ st (.next τ) := e ▸ h
abbrev rowV (r : Row) : V := .tup [.str r.lead, .str r.name, .str r.above]
theorem Wk.nil : Wk σ [] := fun i sl h => by simp at h
theorem Wk.keep {a : Mine.Slot} {as bs : List Mine.Slot} (h : Wk as bs) : Wk (a :: as) (a :: bs) := fun i sl e => by
  cases i with
  | zero => simp at e; subst e; exact .inr rfl
  | succ i => simp at e; simpa using h i sl e
theorem Wk.un {a : Mine.Slot} {as bs : List Mine.Slot} (h : Wk as bs) : Wk (a :: as) (.un :: bs) := fun i sl e => by
  cases i with
  | zero => simp at e; subst e; exact .inl rfl
  | succ i => simp at e; simpa using h i sl e
theorem Exs.weak {sts : List Stmt} {τ : List Mine.Slot} (h : Exs G F k σ sts (.next σ')) (w : Wk σ' τ) : Exs G F k σ sts (.next τ) := fun Γ P A s E Q hr st hQ =>
  h Γ P A s E Q hr st fun fl P' s' le o => hQ fl P' s' le ⟨o.1, o.2.weak w⟩
theorem Ex.weak {st : Stmt} {τ : List Mine.Slot} (h : Ex G F k σ st (.next σ')) (w : Wk σ' τ) : Ex G F k σ st (.next τ) := fun Γ P A s E Q hr st hQ =>
  h Γ P A s E Q hr st fun fl P' s' le o => hQ fl P' s' le ⟨o.1, o.2.weak w⟩
theorem Ev.weak {e : Expr} {v : V} {τ : List Mine.Slot} (h : Ev G F k σ e v σ') (w : Wk σ' τ) : Ev G F k σ e v τ := fun Γ P A s E Q hr st hQ =>
  h Γ P A s E Q hr st fun val P' s' le st' l => hQ val P' s' le (st'.weak w) l
theorem Loop.st {target : Expr} {body : List Stmt} {items : List V} (S : Nat → List Mine.Slot)
    (hs : ∀ j d, items[j]? = some d → ∃ σa σ', Asg G F k (S j) target d σa ∧ Exs G F k σa body (.next σ') ∧ Wk σ' (S (j + 1))) :
    ∀ (rest : List V) (j : Nat), items.drop j = rest → j ≤ items.length → Loop G F k target body rest (S j) (.next (S items.length))
  | [], j, h, hj => by
    have : items.length ≤ j := List.drop_eq_nil_iff.mp h
    rw [show items.length = j by omega]; rfl
  | d :: ds, j, h, hj => by
    have h1 : items[j]? = some d := by
      have := congrArg List.head? h
      rw [List.head?_drop] at this; exact this
    obtain ⟨σa, σ', ha, hb, hw⟩ := hs j d h1
    have h2 : items.drop (j + 1) = ds := by
      have := congrArg List.tail h
      rw [List.tail_drop] at this; exact this
    have h5 : j + 1 ≤ items.length := by
      have := (List.getElem?_eq_some_iff.mp h1).1; omega
    exact Loop.go ha (hb.weak hw) (Loop.st S hs ds (j + 1) h2 h5)
/-- a for by its state ahead of each turn -/
theorem Exs.for_st {target iter : Expr} {body sts : List Stmt} {pos : Pos} {v : V} {items : List V} {out : Out} (S : Nat → List Mine.Slot) (h1 : Ev G F k σ iter v σ₁) (hi : iterOf v = some items) (h0 : Wk σ₁ (S 0))
    (hs : ∀ j d, items[j]? = some d → ∃ σa σ', Asg G F k (S j) target d σa ∧ Exs G F k σa body (.next σ') ∧ Wk σ' (S (j + 1))) (hr : Exs G F k (S items.length) sts out)
    (hf : ∀ env x, foldedSetIterable iter env x = pure x) : Exs G F k σ (.For target iter body [] pos :: sts) out :=
  Exs.cons (Ex.for_ (h1.weak h0) hi (Loop.st S hs items 0 rfl (Nat.zero_le _)) hf) hr
theorem iter_rng {a b : Int} (h : -1000000000 ≤ a ∧ a ≤ 1000000000 ∧ -1000000000 ≤ b ∧ b ≤ 1000000000) : iterOf (.rng a b) = some ((List.range (b - a).toNat).map fun (i : Nat) => .int (a + i)) := if_pos h
theorem rng_get {a b : Int} {j : Nat} {d : V} (h : ((List.range (b - a).toNat).map fun (i : Nat) => V.int (a + i))[j]? = some d) : d = .int (a + j) ∧ j < (b - a).toNat := by
  rw [List.getElem?_map] at h
  cases e : (List.range (b - a).toNat)[j]? with
  | none => rw [e] at h; cases h
  | some i =>
    rw [e] at h; cases h
    obtain ⟨h1, h2⟩ := List.getElem?_eq_some_iff.mp e
    rw [List.getElem_range] at h2
    rw [List.length_range] at h1
    exact ⟨by rw [h2], h1⟩
theorem ix0 {l : List Str} {x : Str} (h : l[0]? = some x) : l[0]? = some x := h
theorem ix1 {l : List Str} {x : Str} (h : l[1]? = some x) : l[1]? = some x := h
theorem ix2 {l : List Str} {x : Str} (h : l[2]? = some x) : l[2]? = some x := h
theorem ix3 {l : List Str} {x : Str} (h : l[3]? = some x) : l[3]? = some x := h
theorem ix4 {l : List Str} {x : Str} (h : l[4]? = some x) : l[4]? = some x := h
theorem ix5 {l : List Str} {x : Str} (h : l[5]? = some x) : l[5]? = some x := h
theorem ix6 {l : List Str} {x : Str} (h : l[6]? = some x) : l[6]? = some x := h
theorem ix7 {l : List Str} {x : Str} (h : l[7]? = some x) : l[7]? = some x := h
theorem ix8 {l : List Str} {x : Str} (h : l[8]? = some x) : l[8]? = some x := h
theorem ix9 {l : List Str} {x : Str} (h : l[9]? = some x) : l[9]? = some x := h
theorem fr_nodup {P : Params} {a : Nat} {names owns : List Str} (h : names.Nodup) : (fr P a names owns).names.Nodup := h
end
end Mine

namespace Mine
section
variable {G : Glo} {F Fc : Fst} {k : Nat} {σ σ' σ₁ σ₂ σc σa σd : List Mine.Slot} {Γ : Act} {P : Part} {s : Shared}

def isKind (n m : NameKind) : Bool := match n, m with
  | .local, .local => true
  | .cell, .cell => true
  | .free, .free => true
  | _, _ => false
theorem isKind_eq {n m : NameKind} (h : isKind n m = true) : n = m := by
  unfold isKind at h; split at h <;> first | rfl | cases h
def seen (o : Option NameKind) : Bool := match o with
  | some .cell => true
  | some .free => true
  | _ => false
theorem seen_eq {o : Option NameKind} (h : seen o = true) : o = some .cell ∨ o = some .free := by
  unfold seen at h; split at h <;> simp_all
def CapsOk (F : Fst) (sc : Scope) (σ : List Mine.Slot) (oc : Option Str) : List Nat → List (Str × V) → Prop
  | [], [] => True
  | i :: is, p :: ps => ((oc == some p.1) = false ∧ (sc.names.any fun q => q.1 == p.1 && isKind q.2 .free) = true ∧ seen ((compScope F.scope sc).names.lookup p.1) = true ∧ seen (F.scope.names.lookup p.1) = true ∧ F.names[i]? = some p.1 ∧ σ[i]? = some (.val p.2)) ∧ CapsOk F sc σ oc is ps
  | _, _ => False
theorem CapsOk.all {sc : Scope} {oc : Option Str} : ∀ {is : List Nat} {cap : List (Str × V)}, CapsOk F sc σ oc is cap → ∀ p ∈ cap, oc ≠ some p.1 ∧ (p.1, NameKind.free) ∈ sc.names ∧ ((compScope F.scope sc).names.lookup p.1 = some .cell ∨ (compScope F.scope sc).names.lookup p.1 = some .free) ∧ (F.scope.names.lookup p.1 = some .cell ∨ F.scope.names.lookup p.1 = some .free) ∧ ∃ i : Nat, F.names[i]? = some p.1 ∧ σ[i]? = some (.val p.2)
  | [], [], _, p, hp => by cases hp
  | [], _ :: _, h, _, _ => h.elim
  | _ :: _, [], h, _, _ => h.elim
  | i :: is, q :: ps, h, p, hp => by
    obtain ⟨⟨h1, h2, h3, h4, h5, h6⟩, hr⟩ := h
    rcases List.mem_cons.mp hp with rfl | hp
    · refine ⟨fun e => by rw [e] at h1; simp at h1, ?_, seen_eq h3, seen_eq h4, i, h5, h6⟩
      obtain ⟨q, hq, e⟩ := List.any_eq_true.mp h2
      simp only [Bool.and_eq_true, beq_iff_eq] at e
      obtain ⟨e1, e2⟩ := e
      have := isKind_eq e2
      obtain ⟨a, b⟩ := q
      simp only at e1 this
      subst e1 this; exact hq
    · exact CapsOk.all hr p hp
def ownOk (F : Fst) (sc : Scope) : Option Str → Prop
  | none => True
  | some x => (compScope F.scope sc).names.lookup x = some .cell ∧ sc.names.lookup x = some .cell
theorem CompOk.of {sc : Scope} {vs : List Str} {oc : Option Str} {cap : List (Str × V)} (is : List Nat) (names : List Str) (hn : vs ++ cap.map (·.1) = names) (hnd : names.Nodup) (hk : sc.kind = .function) (hcells : ∀ n acc, cellsFrom n sc.names acc = cellsOf oc n acc) (hpush : ∀ h, pushCells h sc.names = heapOf oc h)
    (hfree : (sc.names.all fun p => !isKind p.2 .free || (cap.map (·.1)).contains p.1) = true) (hcaps : CapsOk F sc σ oc is cap) (hown : ownOk F sc oc)
    (hloc : (sc.names.all fun p => !isKind p.2 .local || (match (compScope F.scope sc).names.lookup p.1 with | some n => isKind n .local | none => false)) = true) : CompOk F ⟨compScope F.scope sc, names, oc.toList⟩ sc σ vs oc cap := by
  subst hn
  refine ⟨rfl, hk, rfl, hnd, rfl, fun x hx => ?_, hcells, hpush, fun n hm => ?_, hcaps.all, fun x hx he => ?_⟩
  · subst hx; exact hown
  · have := List.all_eq_true.mp hfree _ hm
    simpa [isKind] using this
  · have := List.all_eq_true.mp hloc _ hx
    rw [he] at this
    simp only [isKind, Bool.not_true, Bool.false_or] at this
    split at this
    · rename_i n e; rw [e, isKind_eq this]
    · cases this

theorem item_at {vs : List V} {i : Nat} {v : V} (h : vs[i]? = some v) : itemV (.lst vs) (i : Int) = some v := by
  obtain ⟨h1, h2⟩ := List.getElem?_eq_some_iff.mp h
  unfold itemV seqIndex?
  have e1 : ¬ ((i : Int) < 0) := by omega
  simp only [if_neg e1]
  rw [if_pos (by simp; omega)]
  simpa using h
theorem item_int {xs : List Int} {i : Nat} {x : Int} (h : xs[i]? = some x) : itemV (.lst (xs.map V.int)) (i : Int) = some (.int x) := item_at (by rw [List.getElem?_map, h]; rfl)
theorem CLoop.of {α : Type} {target elt : Expr} {ifs : List Expr} (g : α → V) (f : α → Option V) : ∀ (l : List α), (∀ a ∈ l, CTurn G F k σc target ifs elt (g a) (f a)) → CLoop G F k σc target ifs elt (l.map g) (l.filterMap f)
  | [], _ => rfl
  | a :: l, h => by
    refine ⟨f a, l.filterMap f, h a (by simp), CLoop.of g f l fun b hb => h b (by simp [hb]), ?_⟩
    rw [List.filterMap_cons]
    cases f a <;> rfl
theorem CLoop.ofMap {α : Type} {target elt : Expr} {ifs : List Expr} (g : α → V) (f : α → V) (l : List α) (h : ∀ a ∈ l, CTurn G F k σc target ifs elt (g a) (some (f a))) : CLoop G F k σc target ifs elt (l.map g) (l.map f) := by
  have := CLoop.of g (fun a => some (f a)) l h
  rwa [List.filterMap_eq_map'] at this
theorem CTurn.plain {target elt : Expr} {d w : V} (ha : Asg G F k σc target d σa) (he : Ev G F k σa elt w σd) (hw : Wk σd σc) : CTurn G F k σc target [] elt d (some w) :=
  ⟨σa, true, σa, ha, ⟨rfl, rfl⟩, fun e => (nomatch e), fun _ => ⟨w, σd, rfl, he, hw⟩⟩
theorem CTurn.yes {target elt c : Expr} {d w : V} (ha : Asg G F k σc target d σa) (ht : Tr G F k σa c true σ₁) (he : Ev G F k σ₁ elt w σd) (hw : Wk σd σc) : CTurn G F k σc target [c] elt d (some w) :=
  ⟨σa, true, σ₁, ha, ht, fun e => (nomatch e), fun _ => ⟨w, σd, rfl, he, hw⟩⟩
theorem CTurn.no {target elt c : Expr} {d : V} (ha : Asg G F k σc target d σa) (ht : Tr G F k σa c false σ₁) (hw : Wk σ₁ σc) : CTurn G F k σc target [c] elt d none :=
  ⟨σa, false, σ₁, ha, ht, fun _ => ⟨rfl, hw⟩, fun e => (nomatch e)⟩
end
end Mine

namespace Mine
section
variable {G : Glo} {F Fc : Fst} {k : Nat} {σ σ' σ₁ σ₂ σc σa σd : List Mine.Slot} {Γ : Act} {P : Part} {s : Shared}

theorem Exs.weakB {sts : List Stmt} {τ : List Mine.Slot} (h : Exs G F k σ sts (.brk σ')) (w : Wk σ' τ) : Exs G F k σ sts (.brk τ) := fun Γ P A s E Q hr st hQ =>
  h Γ P A s E Q hr st fun fl P' s' le o => hQ fl P' s' le ⟨o.1, o.2.weak w⟩
theorem item_tup {vs : List V} {i : Nat} {v : V} (h : vs[i]? = some v) : itemV (.tup vs) (i : Int) = some v := item_at h
theorem Loop.search {target : Expr} {body : List Stmt} {items : List V} {v : V} (p : Nat → Bool) (σ0 : List Mine.Slot)
    (hs : ∀ j d, items[j]? = some d → (p j = true → ∃ σa σ', Asg G F k σ0 target d σa ∧ Exs G F k σa body (.next σ') ∧ Wk σ' σ0) ∧ (p j = false → ∃ σa, Asg G F k σ0 target d σa ∧ Exs G F k σa body (.ret v))) :
    ∀ (rest : List V) (j : Nat), items.drop j = rest → ((∀ i, j ≤ i → i < items.length → p i = true) → Loop G F k target body rest σ0 (.next σ0)) ∧ ((∃ i, j ≤ i ∧ i < items.length ∧ p i = false) → Loop G F k target body rest σ0 (.ret v))
  | [], j, h => by
    have hj : items.length ≤ j := List.drop_eq_nil_iff.mp h
    exact ⟨fun _ => rfl, fun ⟨i, h1, h2, _⟩ => by omega⟩
  | d :: ds, j, h => by
    have h1 : items[j]? = some d := by
      have := congrArg List.head? h
      rw [List.head?_drop] at this; exact this
    have h2 : items.drop (j + 1) = ds := by
      have := congrArg List.tail h
      rw [List.tail_drop] at this; exact this
    have h5 := (List.getElem?_eq_some_iff.mp h1).1
    obtain ⟨g1, g2⟩ := hs j d h1
    obtain ⟨r1, r2⟩ := Loop.search p σ0 hs ds (j + 1) h2
    refine ⟨fun hall => ?_, fun hex => ?_⟩
    · obtain ⟨σa, σ', ha, hb, hw⟩ := g1 (hall j (Nat.le_refl _) h5)
      exact Loop.go ha (hb.weak hw) (r1 fun i hi => hall i (by omega))
    · cases e : p j with
      | false =>
        obtain ⟨σa, ha, hb⟩ := g2 e
        exact Loop.ret ha hb
      | true =>
        obtain ⟨σa, σ', ha, hb, hw⟩ := g1 e
        refine Loop.go ha (hb.weak hw) (r2 ?_)
        obtain ⟨i, i1, i2, i3⟩ := hex
        refine ⟨i, ?_, i2, i3⟩
        rcases Nat.lt_or_ge j i with q | q
        · exact q
        · exfalso
          have : i = j := by omega
          subst this; rw [e] at i3; cases i3
def scan {α β : Type} (next : β → α → Option β) : β → List α → β
  | b, [] => b
  | b, a :: l => match next b a with
    | some b' => scan next b' l
    | none => b
/-- a for that goes sign by sign and may leave -/
theorem Loop.scan {α β : Type} {target : Expr} {body : List Stmt} (g : α → V) (S : β → List Mine.Slot) (next : β → α → Option β) (ok : β → List α → Prop)
    (h1 : ∀ b a l b', ok b (a :: l) → next b a = some b' → ok b' l ∧ ∃ σa σ', Asg G F k (S b) target (g a) σa ∧ Exs G F k σa body (.next σ') ∧ Wk σ' (S b'))
    (h2 : ∀ b a l, ok b (a :: l) → next b a = none → ∃ σa σ', Asg G F k (S b) target (g a) σa ∧ Exs G F k σa body (.brk σ') ∧ Wk σ' (S b)) :
    ∀ (l : List α) (b : β), ok b l → Loop G F k target body (l.map g) (S b) (.next (S (Mine.scan next b l)))
  | [], b, _ => Loop.nil
  | a :: l, b, hk => by
    rw [List.map_cons]
    cases e : next b a with
    | none =>
      obtain ⟨σa, σ', ha, hb, hw⟩ := h2 b a l hk e
      rw [Mine.scan, e]
      exact Loop.brk ha (hb.weakB hw)
    | some b' =>
      obtain ⟨hk', σa, σ', ha, hb, hw⟩ := h1 b a l b' hk e
      rw [Mine.scan, e]
      exact Loop.go ha (hb.weak hw) (Loop.scan g S next ok h1 h2 l b' hk')

def wsNext (w : Ws) (c : Nat) : Option Ws := if c = 32 then some ⟨w.count, w.b + 1, w.n + 1, w.nt⟩ else if c = 9 then some ⟨bump w.count w.b, 0, w.n + 1, w.nt + 1⟩ else none
theorem wsRun_scan : ∀ (l : List Nat) (w : Ws), wsRun w l = scan wsNext w l
  | [], w => rfl
  | c :: l, w => by
    unfold wsRun scan wsNext
    by_cases h : c = 32
    · rw [if_pos h, if_pos h]; exact wsRun_scan l _
    · rw [if_neg h, if_neg h]
      by_cases h9 : c = 9
      · rw [if_pos h9, if_pos h9]; exact wsRun_scan l _
      · rw [if_neg h9, if_neg h9]
theorem bump_is : ∀ (c : List Nat) (b : Nat), bump c b = (if c.length ≤ b then c ++ List.replicate (b - c.length + 1) 0 else c).set b ((if c.length ≤ b then c ++ List.replicate (b - c.length + 1) 0 else c).getD b 0 + 1)
  | [], 0 => rfl
  | [], b + 1 => by
    have := bump_is [] b
    rw [bump, this]
    simp [List.replicate_succ]
  | x :: xs, 0 => by simp [bump]
  | x :: xs, b + 1 => by
    have := bump_is xs b
    rw [bump, this]
    by_cases h : xs.length ≤ b
    · rw [if_pos h, if_pos (by simpa using h)]
      simp [Nat.add_sub_add_right]
    · rw [if_neg h, if_neg (by simpa using h)]
      simp
abbrev intV (c : Nat) : V := .int c
abbrev wsV (raw : List Nat) (w : Ws) : V := .obj [.str raw, .int w.n, .int w.nt, .tup [.tup (w.count.map intV), .int w.b], .bool (decide (w.count.length ≤ 1))]

section
variable (H : Here G)
include H
theorem cls_S {p pos : Pos} (h : F.scope.names.lookup ("Whitespace" : Str) = some NameKind.globalImplicit := by rfl) : Ev G F k σ (.Attribute (.Name "Whitespace" p) "S" pos) (.str [32]) σ := by
  have g : GName G F "Whitespace" (.ref G.C) := by rw [H.C]; exact gn_ws H h
  obtain ⟨t, ht⟩ : ∃ t, findCls G.K (.ref G.C) (.type "type") "S" = some (.val (.str " " t)) := by rw [H.K, H.C]; exact ⟨_, rfl⟩
  exact Ev.clsattr g (by rw [H.K, H.C]; rfl) ht
theorem cls_T {p pos : Pos} (h : F.scope.names.lookup ("Whitespace" : Str) = some NameKind.globalImplicit := by rfl) : Ev G F k σ (.Attribute (.Name "Whitespace" p) "T" pos) (.str [9]) σ := by
  have g : GName G F "Whitespace" (.ref G.C) := by rw [H.C]; exact gn_ws H h
  obtain ⟨t, ht⟩ : ∃ t, findCls G.K (.ref G.C) (.type "type") "T" = some (.val (.str "\t" t)) := by rw [H.K, H.C]; exact ⟨_, rfl⟩
  exact Ev.clsattr g (by rw [H.K, H.C]; rfl) ht
theorem gn_text {x : Str} {v : Value} (h1 : F.scope.names.lookup x = some NameKind.globalImplicit) (h2 : okName x = true) (h3 : nsIn (Mine.hd.heap_39 G.w.params) mainGlobals x = some (some v)) : GName G F x v := ⟨h1, h2, .inl (by rw [H.K]; exact h3)⟩
theorem gn_built {x : Str} {v : Value} (h1 : F.scope.names.lookup x = some NameKind.globalImplicit) (h2 : okName x = true) (h3 : nsIn (Mine.hd.heap_39 G.w.params) mainGlobals x = some none) (h4 : bootBuiltins x = some v) (h5 : (x == ("__name__" : Str)) = false) : GName G F x v := ⟨h1, h2, .inr ⟨by rw [H.K]; exact h3, h4, by rintro rfl; simp at h5⟩⟩
theorem m_longest {vs : List V} : Meth G (.obj vs) "longest_run_of_spaces" (.ref (89 : Nat)) := Meth.cls (clsOk H) (by rw [H.K, H.C]; rfl) (by rw [H.K]; rfl) (by decide +kernel)
theorem m_level {vs : List V} : Meth G (.obj vs) "indent_level" (.ref (96 : Nat)) := Meth.cls (clsOk H) (by rw [H.K, H.C]; rfl) (by rw [H.K]; rfl) (by decide +kernel)
theorem m_equal {vs : List V} : Meth G (.obj vs) "equal" (.ref (103 : Nat)) := Meth.cls (clsOk H) (by rw [H.K, H.C]; rfl) (by rw [H.K]; rfl) (by decide +kernel)
theorem m_less {vs : List V} : Meth G (.obj vs) "less" (.ref (117 : Nat)) := Meth.cls (clsOk H) (by rw [H.K, H.C]; rfl) (by rw [H.K]; rfl) (by decide +kernel)
end
end
end Mine

namespace Mine
noncomputable section
variable {G : Glo} {F : Fst} {k : Nat} {σ σ' σ₁ σ₂ : List Mine.Slot} {Γ : Act} {P : Part} {s : Shared}
local macro_rules | `(tactic| walk_at "cst") => `(tactic| with_reducible first | exact cs_nl | exact cs_sp | exact cs_em | exact cs_tab | exact cs_a | exact cs_b | exact cs_dash | exact cs_let | exact cs_sp4 | exact cs_znl | exact cs_nlsp | exact cs_nltab | exact cs_sptab | exact cs_nlnl)
local macro_rules | `(tactic| walk_at "sd") => `(tactic| first | with_reducible rfl | omega | assumption | decide | (simp; done) | (simp; omega) | (simp_all; done) | (simp_all; omega))
local macro_rules | `(tactic| walk_at "bd") => `(tactic| first | with_reducible rfl | assumption | (simp; done) | (simp; omega) | (simp_all; done) | (simp_all; omega) | rfl)
local macro_rules | `(tactic| walk_at "gn") => `(tactic| ((with_reducible first | refine gn_len ‹_› ?_ | refine gn_range ‹_› ?_ | refine gn_max ‹_› ?_ | refine gn_tuple ‹_› ?_ | refine gn_indent ‹_› ?_ | refine gn_splitdoc ‹_› ?_ | refine gn_replace ‹_› ?_ | refine gn_ws ‹_› ?_ | refine gn_unit ‹_› ?_ | refine gn_below ‹_› ?_ | refine gn_rows ‹_› ?_ | refine gn_page ‹_› ?_ | refine gn_read ‹_› ?_ | refine gn_heads ‹_› ?_ | refine gn_columns ‹_› ?_ | refine gn_smaller ‹_› ?_); rfl))
local macro_rules | `(tactic| walk_at "callee") => `(tactic| first | ((with_reducible refine callee ‹_› _ ?_); rfl) | rfl)
local macro_rules | `(tactic| walk_at "meth") => `(tactic| with_reducible first | exact Meth.strip | exact Meth.rstrip | exact Meth.split | exact Meth.join | exact m_longest ‹_› | exact m_level ‹_› | exact m_equal ‹_› | exact m_less ‹_›)
local macro_rules | `(tactic| walk_at "op1") => `(tactic| with_reducible first | exact Op.add_int | exact Op.sub_int | exact Op.eq_int | exact Op.ne_int | exact Op.lt_int | exact Op.le_int | exact Op.gt_int | exact Op.ge_int | exact Op.eq_str | exact Op.ne_str | exact Op.range1 | exact Op.range2 | exact Op.max2 | exact Op.isNot)
local macro_rules | `(tactic| walk_at "op2") => `(tactic| with_reducible first | refine Op.mul_int ?_ | refine Op.div_int ?_ | refine Op.mod_int ?_ | refine Op.add_str ?_ | refine Op.mul_str ?_ ?_ ?_ | refine Op.mul_int_str ?_ ?_ ?_ | refine Op.add_lst ?_ | refine Op.mul_lst ?_ ?_ ?_ | refine Op.strip ?_ | refine Op.rstrip ?_ | refine Op.split ?_ ?_ ?_ | refine Op.join ?_ | refine Op.max_lst ?_ | refine Op.tuple ?_)
local macro_rules | `(tactic| walk_at "op") => `(tactic| first | walk_at "op1" | (walk_at "op2"; (all_goals walk_at "sd")) | ((with_reducible refine' Op.len ?h0 ?h1); (case h0 => rfl); (case h1 => walk_at "sd")) | assumption)
local macro_rules | `(tactic| walk_at "ix") => `(tactic| first | exact ix0 rfl | exact ix1 rfl | exact ix2 rfl | exact ix3 rfl | exact ix4 rfl | exact ix5 rfl | exact ix6 rfl | exact ix7 rfl | exact ix8 rfl | exact ix9 rfl)
local macro_rules | `(tactic| walk_at "var") => `(tactic| ((with_reducible refine' Ev.var ?h2 ?h3 ?h4); (case h2 => walk_at "ix"); (case h3 => rfl); (case h4 => rfl)))
local macro_rules | `(tactic| walk_at "evs") => `(tactic| first | with_reducible exact Evs.nil | ((with_reducible refine' Evs.cons ?h5 ?h6 ?h7); (case h5 => walk_at "ev"); (case h6 => walk_at "evs"); (case h7 => exact fun _ _ h => Expr.noConfusion h)) | exact Evs.nil)
local macro_rules | `(tactic| walk_at "part") => `(tactic| first | with_reducible exact Part'.none | ((with_reducible refine' Part'.some ?h8); (case h8 => walk_at "ev")))
local macro_rules | `(tactic| walk_at "ev") => `(tactic| first | with_reducible exact Ev.const_int | walk_at "cst" | with_reducible exact Ev.const_bool | with_reducible exact Ev.const_none | walk_at "var" | walk_at "eva" | walk_at "evb")
local macro_rules | `(tactic| walk_at "eva") => `(tactic| first | ((with_reducible refine' Ev.bin ?h9 ?h10 ?h11); (case h9 => walk_at "ev"); (case h10 => walk_at "ev"); (case h11 => walk_at "op")) | ((with_reducible refine' Ev.cmp ?h12 ?h13 ?h14 ?h15); (case h12 => walk_at "ev"); (case h13 => walk_at "ev"); (case h14 => walk_at "op"); (case h15 => rfl)) | ((with_reducible refine' Ev.tuple ?h16 ?h17); (case h16 => walk_at "evs"); (case h17 => walk_at "sd")) | ((with_reducible refine' Ev.list ?h18 ?h19); (case h18 => walk_at "evs"); (case h19 => walk_at "sd")) | ((with_reducible refine' Ev.len_own ?h20 ?h21 ?h22 ?h23 ?h24); (case h20 => walk_at "gn"); (case h21 => walk_at "ix"); (case h22 => rfl); (case h23 => rfl); (case h24 => walk_at "sd")) | ((with_reducible refine' Ev.call ?h25 ?h26 ?h27 ?h28 ?_); (case h25 => walk_at "gn"); (case h26 => walk_at "callee"); (case h27 => walk_at "evs"); (case h28 => walk_at "op"); (all_goals rfl)) | ((with_reducible refine' Ev.meth ?h29 ?h30 ?h31 ?h32 ?h33 ?_ ?_ ?_ ?_); (case h29 => walk_at "ev"); (case h30 => walk_at "meth"); (case h31 => walk_at "callee"); (case h32 => walk_at "evs"); (case h33 => walk_at "op"); (all_goals first | rfl | decide | exact fun _ _ => rfl)))
local macro_rules | `(tactic| walk_at "evb") => `(tactic| first | ((with_reducible refine' Ev.slice ?h34 ?h35 ?h36 ?h37 ?h38); (case h34 => walk_at "ev"); (case h35 => walk_at "part"); (case h36 => walk_at "part"); (case h37 => walk_at "sz"); (case h38 => walk_at "slc")) | ((with_reducible refine' Ev.item_own ?h39 ?h40 ?h41 ?h42 ?h43 ?h44 ?h45 ?h46); (case h39 => walk_at "ix"); (case h40 => rfl); (case h41 => rfl); (case h42 => rfl); (case h43 => (intro _; walk_at "ev")); (case h44 => walk_at "itm"); (case h45 => walk_at "sd"); (case h46 => exact fun _ _ => rfl)) | ((with_reducible refine' Ev.item ?h47 ?h48 ?h49 ?h50 ?h51); (case h47 => walk_at "ev"); (case h48 => walk_at "ev"); (case h49 => walk_at "itm"); (case h50 => walk_at "sd"); (case h51 => exact fun _ _ => rfl)) | ((with_reducible refine' Ev.neg ?h52); (case h52 => walk_at "ev")) | ((with_reducible refine' Ev.attr (clsOk ‹_›) ?h53 ?h54 ?h55 ?h56); (case h53 => walk_at "ev"); (case h54 => walk_at "ix"); (case h55 => rfl); (case h56 => exact fun _ => rfl)) | walk_at "frz")
local macro_rules | `(tactic| walk_at "sz") => `(tactic| (simp only [sizeV, decide_eq_true_eq, List.length_cons, List.length_map]; walk_at "sd"))
local macro_rules | `(tactic| walk_at "slc") => `(tactic| first | assumption | exact slice2 _ _ _ | rfl | (unfold sliceV; walk_at "sd"))
local macro_rules | `(tactic| walk_at "itm") => `(tactic| first | assumption | exact item0 _ _ | exact item1 _ _ _ | rfl | (unfold itemV; walk_at "sd"))
local macro_rules | `(tactic| walk_at "tr") => `(tactic| first | ((with_reducible refine' Tr.cmp ?h57 ?h58 ?h59 ?h60); (case h57 => walk_at "ev"); (case h58 => walk_at "ev"); (case h59 => walk_at "op"); (case h60 => rfl)) | ((with_reducible refine' Tr.not ?h61); (case h61 => walk_at "tr")) | ((with_reducible refine' Tr.value ?h62 ?h63 ?h64); (case h62 => walk_at "ev"); (case h63 => walk_at "truth"); (case h64 => exact fun _ _ => rfl)))
local macro_rules | `(tactic| walk_at "truth") => `(tactic| first | with_reducible exact Truth.bool | ((with_reducible first | refine Truth.str ?_ | refine Truth.tup ?_); walk_at "sd"))
local macro_rules | `(tactic| walk_at "asgs") => `(tactic| first | with_reducible exact Asgs.nil | ((with_reducible refine' Asgs.cons ?h65 ?h66 ?h67); (case h65 => walk_at "asg"); (case h66 => walk_at "asgs"); (case h67 => exact fun _ _ h => Expr.noConfusion h)))
local macro_rules | `(tactic| walk_at "asg") => `(tactic| first | ((with_reducible refine' Asg.name ?h68 ?h69); (case h68 => walk_at "ix"); (case h69 => rfl)) | ((with_reducible refine' Asg.tuple ?h70 ?_ ?_); (case h70 => walk_at "asgs"); (all_goals rfl)))
local macro_rules | `(tactic| walk_at "wk") => `(tactic| first | exact Wk.refl _ | exact Wk.nil | ((refine Wk.keep ?_); walk_at "wk") | ((refine Wk.un ?_); walk_at "wk"))
local macro_rules | `(tactic| walk_at "frz") => `(tactic| ((with_reducible refine' Ev.freeze ?h71 ?h72 ?h73); (case h71 => walk_at "ix"); (case h72 => rfl); (case h73 => rfl)))
local macro_rules | `(tactic| walk_at "and") => `(tactic| first | with_reducible exact Tr.and_nil | ((with_reducible refine' Tr.and_true ?h78 ?h79); (case h78 => ((with_reducible refine' Tr.to ?h76 ?h77); (case h76 => walk_at "tr"); (case h77 => walk_at "bd"))); (case h79 => walk_at "and")))
/-! _indent -/
theorem op_indent (H : Here G) (hk : 10 ≤ k) {t : List Nat} {n : Int} (ht : t.length ≤ 1000) (hn : 0 ≤ n ∧ n ≤ 4) : Op G k (opCall (.ref (51 : Nat))) [.str t, .int n] (.str (indentT (rep [32] n) t)) := by
  refine Op.fn (F := fr G.w.params 51 ["s", "indent"] []) (pn := ["s", "indent"]) (rest := []) (k' := 4) [.val (.str t), .val (.int n)] (isDef H 51) (b2d (d := (44 : Nat)) (h := fun _ _ _ _ => by rw [H.K]; rfl)) rfl rfl (fr_nodup (by decide +kernel)) rfl rfl rfl rfl rfl ?_ (by omega)
  show Exs _ _ _ _ (_ :: _) _
  refine' Exs.ret (Ex.ret ?a)
  case a =>
  refine Ev.sub H (gn_twin H) (σ' := [.val (.str t), .val (.int n)]) ?_ ht ?_ ?_ rfl rfl (fun _ _ => rfl)
  · walk_at "evs"
  · rw [rep_one, List.length_replicate]; omega
  · rw [rep_one]; intro h; have := List.eq_of_mem_replicate h; omega
theorem op_indent4 (H : Here G) (hk : 10 ≤ k) {t : List Nat} (ht : t.length ≤ 1000) : Op G k (opCall (.ref (51 : Nat))) [.str t] (.str (indentT [32, 32, 32, 32] t)) := by
  refine Op.fn (F := fr G.w.params 51 ["s", "indent"] []) (pn := ["s", "indent"]) (rest := []) (k' := 4) [.val (.str t), .val (.int 4)] (isDef H 51) (b1d (d := (44 : Nat)) (i := 4) (h := fun _ _ _ => by rw [H.K]; rfl)) rfl rfl (fr_nodup (by decide +kernel)) rfl rfl rfl rfl rfl ?_ (by omega)
  show Exs _ _ _ _ (_ :: _) _
  refine' Exs.ret (Ex.ret ?a)
  case a =>
  refine Ev.sub H (gn_twin H) (σ' := [.val (.str t), .val (.int 4)]) ?_ ht (by simp) (by simp) rfl rfl (fun _ _ => rfl)
  refine' Evs.cons ?a ?b ?c
  case a =>
    refine' Ev.to ?a1 ?b1
    case a1 => walk_at "ev"
    case b1 => rfl
  case b => walk_at "evs"
  case c => exact fun _ _ h => Expr.noConfusion h
/-! splitdoc -/
theorem op_splitdoc (H : Here G) (hk : 10 ≤ k) {doc : List Nat} (hd : doc.length ≤ 1000) : Op G k (opCall (.ref (58 : Nat))) [.str doc] (.tup [.str (splitdocP doc).1, .str (splitdocP doc).2]) := by
  refine Op.fn (F := fr G.w.params 58 ["doc", "lines"] []) (pn := ["doc"]) (rest := ["lines"]) (k' := 4) [.val (.str doc), .un] (isDef H 58) b1 rfl rfl (fr_nodup (by decide +kernel)) rfl rfl rfl rfl rfl ?_ (by omega)
  show Exs _ _ _ _ (_ :: _) _
  have hs : (stripT doc).length ≤ 1000 := Nat.le_trans (stripT_le doc) hd
  have hj := splitT_sum [10] (by simp) (stripT doc)
  have hne := splitT_ne [10] (stripT doc)
  (((with_reducible refine' Exs.cons ?y1_84 ?y1_85); (case y1_84 => (((with_reducible refine' Ex.set ?y2_80 ?y2_81 ?y2_82 ?y2_83); (case y2_80 => walk_at "ix"); (case y2_81 => rfl); (case y2_82 => walk_at "ev"); (case y2_83 => exact fun _ _ => rfl))))))
  unfold splitdocP
  rcases h : splitT [10] (stripT doc) with _ | ⟨a, _ | ⟨b, r⟩⟩
  · exact absurd h hne
  · (((with_reducible refine' Exs.ret ?y3_88); ); ((with_reducible refine' Ex.ite_t ?y3_89 ?y3_90 ?y3_91); (case y3_89 => walk_at "tr"); (case y3_90 => walk_at "bd")))
    (((with_reducible refine' Exs.ret ?y4_87); (case y4_87 => ((with_reducible refine' Ex.ret ?y4_86); (case y4_86 => walk_at "ev")))))
  · rw [h] at hj
    simp only [List.map_cons, List.sum_cons, List.length_cons] at hj
    have hrl := rstripT_le b
    by_cases hb : (rstripT b).length = 0
    · simp only [if_pos hb]
      (((with_reducible refine' Exs.ret ?y5_92); ); ((with_reducible refine' Ex.ite_f ?y5_93 ?y5_94 ?y5_95); (case y5_93 => walk_at "tr"); (case y5_94 => walk_at "bd")))
      refine' Exs.ret (Ex.ite_t ?a ?b ?c)
      case a => walk_at "and"
      case b => rfl
      case c => (((with_reducible refine' Exs.ret ?y6_87); (case y6_87 => ((with_reducible refine' Ex.ret ?y6_86); (case y6_86 => walk_at "ev")))))
    · simp only [if_neg hb]
      have h0 := joinT_length [10] (a :: b :: r)
      refine' Exs.cons (Ex.ite_f ?a ?b (Exs.cons (Ex.ite_f (Tr.and_true ?c (Tr.and_false ?d)) ?e Exs.nil) Exs.nil)) ?g
      case a => walk_at "tr"
      case b => walk_at "bd"
      case c => (((with_reducible refine' Tr.to ?y7_74 ?y7_75); (case y7_74 => walk_at "tr"); (case y7_75 => walk_at "bd")))
      case d => (((with_reducible refine' Tr.to ?y8_74 ?y8_75); (case y8_74 => walk_at "tr"); (case y8_75 => walk_at "bd")))
      case e => rfl
      case g => (((with_reducible refine' Exs.ret ?y9_87); (case y9_87 => ((with_reducible refine' Ex.ret ?y9_86); (case y9_86 => walk_at "ev")))))
/-! replace -/
theorem op_replace (H : Here G) (hk : 10 ≤ k) {t a b : List Nat} (ht : t.length ≤ 1000) (ha : a ≠ []) (h8 : a.all (· < 256) = true) (hb : b.length ≤ 10) : Op G k (opCall (.ref (65 : Nat))) [.str t, .str a, .str b] (.str (joinT b (splitT a t))) := by
  refine Op.fn (F := fr G.w.params 65 ["text", "pairs"] []) (pn := ["text", "pairs"]) (rest := []) (k' := 4) [.val (.str t), .val (.tup [.str a, .str b])] (isDef H 65) bstar rfl rfl (fr_nodup (by decide +kernel)) rfl rfl rfl rfl rfl ?_ (by omega)
  show Exs _ _ _ _ (_ :: _) _
  have hj := splitT_sum a ha t
  have hm : (splitT a t).length * b.length ≤ 1001 * 10 := Nat.mul_le_mul (by omega) hb
  refine' Exs.cons (Ex.while_ (n := 2) (WLoop.go ?a ?b (WLoop.stop ?c))) ?d
  case a => (((with_reducible refine' Tr.to ?y10_74 ?y10_75); (case y10_74 => walk_at "tr"); (case y10_75 => walk_at "bd")))
  case b =>
    (((with_reducible refine' Exs.cons ?y11_84 ?y11_85); (case y11_84 => (((with_reducible refine' Ex.set ?y12_80 ?y12_81 ?y12_82 ?y12_83); (case y12_80 => walk_at "ix"); (case y12_81 => rfl); (case y12_82 => walk_at "ev"); (case y12_83 => exact fun _ _ => rfl))))))
    (((with_reducible refine' Exs.cons ?y13_84 ?y13_85); (case y13_84 => (((with_reducible refine' Ex.set ?y14_80 ?y14_81 ?y14_82 ?y14_83); (case y14_80 => walk_at "ix"); (case y14_81 => rfl); (case y14_82 => walk_at "ev"); (case y14_83 => exact fun _ _ => rfl))))))
    exact Exs.nil
  case c => (((with_reducible refine' Tr.to ?y15_74 ?y15_75); (case y15_74 => walk_at "tr"); (case y15_75 => walk_at "bd")))
  case d => (((with_reducible refine' Exs.ret ?y16_87); (case y16_87 => ((with_reducible refine' Ex.ret ?y16_86); (case y16_86 => walk_at "ev")))))
/-! _law_unit -/
theorem op_unit (H : Here G) (hk : 10 ≤ k) {act : Int} (h : 0 ≤ act ∧ act < 64) : Op G k (opCall (.ref (138 : Nat))) [.int act] (.str (unitT act)) := by
  refine Op.fn (F := fr G.w.params 138 ["act"] []) (pn := ["act"]) (rest := []) (k' := 4) [.val (.int act)] (isDef H 138) b1 rfl rfl (fr_nodup (by decide +kernel)) rfl rfl rfl rfl rfl ?_ (by omega)
  show Exs _ _ _ _ (_ :: _) _
  have h1 : (rep [32] (act / 4 % 4)).length ≤ 4 := by rw [rep_one, List.length_replicate]; omega
  have h2 : (rep [9] (act / 16 % 2)).length ≤ 4 := by rw [rep_one, List.length_replicate]; omega
  unfold unitT
  (((with_reducible refine' Exs.ret ?y17_87); (case y17_87 => ((with_reducible refine' Ex.ret ?y17_86); (case y17_86 => walk_at "ev")))))
/-! _law_below -/
theorem op_below (H : Here G) (hk : 10 ≤ k) {r : Row} {u head : List Nat} (hf : Fits 5 r) (hu : u.length ≤ 10) : Op G k (opCall (.ref (145 : Nat))) [rowV r, .str u, .str head] (rowV (below u head r)) := by
  refine Op.fn (F := fr G.w.params 145 ["row", "unit", "head", "lead", "name", "above"] []) (pn := ["row", "unit", "head"]) (rest := ["lead", "name", "above"]) (k' := 4) [.val (rowV r), .val (.str u), .val (.str head), .un, .un, .un] (isDef H 145) b3 rfl rfl (fr_nodup (by decide +kernel)) rfl rfl rfl rfl rfl ?_ (by omega)
  show Exs _ _ _ _ (_ :: _) _
  have h1 := hf.lead
  have h2 := hf.name
  (((with_reducible refine' Exs.cons ?y18_102 ?y18_103); (case y18_102 => (((with_reducible refine' Ex.assign ?y19_98 ?y19_99 ?y19_100 ?y19_101); (case y19_98 => walk_at "ev"); (case y19_99 => ((with_reducible refine' AsgAll.one ?y19_96 ?y19_97); (case y19_96 => walk_at "asg"); (case y19_97 => rfl))); (case y19_100 => exact fun _ _ => rfl); (case y19_101 => exact fun _ => rfl))))))
  unfold below Row.text
  by_cases e1 : r.lead ++ r.name = []
  · rw [if_pos e1]
    (((with_reducible refine' Exs.ret ?y20_88); ); ((with_reducible refine' Ex.ite_t ?y20_89 ?y20_90 ?y20_91); (case y20_89 => walk_at "tr"); (case y20_90 => walk_at "bd")))
    (((with_reducible refine' Exs.ret ?y21_87); (case y21_87 => ((with_reducible refine' Ex.ret ?y21_86); (case y21_86 => walk_at "ev")))))
  · rw [if_neg e1]
    refine' Exs.cons (Ex.ite_f ?a ?b Exs.nil) ?c
    case a => walk_at "tr"
    case b => walk_at "bd"
    case c =>
      by_cases e2 : r.above = []
      · by_cases e3 : u = []
        · rw [if_neg (by simp [e3])]
          refine' Exs.cons (Ex.ite_f (Tr.and_true ?a1 (Tr.and_false ?b1)) ?c1 Exs.nil) ?d1
          case a1 => (((with_reducible refine' Tr.to ?y22_74 ?y22_75); (case y22_74 => walk_at "tr"); (case y22_75 => walk_at "bd")))
          case b1 => (((with_reducible refine' Tr.to ?y23_74 ?y23_75); (case y23_74 => walk_at "tr"); (case y23_75 => walk_at "bd")))
          case c1 => rfl
          case d1 => (((with_reducible refine' Exs.ret ?y24_87); (case y24_87 => ((with_reducible refine' Ex.ret ?y24_86); (case y24_86 => walk_at "ev")))))
        · rw [if_pos ⟨e2, e3⟩]
          refine' Exs.ret (Ex.ite_t ?a2 ?b2 ?c2)
          case a2 => walk_at "and"
          case b2 => rfl
          case c2 => (((with_reducible refine' Exs.ret ?y25_87); (case y25_87 => ((with_reducible refine' Ex.ret ?y25_86); (case y25_86 => walk_at "ev")))))
      · rw [if_neg (by simp [e2])]
        refine' Exs.cons (Ex.ite_f (Tr.and_false ?a3) ?c3 Exs.nil) ?d3
        case a3 => (((with_reducible refine' Tr.to ?y26_74 ?y26_75); (case y26_74 => walk_at "tr"); (case y26_75 => walk_at "bd")))
        case c3 => rfl
        case d3 => (((with_reducible refine' Exs.ret ?y27_87); (case y27_87 => ((with_reducible refine' Ex.ret ?y27_86); (case y27_86 => walk_at "ev")))))
/-! _law_columns -/
theorem op_columns (H : Here G) (hk : 10 ≤ k) {l : List Nat} {top : Nat} (hl : l.length ≤ 1000) (ht : top ≤ 1000) : Op G k (opCall (.ref (178 : Nat))) [.str l, .int top] (.lst ((List.range top).map fun i => .int (colL (i + 1) l))) := by
  refine Op.fn (F := fr G.w.params 178 ["text", "top", "columns", "size", "place", "sign"] []) (pn := ["text", "top"]) (rest := ["columns", "size", "place", "sign"]) (k' := 4) [.val (.str l), .val (.int top), .un, .un, .un, .un] (isDef H 178) b2 rfl rfl (fr_nodup (by decide +kernel)) rfl rfl rfl rfl rfl ?_ (by omega)
  show Exs _ _ _ _ (_ :: _) _
  (((with_reducible refine' Exs.cons ?y28_108 ?y28_109); (case y28_108 => ((with_reducible refine' Ex.ownNil ?y28_104 ?y28_105 ?y28_106 ?y28_107); (case y28_104 => walk_at "ix"); (case y28_105 => rfl); (case y28_106 => rfl); (case y28_107 => exact fun _ _ => rfl)))))
  refine' Exs.for_st (v := .rng 1 ((top : Int) + 1)) (fun j => [.val (.str l), .val (.int top), .own ((List.range j).map fun i => .int (colL (i + 1) l)), .un, .un, .un]) ?a (iter_rng ?b) ?e ?c ?d (fun _ _ => rfl)
  case a => walk_at "ev"
  case b => omega
  case e => walk_at "wk"
  case c =>
    intro j d hd
    obtain ⟨rfl, hj⟩ := rng_get hd
    refine' ⟨_, _, ?x, ?y, ?z⟩
    case x => walk_at "asg"
    case y =>
      (((with_reducible refine' Exs.cons ?y29_84 ?y29_85); (case y29_84 => (((with_reducible refine' Ex.set ?y30_80 ?y30_81 ?y30_82 ?y30_83); (case y30_80 => walk_at "ix"); (case y30_81 => rfl); (case y30_82 => walk_at "ev"); (case y30_83 => exact fun _ _ => rfl))))))
      refine' Exs.for_st (v := .str l) (items := l.map fun c => .str [c]) (fun i => [.val (.str l), .val (.int top), .own ((List.range j).map fun i => .int (colL (i + 1) l)), .val (.int (1 + j)), .val (.int ((l.take i).foldl (colStep (j + 1)) 0 : Nat)), .un]) ?a2 rfl ?e2 ?c2 ?d2 (fun _ _ => rfl)
      case a2 => walk_at "ev"
      case e2 => walk_at "wk"
      case c2 =>
        intro i d hd
        rw [List.getElem?_map] at hd
        cases hc : l[i]? with
        | none => rw [hc] at hd; cases hd
        | some c =>
          rw [hc] at hd; cases hd
          have e1 : l.take (i + 1) = l.take i ++ [c] := by rw [List.take_add_one, hc]; rfl
          rw [e1, List.foldl_append]
          generalize hp : (l.take i).foldl (colStep (j + 1)) 0 = p
          by_cases h9 : c = 9
          · refine' ⟨_, _, ?x2, ?y2, ?z2⟩
            case x2 => walk_at "asg"
            case y2 =>
              refine' Exs.cons (Ex.ite_t ?f ?g ?h) Exs.nil
              case f => walk_at "tr"
              case g => simp [h9]
              case h =>
                (((with_reducible refine' Exs.cons ?y31_84 ?y31_85); (case y31_84 => (((with_reducible refine' Ex.set ?y32_80 ?y32_81 ?y32_82 ?y32_83); (case y32_80 => walk_at "ix"); (case y32_81 => rfl); (case y32_82 => walk_at "ev"); (case y32_83 => exact fun _ _ => rfl))))))
                exact Exs.nil
            case z2 =>
              simp only [List.set, List.foldl_cons, List.foldl_nil]
              unfold colStep
              rw [if_pos h9]
              have : (p : Int) - (p : Int) % (1 + (j : Int)) + (1 + (j : Int)) = ((p - p % (j + 1) + (j + 1) : Nat) : Int) := by
                have := Nat.mod_le p (j + 1)
                rw [show (1 + (j : Int)) = ((j + 1 : Nat) : Int) by omega]
                omega
              rw [this]
              walk_at "wk"
          · refine' ⟨_, _, ?x3, ?y3, ?z3⟩
            case x3 => walk_at "asg"
            case y3 =>
              refine' Exs.cons (Ex.ite_f ?f3 ?g3 ?h3) Exs.nil
              case f3 => walk_at "tr"
              case g3 => simp [h9]
              case h3 =>
                (((with_reducible refine' Exs.cons ?y33_84 ?y33_85); (case y33_84 => (((with_reducible refine' Ex.set ?y34_80 ?y34_81 ?y34_82 ?y34_83); (case y34_80 => walk_at "ix"); (case y34_81 => rfl); (case y34_82 => walk_at "ev"); (case y34_83 => exact fun _ _ => rfl))))))
                exact Exs.nil
            case z3 =>
              simp only [List.set, List.foldl_cons, List.foldl_nil]
              unfold colStep
              rw [if_neg h9]
              exact Wk.keep (Wk.keep (Wk.keep (Wk.keep (Wk.keep (Wk.un Wk.nil)))))
      case d2 =>
        rw [List.length_map, List.take_length]
        (((with_reducible refine' Exs.cons ?y35_121 ?y35_122); (case y35_121 => ((with_reducible refine' Ex.expr_none ?y35_118 ?y35_119 ?y35_120); (case y35_118 => ((with_reducible refine' Ev.append ?y35_110 ?y35_111 ?y35_112 ?y35_113 ?y35_114 ?y35_115 ?y35_116 ?y35_117); (case y35_110 => walk_at "ix"); (case y35_111 => rfl); (case y35_112 => rfl); (case y35_113 => rfl); (case y35_114 => (intro _; walk_at "ev")); (case y35_115 => walk_at "sd"); (case y35_116 => rfl); (case y35_117 => exact fun _ => rfl))); (case y35_119 => rfl); (case y35_120 => exact fun _ => rfl)))))
        exact Exs.nil
    case z =>
      rw [List.range_succ, List.map_append]
      exact Wk.keep (Wk.keep (Wk.keep (Wk.un (Wk.un (Wk.un Wk.nil)))))
  case d =>
    refine' Exs.ret (Ex.ret (Ev.to ?r1 ?r2))
    case r1 => walk_at "frz"
    case r2 => simp
/-! _law_smaller -/
def smallerB (xs ys : List Int) : Bool := (List.range xs.length).all fun i => decide (xs.getD i 0 < ys.getD i 0)
theorem op_smaller (H : Here G) (hk : 10 ≤ k) {xs ys : List Int} (hx : xs.length ≤ 1000) (hxy : xs.length = ys.length) : Op G k (opCall (.ref (183 : Nat))) [.lst (xs.map .int), .lst (ys.map .int)] (.bool (smallerB xs ys)) := by
  refine Op.fn (F := fr G.w.params 183 ["one", "two"] ["one", "two"]) (pn := ["one", "two"]) (rest := []) (k' := 4) [.val (.lst (xs.map .int)), .val (.lst (ys.map .int))] (isDef H 183) b2 rfl rfl (fr_nodup (by decide +kernel)) rfl rfl rfl rfl rfl ?_ (by omega)
  show Exs _ _ _ _ (_ :: _) _
  have hi : iterOf (.rng 0 (xs.length : Int)) = some ((List.range xs.length).map fun (i : Nat) => V.int i) := by
    rw [iter_rng (by omega)]
    simp
  refine' Exs.ret (Ex.ret (Ev.to (Ev.cmp (Ev.comp (vs := ["k"]) (oc := none) (cap := [("one", .lst (xs.map .int)), ("two", .lst (ys.map .int))]) ?a hi (CompOk.of [0, 1] ["k", "one", "two"] ?c1 ?c2 ?c3 ?c4 ?c5 ?c6 ?c7 ?c8 ?c9) (CRun.one (CLoop.of (fun (i : Nat) => V.int i) (fun i => if xs.getD i 0 ≥ ys.getD i 0 then some (.int i) else none) _ ?l) ?sz) ?f) ?b (Op.eq_data false ?o1 ?o2) rfl) ?t))
  case a =>
    refine' Ev.to ?a1 ?a2
    case a1 => walk_at "ev"
    case a2 => simp
  case f => exact fun _ _ => rfl
  case b => walk_at "ev"
  case l =>
    intro i hi2
    have hi3 : i < xs.length := by simpa using hi2
    have e1 := item_int (List.getElem?_eq_getElem hi3)
    have e2 := item_int (List.getElem?_eq_getElem (show i < ys.length by omega))
    have g1 : xs.getD i 0 = xs[i] := by simp [hi3]
    have g2 : ys.getD i 0 = ys[i]'(by omega) := by rw [List.getD_eq_getElem?_getD, List.getElem?_eq_getElem (by omega)]; rfl
    rw [g1, g2]
    by_cases hge : xs[i] ≥ ys[i]'(by omega)
    · rw [if_pos hge]
      refine' CTurn.yes ?t1 ?t2 ?t3 ?t4
      case t1 => walk_at "asg"
      case t2 => (((with_reducible refine' Tr.to ?y36_74 ?y36_75); (case y36_74 => walk_at "tr"); (case y36_75 => walk_at "bd")))
      case t3 => walk_at "ev"
      case t4 => walk_at "wk"
    · rw [if_neg hge]
      refine' CTurn.no ?u1 ?u2 ?u4
      case u1 => walk_at "asg"
      case u2 => (((with_reducible refine' Tr.to ?y37_74 ?y37_75); (case y37_74 => walk_at "tr"); (case y37_75 => walk_at "bd")))
      case u4 => walk_at "wk"
  case sz => simp; omega
  case o1 => 
    simp only [okV, List.all_eq_true]
    intro v hv
    obtain ⟨i, _, hi4⟩ := List.mem_filterMap.mp hv
    split at hi4
    · cases hi4; rfl
    · cases hi4
  case o2 => rfl
  case t =>
    congr 1
    have ho1 : okV false 8 (V.lst ((List.range xs.length).filterMap fun i => if xs.getD i 0 ≥ ys.getD i 0 then some (V.int i) else none)) = true := by
      simp only [okV, List.all_eq_true]
      intro v hv
      obtain ⟨i, _, hi4⟩ := List.mem_filterMap.mp hv
      split at hi4
      · cases hi4; rfl
      · cases hi4
    rw [Bool.eq_iff_iff]
    refine (eqV_iff 8 _ _ 8 ho1 rfl).trans ?_
    unfold smallerB
    rw [List.all_eq_true]
    constructor
    · intro h i hi5
      injection h with h
      rw [List.filterMap_eq_nil_iff] at h
      have := h i hi5
      split at this
      · cases this
      · rename_i h7; exact decide_eq_true (Int.not_le.mp h7)
    · intro h
      congr 1
      rw [List.filterMap_eq_nil_iff]
      intro i hi6
      have h2 := of_decide_eq_true (h i hi6)
      exact if_neg (Int.not_le.mpr h2)
  all_goals (((all_goals first | decide +kernel | rfl | exact fun _ _ => rfl | exact fun _ => rfl | trivial | exact ⟨rfl, rfl⟩ | exact ⟨⟨rfl, rfl, rfl, rfl, rfl, rfl⟩, trivial⟩ | exact ⟨⟨rfl, rfl, rfl, rfl, rfl, rfl⟩, ⟨rfl, rfl, rfl, rfl, rfl, rfl⟩, trivial⟩)))
/-! Whitespace -/
theorem op_longest (H : Here G) (hk : 10 ≤ k) {raw : List Nat} {w : Ws} (h1 : w.count.length ≤ 1000) : Op G k (opCall (.ref (89 : Nat))) [wsV raw w] (.int (longest w)) := by
  refine Op.fn (F := fr G.w.params 89 ["self", "count", "trailing"] []) (pn := ["self"]) (rest := ["count", "trailing"]) (k' := 4) [.val (wsV raw w), .un, .un] (isDef H 89) b1 rfl rfl (fr_nodup (by decide +kernel)) rfl rfl rfl rfl rfl ?_ (by omega)
  show Exs _ _ _ _ (_ :: _) _
  (((with_reducible refine' Exs.cons ?y39_102 ?y39_103); (case y39_102 => (((with_reducible refine' Ex.assign ?y40_98 ?y40_99 ?y40_100 ?y40_101); (case y40_98 => walk_at "ev"); (case y40_99 => ((with_reducible refine' AsgAll.one ?y40_96 ?y40_97); (case y40_96 => walk_at "asg"); (case y40_97 => rfl))); (case y40_100 => exact fun _ _ => rfl); (case y40_101 => exact fun _ => rfl))))))
  refine' Exs.ret (Ex.ret (Ev.to ?a ?b))
  case a => walk_at "ev"
  case b => simp [longest]
theorem op_level (H : Here G) (hk : 10 ≤ k) {raw : List Nat} {w : Ws} {t : Nat} (h1 : w.count.length ≤ 1000) (ht : 0 < t) (ht2 : t ≤ 2000) : Op G k (opCall (.ref (96 : Nat))) [wsV raw w, .int t] (.int (lvl w t)) := by
  refine Op.fn (F := fr G.w.params 96 ["self", "tabsize", "count", "trailing", "il", "i"] []) (pn := ["self", "tabsize"]) (rest := ["count", "trailing", "il", "i"]) (k' := 4) [.val (wsV raw w), .val (.int t), .un, .un, .un, .un] (isDef H 96) b2 rfl rfl (fr_nodup (by decide +kernel)) rfl rfl rfl rfl rfl ?_ (by omega)
  show Exs _ _ _ _ (_ :: _) _
  (((with_reducible refine' Exs.cons ?y41_102 ?y41_103); (case y41_102 => (((with_reducible refine' Ex.assign ?y42_98 ?y42_99 ?y42_100 ?y42_101); (case y42_98 => walk_at "ev"); (case y42_99 => ((with_reducible refine' AsgAll.one ?y42_96 ?y42_97); (case y42_96 => walk_at "asg"); (case y42_97 => rfl))); (case y42_100 => exact fun _ _ => rfl); (case y42_101 => exact fun _ => rfl))))))
  (((with_reducible refine' Exs.cons ?y43_84 ?y43_85); (case y43_84 => (((with_reducible refine' Ex.set ?y44_80 ?y44_81 ?y44_82 ?y44_83); (case y44_80 => walk_at "ix"); (case y44_81 => rfl); (case y44_82 => walk_at "ev"); (case y44_83 => exact fun _ _ => rfl))))))
  refine' Exs.for_st (v := .rng t w.count.length) (fun j => [.val (wsV raw w), .val (.int t), .val (.tup (w.count.map intV)), .val (.int w.b), .val (.int (wsum t (at_ w.count) (t + j) : Nat)), .un]) ?a (iter_rng ?b) ?e ?c ?d (fun _ _ => rfl)
  case a =>
    refine' Ev.to ?a1 ?a2
    case a1 => walk_at "ev"
    case a2 => simp
  case b => omega
  case e =>
    have h0 : wsum t (at_ w.count) (t + 0) = 0 := wsum_small fun i hi _ => hi
    simp only [h0]
    walk_at "wk"
  case c =>
    intro j d hd
    obtain ⟨rfl, hj⟩ := rng_get hd
    have hj' : t + j < w.count.length := by omega
    have e1 := item_tup (vs := w.count.map intV) (i := t + j) (v := .int (at_ w.count (t + j))) (by rw [List.getElem?_map, List.getElem?_eq_getElem hj']; simp [at_, hj'])
    have e2 : ((t : Int) + (j : Int)) / (t : Int) ≤ 1000 := Int.le_trans (Int.ediv_le_self _ (by omega)) (by omega)
    have e3 : 0 ≤ ((t : Int) + (j : Int)) / (t : Int) := Int.ediv_nonneg (by omega) (by omega)
    rw [Int.natCast_add] at e1
    refine' ⟨_, _, ?x, ?y, ?z⟩
    case x => walk_at "asg"
    case y =>
      (((with_reducible refine' Exs.cons ?y45_84 ?y45_85); (case y45_84 => (((with_reducible refine' Ex.set ?y46_80 ?y46_81 ?y46_82 ?y46_83); (case y46_80 => walk_at "ix"); (case y46_81 => rfl); (case y46_82 => walk_at "ev"); (case y46_83 => exact fun _ _ => rfl))))))
      exact Exs.nil
    case z =>
      have e4 : ((wsum t (at_ w.count) (t + j) : Nat) : Int) + ((t : Int) + (j : Int)) / (t : Int) * (at_ w.count (t + j) : Int) = ((wsum t (at_ w.count) (t + (j + 1)) : Nat) : Int) := by
        rw [← Nat.add_assoc, wsum]; simp
      simp only [List.set, e4]
      walk_at "wk"
  case d =>
    have e5 : wsum t (at_ w.count) (t + ((List.range ((w.count.length : Int) - t).toNat).map fun (i : Nat) => V.int (t + i)).length) = wsum t (at_ w.count) w.count.length := by
      simp only [List.length_map, List.length_range]
      by_cases hle : t ≤ w.count.length
      · congr 1; omega
      · rw [show t + ((w.count.length : Int) - t).toNat = t by omega, wsum_small fun i hi _ => hi, wsum_small fun i hi _ => by omega]
    simp only [e5]
    refine' Exs.ret (Ex.ret (Ev.to ?r1 ?r2))
    case r1 => walk_at "ev"
    case r2 => simp [lvl]
theorem op_equal (H : Here G) (hk : 10 ≤ k) {r1 r2 : List Nat} {w1 w2 : Ws} : Op G k (opCall (.ref (103 : Nat))) [wsV r1 w1, wsV r2 w2] (.bool (decide (w1.count = w2.count ∧ w1.b = w2.b))) := by
  refine Op.fn (F := fr G.w.params 103 ["self", "other"] []) (pn := ["self", "other"]) (rest := []) (k' := 4) [.val (wsV r1 w1), .val (wsV r2 w2)] (isDef H 103) b2 rfl rfl (fr_nodup (by decide +kernel)) rfl rfl rfl rfl rfl ?_ (by omega)
  show Exs _ _ _ _ (_ :: _) _
  have ok : ∀ w : Ws, okV false 8 (.tup [.tup (w.count.map intV), .int w.b]) = true := fun w => by simp [okV]
  refine' Exs.ret (Ex.ret (Ev.to (Ev.cmp ?a ?b (Op.eq_data false (ok w1) (ok w2)) rfl) ?c))
  case a => walk_at "ev"
  case b => walk_at "ev"
  case c =>
    congr 1
    rw [Bool.eq_iff_iff]
    refine (eqV_iff 8 _ _ 8 (ok w1) (ok w2)).trans ?_
    rw [decide_eq_true_eq]
    constructor
    · intro h
      injection h with h
      injection h with h3 h4
      injection h3 with h3
      injection h4 with h4 _
      injection h4 with h4
      refine ⟨?_, by omega⟩
      have := congrArg (List.map fun v => match v with | V.int i => i.toNat | _ => 0) h3
      rw [List.map_map, List.map_map] at this
      have e : ((fun v => match v with | V.int i => i.toNat | _ => 0) ∘ intV) = id := by funext x; simp [intV]
      rw [e] at this
      simpa using this
    · rintro ⟨h1, h2⟩; rw [h1, h2]
/-! Whitespace.less -/
theorem op_less (H : Here G) (hk : 30 ≤ k) {r1 r2 : List Nat} {w o : Ws} {b : Bool} (h1 : w.count.length ≤ 1000) (h2 : o.count.length ≤ 1000) (h3 : w.b ≤ 1000) (h4 : o.b ≤ 1000) (hb : b = true ↔ LessP w o) : Op G k (opCall (.ref (117 : Nat))) [wsV r1 w, wsV r2 o] (.bool b) := by
  refine Op.fn (F := fr G.w.params 117 ["self", "other", "n", "ts"] []) (pn := ["self", "other"]) (rest := ["n", "ts"]) (k' := 20) [.val (wsV r1 w), .val (wsV r2 o), .un, .un] (isDef H 117) b2 rfl rfl (fr_nodup (by decide +kernel)) rfl rfl rfl rfl rfl ?_ (by omega)
  show Exs _ _ _ _ (_ :: _) _
  by_cases hn : w.n < o.n
  · have hn' : ¬ ((o.n : Int) ≤ w.n) := by omega
    refine' Exs.cons (Ex.ite_f ?a ?b Exs.nil) ?c
    case a => walk_at "tr"
    case b => simp; omega
    case c =>
      by_cases hs : w.count.length ≤ 1 ∧ o.count.length ≤ 1
      · have hbb : b = decide ((w.nt : Int) ≤ o.nt) := by
          rw [Bool.eq_iff_iff, hb, decide_eq_true_eq]
          unfold LessP
          rw [if_pos hs]
          exact ⟨fun h => by have := h.2; omega, fun h => ⟨hn, by omega⟩⟩
        refine' Exs.ret (Ex.ite_t (Tr.and_true ?a1 (Tr.and_true ?b1 Tr.and_nil)) ?c1 ?d1)
        case a1 =>
          refine' Tr.to ?a2 ?b2
          case a2 => walk_at "tr"
          case b2 => simp [hs.1]
        case b1 =>
          refine' Tr.to ?a3 ?b3
          case a3 => walk_at "tr"
          case b3 => simp [hs.2]
        case c1 => rfl
        case d1 =>
          rw [hbb]
          (((with_reducible refine' Exs.ret ?y47_87); (case y47_87 => ((with_reducible refine' Ex.ret ?y47_86); (case y47_86 => walk_at "ev")))))
      · refine' Exs.cons (Ex.ite_f (c := false) ?a1 ?c1 Exs.nil) ?d1
        case c1 => rfl
        case a1 =>
          by_cases hs1 : w.count.length ≤ 1
          · refine' Tr.and_true ?a2 (Tr.and_false ?b2)
            case a2 =>
              refine' Tr.to ?a4 ?b4
              case a4 => walk_at "tr"
              case b4 => simp [hs1]
            case b2 =>
              refine' Tr.to ?a5 ?b5
              case a5 => walk_at "tr"
              case b5 => simp; omega
          · refine' Tr.and_false ?a3
            refine' Tr.to ?a6 ?b6
            case a6 => walk_at "tr"
            case b6 => simp; omega
        case d1 =>
          have f1 := op_longest (k := 20) H (by decide) (raw := r1) h1
          have f2 := op_longest (k := 20) H (by decide) (raw := r2) h2
          have hl1 : -1 ≤ longest w ∧ longest w ≤ 1000 := by unfold longest; omega
          have hl2 : -1 ≤ longest o ∧ longest o ≤ 1000 := by unfold longest; omega
          have hl0 : 0 ≤ longest w := by unfold longest; omega
          obtain ⟨n, hn1⟩ : ∃ n : Nat, (n : Int) = max (longest w) (longest o) + 1 := ⟨(max (longest w) (longest o) + 1).toNat, by omega⟩
          refine' Exs.cons (σ₁ := [.val (wsV r1 w), .val (wsV r2 o), .val (.int n), .un]) ?s1 ?s2
          case s1 =>
            rw [hn1]
            refine' Ex.to ?p1 ?q1
            case p1 => (((with_reducible refine' Ex.set ?y48_80 ?y48_81 ?y48_82 ?y48_83); (case y48_80 => walk_at "ix"); (case y48_81 => rfl); (case y48_82 => walk_at "ev"); (case y48_83 => exact fun _ _ => rfl)))
            case q1 => rfl
          case s2 =>
            have turn : ∀ (j : Nat), j < n - 1 → Op G 20 (opCall (.ref (96 : Nat))) [wsV r1 w, .int (2 + j)] (.int (lvl w (2 + j))) ∧ Op G 20 (opCall (.ref (96 : Nat))) [wsV r2 o, .int (2 + j)] (.int (lvl o (2 + j))) := fun j hj => by
              have g1 := op_level (k := 20) H (by decide) (raw := r1) (w := w) (t := 2 + j) h1 (by omega) (by omega)
              have g2 := op_level (k := 20) H (by decide) (raw := r2) (w := o) (t := 2 + j) h2 (by omega) (by omega)
              rw [Int.natCast_add] at g1 g2
              exact ⟨g1, g2⟩
            have hit : iterOf (.rng 2 ((n : Int) + 1)) = some ((List.range (n - 1)).map fun (i : Nat) => V.int (2 + i)) := by
              rw [iter_rng (by omega)]
              congr 3; omega
            have hget : ∀ (j : Nat) (d : V), ((List.range (n - 1)).map fun (i : Nat) => V.int (2 + i))[j]? = some d → d = .int (2 + j) ∧ j < n - 1 := fun j d hd => by
              have e : n - 1 = (((n : Int) + 1) - 2).toNat := by omega
              rw [e] at hd
              have := rng_get hd
              rw [e]; exact this
            have srch := fun target body (hs : ∀ j d, ((List.range (n - 1)).map fun (i : Nat) => V.int (2 + i))[j]? = some d → (decide (lvl w (2 + j) < lvl o (2 + j)) = true → ∃ σa σ', Asg G (fr G.w.params 117 ["self", "other", "n", "ts"] []) 20 [.val (wsV r1 w), .val (wsV r2 o), .val (.int n), .un] target d σa ∧ Exs G (fr G.w.params 117 ["self", "other", "n", "ts"] []) 20 σa body (.next σ') ∧ Wk σ' [.val (wsV r1 w), .val (wsV r2 o), .val (.int n), .un]) ∧
                (decide (lvl w (2 + j) < lvl o (2 + j)) = false → ∃ σa, Asg G (fr G.w.params 117 ["self", "other", "n", "ts"] []) 20 [.val (wsV r1 w), .val (wsV r2 o), .val (.int n), .un] target d σa ∧ Exs G (fr G.w.params 117 ["self", "other", "n", "ts"] []) 20 σa body (.ret (.bool false)))) =>
              Loop.search (G := G) (F := fr G.w.params 117 ["self", "other", "n", "ts"] []) (k := 20) (target := target) (body := body) (v := .bool false) (fun j => decide (lvl w (2 + j) < lvl o (2 + j))) [.val (wsV r1 w), .val (wsV r2 o), .val (.int n), .un] hs _ 0 rfl
            by_cases hall : ∀ i, i < n - 1 → lvl w (2 + i) < lvl o (2 + i)
            · have hbt : b = true := by
                rw [hb]
                refine ⟨hn, ?_⟩
                rw [if_neg hs]
                intro t ht1 ht2
                have := hall (t - 2) (by omega)
                rwa [show 2 + (t - 2) = t by omega] at this
              rw [hbt]
              refine' Exs.cons (Ex.for_ ?f1 hit ((srch _ _ ?f2).1 fun i _ hi => decide_eq_true (hall i (by simpa using hi))) (fun _ _ => rfl)) ?f3
              case f1 => walk_at "ev"
              case f2 =>
                intro j d hd
                obtain ⟨rfl, hj⟩ := hget j d hd
                obtain ⟨g1, g2⟩ := turn j hj
                have hlt := hall j hj
                refine ⟨fun _ => ?_, fun e => by simp at e; omega⟩
                refine' ⟨_, _, ?x, ?y, ?z⟩
                case x => walk_at "asg"
                case y =>
                  refine' Exs.cons (Ex.ite_f ?y1 ?y2 Exs.nil) Exs.nil
                  case y1 => walk_at "tr"
                  case y2 => simp; omega
                case z => walk_at "wk"
              case f3 => (((with_reducible refine' Exs.ret ?y49_87); (case y49_87 => ((with_reducible refine' Ex.ret ?y49_86); (case y49_86 => walk_at "ev")))))
            · have hbf : b = false := by
                rw [Bool.eq_false_iff]
                intro e
                apply hall
                obtain ⟨_, h6⟩ := hb.mp e
                rw [if_neg hs] at h6
                intro i hi
                exact h6 (2 + i) (by omega) (by omega)
              rw [hbf]
              have hex : ∃ i, i < n - 1 ∧ ¬ lvl w (2 + i) < lvl o (2 + i) := by
                refine Classical.byContradiction fun hne => hall fun i hi => ?_
                exact Classical.byContradiction fun h9 => hne ⟨i, hi, h9⟩
              obtain ⟨i0, hi0, hi1⟩ := hex
              refine' Exs.ret (Ex.for_ ?f1 hit ((srch _ _ ?f2).2 ⟨i0, Nat.zero_le _, by simpa using hi0, decide_eq_false hi1⟩) (fun _ _ => rfl))
              case f1 => walk_at "ev"
              case f2 =>
                intro j d hd
                obtain ⟨rfl, hj⟩ := hget j d hd
                obtain ⟨g1, g2⟩ := turn j hj
                refine ⟨fun e => ?_, fun e => ?_⟩
                · have hlt := of_decide_eq_true e
                  refine' ⟨_, _, ?x, ?y, ?z⟩
                  case x => walk_at "asg"
                  case y =>
                    refine' Exs.cons (Ex.ite_f ?y1 ?y2 Exs.nil) Exs.nil
                    case y1 => walk_at "tr"
                    case y2 => simp; omega
                  case z => walk_at "wk"
                · have hlt := of_decide_eq_false e
                  refine' ⟨_, ?x4, Exs.ret (Ex.ite_t ?y4 ?y5 ?y6)⟩
                  case x4 => walk_at "asg"
                  case y4 => walk_at "tr"
                  case y5 => simp; omega
                  case y6 => (((with_reducible refine' Exs.ret ?y50_87); (case y50_87 => ((with_reducible refine' Ex.ret ?y50_86); (case y50_86 => walk_at "ev")))))
  · have hbf : b = false := by
      rw [Bool.eq_false_iff]; intro e; exact hn (hb.mp e).1
    rw [hbf]
    refine' Exs.ret (Ex.ite_t ?a ?b ?c)
    case a => walk_at "tr"
    case b => simp; omega
    case c => (((with_reducible refine' Exs.ret ?y51_87); (case y51_87 => ((with_reducible refine' Ex.ret ?y51_86); (case y51_86 => walk_at "ev")))))
/-! Whitespace.__init__ -/
abbrev wsSt (x : Addr) (raw : List Nat) (w : Ws) : List Mine.Slot := [.self x ["raw"] [.str raw], .val (.str raw), .val (.str [32]), .val (.str [9]), .own (w.count.map intV), .val (.int w.b), .val (.int w.n), .val (.int w.nt), .un]
def wsFit (w : Ws) (l : List Nat) : Prop := w.b + l.length ≤ 900 ∧ w.count.length ≤ 901
theorem wsFit.next {w w' : Ws} {c : Nat} {l : List Nat} (h : wsFit w (c :: l)) (e : wsNext w c = some w') : wsFit w' l := by
  obtain ⟨h1, h2⟩ := h
  simp only [List.length_cons] at h1
  unfold wsNext at e
  split at e
  · cases e; exact ⟨by simp only; omega, h2⟩
  · split at e
    · cases e; exact ⟨by simp only; omega, by simp only; rw [bump_length]; omega⟩
    · cases e
theorem wsFit.scan : ∀ (l : List Nat) (w : Ws), wsFit w l → (Mine.scan wsNext w l).count.length ≤ 901 ∧ (Mine.scan wsNext w l).b ≤ 900
  | [], w, h => ⟨h.2, by have := h.1; simp at this; exact this⟩
  | c :: l, w, h => by
    rw [Mine.scan]
    cases e : wsNext w c with
    | none => exact ⟨h.2, by have := h.1; simp at this; simp only; omega⟩
    | some w' => exact wsFit.scan l w' (h.next e)
theorem wsFit0 {raw : List Nat} (hr : raw.length ≤ 900) : wsFit ws0 raw := ⟨by simp [ws0]; exact hr, by simp [ws0]⟩
theorem flat_one (m : Nat) : (List.replicate m [V.int 0]).flatten = List.replicate m (V.int 0) := by
  induction m with
  | zero => rfl
  | succ m ih => rw [List.replicate_succ, List.replicate_succ, List.flatten_cons, ih]; rfl
theorem op_init (H : Here G) (hk : 20 ≤ k) {raw : List Nat} (hr : raw.length ≤ 900) : Op G k (opCall (.ref (127 : Nat))) [.str raw] (wsV raw (wsRun ws0 raw)) := by
  have key : Op G k (opCall (.ref G.C)) [.str raw] (wsV raw (wsRun ws0 raw)) := by
    refine Op.make (F := fr G.w.params 82 ["self", "ws", "S", "T", "count", "b", "n", "nt", "ch"] []) (fI := (82 : Nat)) (x0 := "self") (x1 := "ws") (rest := ["S", "T", "count", "b", "n", "nt", "ch"]) (k' := 10) (clsOk H) (by rw [H.K, H.C]; rfl) (by rw [H.K]; rfl) (isDef H 82) rfl (fun v w => (bind_mini (names := ["self", "ws"]) (star := none) (dflt := .none) rfl rfl rfl rfl rfl rfl rfl _).trans rfl) rfl (fr_nodup (by decide +kernel)) rfl rfl rfl rfl (fun x => ?_) (by omega)
    refine ⟨[.self x fieldNames [.str raw, .int (wsRun ws0 raw).n, .int (wsRun ws0 raw).nt, .tup [.tup ((wsRun ws0 raw).count.map intV), .int (wsRun ws0 raw).b], .bool (decide ((wsRun ws0 raw).count.length ≤ 1))], .val (.str raw), .val (.str [32]), .val (.str [9]), .val (.lst ((wsRun ws0 raw).count.map intV)), .val (.int (wsRun ws0 raw).b), .val (.int (wsRun ws0 raw).n), .val (.int (wsRun ws0 raw).nt), .un], ?e, rfl⟩
    show Exs _ _ _ [.self x [] [], .val (.str raw), .un, .un, .un, .un, .un, .un, .un] (_ :: _) _
    (((with_reducible refine' Exs.cons ?y52_132 ?y52_133); (case y52_132 => ((with_reducible refine' Ex.setattr (clsOk ‹_›) ?y52_123 ?y52_124 ?y52_125 ?y52_126 ?y52_127 ?y52_128 ?y52_129 ?y52_130 ?y52_131); (case y52_123 => walk_at "ev"); (case y52_124 => walk_at "ix"); (case y52_125 => rfl); (case y52_126 => rfl); (case y52_127 => decide +kernel); (case y52_128 => decide +kernel); (case y52_129 => decide); (case y52_130 => exact fun _ _ => rfl); (case y52_131 => exact fun _ => rfl)))))
    refine' Exs.cons (Ex.swapped2 (i := 2) (j := 3) (u := .str [32]) (v := .str [9]) ?a rfl rfl rfl rfl (fun _ _ => rfl) ?b) ?c
    case a => exact Evs.cons (cls_S H) (Evs.cons (cls_T H) Evs.nil)
    case b =>
      intro env he
      obtain ⟨sc, a1, a2, a3, a4⟩ := env
      simp only at he
      subst he; rfl
    case c =>
      (((with_reducible refine' Exs.cons ?y53_108 ?y53_109); (case y53_108 => ((with_reducible refine' Ex.ownNil ?y53_104 ?y53_105 ?y53_106 ?y53_107); (case y53_104 => walk_at "ix"); (case y53_105 => rfl); (case y53_106 => rfl); (case y53_107 => exact fun _ _ => rfl)))))
      refine' Exs.cons (Ex.assign (v := .int 0) ?a (AsgAll.cons ?b1 (AsgAll.cons ?b2 (AsgAll.one ?b3 rfl) rfl) rfl) (fun _ _ => rfl) (fun _ => rfl)) ?c
      case a => walk_at "ev"
      case b1 => walk_at "asg"
      case b2 => walk_at "asg"
      case b3 => walk_at "asg"
      case c =>
        rw [wsRun_scan]
        have hfin := wsFit.scan raw ws0 (wsFit0 hr)
        refine' Exs.cons (Ex.for_ (σ₁ := wsSt x raw ws0) (v := .str raw) ?a rfl (Loop.scan (fun c => .str [c]) (wsSt x raw) wsNext wsFit ?h1 ?h2 raw ws0 (wsFit0 hr)) (fun _ _ => rfl)) ?c
        case a => exact Ev.attr_self (clsOk H) (i := 0) (j := 0) rfl rfl rfl (by decide +kernel) rfl (by decide +kernel) rfl
        case h1 =>
          intro w c l w' ok e
          have ok' := ok.next e
          obtain ⟨ok1, ok2⟩ := ok
          simp only [List.length_cons] at ok1
          refine ⟨ok', ?_⟩
          unfold wsNext at e
          by_cases h32 : c = 32
          · subst h32
            rw [if_pos rfl] at e; cases e
            refine' ⟨_, _, ?x, ?y, ?z⟩
            case x => walk_at "asg"
            case y =>
              refine' Exs.cons (Ex.ite_t ?y1 ?y2 ?y3) Exs.nil
              case y1 => walk_at "tr"
              case y2 => rfl
              case y3 =>
                (((with_reducible refine' Exs.cons ?y54_84 ?y54_85); (case y54_84 => (((with_reducible refine' Ex.set ?y55_80 ?y55_81 ?y55_82 ?y55_83); (case y55_80 => walk_at "ix"); (case y55_81 => rfl); (case y55_82 => walk_at "ev"); (case y55_83 => exact fun _ _ => rfl))))))
                (((with_reducible refine' Exs.cons ?y56_84 ?y56_85); (case y56_84 => (((with_reducible refine' Ex.set ?y57_80 ?y57_81 ?y57_82 ?y57_83); (case y57_80 => walk_at "ix"); (case y57_81 => rfl); (case y57_82 => walk_at "ev"); (case y57_83 => exact fun _ _ => rfl))))))
                exact Exs.nil
            case z => walk_at "wk"
          · rw [if_neg h32] at e
            by_cases h9 : c = 9
            · subst h9
              rw [if_pos rfl] at e; cases e
              obtain ⟨c', hc', hcl, hgrow, hskip⟩ : ∃ c' : List Nat, c' = (if w.count.length ≤ w.b then w.count ++ List.replicate (w.b - w.count.length + 1) 0 else w.count) ∧ w.b < c'.length ∧ (w.count.length ≤ w.b → c' = w.count ++ List.replicate (w.b - w.count.length + 1) 0) ∧ (¬ w.count.length ≤ w.b → c' = w.count) := by
                refine ⟨_, rfl, ?_, fun h => if_pos h, fun h => if_neg h⟩
                split
                · simp; omega
                · omega
              have hc2 : c'.length ≤ 901 := by
                rw [hc']; split
                · simp; omega
                · omega
              have hbump : bump w.count w.b = c'.set w.b (c'.getD w.b 0 + 1) := by rw [bump_is, hc']
              have hitem : itemV (.lst (c'.map intV)) (w.b : Int) = some (.int ((c'.getD w.b 0 : Nat) : Int)) := item_at (by rw [List.getElem?_map, List.getElem?_eq_getElem hcl]; simp [hcl])
              refine' ⟨_, _, ?x, ?y, ?z⟩
              case x => walk_at "asg"
              case y =>
                refine' Exs.cons (Ex.ite_f ?y1 ?y2 (Exs.cons (Ex.ite_t ?y3 ?y4 ?y5) Exs.nil)) Exs.nil
                case y1 => walk_at "tr"
                case y2 => rfl
                case y3 => walk_at "tr"
                case y4 => rfl
                case y5 =>
                  (((with_reducible refine' Exs.cons ?y58_84 ?y58_85); (case y58_84 => (((with_reducible refine' Ex.set ?y59_80 ?y59_81 ?y59_82 ?y59_83); (case y59_80 => walk_at "ix"); (case y59_81 => rfl); (case y59_82 => walk_at "ev"); (case y59_83 => exact fun _ _ => rfl))))))
                  (((with_reducible refine' Exs.cons ?y60_84 ?y60_85); (case y60_84 => (((with_reducible refine' Ex.set ?y61_80 ?y61_81 ?y61_82 ?y61_83); (case y61_80 => walk_at "ix"); (case y61_81 => rfl); (case y61_82 => walk_at "ev"); (case y61_83 => exact fun _ _ => rfl))))))
                  refine' Exs.cons (σ₁ := [.self x ["raw"] [.str raw], .val (.str raw), .val (.str [32]), .val (.str [9]), .own (c'.map intV), .val (.int w.b), .val (.int ((w.n : Int) + 1)), .val (.int ((w.nt : Int) + 1)), .val (.str [9])]) ?g1 ?g2
                  case g1 =>
                    by_cases hb : w.count.length ≤ w.b
                    · refine' Ex.ite_t ?p1 ?p2 (Exs.cons (Ex.to (Ex.ownAdd (i := 4) ?q1 ?q2 ?q3 ?q6 ?q7 ?q4 (fun _ _ => rfl)) ?q5) Exs.nil)
                      case p1 => walk_at "tr"
                      case p2 => simp; omega
                      case q1 => walk_at "frz"
                      case q2 => walk_at "ev"
                      case q3 => rfl
                      case q6 => rfl
                      case q7 => rfl
                      case q4 => simp; omega
                      case q5 =>
                        rw [hgrow hb]
                        have e1 : ((w.b : Int) - ((w.count.map intV).length : Nat) + 1).toNat = w.b - w.count.length + 1 := by simp; omega
                        rw [e1, flat_one, List.map_append, List.map_replicate]
                        rfl
                    · refine' Ex.ite_f ?p4 ?p5 (Exs.to Exs.nil ?p3)
                      case p4 => walk_at "tr"
                      case p5 => simp; omega
                      case p3 => rw [hskip hb]; rfl
                  case g2 =>
                    refine' Exs.cons (Ex.setitem (i := 4) (j := w.b) rfl rfl rfl rfl ?s1 ?s2 ?s3 ?s4 (fun _ => rfl)) ?s5
                    case s1 =>
                      refine' Ev.bin (Ev.item_own (i := 4) rfl rfl rfl rfl ?t1 hitem ?t2 (fun _ _ => rfl)) ?t3 ?t4
                      case t1 => intro r; walk_at "ev"
                      case t2 => omega
                      case t3 => walk_at "ev"
                      case t4 => walk_at "op"
                    case s2 => intro r; walk_at "ev"
                    case s3 => simpa using hcl
                    case s4 => simp; omega
                    case s5 =>
                      (((with_reducible refine' Exs.cons ?y62_84 ?y62_85); (case y62_84 => (((with_reducible refine' Ex.set ?y63_80 ?y63_81 ?y63_82 ?y63_83); (case y63_80 => walk_at "ix"); (case y63_81 => rfl); (case y63_82 => walk_at "ev"); (case y63_83 => exact fun _ _ => rfl))))))
                      exact Exs.nil
              case z =>
                have e2 : (bump w.count w.b).map intV = (c'.map intV).set w.b (.int (((c'.getD w.b 0 : Nat) : Int) + 1)) := by
                  rw [hbump, List.map_set]; rfl
                show Wk _ [_, _, _, _, .own ((bump w.count w.b).map intV), _, _, _, _]
                rw [e2]
                exact Wk.keep (Wk.keep (Wk.keep (Wk.keep (Wk.keep (Wk.keep (Wk.keep (Wk.keep (Wk.un Wk.nil))))))))
            · rw [if_neg h9] at e; cases e
        case h2 =>
          intro w c l ok e
          have hc : c ≠ 32 ∧ c ≠ 9 := by
            unfold wsNext at e
            refine ⟨fun h => ?_, fun h => ?_⟩
            · rw [if_pos h] at e; cases e
            · subst h; rw [if_neg (by decide), if_pos rfl] at e; cases e
          refine' ⟨_, _, ?x, ?y, ?z⟩
          case x => walk_at "asg"
          case y =>
            refine' Exs.brk (Ex.ite_f ?y1 ?y2 (Exs.brk (Ex.ite_f ?y3 ?y4 (Exs.brk Ex.brk))))
            case y1 => walk_at "tr"
            case y2 => simp [hc.1]
            case y3 => walk_at "tr"
            case y4 => simp [hc.2]
          case z => walk_at "wk"
        case c =>
          generalize Mine.scan wsNext ws0 raw = w at hfin
          (((with_reducible refine' Exs.cons ?y64_132 ?y64_133); (case y64_132 => ((with_reducible refine' Ex.setattr (clsOk ‹_›) ?y64_123 ?y64_124 ?y64_125 ?y64_126 ?y64_127 ?y64_128 ?y64_129 ?y64_130 ?y64_131); (case y64_123 => walk_at "ev"); (case y64_124 => walk_at "ix"); (case y64_125 => rfl); (case y64_126 => rfl); (case y64_127 => decide +kernel); (case y64_128 => decide +kernel); (case y64_129 => decide); (case y64_130 => exact fun _ _ => rfl); (case y64_131 => exact fun _ => rfl)))))
          (((with_reducible refine' Exs.cons ?y65_132 ?y65_133); (case y65_132 => ((with_reducible refine' Ex.setattr (clsOk ‹_›) ?y65_123 ?y65_124 ?y65_125 ?y65_126 ?y65_127 ?y65_128 ?y65_129 ?y65_130 ?y65_131); (case y65_123 => walk_at "ev"); (case y65_124 => walk_at "ix"); (case y65_125 => rfl); (case y65_126 => rfl); (case y65_127 => decide +kernel); (case y65_128 => decide +kernel); (case y65_129 => decide); (case y65_130 => exact fun _ _ => rfl); (case y65_131 => exact fun _ => rfl)))))
          (((with_reducible refine' Exs.cons ?y66_132 ?y66_133); (case y66_132 => ((with_reducible refine' Ex.setattr (clsOk ‹_›) ?y66_123 ?y66_124 ?y66_125 ?y66_126 ?y66_127 ?y66_128 ?y66_129 ?y66_130 ?y66_131); (case y66_123 => walk_at "ev"); (case y66_124 => walk_at "ix"); (case y66_125 => rfl); (case y66_126 => rfl); (case y66_127 => decide +kernel); (case y66_128 => decide +kernel); (case y66_129 => decide); (case y66_130 => exact fun _ _ => rfl); (case y66_131 => exact fun _ => rfl)))))
          (((with_reducible refine' Exs.cons ?y67_132 ?y67_133); (case y67_132 => ((with_reducible refine' Ex.setattr (clsOk ‹_›) ?y67_123 ?y67_124 ?y67_125 ?y67_126 ?y67_127 ?y67_128 ?y67_129 ?y67_130 ?y67_131); (case y67_123 => walk_at "ev"); (case y67_124 => walk_at "ix"); (case y67_125 => rfl); (case y67_126 => rfl); (case y67_127 => decide +kernel); (case y67_128 => decide +kernel); (case y67_129 => decide); (case y67_130 => exact fun _ _ => rfl); (case y67_131 => exact fun _ => rfl)))))
          refine Exs.to Exs.nil ?_
          simp
          exact ⟨rfl, by omega⟩
  rw [H.C] at key
  exact key
/-! _law_rows -/
theorem steps_snoc : ∀ (as : List Int) (a : Int) (k : Nat) (st : List Row × List Row), steps k (as ++ [a]) st = step1 (k + as.length) a (steps k as st)
  | [], a, k, st => rfl
  | b :: as, a, k, st => by
    rw [List.cons_append, steps, steps_snoc as a (k + 1), steps, List.length_cons]
    congr 1; omega
def stN (acts : List Int) (j : Nat) : List Row × List Row := steps 0 (acts.take j) start0
theorem stN_succ {acts : List Int} {j : Nat} {a : Int} (h : acts[j]? = some a) : stN acts (j + 1) = step1 j a (stN acts j) := by
  unfold stN
  have hl : j < acts.length := (List.getElem?_eq_some_iff.mp h).1
  rw [List.take_add_one, h]
  show steps 0 (acts.take j ++ [a]) start0 = _
  rw [steps_snoc, List.length_take, Nat.zero_add, Nat.min_eq_left (by omega)]
theorem stN_two {acts : List Int} (hl : acts.length ≤ 5) (ha : ∀ a ∈ acts, 0 ≤ a ∧ a < 64) (j : Nat) : Two 5 (stN acts j) := by
  have h := steps_ok (acts.take j) 0 0 start0 (by simp; omega) (fun a h => ha a (List.mem_of_mem_take h)) two_start
  exact ⟨h.one.mono (by simp; omega), h.two.mono (by simp; omega)⟩
theorem letter_at {j : Nat} (h : j < 5) : itemV (.str [99, 100, 101, 102, 103]) (j : Int) = some (.str [99 + j]) := by
  have : j = 0 ∨ j = 1 ∨ j = 2 ∨ j = 3 ∨ j = 4 := by omega
  rcases this with rfl | rfl | rfl | rfl | rfl <;> rfl
theorem op_rows (H : Here G) (hk : 60 ≤ k) {acts : List Int} (hl : acts.length ≤ 5) (ha : ∀ a ∈ acts, 0 ≤ a ∧ a < 64) : Op G k (opCall (.ref (150 : Nat))) [.lst (acts.map .int)] (.lst ((allRows acts).map rowV)) := by
  refine Op.fn (F := fr G.w.params 150 ["acts", "first", "second", "k", "rows", "gap", "fresh"] ["acts", "k", "fresh"]) (pn := ["acts"]) (rest := ["first", "second", "k", "rows", "gap", "fresh"]) (k' := 40) [.val (.lst (acts.map .int)), .un, .un, .un, .un, .un, .un] (isDef H 150) b1 rfl rfl (fr_nodup (by decide +kernel)) rfl rfl rfl rfl rfl ?_ (by omega)
  show Exs _ _ _ _ (_ :: _) _
  (((with_reducible refine' Exs.cons ?y68_84 ?y68_85); (case y68_84 => (((with_reducible refine' Ex.set ?y69_80 ?y69_81 ?y69_82 ?y69_83); (case y69_80 => walk_at "ix"); (case y69_81 => rfl); (case y69_82 => walk_at "ev"); (case y69_83 => exact fun _ _ => rfl))))))
  (((with_reducible refine' Exs.cons ?y70_84 ?y70_85); (case y70_84 => (((with_reducible refine' Ex.set ?y71_80 ?y71_81 ?y71_82 ?y71_83); (case y71_80 => walk_at "ix"); (case y71_81 => rfl); (case y71_82 => walk_at "ev"); (case y71_83 => exact fun _ _ => rfl))))))
  have hit : iterOf (.rng 0 (acts.length : Int)) = some ((List.range acts.length).map fun (i : Nat) => V.int i) := by
    rw [iter_rng (by omega)]; simp
  refine' Exs.for_st (v := .rng 0 acts.length) (fun j => [.val (.lst (acts.map .int)), .val (.lst ((stN acts j).1.map rowV)), .val (.lst ((stN acts j).2.map rowV)), .un, .un, .un, .un]) ?a hit ?e ?c ?d (fun _ _ => rfl)
  case a =>
    refine' Ev.to ?a1 ?a2
    case a1 => walk_at "ev"
    case a2 => simp
  case e => walk_at "wk"
  case c =>
    intro j d hd
    rw [List.getElem?_map] at hd
    cases hr : (List.range acts.length)[j]? with
    | none => rw [hr] at hd; cases hd
    | some i =>
      rw [hr] at hd; cases hd
      obtain ⟨h1, h2⟩ := List.getElem?_eq_some_iff.mp hr
      rw [List.getElem_range] at h2
      subst h2
      have hj : j < acts.length := by simpa using h1
      obtain ⟨a, hat⟩ : ∃ a, acts[j]? = some a := ⟨_, List.getElem?_eq_getElem hj⟩
      have haa := ha a (List.mem_of_getElem? hat)
      have hitem := item_int hat
      have hlet := letter_at (show j < 5 by omega)
      have two := stN_two hl ha j
      rw [stN_succ hat]
      have hunit := op_unit (k := 40) H (by decide) haa
      have hgl : (rep [32] (a / 32)).length ≤ 1 := by rw [rep_one, List.length_replicate]; omega
      have hul := unitT_length a
      obtain ⟨rows, hrows⟩ : ∃ rows, rows = if a % 2 = 1 then (stN acts j).2 else (stN acts j).1 := ⟨_, rfl⟩
      have hpage : PageOk 5 rows := by rw [hrows]; split; exact two.two; exact two.one
      have hlen := hpage.len
      have hstep : step1 j a (stN acts j) = if a % 2 = 1 then ((stN acts j).1, grow j a rows) else (grow j a rows, (stN acts j).2) := by
        unfold step1; rw [hrows]; split <;> rfl
      rw [hstep]
      generalize (stN acts j).1 = first at hrows
      generalize (stN acts j).2 = second at hrows
      have hbl : ∀ r ∈ rows, Op G 40 (opCall (.ref (145 : Nat))) [rowV r, .str (unitT a), .str [99 + j]] (rowV (below (unitT a) [99 + j] r)) := fun r hr => op_below H (by decide) (hpage.fits r hr) (by omega)
      refine' ⟨_, [.val (.lst (acts.map .int)), .val (.lst ((if a % 2 = 1 then (first, grow j a rows) else (grow j a rows, second)).1.map rowV)), .val (.lst ((if a % 2 = 1 then (first, grow j a rows) else (grow j a rows, second)).2.map rowV)), .val (.int j), .val (.lst ((grow j a rows).map rowV)), .val (rowV (gapR a)), .val (rowV (freshR j))], ?x, ?y, ?z⟩
      case x => walk_at "asg"
      case z => walk_at "wk"
      case y =>
        refine' Exs.cons (σ₁ := [.val (.lst (acts.map .int)), .val (.lst (first.map rowV)), .val (.lst (second.map rowV)), .val (.int j), .val (.lst (rows.map rowV)), .un, .un]) ?s1 ?s2
        case s1 =>
          refine' Ex.to (Ex.set (i := 4) (v := .lst (rows.map rowV)) (σ₁ := [.val (.lst (acts.map .int)), .val (.lst (first.map rowV)), .val (.lst (second.map rowV)), .val (.int j), .un, .un, .un]) rfl rfl ?v1 (fun _ _ => rfl)) ?v2
          case v1 =>
            by_cases hp : a % 2 = 1
            · rw [if_pos hp] at hrows
              rw [hrows]
              refine' Ev.ife_t ?w1_1 ?w2_1 ?w3_1
              case w1_1 => walk_at "tr"
              case w2_1 => simp [hp]
              case w3_1 => exact Ev.var (i := 2) rfl rfl rfl
            · rw [if_neg hp] at hrows
              rw [hrows]
              refine' Ev.ife_f ?w4_2 ?w5_2 ?w6_2
              case w4_2 => walk_at "tr"
              case w5_2 => simp; omega
              case w6_2 => exact Ev.var (i := 1) rfl rfl rfl
          case v2 => rfl
        case s2 =>
          (((with_reducible refine' Exs.cons ?y72_84 ?y72_85); (case y72_84 => (((with_reducible refine' Ex.set ?y73_80 ?y73_81 ?y73_82 ?y73_83); (case y73_80 => walk_at "ix"); (case y73_81 => rfl); (case y73_82 => walk_at "ev"); (case y73_83 => exact fun _ _ => rfl))))))
          (((with_reducible refine' Exs.cons ?y74_84 ?y74_85); (case y74_84 => (((with_reducible refine' Ex.set ?y75_80 ?y75_81 ?y75_82 ?y75_83); (case y75_80 => walk_at "ix"); (case y75_81 => rfl); (case y75_82 => walk_at "ev"); (case y75_83 => exact fun _ _ => rfl))))))
          refine' Exs.cons (σ₁ := [.val (.lst (acts.map .int)), .val (.lst (first.map rowV)), .val (.lst (second.map rowV)), .val (.int j), .val (.lst ((grow j a rows).map rowV)), .val (rowV (gapR a)), .val (rowV (freshR j))]) ?i1 ?i2
          case i1 =>
            unfold grow
            by_cases hb : a / 2 % 2 = 1
            · rw [if_pos hb]
              refine' Ex.ite_t ?w1_3 ?w2_3 (Exs.cons (Ex.to ?w3_3 ?w4_3) Exs.nil)
              case w1_3 => walk_at "tr"
              case w2_3 => simp [hb]
              case w3_3 => (((with_reducible refine' Ex.set ?y76_80 ?y76_81 ?y76_82 ?y76_83); (case y76_80 => walk_at "ix"); (case y76_81 => rfl); (case y76_82 => walk_at "ev"); (case y76_83 => exact fun _ _ => rfl)))
              case w4_3 => rw [List.map_append]; rfl
            · rw [if_neg hb]
              refine' Ex.ite_f ?w1_4 ?w2_4 (Exs.cons (Ex.to (Ex.set (i := 4) rfl rfl (Ev.bin ?w3_4 (Ev.comp (v := .lst (rows.map rowV)) (vs := ["row"]) (oc := none) (cap := [("acts", .lst (acts.map .int)), ("k", .int j), ("fresh", rowV (freshR j))]) ?w5_4 rfl (CompOk.of [0, 3, 6] ["row", "acts", "k", "fresh"] ?c1 ?c2 ?c3 ?c4 ?c5 ?c6 ?c7 ?c8 ?c9) (CRun.one (CLoop.ofMap rowV (fun r => rowV (below (unitT a) [99 + j] r)) rows ?l) ?w6_4) (fun _ _ => rfl)) ?w7_4) (fun _ _ => rfl)) ?w8_4) Exs.nil)
              case w1_4 => walk_at "tr"
              case w2_4 => simp; omega
              case w3_4 => walk_at "ev"
              case w5_4 => walk_at "ev"
              case w6_4 => simp; omega
              case w7_4 => walk_at "op"
              case w8_4 => simp; exact ⟨⟨⟨rfl, rfl, rfl⟩, rfl, rfl, rfl⟩, ⟨rfl, rfl, rfl⟩, rfl, rfl, rfl⟩
              case l =>
                intro r hr
                have hbr := hbl r hr
                refine' CTurn.plain ?t1 ?t3 ?t4
                case t1 => walk_at "asg"
                case t3 => walk_at "ev"
                case t4 => walk_at "wk"
              case c7 => exact ⟨⟨rfl, rfl, rfl, rfl, rfl, rfl⟩, ⟨rfl, rfl, rfl, rfl, rfl, rfl⟩, ⟨rfl, rfl, rfl, rfl, rfl, rfl⟩, trivial⟩
              all_goals (((all_goals first | decide +kernel | rfl | exact fun _ _ => rfl | exact fun _ => rfl | trivial | exact ⟨rfl, rfl⟩ | exact ⟨⟨rfl, rfl, rfl, rfl, rfl, rfl⟩, trivial⟩ | exact ⟨⟨rfl, rfl, rfl, rfl, rfl, rfl⟩, ⟨rfl, rfl, rfl, rfl, rfl, rfl⟩, trivial⟩)))
          case i2 =>
            by_cases hp : a % 2 = 1
            · rw [if_pos hp]
              refine' Exs.cons (Ex.ite_t ?w1_5 ?w2_5 (Exs.cons (Ex.to ?w3_5 ?w4_5) Exs.nil)) Exs.nil
              case w1_5 => walk_at "tr"
              case w2_5 => simp [hp]
              case w3_5 => (((with_reducible refine' Ex.set ?y78_80 ?y78_81 ?y78_82 ?y78_83); (case y78_80 => walk_at "ix"); (case y78_81 => rfl); (case y78_82 => walk_at "ev"); (case y78_83 => exact fun _ _ => rfl)))
              case w4_5 => rfl
            · rw [if_neg hp]
              refine' Exs.cons (Ex.ite_f ?w1_6 ?w2_6 (Exs.cons (Ex.to ?w3_6 ?w4_6) Exs.nil)) Exs.nil
              case w1_6 => walk_at "tr"
              case w2_6 => simp; omega
              case w3_6 => (((with_reducible refine' Ex.set ?y79_80 ?y79_81 ?y79_82 ?y79_83); (case y79_80 => walk_at "ix"); (case y79_81 => rfl); (case y79_82 => walk_at "ev"); (case y79_83 => exact fun _ _ => rfl)))
              case w4_6 => rfl
  case d =>
    have two := stN_two hl ha acts.length
    have e : stN acts acts.length = steps 0 acts start0 := by unfold stN; rw [List.take_length]
    have l1 := two.one.len
    have l2 := two.two.len
    simp only [List.length_map, List.length_range]
    refine' Exs.ret (Ex.ret (Ev.to ?r1 ?r2))
    case r1 => walk_at "ev"
    case r2 =>
      unfold allRows
      rw [← e]
      simp
      exact ⟨rfl, rfl, rfl⟩
/-! _law_page -/
theorem stN_twoj {acts : List Int} (hl : acts.length ≤ 5) (ha : ∀ a ∈ acts, 0 ≤ a ∧ a < 64) (j : Nat) (hj : j ≤ acts.length) : Two j (stN acts j) := by
  have h := steps_ok (acts.take j) 0 0 start0 (by simp; omega) (fun a h => ha a (List.mem_of_mem_take h)) two_start
  rw [Nat.zero_add, List.length_take, Nat.min_eq_left hj] at h
  exact h
theorem letter_ne45 (j : Nat) : ([99 + j] : List Nat) ≠ [45] := by simp; omega
theorem letter_small {j : Nat} (h : j < 5) : ∀ c ∈ ([99 + j] : List Nat), c < 128 := fun c hc => by simp at hc; omega
theorem mod4_le (a : Int) : 0 ≤ a / 4 % 4 ∧ a / 4 % 4 ≤ 4 := by omega
theorem op_page (H : Here G) (hk : 60 ≤ k) {acts : List Int} (hl : acts.length ≤ 5) (ha : ∀ a ∈ acts, 0 ≤ a ∧ a < 64) : Op G k (opCall (.ref (157 : Nat))) [.lst (acts.map .int)] (.str (txt (allRows acts))) := by
  refine Op.fn (F := fr G.w.params 157 ["acts", "first", "second", "k", "page", "gap", "fresh", "grown", "below"] []) (pn := ["acts"]) (rest := ["first", "second", "k", "page", "gap", "fresh", "grown", "below"]) (k' := 40) [.val (.lst (acts.map .int)), .un, .un, .un, .un, .un, .un, .un, .un] (isDef H 157) b1 rfl rfl (fr_nodup (by decide +kernel)) rfl rfl rfl rfl rfl ?_ (by omega)
  show Exs _ _ _ _ (_ :: _) _
  (((with_reducible refine' Exs.cons ?y80_84 ?y80_85); (case y80_84 => (((with_reducible refine' Ex.set ?y81_80 ?y81_81 ?y81_82 ?y81_83); (case y81_80 => walk_at "ix"); (case y81_81 => rfl); (case y81_82 => walk_at "ev"); (case y81_83 => exact fun _ _ => rfl))))))
  (((with_reducible refine' Exs.cons ?y82_84 ?y82_85); (case y82_84 => (((with_reducible refine' Ex.set ?y83_80 ?y83_81 ?y83_82 ?y83_83); (case y83_80 => walk_at "ix"); (case y83_81 => rfl); (case y83_82 => walk_at "ev"); (case y83_83 => exact fun _ _ => rfl))))))
  have hit : iterOf (.rng 0 (acts.length : Int)) = some ((List.range acts.length).map fun (i : Nat) => V.int i) := by
    rw [iter_rng (by omega)]; simp
  refine' Exs.for_st (v := .rng 0 acts.length) (fun j => [.val (.lst (acts.map .int)), .val (.str (txt (stN acts j).1)), .val (.str (txt (stN acts j).2)), .un, .un, .un, .un, .un, .un]) ?a hit ?e ?c ?d (fun _ _ => rfl)
  case a =>
    refine' Ev.to ?a1 ?a2
    case a1 => walk_at "ev"
    case a2 => simp
  case e => walk_at "wk"
  case c =>
    intro j d hd
    rw [List.getElem?_map] at hd
    cases hr : (List.range acts.length)[j]? with
    | none => rw [hr] at hd; cases hd
    | some i =>
      rw [hr] at hd; cases hd
      obtain ⟨h1, h2⟩ := List.getElem?_eq_some_iff.mp hr
      rw [List.getElem_range] at h2
      subst h2
      have hj : j < acts.length := by simpa using h1
      obtain ⟨a, hat⟩ : ∃ a, acts[j]? = some a := ⟨_, List.getElem?_eq_getElem hj⟩
      have haa := ha a (List.mem_of_getElem? hat)
      have hitem := item_int hat
      have hlet := letter_at (show j < 5 by omega)
      have two := stN_twoj hl ha j (by omega)
      rw [stN_succ hat]
      have hunit := op_unit (k := 40) H (by decide) haa
      have hgl : (rep [32] (a / 32)).length ≤ 1 := by rw [rep_one, List.length_replicate]; omega
      have hul := unitT_length a
      obtain ⟨rows, hrows⟩ : ∃ rows, rows = if a % 2 = 1 then (stN acts j).2 else (stN acts j).1 := ⟨_, rfl⟩
      have hpage : PageOk j rows := by rw [hrows]; split; exact two.two; exact two.one
      have hstep : step1 j a (stN acts j) = if a % 2 = 1 then ((stN acts j).1, grow j a rows) else (grow j a rows, (stN acts j).2) := by
        unfold step1; rw [hrows]; split <;> rfl
      rw [hstep]
      generalize (stN acts j).1 = first at hrows
      generalize (stN acts j).2 = second at hrows
      have hj5 : j < 5 := Nat.lt_of_lt_of_le hj hl
      have hgrown : PageOk (j + 1) (grow j a rows) := hpage.grow hj5 haa
      have hsm := hpage.small (Nat.le_of_lt hj5)
      have hgsm := hgrown.small hj5
      have hrl := hpage.len
      refine' ⟨_, [.val (.lst (acts.map .int)), .val (.str (txt (if a % 2 = 1 then (first, grow j a rows) else (grow j a rows, second)).1)), .val (.str (txt (if a % 2 = 1 then (first, grow j a rows) else (grow j a rows, second)).2)), .val (.int j), .val (.str (txt rows)), .un, .un, .val (.str (txt (grow j a rows))), .un], ?x, ?y, ?z⟩
      case x => walk_at "asg"
      case z => walk_at "wk"
      case y =>
        refine' Exs.cons (σ₁ := [.val (.lst (acts.map .int)), .val (.str (txt first)), .val (.str (txt second)), .val (.int j), .val (.str (txt rows)), .un, .un, .un, .un]) ?s1 ?s2
        case s1 =>
          refine' Ex.to (Ex.set (i := 4) (v := .str (txt rows)) (σ₁ := [.val (.lst (acts.map .int)), .val (.str (txt first)), .val (.str (txt second)), .val (.int j), .un, .un, .un, .un, .un]) rfl rfl ?v1 (fun _ _ => rfl)) ?v2
          case v1 =>
            by_cases hp : a % 2 = 1
            · rw [if_pos hp] at hrows
              rw [hrows]
              refine' Ev.ife_t ?w1_1 ?w2_1 ?w3_1
              case w1_1 => walk_at "tr"
              case w2_1 => simp [hp]
              case w3_1 => exact Ev.var (i := 2) rfl rfl rfl
            · rw [if_neg hp] at hrows
              rw [hrows]
              refine' Ev.ife_f ?w4_2 ?w5_2 ?w6_2
              case w4_2 => walk_at "tr"
              case w5_2 => simp; omega
              case w6_2 => exact Ev.var (i := 1) rfl rfl rfl
          case v2 => rfl
        case s2 =>
          (((with_reducible refine' Exs.cons ?y84_84 ?y84_85); (case y84_84 => (((with_reducible refine' Ex.set ?y85_80 ?y85_81 ?y85_82 ?y85_83); (case y85_80 => walk_at "ix"); (case y85_81 => rfl); (case y85_82 => walk_at "ev"); (case y85_83 => exact fun _ _ => rfl))))))
          (((with_reducible refine' Exs.cons ?y86_84 ?y86_85); (case y86_84 => (((with_reducible refine' Ex.set ?y87_80 ?y87_81 ?y87_82 ?y87_83); (case y87_80 => walk_at "ix"); (case y87_81 => rfl); (case y87_82 => walk_at "ev"); (case y87_83 => exact fun _ _ => rfl))))))
          refine' Exs.cons (σ₁ := [.val (.lst (acts.map .int)), .val (.str (txt first)), .val (.str (txt second)), .val (.int j), .val (.str (txt rows)), .un, .un, .val (.str (txt (grow j a rows))), .un]) ?i1 ?i2
          case i1 =>
            by_cases hb : a / 2 % 2 = 1
            · have hg : txt (grow j a rows) = txt rows ++ ([10] ++ rep [32] (a / 32) ++ [10]) ++ [99 + j] := by
                unfold grow; rw [if_pos hb]; exact txt_behind hpage.pg.ne a j
              rw [hg]
              refine' Ex.ite_t ?w1_3 ?w2_3 (Exs.weak (Exs.cons ?w3_3 Exs.nil) ?w4_3)
              case w1_3 => walk_at "tr"
              case w2_3 => simp [hb]
              case w3_3 => (((with_reducible refine' Ex.set ?y88_80 ?y88_81 ?y88_82 ?y88_83); (case y88_80 => walk_at "ix"); (case y88_81 => rfl); (case y88_82 => walk_at "ev"); (case y88_83 => exact fun _ _ => rfl)))
              case w4_3 => walk_at "wk"
            · have hgr : grow j a rows = freshR j :: gapR a :: rows.map (below (unitT a) [99 + j]) := by unfold grow; rw [if_neg hb]
              have hwB : Pg (rows.map (below (unitT a) [99 + j])) := hpage.pg.setin (unitT_white a) (letter_ne45 j)
              have hg : txt (grow j a rows) = [99 + j] ++ ([10] ++ rep [32] (a / 32) ++ [10]) ++ txt (rows.map (below (unitT a) [99 + j])) := by
                rw [hgr]; exact txt_head hwB.ne a j
              have hsplit : splitdocP (txt (grow j a rows)) = ([99 + j], txt (rows.map (below (unitT a) [99 + j]))) := by
                rw [hgr]; exact splitdoc_cons (freshR_word hj5) (gapR_gap haa) hwB
              have hBl : (txt (rows.map (below (unitT a) [99 + j]))).length ≤ 300 := by
                rw [hg] at hgsm; simp only [List.length_append] at hgsm; omega
              have hrn := hpage.pg.ne
              obtain ⟨X, hX⟩ : ∃ X, X = if a / 16 % 2 = 1 then txt (rows.map (below [9] [99 + j])) else txt rows := ⟨_, rfl⟩
              have hXl : X.length ≤ 320 := by
                rw [hX]; split
                · have := below_length [9] [99 + j] rows
                  simp only [List.length_cons, List.length_nil] at this; omega
                · omega
              have hXB : indentT (rep [32] (a / 4 % 4)) X = txt (rows.map (below (unitT a) [99 + j])) := by
                rw [hX]; split
                · rename_i h16; exact set_in hpage.pg a [99 + j] (letter_ne45 j) h16
                · rename_i h16; exact set_in0 hpage.pg a [99 + j] h16
              have hBne : 1 ≤ (txt (rows.map (below (unitT a) [99 + j]))).length := by
                obtain ⟨y, c, e, _⟩ := hwB.last; rw [e]; simp
              have hsm1 : ∀ c ∈ txt (rows.map (below (unitT a) [99 + j])), c < 128 := fun c hc =>
                txt_small (n := j + 1) (rows := grow j a rows) hgrown.pg.white hgrown.fits c (by rw [hg]; simp [hc])
              have fX := op_indent (k := 40) H (by decide) (t := X) (n := a / 4 % 4) (Nat.le_trans hXl (by decide)) (mod4_le a)
              rw [hXB] at fX
              have fs := op_splitdoc (k := 40) H (by decide) (doc := txt (grow j a rows)) (Nat.le_trans hgsm (by decide))
              rw [hsplit] at fs
              have ok1 : okV false 8 (.tup [.str [99 + j], .str (txt (rows.map (below (unitT a) [99 + j])))]) = true := by
                have e1 := okStr (x := [99 + j]) (fun c hc => letter_small hj5 c hc) false 7
                have e2 := okStr hsm1 false 7
                simp only [okV, List.all_cons, List.all_nil, Bool.and_true] at e1 e2 ⊢
                rw [e1, e2]; rfl
              have fne : Op G 40 (opCmp .NotEq) [.tup [.str [99 + j], .str (txt (rows.map (below (unitT a) [99 + j])))], .tup [.str [99 + j], .str (txt (rows.map (below (unitT a) [99 + j])))]] (.bool false) := by
                have := Op.ne_data (G := G) (k := 40) false ok1 ok1
                rw [eqV_true 8 ok1] at this; exact this
              have h8 : ([10] ++ unitT a).all (· < 256) = true := List.all_eq_true.mpr fun c hc => by
                rcases List.mem_append.mp hc with h | h
                · simp at h; subst h; decide
                · have := (unitT_white a).small c h; simp; omega
              have frb := op_replace (k := 40) H (by decide) (t := [10] ++ txt (rows.map (below (unitT a) [99 + j]))) (a := [10] ++ unitT a) (b := [10]) (by simp; omega) (by simp) h8 (by simp)
              have hback := back_txt hpage.pg (unitT_white a) [99 + j]
              have hJl := repl_length ([10] ++ unitT a) [10] ([10] ++ txt (rows.map (below (unitT a) [99 + j]))) (by simp) 1 (by simp)
              have hJ1 : (([10] : List Nat) ++ txt (rows.map (below (unitT a) [99 + j]))).length ≤ 301 := by simp; omega
              have hback2 : (joinT [10] (splitT ([10] ++ unitT a) ([10] ++ txt (rows.map (below (unitT a) [99 + j]))))).drop 1 = txt rows := hback
              generalize hJ : joinT [10] (splitT ([10] ++ unitT a) ([10] ++ txt (rows.map (below (unitT a) [99 + j])))) = J at frb hJl hback2
              have hJ2 : 1 ≤ J.length := by
                obtain ⟨y, c, e, _⟩ := hpage.pg.last
                have := congrArg List.length hback2
                rw [e] at this; simp at this; omega
              have fsl := slice_one hJ2
              rw [hback2] at fsl
              refine' Ex.ite_f ?w1_4 ?w2_4 (Exs.weak (Exs.cons ?e1 (Exs.cons (σ₁ := [.val (.lst (acts.map .int)), .val (.str (txt first)), .val (.str (txt second)), .val (.int j), .val (.str (txt rows)), .val (.str ([10] ++ rep [32] (a / 32) ++ [10])), .val (.str [99 + j]), .un, .val (.str X)]) ?e2 (Exs.cons (σ₁ := [.val (.lst (acts.map .int)), .val (.str (txt first)), .val (.str (txt second)), .val (.int j), .val (.str (txt rows)), .val (.str ([10] ++ rep [32] (a / 32) ++ [10])), .val (.str [99 + j]), .un, .val (.str (txt (rows.map (below (unitT a) [99 + j]))))]) ?e3
                (Exs.cons (σ₁ := [.val (.lst (acts.map .int)), .val (.str (txt first)), .val (.str (txt second)), .val (.int j), .val (.str (txt rows)), .val (.str ([10] ++ rep [32] (a / 32) ++ [10])), .val (.str [99 + j]), .val (.str (txt (grow j a rows))), .val (.str (txt (rows.map (below (unitT a) [99 + j]))))]) ?e4 (Exs.cons (Ex.ite_f (c := false) ?e5 rfl Exs.nil) (Exs.cons (Ex.ite_f (c := false) ?e6 rfl Exs.nil) Exs.nil)))))) ?w4_4)
              case w1_4 => walk_at "tr"
              case w2_4 => simp; omega
              case e1 => (((with_reducible refine' Ex.set ?y89_80 ?y89_81 ?y89_82 ?y89_83); (case y89_80 => walk_at "ix"); (case y89_81 => rfl); (case y89_82 => walk_at "ev"); (case y89_83 => exact fun _ _ => rfl)))
              case e2 =>
                by_cases h16 : a / 16 % 2 = 1
                · rw [if_pos h16] at hX
                  have hi1 := op_indent (k := 40) H (by decide) (t := txt rows) (n := 1) (Nat.le_trans hsm (by decide)) (by decide)
                  have e32 : rep [32] 1 = [32] := rfl
                  rw [e32] at hi1
                  have hil := indent_length hpage.pg [32]
                  simp only [List.length_cons, List.length_nil] at hil
                  have frt := op_replace (k := 40) H (by decide) (t := [10] ++ indentT [32] (txt rows)) (a := [10, 32]) (b := [10, 9]) (by simp; omega) (by simp) (by decide) (by simp)
                  have htab : (joinT [10, 9] (splitT [10, 32] ([10] ++ indentT [32] (txt rows)))).drop 1 = X := by rw [hX]; exact tab_txt hpage.pg [99 + j]
                  have hTl := repl_length [10, 32] [10, 9] ([10] ++ indentT [32] (txt rows)) (by simp) 2 (by simp)
                  have hT1 : (([10] : List Nat) ++ indentT [32] (txt rows)).length ≤ 400 := by simp; omega
                  have hXne : 1 ≤ X.length := by
                    obtain ⟨y, c, e, _⟩ := (hpage.pg.setin (u := [9]) (head := [99 + j]) (by simp [White]) (letter_ne45 j)).last
                    rw [hX, e]; simp
                  generalize joinT [10, 9] (splitT [10, 32] ([10] ++ indentT [32] (txt rows))) = T at frt htab hTl
                  have hT2 : 1 ≤ T.length := by
                    have := congrArg List.length htab
                    simp at this; omega
                  have fsl2 := slice_one hT2
                  rw [htab] at fsl2
                  refine' Ex.ite_t ?w1_7 ?w2_7 (Exs.cons (Ex.to ?w3_7 ?w4_7) Exs.nil)
                  case w1_7 => walk_at "tr"
                  case w2_7 => simp [h16]
                  case w3_7 => (((with_reducible refine' Ex.set ?y90_80 ?y90_81 ?y90_82 ?y90_83); (case y90_80 => walk_at "ix"); (case y90_81 => rfl); (case y90_82 => walk_at "ev"); (case y90_83 => exact fun _ _ => rfl)))
                  case w4_7 => rfl
                · rw [if_neg h16] at hX
                  rw [hX]
                  refine' Ex.ite_f ?w1_8 ?w2_8 (Exs.weak Exs.nil ?w3_8)
                  case w1_8 => walk_at "tr"
                  case w2_8 => simp; omega
                  case w3_8 => walk_at "wk"
              case e3 =>
                refine' Ex.to ?w1_9 ?w2_9
                case w1_9 => (((with_reducible refine' Ex.set ?y91_80 ?y91_81 ?y91_82 ?y91_83); (case y91_80 => walk_at "ix"); (case y91_81 => rfl); (case y91_82 => walk_at "ev"); (case y91_83 => exact fun _ _ => rfl)))
                case w2_9 => rfl
              case e4 =>
                rw [hg]
                refine' Ex.to ?w1_10 ?w2_10
                case w1_10 => (((with_reducible refine' Ex.set ?y92_80 ?y92_81 ?y92_82 ?y92_83); (case y92_80 => walk_at "ix"); (case y92_81 => rfl); (case y92_82 => walk_at "ev"); (case y92_83 => exact fun _ _ => rfl)))
                case w2_10 => rfl
              case e5 => (((with_reducible refine' Tr.to ?y93_74 ?y93_75); (case y93_74 => walk_at "tr"); (case y93_75 => walk_at "bd")))
              case e6 => (((with_reducible refine' Tr.to ?y94_74 ?y94_75); (case y94_74 => walk_at "tr"); (case y94_75 => walk_at "bd")))
              case w4_4 => walk_at "wk"
          case i2 =>
            by_cases hp : a % 2 = 1
            · rw [if_pos hp]
              refine' Exs.cons (Ex.ite_t ?w1_5 ?w2_5 (Exs.cons (Ex.to ?w3_5 ?w4_5) Exs.nil)) Exs.nil
              case w1_5 => walk_at "tr"
              case w2_5 => simp [hp]
              case w3_5 => (((with_reducible refine' Ex.set ?y95_80 ?y95_81 ?y95_82 ?y95_83); (case y95_80 => walk_at "ix"); (case y95_81 => rfl); (case y95_82 => walk_at "ev"); (case y95_83 => exact fun _ _ => rfl)))
              case w4_5 => rfl
            · rw [if_neg hp]
              refine' Exs.cons (Ex.ite_f ?w1_6 ?w2_6 (Exs.cons (Ex.to ?w3_6 ?w4_6) Exs.nil)) Exs.nil
              case w1_6 => walk_at "tr"
              case w2_6 => simp; omega
              case w3_6 => (((with_reducible refine' Ex.set ?y96_80 ?y96_81 ?y96_82 ?y96_83); (case y96_80 => walk_at "ix"); (case y96_81 => rfl); (case y96_82 => walk_at "ev"); (case y96_83 => exact fun _ _ => rfl)))
              case w4_6 => rfl
  case d =>
    have two := stN_twoj hl ha acts.length (Nat.le_refl _)
    have e : stN acts acts.length = steps 0 acts start0 := by unfold stN; rw [List.take_length]
    have l1 := two.one.small hl
    have l2 := two.two.small hl
    simp only [List.length_map, List.length_range]
    refine' Exs.ret (Ex.ret (Ev.to ?r1 ?r2))
    case r1 => walk_at "ev"
    case r2 =>
      unfold allRows
      rw [← e, txt_append two.one.pg.ne (by simp), txt_cons _ two.two.pg.ne]
      simp [gap0, Row.text]
/-! _law_read -/
abbrev rdV (p : List Nat × Row) : V := .tup [wsV p.1 (wsOf p.2.lead), .str p.2.name]
theorem op_read (H : Here G) (hk : 60 ≤ k) {rows : List Row} (h : AllOk rows) : Op G k (opCall (.ref (164 : Nat))) [.str (txt rows), .int (sufL rows).length] (.tup [.lst ((sufL rows).map rdV), .str []]) := by
  refine Op.fn (F := fr G.w.params 164 ["page", "count", "read", "k", "space", "row"] []) (pn := ["page", "count"]) (rest := ["read", "k", "space", "row"]) (k' := 40) [.val (.str (txt rows)), .val (.int (sufL rows).length), .un, .un, .un, .un] (isDef H 164) b2 rfl rfl (fr_nodup (by decide +kernel)) rfl rfl rfl rfl rfl ?_ (by omega)
  show Exs _ _ _ _ (_ :: _) _
  have hsl := sufL_length h.pg
  have hrl := h.len
  have htl := txt_all h
  (((with_reducible refine' Exs.cons ?y97_108 ?y97_109); (case y97_108 => ((with_reducible refine' Ex.ownNil ?y97_104 ?y97_105 ?y97_106 ?y97_107); (case y97_104 => walk_at "ix"); (case y97_105 => rfl); (case y97_106 => rfl); (case y97_107 => exact fun _ _ => rfl)))))
  have hit : iterOf (.rng 0 ((sufL rows).length : Int)) = some ((List.range (sufL rows).length).map fun (i : Nat) => V.int i) := by
    rw [iter_rng (by omega)]; simp
  refine' Exs.for_st (v := .rng 0 (sufL rows).length) (fun j => [.val (.str (txt (rows.drop (2 * j)))), .val (.int (sufL rows).length), .own (((sufL rows).take j).map rdV), .un, .un, .un]) ?a hit ?e ?c ?d (fun _ _ => rfl)
  case a => walk_at "ev"
  case e => walk_at "wk"
  case c =>
    intro j d hd
    rw [List.getElem?_map] at hd
    cases hr : (List.range (sufL rows).length)[j]? with
    | none => rw [hr] at hd; cases hd
    | some i =>
      rw [hr] at hd; cases hd
      obtain ⟨h1, h2⟩ := List.getElem?_eq_some_iff.mp hr
      rw [List.getElem_range] at h2
      subst h2
      have hj : j < (sufL rows).length := by simpa using h1
      obtain ⟨p, hat⟩ : ∃ p, (sufL rows)[j]? = some p := ⟨_, List.getElem?_eq_getElem hj⟩
      have sa := suf_at h.pg j p hat
      have hpl := sa.len
      have e1 : (sufL rows).take (j + 1) = (sufL rows).take j ++ [p] := by rw [List.take_add_one, hat]; rfl
      have f1 := op_init (k := 40) H (by decide) (raw := p.1) (by omega)
      have f2 := op_splitdoc (k := 40) H (by decide) (doc := p.1) (by omega)
      rw [sa.ws] at f1
      rw [sa.next] at f2
      simp only at f2
      have htk : ((sufL rows).take j).length ≤ 23 := by rw [List.length_take]; omega
      simp only [e1, ← sa.text]
      refine' ⟨_, [.val (.str (txt (rows.drop (2 * (j + 1))))), .val (.int (sufL rows).length), .own (((sufL rows).take j).map rdV ++ [rdV p]), .val (.int j), .val (wsV p.1 (wsOf p.2.lead)), .val (.str p.2.name)], ?x, ?y, ?z⟩
      case x => walk_at "asg"
      case y =>
        (((with_reducible refine' Exs.cons ?y98_84 ?y98_85); (case y98_84 => (((with_reducible refine' Ex.set ?y99_80 ?y99_81 ?y99_82 ?y99_83); (case y99_80 => walk_at "ix"); (case y99_81 => rfl); (case y99_82 => walk_at "ev"); (case y99_83 => exact fun _ _ => rfl))))))
        (((with_reducible refine' Exs.cons ?y100_102 ?y100_103); (case y100_102 => (((with_reducible refine' Ex.assign ?y101_98 ?y101_99 ?y101_100 ?y101_101); (case y101_98 => walk_at "ev"); (case y101_99 => ((with_reducible refine' AsgAll.one ?y101_96 ?y101_97); (case y101_96 => walk_at "asg"); (case y101_97 => rfl))); (case y101_100 => exact fun _ _ => rfl); (case y101_101 => exact fun _ => rfl))))))
        refine' Exs.to ?y1 ?y2
        case y1 =>
          (((with_reducible refine' Exs.cons ?y102_121 ?y102_122); (case y102_121 => ((with_reducible refine' Ex.expr_none ?y102_118 ?y102_119 ?y102_120); (case y102_118 => ((with_reducible refine' Ev.append ?y102_110 ?y102_111 ?y102_112 ?y102_113 ?y102_114 ?y102_115 ?y102_116 ?y102_117); (case y102_110 => walk_at "ix"); (case y102_111 => rfl); (case y102_112 => rfl); (case y102_113 => rfl); (case y102_114 => (intro _; walk_at "ev")); (case y102_115 => walk_at "sd"); (case y102_116 => rfl); (case y102_117 => exact fun _ => rfl))); (case y102_119 => rfl); (case y102_120 => exact fun _ => rfl)))))
          exact Exs.nil
        case y2 => rfl
      case z =>
        rw [List.map_append]
        exact Wk.keep (Wk.keep (Wk.keep (Wk.un (Wk.un (Wk.un Wk.nil)))))
  case d =>
    simp only [List.length_map, List.length_range, List.take_length, sufL_end h.pg]
    refine' Exs.ret (Ex.ret (Ev.to ?r1 ?r2))
    case r1 => walk_at "ev"
    case r2 => rfl
/-! _law_heads -/
abbrev Ent := List Nat × Row
def pileV (PL : List Ent) : List V := PL.reverse.map rdV
theorem pileV_cons (q : Ent) (PL : List Ent) : pileV (q :: PL) = pileV PL ++ [rdV q] := by simp [pileV]
theorem pileV_length (PL : List Ent) : (pileV PL).length = PL.length := by simp [pileV]
theorem item_last (vs : List V) (v : V) : itemV (.lst (vs ++ [v])) (-1) = some v := by
  unfold itemV seqIndex?
  have e1 : ((-1 : Int) < 0) := by omega
  simp only [if_pos e1, List.length_append, List.length_cons, List.length_nil]
  rw [if_pos (by simp; omega)]
  have e2 : ((-1 : Int) + ((vs.length + 1 : Nat) : Int)).toNat = vs.length := by omega
  show ((vs ++ [v])[((-1 : Int) + ((vs.length + (0 + 1) : Nat) : Int)).toNat]?) = some v
  rw [show ((-1 : Int) + ((vs.length + (0 + 1) : Nat) : Int)).toNat = vs.length by omega]
  simp
structure Good (p : Ent) : Prop where
  white : White p.2.lead
  len : p.2.lead.length ≤ 20
def lastOf : V → List Ent → V
  | d, [] => d
  | _, q :: l => lastOf (rdV q) l
theorem lastOf_eq : ∀ (d : V) (l : List Ent), lastOf d l = match l.getLast? with
    | none => d
    | some q => rdV q
  | d, [] => rfl
  | d, [q] => rfl
  | d, q :: r :: l => by
    rw [lastOf, lastOf_eq (rdV q) (r :: l)]
    rw [List.getLast?_cons_cons]
    cases e : (r :: l).getLast? with
    | none => simp at e
    | some x => rfl
theorem WLoop.pops {test : Expr} {body : List Stmt} {F : Fst} (W : List Ent → V → List Mine.Slot) (C : List Ent → Prop) (hC : ∀ q l, C (q :: l) → C l) (stop : ∀ d, Tr G F k (W [] d) test false (W [] d))
    (go : ∀ q l d, C (q :: l) → Tr G F k (W (q :: l) d) test true (W (q :: l) d) ∧ Exs G F k (W (q :: l) d) body (.next (W l (rdV q)))) : ∀ (l : List Ent) (d : V), C l → WLoop G F k test body (l.length + 1) (W l d) (.next (W [] (lastOf d l)))
  | [], d, _ => WLoop.stop (stop d)
  | q :: l, d, h => WLoop.go (go q l d h).1 (go q l d h).2 (WLoop.pops W C hC stop go l (rdV q) (hC q l h))
theorem heads_loop {target : Expr} {body : List Stmt} {F : Fst} (S : List V → List Ent → List Mine.Slot)
    (turn : ∀ (p : Ent) (hs : List V) (popped rest : List Ent), Good p → (∀ q ∈ popped ++ rest, Good q) → (∀ q ∈ popped, ¬ LessP (wsOf q.2.lead) (wsOf p.2.lead)) → (∀ q r, rest = q :: r → LessP (wsOf q.2.lead) (wsOf p.2.lead)) → (∀ q, popped.getLast? = some q → q.2.lead = p.2.lead) →
      p.2.above = (match rest with | [] => [] | q :: _ => q.2.name) → hs.length ≤ 100 → (popped ++ rest).length ≤ 100 → ∃ σa σ', Asg G F k (S hs (popped ++ rest)) target (rdV p) σa ∧ Exs G F k σa body (.next σ') ∧ Wk σ' (S (hs ++ [.str p.2.above]) (p :: rest)))
    {pile pile' : Pile} {rows : List Row} (h : Runs pile rows pile') : ∀ (L PL : List Ent) (hs : List V), L.map (·.2) = rows → PL.map (fun p => (p.2.lead, p.2.name)) = pile → (∀ p ∈ L, Good p) → (∀ p ∈ PL, Good p) → hs.length + L.length ≤ 100 → PL.length + L.length ≤ 100 →
      ∃ PL', Loop G F k target body (L.map rdV) (S hs PL) (.next (S (hs ++ L.map fun p => .str p.2.above) PL')) := by
  induction h with
  | nil p =>
    intro L PL hs hL _ _ _ _ _
    obtain rfl : L = [] := by simpa using hL
    exact ⟨PL, by simpa using Loop.nil⟩
  | cons hp ha _ ih =>
    rename_i pile popped rest p' r rows _
    intro L PL hs hL hP gL gP b1 b2
    cases L with
    | nil => simp at hL
    | cons p L =>
      rw [List.map_cons] at hL
      injection hL with e1 e2
      subst e1
      have hsplit := hp.split
      rw [← hP] at hsplit
      obtain ⟨PA, PB, e3, e4, e5⟩ : ∃ PA PB, PL = PA ++ PB ∧ PA.map (fun p => (p.2.lead, p.2.name)) = popped ∧ PB.map (fun p => (p.2.lead, p.2.name)) = rest := by
        obtain ⟨PA, PB, h1, h2, h3⟩ := List.map_eq_append_iff.mp hsplit
        exact ⟨PA, PB, h1, h2, h3⟩
      subst e3
      simp only [List.length_cons] at b1 b2
      have gp := gL p (by simp)
      obtain ⟨σa, σ', t1, t2, t3⟩ := turn p hs PA PB gp gP
        (fun q hq => hp.pops (q.2.lead, q.2.name) (by rw [← e4]; exact List.mem_map.mpr ⟨q, hq, rfl⟩))
        (fun q t e => hp.stays (q.2.lead, q.2.name) (t.map fun p => (p.2.lead, p.2.name)) (by rw [← e5, e]; rfl))
        (fun q e => hp.same (q.2.lead, q.2.name) (by rw [← e4, List.getLast?_map, e]; rfl))
        (by rw [ha, ← e5]; cases PB <;> rfl) (by omega) (by omega)
      obtain ⟨PL', hl⟩ := ih L (p :: PB) (hs ++ [.str p.2.above]) e2 (by rw [List.map_cons, e5]) (fun q hq => gL q (by simp [hq])) (fun q hq => by
        rcases List.mem_cons.mp hq with rfl | hq
        · exact gp
        · exact gP q (by simp [hq])) (by simp; omega) (by simp at b2 ⊢; omega)
      refine ⟨PL', ?_⟩
      rw [List.map_cons, List.map_cons]
      have e6 : hs ++ V.str p.2.above :: L.map (fun p => V.str p.2.above) = (hs ++ [V.str p.2.above]) ++ L.map fun p => V.str p.2.above := by simp
      rw [e6]
      exact Loop.go t1 (t2.weak t3) hl
theorem op_heads (H : Here G) (hk : 80 ≤ k) {L : List Ent} {pile' : Pile} (hR : Runs [] (L.map (·.2)) pile') (hg : ∀ p ∈ L, Good p) (hl : L.length ≤ 50) : Op G k (opCall (.ref (171 : Nat))) [.lst (L.map rdV)] (.lst (L.map fun p => .str p.2.above)) := by
  refine Op.fn (F := fr G.w.params 171 ["read", "heads", "pile", "space", "row", "last"] []) (pn := ["read"]) (rest := ["heads", "pile", "space", "row", "last"]) (k' := 60) [.val (.lst (L.map rdV)), .un, .un, .un, .un, .un] (isDef H 171) b1 rfl rfl (fr_nodup (by decide +kernel)) rfl rfl rfl rfl rfl ?_ (by omega)
  show Exs _ _ _ _ (_ :: _) _
  (((with_reducible refine' Exs.cons ?y103_108 ?y103_109); (case y103_108 => ((with_reducible refine' Ex.ownNil ?y103_104 ?y103_105 ?y103_106 ?y103_107); (case y103_104 => walk_at "ix"); (case y103_105 => rfl); (case y103_106 => rfl); (case y103_107 => exact fun _ _ => rfl)))))
  (((with_reducible refine' Exs.cons ?y104_108 ?y104_109); (case y104_108 => ((with_reducible refine' Ex.ownNil ?y104_104 ?y104_105 ?y104_106 ?y104_107); (case y104_104 => walk_at "ix"); (case y104_105 => rfl); (case y104_106 => rfl); (case y104_107 => exact fun _ _ => rfl)))))
  have lessF : ∀ q p : Ent, Good q → Good p → ∀ b : Bool, (b = true ↔ LessP (wsOf q.2.lead) (wsOf p.2.lead)) → Op G 60 (opCall (.ref (117 : Nat))) [wsV q.1 (wsOf q.2.lead), wsV p.1 (wsOf p.2.lead)] (.bool b) := fun q p gq gp b hb => by
    have h1 := wsOf_small gq.white gq.len
    have h2 := wsOf_small gp.white gp.len
    exact op_less H (by decide) (by omega) (by omega) (by omega) (by omega) hb
  have loop := fun target body (turn : ∀ (p : Ent) (hs : List V) (popped rest : List Ent), Good p → (∀ q ∈ popped ++ rest, Good q) → (∀ q ∈ popped, ¬ LessP (wsOf q.2.lead) (wsOf p.2.lead)) → (∀ q r, rest = q :: r → LessP (wsOf q.2.lead) (wsOf p.2.lead)) → (∀ q, popped.getLast? = some q → q.2.lead = p.2.lead) →
      p.2.above = (match rest with | [] => [] | q :: _ => q.2.name) → hs.length ≤ 100 → (popped ++ rest).length ≤ 100 → ∃ σa σ', Asg G (fr G.w.params 171 ["read", "heads", "pile", "space", "row", "last"] []) 60 [.val (.lst (L.map rdV)), .own hs, .own (pileV (popped ++ rest)), .un, .un, .un] target (rdV p) σa ∧ Exs G (fr G.w.params 171 ["read", "heads", "pile", "space", "row", "last"] []) 60 σa body (.next σ') ∧ Wk σ' [.val (.lst (L.map rdV)), .own (hs ++ [.str p.2.above]), .own (pileV (p :: rest)), .un, .un, .un]) =>
    heads_loop (G := G) (k := 60) (target := target) (body := body) (F := fr G.w.params 171 ["read", "heads", "pile", "space", "row", "last"] []) (fun hs PL => [.val (.lst (L.map rdV)), .own hs, .own (pileV PL), .un, .un, .un]) turn hR L [] [] rfl rfl hg (fun p hp => (nomatch hp)) (by simp; omega) (by simp; omega)
  have fin : ∀ {target iter : Expr} {body sts : List Stmt} {pos : Pos} {v : V} {σ0 : List Mine.Slot}, Ev G (fr G.w.params 171 ["read", "heads", "pile", "space", "row", "last"] []) 60 σ0 iter (.lst (L.map rdV)) [.val (.lst (L.map rdV)), .own [], .own [], .un, .un, .un] →
      (∃ PL', Loop G (fr G.w.params 171 ["read", "heads", "pile", "space", "row", "last"] []) 60 target body (L.map rdV) [.val (.lst (L.map rdV)), .own [], .own (pileV []), .un, .un, .un] (.next [.val (.lst (L.map rdV)), .own ([] ++ L.map fun p => .str p.2.above), .own (pileV PL'), .un, .un, .un])) →
      (∀ PL', Exs G (fr G.w.params 171 ["read", "heads", "pile", "space", "row", "last"] []) 60 [.val (.lst (L.map rdV)), .own ([] ++ L.map fun p => .str p.2.above), .own (pileV PL'), .un, .un, .un] sts (.ret v)) → (∀ env x, foldedSetIterable iter env x = pure x) →
      Exs G (fr G.w.params 171 ["read", "heads", "pile", "space", "row", "last"] []) 60 σ0 (.For target iter body [] pos :: sts) (.ret v) := by
    intro target iter body sts pos v σ0 h1 ⟨PL', h2⟩ h3 h4
    exact Exs.cons (Ex.for_ h1 rfl h2 h4) (h3 PL')
  refine' fin ?a (loop _ _ ?t) ?d (fun _ _ => rfl)
  case a => exact Ev.var (i := 0) rfl rfl rfl
  case d =>
    intro PL'
    refine' Exs.ret (Ex.ret ?r1)
    case r1 =>
      rw [List.nil_append]
      walk_at "frz"
  case t =>
    intro p hs popped rest gp gq hpop hstay hsame habove bh bp
    refine' ⟨_, [.val (.lst (L.map rdV)), .own (hs ++ [.str p.2.above]), .own (pileV rest ++ [rdV p]), .val (wsV p.1 (wsOf p.2.lead)), .val (.str p.2.name), .val (lastOf .none popped)], ?x, ?y, ?z⟩
    case x => walk_at "asg"
    case z =>
      rw [pileV_cons]
      walk_at "wk"
    case y =>
      have hrl : rest.length ≤ 100 := by rw [List.length_append] at bp; omega
      have hpr : (pileV rest).length ≤ 100 := by rw [pileV_length]; exact hrl
      (((with_reducible refine' Exs.cons ?y105_84 ?y105_85); (case y105_84 => (((with_reducible refine' Ex.set ?y106_80 ?y106_81 ?y106_82 ?y106_83); (case y106_80 => walk_at "ix"); (case y106_81 => rfl); (case y106_82 => walk_at "ev"); (case y106_83 => exact fun _ _ => rfl))))))
      refine' Exs.cons (Ex.while_ (WLoop.pops (fun l d => [.val (.lst (L.map rdV)), .own hs, .own (pileV (l ++ rest)), .val (wsV p.1 (wsOf p.2.lead)), .val (.str p.2.name), .val d]) (fun l => (∀ x ∈ l, x ∈ popped) ∧ l.length ≤ popped.length) (fun q l h => ⟨fun x hx => h.1 x (by simp [hx]), by have := h.2; simp at this; omega⟩) ?stop ?go popped .none ⟨fun x hx => hx, Nat.le_refl _⟩)) ?y1
      case stop =>
        intro d
        cases rest with
        | nil =>
          refine' Tr.and_false ?q1
          case q1 => (((with_reducible refine' Tr.to ?y107_74 ?y107_75); (case y107_74 => walk_at "tr"); (case y107_75 => walk_at "bd")))
        | cons q r =>
          have fl := lessF q p (gq q (by simp)) gp true ⟨fun _ => hstay q r rfl, fun _ => rfl⟩
          have hlast := item_last (pileV r) (rdV q)
          have hr1 : (pileV r).length ≤ 100 := by rw [pileV_length]; simp at hrl; omega
          simp only [List.nil_append, pileV_cons]
          refine' Tr.and_true ?q1 (Tr.and_false ?q2)
          case q1 => (((with_reducible refine' Tr.to ?y108_74 ?y108_75); (case y108_74 => walk_at "tr"); (case y108_75 => walk_at "bd")))
          case q2 => (((with_reducible refine' Tr.to ?y109_74 ?y109_75); (case y109_74 => walk_at "tr"); (case y109_75 => walk_at "bd")))
      case go =>
        intro q l d hm
        obtain ⟨hm, hm2⟩ := hm
        have hq : q ∈ popped := hm q (by simp)
        simp only [List.length_cons] at hm2
        have fl := lessF q p (gq q (by simp [hq])) gp false ⟨fun e => (nomatch e), fun e => absurd e (hpop q hq)⟩
        have hlast := item_last (pileV (l ++ rest)) (rdV q)
        have hll : (pileV (l ++ rest)).length ≤ 1000 := by
          rw [pileV_length, List.length_append]
          rw [List.length_append] at bp; omega
        simp only [List.cons_append, pileV_cons]
        refine' ⟨Tr.and_true ?q1 (Tr.and_true ?q2 Tr.and_nil), ?q3⟩
        case q1 => (((with_reducible refine' Tr.to ?y110_74 ?y110_75); (case y110_74 => walk_at "tr"); (case y110_75 => walk_at "bd")))
        case q2 => (((with_reducible refine' Tr.to ?y111_74 ?y111_75); (case y111_74 => walk_at "tr"); (case y111_75 => walk_at "bd")))
        case q3 =>
          refine' Exs.cons (Ex.to (Ex.set (i := 5) rfl rfl (Ev.pop (i := 2) (vs := pileV (l ++ rest)) (v := rdV q) rfl rfl rfl rfl ?q4 rfl) (fun _ _ => rfl)) ?q5) Exs.nil
          case q4 => omega
          case q5 => rfl
      case y1 =>
        simp only [List.nil_append]
        refine' Exs.cons (Ex.ite_f (c := false) (σ₁ := [.val (.lst (L.map rdV)), .own hs, .own (pileV rest), .val (wsV p.1 (wsOf p.2.lead)), .val (.str p.2.name), .val (lastOf .none popped)]) ?t1 rfl Exs.nil) ?y2
        case t1 =>
          cases hgl : popped.getLast? with
          | none =>
            have el : lastOf .none popped = .none := by rw [lastOf_eq, hgl]
            rw [el]
            refine' Tr.and_false ?q1
            case q1 => (((with_reducible refine' Tr.to ?y112_74 ?y112_75); (case y112_74 => walk_at "tr"); (case y112_75 => walk_at "bd")))
          | some q =>
            have el : lastOf .none popped = rdV q := by rw [lastOf_eq, hgl]
            rw [el]
            have fe := op_equal (k := 60) H (by decide) (r1 := q.1) (r2 := p.1) (w1 := wsOf q.2.lead) (w2 := wsOf p.2.lead)
            rw [decide_eq_true (by rw [hsame q hgl]; exact ⟨rfl, rfl⟩)] at fe
            refine' Tr.and_true ?q1 (Tr.and_false ?q2)
            case q1 => (((with_reducible refine' Tr.to ?y113_74 ?y113_75); (case y113_74 => walk_at "tr"); (case y113_75 => walk_at "bd")))
            case q2 => (((with_reducible refine' Tr.to ?y114_74 ?y114_75); (case y114_74 => walk_at "tr"); (case y114_75 => walk_at "bd")))
        case y2 =>
          generalize lastOf .none popped = d
          refine' Exs.cons (Ex.expr_none (Ev.append (i := 1) (vs := hs) (v := .str p.2.above) rfl rfl rfl rfl ?u1 ?u2 rfl (fun _ => rfl)) rfl (fun _ => rfl)) ?u3
          case u2 => omega
          case u1 =>
            intro r
            rw [habove]
            cases rest with
            | nil =>
              refine' Ev.ife_f ?v1 ?v2 ?v3
              case v1 => walk_at "tr"
              case v2 => rfl
              case v3 => walk_at "ev"
            | cons q r' =>
              have hlast := item_last (pileV r') (rdV q)
              have hr1 : (pileV r').length ≤ 100 := by rw [pileV_length]; simp at hrl; omega
              simp only [pileV_cons]
              refine' Ev.ife_t ?v4 ?v5 ?v6
              case v4 => walk_at "tr"
              case v5 => simp
              case v6 => walk_at "ev"
          case u3 =>
            refine' Exs.to ?u4 ?u5
            case u4 =>
              (((with_reducible refine' Exs.cons ?y115_121 ?y115_122); (case y115_121 => ((with_reducible refine' Ex.expr_none ?y115_118 ?y115_119 ?y115_120); (case y115_118 => ((with_reducible refine' Ev.append ?y115_110 ?y115_111 ?y115_112 ?y115_113 ?y115_114 ?y115_115 ?y115_116 ?y115_117); (case y115_110 => walk_at "ix"); (case y115_111 => rfl); (case y115_112 => rfl); (case y115_113 => rfl); (case y115_114 => (intro _; walk_at "ev")); (case y115_115 => walk_at "sd"); (case y115_116 => rfl); (case y115_117 => exact fun _ => rfl))); (case y115_119 => rfl); (case y115_120 => exact fun _ => rfl)))))
              exact Exs.nil
            case u5 => rfl
/-! the law's own plain facts -/
def actsOf (ns : List Int) : List Int := (ns.take 3).map (· % 64) ++ [40, 21]
theorem actsOf_length (ns : List Int) : (actsOf ns).length ≤ 5 := by simp [actsOf]; omega
theorem actsOf_ok (ns : List Int) : ∀ a ∈ actsOf ns, 0 ≤ a ∧ a < 64 := fun a h => by
  unfold actsOf at h
  rcases List.mem_append.mp h with h | h
  · obtain ⟨x, _, rfl⟩ := List.mem_map.mp h; omega
  · simp at h; omega
def cols (top : Nat) (l : List Nat) : List Int := (List.range top).map fun i => (colL (i + 1) l : Int)
theorem cols_length (top : Nat) (l : List Nat) : (cols top l).length = top := by simp [cols]
theorem cols_get {top i : Nat} (h : i < top) (l : List Nat) : (cols top l).getD i 0 = colL (i + 1) l := by
  unfold cols
  rw [List.getD_eq_getElem?_getD, List.getElem?_map, List.getElem?_range h]; rfl
theorem smaller_iff {M : Nat} {a b : List Nat} (ha : White a) (hb : White b) (ra : runsLe M 0 a) (rb : runsLe M 0 b) : smallerB (cols (M + 1) a) (cols (M + 1) b) = true ↔ LessP (wsOf a) (wsOf b) := by
  rw [(less_lead ha hb ra rb).1]
  unfold smallerB
  rw [cols_length, List.all_eq_true]
  constructor
  · intro h t ht hle
    have := of_decide_eq_true (h (t - 1) (by simp; omega))
    rw [cols_get (by omega), cols_get (by omega), show t - 1 + 1 = t by omega] at this
    omega
  · intro h i hi
    have hi' : i < M + 1 := by simpa using hi
    apply decide_eq_true
    rw [cols_get hi', cols_get hi']
    have := h (i + 1) (by omega) (by omega)
    omega
theorem okInts (xs : List Int) : okV false 8 (.lst (xs.map V.int)) = true := by
  simp only [okV, List.all_map, List.all_eq_true]
  intro x _; rfl
theorem map_int_inj : ∀ {xs ys : List Int}, xs.map V.int = ys.map V.int → xs = ys
  | [], [], _ => rfl
  | [], _ :: _, h => by simp at h
  | _ :: _, [], h => by simp at h
  | x :: xs, y :: ys, h => by
    simp only [List.map_cons, List.cons.injEq, V.int.injEq] at h
    rw [h.1, map_int_inj h.2]
theorem same_iff {M : Nat} {a b : List Nat} (ha : White a) (hb : White b) (ra : runsLe M 0 a) (rb : runsLe M 0 b) : eqV (.lst ((cols (M + 1) a).map V.int)) (.lst ((cols (M + 1) b).map V.int)) = decide ((wsOf a).count = (wsOf b).count ∧ (wsOf a).b = (wsOf b).b) := by
  rw [Bool.eq_iff_iff]
  refine (eqV_iff 8 _ _ 8 (okInts _) (okInts _)).trans ?_
  rw [decide_eq_true_eq, same_lead ha hb ra rb]
  constructor
  · intro h t ht hle
    injection h with h
    have h1 := map_int_inj h
    have h2 := cols_get (top := M + 1) (i := t - 1) (by omega) a
    have h3 := cols_get (top := M + 1) (i := t - 1) (by omega) b
    rw [h1, h3, show t - 1 + 1 = t by omega] at h2
    omega
  · intro h
    congr 2
    unfold cols
    refine List.map_congr_left fun i hi => ?_
    have hi' : i < M + 1 := by simpa using hi
    rw [h (i + 1) (by omega) (by omega)]
def runsN (ws : List Row) : List Int := ws.flatMap fun r => (splitT [9] r.lead).map fun x => (x.length : Int)
theorem runsN_ne {ws : List Row} (h : ws ≠ []) : runsN ws ≠ [] := by
  cases ws with
  | nil => exact absurd rfl h
  | cons r ws =>
    unfold runsN
    rw [List.flatMap_cons]
    have := splitT_ne [9] r.lead
    simp [this]
theorem runsN_top {ws : List Row} (h : ws ≠ []) (hf : ∀ r ∈ ws, r.lead.length ≤ 20) : ∃ M : Nat, maxL (runsN ws) = M ∧ M ≤ 20 ∧ ∀ r ∈ ws, ∀ p ∈ splitT [9] r.lead, p.length ≤ M := by
  obtain ⟨h1, h2⟩ := maxL_spec (runsN_ne h)
  have h3 : ∃ r ∈ ws, ∃ p ∈ splitT [9] r.lead, (p.length : Int) = maxL (runsN ws) := by
    unfold runsN at h1
    obtain ⟨r, hr, hp⟩ := List.mem_flatMap.mp h1
    obtain ⟨p, hp1, hp2⟩ := List.mem_map.mp hp
    exact ⟨r, hr, p, hp1, hp2⟩
  obtain ⟨r, hr, p, hp, e⟩ := h3
  refine ⟨p.length, e.symm, ?_, fun r' hr' p' hp' => ?_⟩
  · have h4 := (splitT_sum [9] (by simp) r.lead).1
    have h5 : p.length ≤ ((splitT [9] r.lead).map List.length).sum := by
      have : p.length ∈ (splitT [9] r.lead).map List.length := List.mem_map.mpr ⟨p, hp, rfl⟩
      generalize (splitT [9] r.lead).map List.length = L at this
      induction L with
      | nil => cases this
      | cons x L ih =>
        rw [List.sum_cons]
        rcases List.mem_cons.mp this with rfl | h
        · omega
        · have := ih h; omega
    have := hf r hr
    omega
  · have := h2 _ (show (p'.length : Int) ∈ runsN ws from List.mem_flatMap.mpr ⟨r', hr', List.mem_map.mpr ⟨p', hp', rfl⟩⟩)
    omega
theorem filter_rows (R : List Row) : (R.filterMap fun r => if r.above ≠ [45] then some (rowV r) else none) = (wds R).map rowV := by
  unfold wds
  induction R with
  | nil => rfl
  | cons r R ih =>
    rw [List.filterMap_cons, List.filter_cons]
    by_cases h : r.above = [45]
    · simp [h]; simpa using ih
    · simp [h]; simpa using ih
theorem eq_self (v : V) (bl : Bool) (h : okV bl 8 v = true) (k : Nat) : Op G k (opCmp .Eq) [v, v] (.bool true) := by
  have := Op.eq_data (G := G) (k := k) bl h h
  rw [eqV_true 8 h] at this; exact this
theorem ne_self (v : V) (bl : Bool) (h : okV bl 8 v = true) (k : Nat) : Op G k (opCmp .NotEq) [v, v] (.bool false) := by
  have := Op.ne_data (G := G) (k := k) bl h h
  rw [eqV_true 8 h] at this; exact this
theorem okStrs {α : Type} (f : α → List Nat) (l : List α) (h : ∀ a ∈ l, ∀ c ∈ f a, c < 128) : okV false 8 (.lst (l.map fun a => V.str (f a))) = true := by
  simp only [okV, List.all_map, List.all_eq_true]
  intro a ha
  exact okStr (h a ha) false 7
structure AllW (R : List Row) : Prop where
  ok : AllOk R
  good : ∀ p ∈ sufL R, Good p
  suf : ∀ p ∈ sufL R, ∃ j, SufAt R j p
theorem allW {R : List Row} (h : AllOk R) : AllW R := by
  have hs : ∀ p ∈ sufL R, ∃ j, SufAt R j p := fun p hp => by
    obtain ⟨j, hj⟩ := List.mem_iff_getElem?.mp hp
    exact ⟨j, suf_at h.pg j p hj⟩
  refine ⟨h, fun p hp => ?_, hs⟩
  obtain ⟨j, sa⟩ := hs p hp
  have hm : p.2 ∈ wds R := by rw [← sufL_words h.pg]; exact List.mem_map.mpr ⟨p, hp, rfl⟩
  have := (h.fits p.2 (List.mem_filter.mp (show p.2 ∈ R.filter (fun r => r.above != [45]) from hm)).1).lead
  exact ⟨sa.word.lead, this⟩
theorem join_sum : ∀ ls : List (List Nat), (ls.map List.length).sum ≤ (joinT [10] ls).length
  | [] => by simp
  | [x] => by simp [joinT]
  | x :: y :: r => by
    have := join_sum (y :: r)
    rw [joinT_cons [10] x (r := y :: r) (by simp)]
    simp only [List.map_cons, List.sum_cons, List.length_append, List.length_cons, List.length_nil] at *
    omega
theorem ne_str_self (x : List Nat) : Op G k (opCmp .NotEq) [.str x, .str x] (.bool false) := by
  have := Op.ne_str (G := G) (k := k) (a := x) (b := x)
  simpa using this
theorem Pg.wds_ne {rows : List Row} (h : Pg rows) : wds rows ≠ [] := by
  cases h with
  | one hw => rw [wds_one hw]; simp
  | cons hw hg _ => rw [wds_cons hw hg]; simp
theorem CLoop2.ofFlat {F : Fst} {σc : List Mine.Slot} {α : Type} {t1 i2 t2 elt : Expr} (g : α → V) (f : α → List V) : ∀ (l : List α), (∀ a ∈ l, CTurn2 G F k σc t1 i2 t2 elt (g a) (f a)) → CLoop2 G F k σc t1 i2 t2 elt (l.map g) (l.flatMap f)
  | [], _ => rfl
  | a :: l, h => ⟨f a, l.flatMap f, h a (by simp), CLoop2.ofFlat g f l fun b hb => h b (by simp [hb]), by rw [List.flatMap_cons]⟩
abbrev colV (M : Nat) (r : Row) : V := .lst ((cols (M + 1) r.lead).map V.int)
abbrev toldV (M : Nat) (r q : Row) : V := .tup [.bool (smallerB (cols (M + 1) r.lead) (cols (M + 1) q.lead)), .bool (decide ((wsOf r.lead).count = (wsOf q.lead).count ∧ (wsOf r.lead).b = (wsOf q.lead).b))]
theorem runsN_length {ws : List Row} (h : ∀ r ∈ ws, r.lead.length ≤ 20) : (ws.flatMap fun r => (splitT [9] r.lead).map fun x => V.int x.length).length ≤ ws.length * 21 := by
  induction ws with
  | nil => simp
  | cons r ws ih =>
    have h1 := (splitT_sum [9] (by simp) r.lead).2
    have h2 := h r (by simp)
    have h3 := ih fun q hq => h q (by simp [hq])
    rw [List.flatMap_cons, List.length_append, List.length_map, List.length_cons, Nat.succ_mul]
    omega
/-! law -/
theorem op_law (H : Here G) (hk : 160 ≤ k) {ns : List Int} (hns : ns.length ≤ 1000) : Op G k (opCall (.ref (188 : Nat))) [.lst (ns.map .int)] (.bool true) := by
  refine Op.fn (F := fr G.w.params 188 ["script", "acts", "rows", "page", "words", "read", "rest", "top", "columns", "told"] ["read", "top", "columns"]) (pn := ["script"]) (rest := ["acts", "rows", "page", "words", "read", "rest", "top", "columns", "told"]) (k' := 150) [.val (.lst (ns.map .int)), .un, .un, .un, .un, .un, .un, .un, .un, .un] (isDef H 188) b1 rfl rfl (fr_nodup (by decide +kernel)) rfl rfl rfl rfl rfl ?_ (by omega)
  show Exs _ _ _ _ (_ :: _) _
  obtain ⟨A, hA⟩ : ∃ A, A = actsOf ns := ⟨_, rfl⟩
  have hAl : A.length ≤ 5 := by rw [hA]; exact actsOf_length ns
  have hAo : ∀ a ∈ A, 0 ≤ a ∧ a < 64 := by rw [hA]; exact actsOf_ok ns
  obtain ⟨R, hR⟩ : ∃ R, R = allRows A := ⟨_, rfl⟩
  have hok : AllOk R := by rw [hR]; exact all_ok hAl hAo
  have hW := allW hok
  have frows := op_rows (k := 150) H (by decide) hAl hAo
  have fpage := op_page (k := 150) H (by decide) hAl hAo
  rw [← hR] at frows fpage
  have htl := txt_all hok
  have hRl := hok.len
  have hne := hok.pg.ne
  refine' Exs.cons (σ₁ := [.val (.lst (ns.map .int)), .val (.lst (A.map .int)), .un, .un, .un, .un, .un, .un, .un, .un]) ?s1 ?s2
  case s1 =>
    refine' Ex.to (Ex.set (i := 1) rfl rfl (Ev.bin (Ev.comp (v := .lst ((ns.take 3).map .int)) (vs := ["x"]) (oc := none) (cap := []) ?a1 rfl (CompOk.of [] ["x"] ?c1 ?c2 ?c3 ?c4 ?c5 ?c6 ?c7 ?c8 ?c9) (CRun.one (CLoop.ofMap V.int (fun n => V.int (n % 64)) (ns.take 3) ?l) ?a2) (fun _ _ => rfl)) ?a3 ?a4) (fun _ _ => rfl)) ?a5
    case a1 =>
      refine' Ev.slice ?b1 Part'.none (Part'.some ?b2) ?b3 ?b4
      case b1 => walk_at "ev"
      case b2 => walk_at "ev"
      case b3 => walk_at "sz"
      case b4 => show some (V.lst ((ns.map V.int).take 3)) = _; rw [List.map_take]
    case a2 => simp; omega
    case l =>
      intro n hn
      refine' CTurn.plain ?t1 ?t3 ?t4
      case t1 => walk_at "asg"
      case t3 => walk_at "ev"
      case t4 => walk_at "wk"
    case a3 => walk_at "ev"
    case a4 => walk_at "op"
    case a5 =>
      rw [hA]; unfold actsOf
      simp
      rfl
    case c7 => trivial
    all_goals (((all_goals first | decide +kernel | rfl | exact fun _ _ => rfl | exact fun _ => rfl | trivial | exact ⟨rfl, rfl⟩ | exact ⟨⟨rfl, rfl, rfl, rfl, rfl, rfl⟩, trivial⟩ | exact ⟨⟨rfl, rfl, rfl, rfl, rfl, rfl⟩, ⟨rfl, rfl, rfl, rfl, rfl, rfl⟩, trivial⟩)))
  case s2 =>
    (((with_reducible refine' Exs.cons ?y117_84 ?y117_85); (case y117_84 => (((with_reducible refine' Ex.set ?y118_80 ?y118_81 ?y118_82 ?y118_83); (case y118_80 => walk_at "ix"); (case y118_81 => rfl); (case y118_82 => walk_at "ev"); (case y118_83 => exact fun _ _ => rfl))))))
    (((with_reducible refine' Exs.cons ?y119_84 ?y119_85); (case y119_84 => (((with_reducible refine' Ex.set ?y120_80 ?y120_81 ?y120_82 ?y120_83); (case y120_80 => walk_at "ix"); (case y120_81 => rfl); (case y120_82 => walk_at "ev"); (case y120_83 => exact fun _ _ => rfl))))))
    have hjs : ((R.map Row.text).map List.length).sum ≤ 506 := Nat.le_trans (join_sum (R.map Row.text)) htl
    have hch := txt_small hok.pg.white hok.fits
    refine' Exs.cons (Ex.ite_f (c := false) (Tr.cmp ?p1 (Ev.meth ?p2 Meth.join rfl (Evs.cons (Ev.to (Ev.comp (v := .lst (R.map rowV)) (vs := ["lead", "name", "above"]) (oc := none) (cap := []) ?a_2 rfl (CompOk.of [] ["lead", "name", "above"] ?c1_2 ?c2_2 ?c3_2 ?c4_2 ?c5_2 ?c6_2 ?c7_2 ?c8_2 ?c9_2) (CRun.one (CLoop.ofMap rowV (fun r => V.str (r.lead ++ r.name)) R ?l_2) ?z_2) (fun _ _ => rfl)) (w := .lst ((R.map Row.text).map V.str)) ?p3) Evs.nil (fun _ _ h => Expr.noConfusion h)) (Op.join ?p4) rfl (by decide) rfl (fun _ _ => rfl)) (ne_str_self (txt R)) rfl) rfl Exs.nil) ?n1
    case p1 => walk_at "ev"
    case p2 => walk_at "ev"
    case p3 => rw [List.map_map]; rfl
    case p4 => simp only [List.length_map, List.length_cons, List.length_nil]; omega
    case a_2 => walk_at "ev"
    case z_2 => simp; omega
    case l_2 =>
      intro r hr
      have hf := hok.fits r hr
      have hf1 := hf.lead
      have hf2 := hf.name
      refine' CTurn.plain ?t1_1 ?t3_1 ?t4_1
      case t1_1 => walk_at "asg"
      case t3_1 => walk_at "ev"
      case t4_1 => walk_at "wk"
    case c7_2 => exact trivial
    case c1_2 | c2_2 | c3_2 | c4_2 | c5_2 | c6_2 | c8_2 | c9_2 => (((all_goals first | decide +kernel | rfl | exact fun _ _ => rfl | exact fun _ => rfl | trivial | exact ⟨rfl, rfl⟩ | exact ⟨⟨rfl, rfl, rfl, rfl, rfl, rfl⟩, trivial⟩ | exact ⟨⟨rfl, rfl, rfl, rfl, rfl, rfl⟩, ⟨rfl, rfl, rfl, rfl, rfl, rfl⟩, trivial⟩)))
    case n1 =>
      have find4 := op_indent4 (k := 150) H (by decide) (t := txt R) (by omega)
      have e4 : indentT [32, 32, 32, 32] (txt R) = joinT [10] ((R.map Row.text).map (ind [32, 32, 32, 32])) := indentT_join _ _ hok.pg.plain
      rw [e4] at find4
      have hjs4 : (((R.map Row.text).map (ind [32, 32, 32, 32])).map List.length).sum ≤ 1000 := by
        refine Nat.le_trans (join_sum _) ?_
        have := join_ind_length [32, 32, 32, 32] (R.map Row.text)
        simp only [List.length_map, List.length_cons, List.length_nil] at this
        have h2 : (joinT [10] (R.map Row.text)).length ≤ 506 := htl
        omega
      refine' Exs.cons (Ex.ite_f (c := false) (Tr.cmp ?p5 (Ev.meth ?p6 Meth.join rfl (Evs.cons (Ev.to (Ev.comp (v := .lst (R.map rowV)) (vs := ["lead", "name", "above"]) (oc := none) (cap := []) ?a_4 rfl (CompOk.of [] ["lead", "name", "above"] ?c1_4 ?c2_4 ?c3_4 ?c4_4 ?c5_4 ?c6_4 ?c7_4 ?c8_4 ?c9_4) (CRun.one (CLoop.ofMap rowV (fun r => V.str (ind [32, 32, 32, 32] r.text)) R ?l_4) ?z_4) (fun _ _ => rfl)) (w := .lst (((R.map Row.text).map (ind [32, 32, 32, 32])).map V.str)) ?p7) Evs.nil (fun _ _ h => Expr.noConfusion h)) (Op.join ?p8) rfl (by decide) rfl (fun _ _ => rfl)) (ne_str_self _) rfl) rfl Exs.nil) ?n2
      case p5 => walk_at "ev"
      case p6 => walk_at "ev"
      case p7 => rw [List.map_map, List.map_map]; rfl
      case p8 => simp only [List.length_map, List.length_cons, List.length_nil] at hjs4 ⊢; omega
      case a_4 => walk_at "ev"
      case z_4 => simp; omega
      case l_4 =>
        intro r hr
        have hf := hok.fits r hr
        have hf1 := hf.lead
        have hf2 := hf.name
        refine' CTurn.plain ?t1_3 ?t3_3 ?t4_3
        case t1_3 => walk_at "asg"
        case t3_3 => 
          by_cases he : r.lead ++ r.name = []
          · have e0 : ind [32, 32, 32, 32] r.text = [] := by unfold ind Row.text; rw [if_pos he]
            rw [e0]
            refine' Ev.ife_f ?g1 ?g2 ?g3
            case g1 => walk_at "tr"
            case g2 => simp [he]
            case g3 => walk_at "ev"
          · have e0 : ind [32, 32, 32, 32] r.text = [32, 32, 32, 32] ++ r.lead ++ r.name := by unfold ind Row.text; rw [if_neg he]; simp
            rw [e0]
            refine' Ev.ife_t ?g4 ?g5 ?g6
            case g4 => walk_at "tr"
            case g5 => exact decide_eq_true he
            case g6 => walk_at "ev"
        case t4_3 => walk_at "wk"
      case c7_4 => exact trivial
      case c1_4 | c2_4 | c3_4 | c4_4 | c5_4 | c6_4 | c8_4 | c9_4 => (((all_goals first | decide +kernel | rfl | exact fun _ _ => rfl | exact fun _ => rfl | trivial | exact ⟨rfl, rfl⟩ | exact ⟨⟨rfl, rfl, rfl, rfl, rfl, rfl⟩, trivial⟩ | exact ⟨⟨rfl, rfl, rfl, rfl, rfl, rfl⟩, ⟨rfl, rfl, rfl, rfl, rfl, rfl⟩, trivial⟩)))
      case n2 =>
        have fz := op_splitdoc (k := 150) H (by decide) (doc := [122, 10] ++ txt R) (by simp; omega)
        rw [splitdoc_z hok.pg] at fz
        have okz : okV false 8 (.tup [.str [], .str ([122, 10] ++ txt R)]) = true := by
          have e2 := okStr (x := [122, 10] ++ txt R) (fun c hc => by
            rcases List.mem_append.mp hc with h | h
            · simp at h; omega
            · exact hch c h) false 7
          simp only [okV, List.all_cons, List.all_nil, Bool.and_true] at e2 ⊢
          rw [e2]; rfl
        have fzn := ne_self (G := G) (.tup [.str [], .str ([122, 10] ++ txt R)]) false okz 150
        refine' Exs.cons (Ex.ite_f (c := false) (Tr.cmp ?p9 ?p10 fzn rfl) rfl Exs.nil) ?n3
        case p9 => walk_at "ev"
        case p10 => walk_at "ev"
        case n3 =>
          refine' Exs.cons (Ex.comp (v := .lst (R.map rowV)) (vs := ["row"]) (oc := none) (cap := []) ?a100 rfl (CompOk.of [] ["row"] ?d1 ?d2 ?d3 ?d4 ?d5 ?d6 ?d7 ?d8 ?d9) (CRun.one (CLoop.of rowV (fun r => if r.above ≠ [45] then some (rowV r) else none) R ?l100) ?z100) ?g100 ?h100 rfl (fun _ _ => rfl)) ?n4
          case a100 => walk_at "ev"
          case z100 => simp; omega
          case d7 => trivial
          case d1 | d2 | d3 | d4 | d5 | d6 | d8 | d9 => (((all_goals first | decide +kernel | rfl | exact fun _ _ => rfl | exact fun _ => rfl | trivial | exact ⟨rfl, rfl⟩ | exact ⟨⟨rfl, rfl, rfl, rfl, rfl, rfl⟩, trivial⟩ | exact ⟨⟨rfl, rfl, rfl, rfl, rfl, rfl⟩, ⟨rfl, rfl, rfl, rfl, rfl, rfl⟩, trivial⟩)))
          case g100 => walk_at "asg"
          case h100 => intro env he; obtain ⟨sc, b1, b2, b3, b4⟩ := env; simp only at he; subst he; rfl
          case l100 =>
            intro r hr
            by_cases h45 : r.above = [45]
            · rw [if_neg (by simp [h45])]
              refine' CTurn.no ?u1 ?u2 ?u4
              case u1 => walk_at "asg"
              case u2 => (((with_reducible refine' Tr.to ?y124_74 ?y124_75); (case y124_74 => walk_at "tr"); (case y124_75 => walk_at "bd")))
              case u4 => walk_at "wk"
            · rw [if_pos h45]
              refine' CTurn.yes ?u5 ?u6 ?u7 ?u8
              case u5 => walk_at "asg"
              case u6 => (((with_reducible refine' Tr.to ?y125_74 ?y125_75); (case y125_74 => walk_at "tr"); (case y125_75 => walk_at "bd")))
              case u7 => walk_at "ev"
              case u8 => walk_at "wk"
          case n4 =>
            rw [filter_rows]
            have hwl : (wds R).length ≤ 23 := Nat.le_trans (List.length_filter_le _ _) hRl
            have fread := op_read (k := 150) H (by decide) hok
            have hsl : (sufL R).length = ((wds R).map rowV).length := by rw [← sufL_words hok.pg]; simp
            rw [hsl] at fread
            have hsl2 : (sufL R).length ≤ 23 := by rw [hsl]; simpa using hwl
            (((with_reducible refine' Exs.cons ?y126_102 ?y126_103); (case y126_102 => (((with_reducible refine' Ex.assign ?y127_98 ?y127_99 ?y127_100 ?y127_101); (case y127_98 => walk_at "ev"); (case y127_99 => ((with_reducible refine' AsgAll.one ?y127_96 ?y127_97); (case y127_96 => walk_at "asg"); (case y127_97 => rfl))); (case y127_100 => exact fun _ _ => rfl); (case y127_101 => exact fun _ => rfl))))))
            have hwf : ∀ r ∈ wds R, r ∈ R := fun r hr => (List.mem_filter.mp (show r ∈ R.filter (fun r => r.above != [45]) from hr)).1
            have fn1 := ne_self (G := G) (.lst ((wds R).map fun r => V.str r.name)) false (okStrs (fun r : Row => r.name) (wds R) fun r hr => (hok.fits r (hwf r hr)).nameC) 150
            have fn2 := ne_self (G := G) (.lst ((wds R).map fun r => V.str r.lead)) false (okStrs (fun r : Row => r.lead) (wds R) fun r hr => (hok.pg.words r hr).lead.small) 150
            have fn3 := ne_self (G := G) (.lst ((wds R).map fun r => V.str r.above)) false (okStrs (fun r : Row => r.above) (wds R) fun r hr => (hok.fits r (hwf r hr)).aboveC) 150
            have fn0 := ne_str_self (G := G) (k := 150) []
            refine' Exs.cons (Ex.ite_f (c := false) (Tr.or_false (Tr.cmp ?q1 ?q2 fn0 rfl) (Tr.or_false (Tr.cmp (Ev.to (Ev.comp (v := .lst ((sufL R).map rdV)) (vs := ["space", "row"]) (oc := none) (cap := []) ?a_6 rfl (CompOk.of [] ["space", "row"] ?c1_6 ?c2_6 ?c3_6 ?c4_6 ?c5_6 ?c6_6 ?c7_6 ?c8_6 ?c9_6) (CRun.one (CLoop.ofMap rdV (fun p => V.str p.2.name) (sufL R) ?l_6) ?z_6) (fun _ _ => rfl)) (w := .lst ((wds R).map fun r => V.str r.name)) ?q3) (Ev.comp (v := .lst ((wds R).map rowV)) (vs := ["lead", "name", "above"]) (oc := none) (cap := []) ?a_8 rfl (CompOk.of [] ["lead", "name", "above"] ?c1_8 ?c2_8 ?c3_8 ?c4_8 ?c5_8 ?c6_8 ?c7_8 ?c8_8 ?c9_8) (CRun.one (CLoop.ofMap rowV (fun r => V.str r.name) (wds R) ?l_8) ?z_8) (fun _ _ => rfl)) fn1 rfl) Tr.or_nil)) rfl Exs.nil) ?n5
            case q1 => walk_at "ev"
            case q2 => walk_at "ev"
            case q3 => rw [← sufL_words hok.pg, List.map_map]; rfl
            case a_6 => walk_at "ev"
            case z_6 => simp; omega
            case l_6 =>
              intro p hp
              refine' CTurn.plain ?t1_5 ?t3_5 ?t4_5
              case t1_5 => walk_at "asg"
              case t3_5 => walk_at "ev"
              case t4_5 => walk_at "wk"
            case c7_6 => exact trivial
            case c1_6 | c2_6 | c3_6 | c4_6 | c5_6 | c6_6 | c8_6 | c9_6 => (((all_goals first | decide +kernel | rfl | exact fun _ _ => rfl | exact fun _ => rfl | trivial | exact ⟨rfl, rfl⟩ | exact ⟨⟨rfl, rfl, rfl, rfl, rfl, rfl⟩, trivial⟩ | exact ⟨⟨rfl, rfl, rfl, rfl, rfl, rfl⟩, ⟨rfl, rfl, rfl, rfl, rfl, rfl⟩, trivial⟩)))
            case a_8 => walk_at "ev"
            case z_8 => simp; omega
            case l_8 =>
              intro r hr
              refine' CTurn.plain ?t1_7 ?t3_7 ?t4_7
              case t1_7 => walk_at "asg"
              case t3_7 => walk_at "ev"
              case t4_7 => walk_at "wk"
            case c7_8 => exact trivial
            case c1_8 | c2_8 | c3_8 | c4_8 | c5_8 | c6_8 | c8_8 | c9_8 => (((all_goals first | decide +kernel | rfl | exact fun _ _ => rfl | exact fun _ => rfl | trivial | exact ⟨rfl, rfl⟩ | exact ⟨⟨rfl, rfl, rfl, rfl, rfl, rfl⟩, trivial⟩ | exact ⟨⟨rfl, rfl, rfl, rfl, rfl, rfl⟩, ⟨rfl, rfl, rfl, rfl, rfl, rfl⟩, trivial⟩)))
            case n5 =>
              refine' Exs.cons (Ex.ite_f (c := false) (Tr.cmp (Ev.to (Ev.comp (v := .lst ((sufL R).map rdV)) (vs := ["space", "row"]) (oc := none) (cap := []) ?a_10 rfl (CompOk.of [] ["space", "row"] ?c1_10 ?c2_10 ?c3_10 ?c4_10 ?c5_10 ?c6_10 ?c7_10 ?c8_10 ?c9_10) (CRun.one (CLoop.ofMap rdV (fun p => V.str p.2.lead) (sufL R) ?l_10) ?z_10) (fun _ _ => rfl)) (w := .lst ((wds R).map fun r => V.str r.lead)) ?q4) (Ev.comp (v := .lst ((wds R).map rowV)) (vs := ["lead", "name", "above"]) (oc := none) (cap := []) ?a_12 rfl (CompOk.of [] ["lead", "name", "above"] ?c1_12 ?c2_12 ?c3_12 ?c4_12 ?c5_12 ?c6_12 ?c7_12 ?c8_12 ?c9_12) (CRun.one (CLoop.ofMap rowV (fun r => V.str r.lead) (wds R) ?l_12) ?z_12) (fun _ _ => rfl)) fn2 rfl) rfl Exs.nil) ?n6
              case q4 => rw [← sufL_words hok.pg, List.map_map]; rfl
              case a_10 => walk_at "ev"
              case z_10 => simp; omega
              case l_10 =>
                intro p hp
                obtain ⟨j, sa⟩ := hW.suf p hp
                have hg := hW.good p hp
                have hws := wsOf_small hg.white hg.len
                have hpl := sa.len
                have hsx : sliceV (.str p.1) none (some ((wsOf p.2.lead).n : Int)) = some (.str p.2.lead) := by
                  have h1 := sa.lead
                  rw [hws.2.2]
                  show (if (0 : Int) ≤ (p.2.lead.length : Int) ∧ (p.2.lead.length : Int) ≤ (p.1.length : Int) then some (V.str (p.1.take ((p.2.lead.length : Int)).toNat)) else none) = _
                  rw [if_pos (by omega), Int.toNat_natCast, sa.take]
                refine' CTurn.plain ?t1_9 ?t3_9 ?t4_9
                case t1_9 => walk_at "asg"
                case t3_9 => walk_at "ev"
                case t4_9 => walk_at "wk"
              case c7_10 => exact trivial
              case c1_10 | c2_10 | c3_10 | c4_10 | c5_10 | c6_10 | c8_10 | c9_10 => (((all_goals first | decide +kernel | rfl | exact fun _ _ => rfl | exact fun _ => rfl | trivial | exact ⟨rfl, rfl⟩ | exact ⟨⟨rfl, rfl, rfl, rfl, rfl, rfl⟩, trivial⟩ | exact ⟨⟨rfl, rfl, rfl, rfl, rfl, rfl⟩, ⟨rfl, rfl, rfl, rfl, rfl, rfl⟩, trivial⟩)))
              case a_12 => walk_at "ev"
              case z_12 => simp; omega
              case l_12 =>
                intro r hr
                refine' CTurn.plain ?t1_11 ?t3_11 ?t4_11
                case t1_11 => walk_at "asg"
                case t3_11 => walk_at "ev"
                case t4_11 => walk_at "wk"
              case c7_12 => exact trivial
              case c1_12 | c2_12 | c3_12 | c4_12 | c5_12 | c6_12 | c8_12 | c9_12 => (((all_goals first | decide +kernel | rfl | exact fun _ _ => rfl | exact fun _ => rfl | trivial | exact ⟨rfl, rfl⟩ | exact ⟨⟨rfl, rfl, rfl, rfl, rfl, rfl⟩, trivial⟩ | exact ⟨⟨rfl, rfl, rfl, rfl, rfl, rfl⟩, ⟨rfl, rfl, rfl, rfl, rfl, rfl⟩, trivial⟩)))
              case n6 =>
                obtain ⟨pile', hRuns⟩ := hok.runs
                rw [← sufL_words hok.pg] at hRuns
                have fheads := op_heads (k := 150) H (by decide) hRuns hW.good (by omega)
                have eh : ((sufL R).map fun p => V.str p.2.above) = (wds R).map fun r => V.str r.above := by rw [← sufL_words hok.pg, List.map_map]; rfl
                rw [eh] at fheads
                refine' Exs.cons (Ex.ite_f (c := false) (Tr.cmp ?q5 (Ev.comp (v := .lst ((wds R).map rowV)) (vs := ["lead", "name", "above"]) (oc := none) (cap := []) ?a_14 rfl (CompOk.of [] ["lead", "name", "above"] ?c1_14 ?c2_14 ?c3_14 ?c4_14 ?c5_14 ?c6_14 ?c7_14 ?c8_14 ?c9_14) (CRun.one (CLoop.ofMap rowV (fun r => V.str r.above) (wds R) ?l_14) ?z_14) (fun _ _ => rfl)) fn3 rfl) rfl Exs.nil) ?n7
                case q5 => walk_at "ev"
                case a_14 => walk_at "ev"
                case z_14 => simp; omega
                case l_14 =>
                  intro r hr
                  refine' CTurn.plain ?t1_13 ?t3_13 ?t4_13
                  case t1_13 => walk_at "asg"
                  case t3_13 => walk_at "ev"
                  case t4_13 => walk_at "wk"
                case c7_14 => exact trivial
                case c1_14 | c2_14 | c3_14 | c4_14 | c5_14 | c6_14 | c8_14 | c9_14 => (((all_goals first | decide +kernel | rfl | exact fun _ _ => rfl | exact fun _ => rfl | trivial | exact ⟨rfl, rfl⟩ | exact ⟨⟨rfl, rfl, rfl, rfl, rfl, rfl⟩, trivial⟩ | exact ⟨⟨rfl, rfl, rfl, rfl, rfl, rfl⟩, ⟨rfl, rfl, rfl, rfl, rfl, rfl⟩, trivial⟩)))
                case n7 =>
                  have hwne := hok.pg.wds_ne
                  have hlead20 : ∀ r ∈ wds R, r.lead.length ≤ 20 := fun r hr => (hok.fits r (hwf r hr)).lead
                  have hwhite : ∀ r ∈ wds R, White r.lead := fun r hr => (hok.pg.words r hr).lead
                  obtain ⟨M, hM, hM20, hruns⟩ := runsN_top hwne hlead20
                  have hrun : ∀ r ∈ wds R, runsLe M 0 r.lead := fun r hr => runs_of (hwhite r hr) (hruns r hr)
                  have hrl2 := runsN_length hlead20
                  refine' Exs.cons (Ex.set (i := 7) (v := .int ((M + 1 : Nat) : Int)) rfl rfl (Ev.to (Ev.bin ?m1 (Ev.call ?m2 rfl (Evs.cons (Ev.to (Ev.comp (v := .lst ((wds R).map rowV)) (vs := ["lead", "name", "above", "run"]) (oc := none) (cap := []) ?m3 rfl (CompOk.of [] ["lead", "name", "above", "run"] ?e1_t ?e2_t ?e3_t ?e4_t ?e5_t ?e6_t ?e7_t ?e8_t ?e9_t) (CRun.two (CLoop2.ofFlat rowV (fun r => (splitT [9] r.lead).map fun x => V.int x.length) (wds R) ?m4) ?m5 (fun _ _ => rfl)) (fun _ _ => rfl)) (w := .lst ((runsN (wds R)).map V.int)) ?m6) Evs.nil (fun _ _ h => Expr.noConfusion h)) (Op.max_lst (runsN_ne hwne)) rfl) Op.add_int) ?m7) (fun _ _ => rfl)) ?n8
                  case m1 => walk_at "ev"
                  case m2 => walk_at "gn"
                  case m3 => walk_at "ev"
                  case m5 => omega
                  case m6 =>
                    unfold runsN
                    rw [List.map_flatMap]
                    congr 2
                    funext r
                    rw [List.map_map]; rfl
                  case m7 =>
                    rw [hM]
                    congr 1
                    omega
                  case e7_t => exact trivial
                  case e1_t | e2_t | e3_t | e4_t | e5_t | e6_t | e8_t | e9_t => (((all_goals first | decide +kernel | rfl | exact fun _ _ => rfl | exact fun _ => rfl | trivial | exact ⟨rfl, rfl⟩ | exact ⟨⟨rfl, rfl, rfl, rfl, rfl, rfl⟩, trivial⟩ | exact ⟨⟨rfl, rfl, rfl, rfl, rfl, rfl⟩, ⟨rfl, rfl, rfl, rfl, rfl, rfl⟩, trivial⟩)))
                  case m4 =>
                    intro r hr
                    have h1 := hlead20 r hr
                    have h2 := splitT_sum [9] (by simp) r.lead
                    refine' ⟨_, .lst ((splitT [9] r.lead).map V.str), _, (splitT [9] r.lead).map V.str, ?x1, ?x2, rfl, CLoop.ofMap V.str (fun x => V.int x.length) _ ?x3, ?x4, ?x5⟩
                    case x1 => walk_at "asg"
                    case x2 => walk_at "ev"
                    case x3 =>
                      intro x hx
                      have h3 := hruns r hr x hx
                      refine' CTurn.plain ?x6 ?x7 ?x8
                      case x6 => walk_at "asg"
                      case x7 => walk_at "ev"
                      case x8 => walk_at "wk"
                    case x4 => simp; omega
                    case x5 => walk_at "wk"
                  case n8 =>
                    refine' Exs.cons (Ex.set (i := 8) rfl rfl (Ev.comp (v := .lst ((wds R).map rowV)) (vs := ["lead", "name", "above"]) (oc := none) (cap := [("top", .int ((M + 1 : Nat) : Int))]) ?y1 rfl (CompOk.of [7] ["lead", "name", "above", "top"] ?e1_u ?e2_u ?e3_u ?e4_u ?e5_u ?e6_u ?e7_u ?e8_u ?e9_u) (CRun.one (CLoop.ofMap rowV (colV M) (wds R) ?y2) ?y3) (fun _ _ => rfl)) ?y5) ?n9
                    case y1 => walk_at "ev"
                    case y3 => simp; omega
                    case y5 => intro env he; obtain ⟨sc, b1, b2, b3, b4⟩ := env; simp only at he; subst he; rfl
                    case e7_u => exact ⟨⟨rfl, rfl, rfl, rfl, rfl, rfl⟩, trivial⟩
                    case e1_u | e2_u | e3_u | e4_u | e5_u | e6_u | e8_u | e9_u => (((all_goals first | decide +kernel | rfl | exact fun _ _ => rfl | exact fun _ => rfl | trivial | exact ⟨rfl, rfl⟩ | exact ⟨⟨rfl, rfl, rfl, rfl, rfl, rfl⟩, trivial⟩ | exact ⟨⟨rfl, rfl, rfl, rfl, rfl, rfl⟩, ⟨rfl, rfl, rfl, rfl, rfl, rfl⟩, trivial⟩)))
                    case y2 =>
                      intro r hr
                      have h1 := hlead20 r hr
                      have fc := op_columns (k := 150) H (by decide) (l := r.lead) (top := M + 1) (by omega) (by omega)
                      have ec : ((List.range (M + 1)).map fun i => V.int (colL (i + 1) r.lead)) = (cols (M + 1) r.lead).map V.int := by unfold cols; rw [List.map_map]; rfl
                      rw [ec] at fc
                      refine' CTurn.plain ?x6 ?x7 ?x8
                      case x6 => walk_at "asg"
                      case x7 => walk_at "ev"
                      case x8 => walk_at "wk"
                    case n9 =>
                      refine' Exs.cons (Ex.comp (v := .lst ((wds R).map (colV M))) (vs := ["one"]) (oc := some "one") (cap := [("columns", .lst ((wds R).map (colV M)))]) ?y1 rfl (CompOk.of [8] ["one", "columns"] ?e1_v ?e2_v ?e3_v ?e4_v ?e5_v ?e6_v ?e7_v ?e8_v ?e9_v) (CRun.one (CLoop.ofMap (colV M) (fun r => V.lst ((wds R).map (toldV M r))) (wds R) ?y2) ?y3) ?y4 ?y5 rfl (fun _ _ => rfl)) ?n10
                      case y1 => walk_at "ev"
                      case y3 => simp; omega
                      case y4 => walk_at "asg"
                      case y5 => intro env he; obtain ⟨sc, b1, b2, b3, b4⟩ := env; simp only at he; subst he; rfl
                      case e7_v => exact ⟨⟨rfl, rfl, rfl, rfl, rfl, rfl⟩, trivial⟩
                      case e1_v | e2_v | e3_v | e4_v | e5_v | e6_v | e8_v | e9_v => (((all_goals first | decide +kernel | rfl | exact fun _ _ => rfl | exact fun _ => rfl | trivial | exact ⟨rfl, rfl⟩ | exact ⟨⟨rfl, rfl, rfl, rfl, rfl, rfl⟩, trivial⟩ | exact ⟨⟨rfl, rfl, rfl, rfl, rfl, rfl⟩, ⟨rfl, rfl, rfl, rfl, rfl, rfl⟩, trivial⟩)))
                      case y2 =>
                        intro r hr
                        refine' CTurn.plain ?x6 (Ev.comp (v := .lst ((wds R).map (colV M))) (vs := ["two"]) (oc := none) (cap := [("one", colV M r)]) ?x7 rfl (CompOk.of [0] ["two", "one"] ?e1_w ?e2_w ?e3_w ?e4_w ?e5_w ?e6_w ?e7_w ?e8_w ?e9_w) (CRun.one (CLoop.ofMap (colV M) (toldV M r) (wds R) ?x9) ?x10) (fun _ _ => rfl)) ?x8
                        case x6 => walk_at "asg"
                        case x7 => walk_at "ev"
                        case x10 => simp; omega
                        case e7_w => exact ⟨⟨rfl, rfl, rfl, rfl, rfl, rfl⟩, trivial⟩
                        case e1_w | e2_w | e3_w | e4_w | e5_w | e6_w | e8_w | e9_w => (((all_goals first | decide +kernel | rfl | exact fun _ _ => rfl | exact fun _ => rfl | trivial | exact ⟨rfl, rfl⟩ | exact ⟨⟨rfl, rfl, rfl, rfl, rfl, rfl⟩, trivial⟩ | exact ⟨⟨rfl, rfl, rfl, rfl, rfl, rfl⟩, ⟨rfl, rfl, rfl, rfl, rfl, rfl⟩, trivial⟩)))
                        case x9 =>
                          intro q hq
                          have fs := op_smaller (k := 150) H (by decide) (xs := cols (M + 1) r.lead) (ys := cols (M + 1) q.lead) (by rw [cols_length]; omega) (by rw [cols_length, cols_length])
                          have fe := Op.eq_data (G := G) (k := 150) false (okInts (cols (M + 1) r.lead)) (okInts (cols (M + 1) q.lead))
                          rw [same_iff (hwhite r hr) (hwhite q hq) (hrun r hr) (hrun q hq)] at fe
                          refine' CTurn.plain ?z6 ?z7 ?z8
                          case z6 => walk_at "asg"
                          case z7 => walk_at "ev"
                          case z8 => walk_at "wk"
                        case x8 => walk_at "wk"
                      case n10 =>
                        have okT : okV true 8 (.lst ((wds R).map fun r => V.lst ((wds R).map (toldV M r)))) = true := by simp [okV]
                        have fin := eq_self (G := G) _ true okT 150
                        have hmem : ∀ p ∈ sufL R, p.2 ∈ wds R := fun p hp => by rw [← sufL_words hok.pg]; exact List.mem_map.mpr ⟨p, hp, rfl⟩
                        refine' Exs.ret (Ex.ret (Ev.cmp (Ev.to (Ev.comp (v := .lst ((sufL R).map rdV)) (vs := ["one"]) (oc := some "one") (cap := [("read", .lst ((sufL R).map rdV))]) ?y1 rfl (CompOk.of [5] ["one", "read"] ?e1_x ?e2_x ?e3_x ?e4_x ?e5_x ?e6_x ?e7_x ?e8_x ?e9_x) (CRun.one (CLoop.ofMap rdV (fun p => V.lst ((sufL R).map fun p' => toldV M p.2 p'.2)) (sufL R) ?y2) ?y3) (fun _ _ => rfl)) (w := .lst ((wds R).map fun r => V.lst ((wds R).map (toldV M r)))) ?y4) ?y5 fin rfl))
                        case y1 => walk_at "ev"
                        case y3 => simp; omega
                        case y4 => rw [← sufL_words hok.pg, List.map_map]; congr 2; funext p; simp only [Function.comp, List.map_map]; rfl
                        case y5 => walk_at "ev"
                        case e7_x => exact ⟨⟨rfl, rfl, rfl, rfl, rfl, rfl⟩, trivial⟩
                        case e1_x | e2_x | e3_x | e4_x | e5_x | e6_x | e8_x | e9_x => (((all_goals first | decide +kernel | rfl | exact fun _ _ => rfl | exact fun _ => rfl | trivial | exact ⟨rfl, rfl⟩ | exact ⟨⟨rfl, rfl, rfl, rfl, rfl, rfl⟩, trivial⟩ | exact ⟨⟨rfl, rfl, rfl, rfl, rfl, rfl⟩, ⟨rfl, rfl, rfl, rfl, rfl, rfl⟩, trivial⟩)))
                        case y2 =>
                          intro p hp
                          refine' CTurn.plain ?x6 (Ev.comp (v := .lst ((sufL R).map rdV)) (vs := ["two"]) (oc := none) (cap := [("one", rdV p)]) ?x7 rfl (CompOk.of [0] ["two", "one"] ?e1_y ?e2_y ?e3_y ?e4_y ?e5_y ?e6_y ?e7_y ?e8_y ?e9_y) (CRun.one (CLoop.ofMap rdV (fun p' => toldV M p.2 p'.2) (sufL R) ?x9) ?x10) (fun _ _ => rfl)) ?x8
                          case x6 => walk_at "asg"
                          case x7 => walk_at "ev"
                          case x10 => simp; omega
                          case e7_y => exact ⟨⟨rfl, rfl, rfl, rfl, rfl, rfl⟩, trivial⟩
                          case e1_y | e2_y | e3_y | e4_y | e5_y | e6_y | e8_y | e9_y => (((all_goals first | decide +kernel | rfl | exact fun _ _ => rfl | exact fun _ => rfl | trivial | exact ⟨rfl, rfl⟩ | exact ⟨⟨rfl, rfl, rfl, rfl, rfl, rfl⟩, trivial⟩ | exact ⟨⟨rfl, rfl, rfl, rfl, rfl, rfl⟩, ⟨rfl, rfl, rfl, rfl, rfl, rfl⟩, trivial⟩)))
                          case x9 =>
                            intro q hq
                            have gp := hW.good p hp
                            have gq := hW.good q hq
                            have w1 := wsOf_small gp.white gp.len
                            have w2 := wsOf_small gq.white gq.len
                            have hb := smaller_iff (hwhite _ (hmem p hp)) (hwhite _ (hmem q hq)) (hrun _ (hmem p hp)) (hrun _ (hmem q hq))
                            have fl := op_less (k := 150) H (by decide) (r1 := p.1) (r2 := q.1) (w := wsOf p.2.lead) (o := wsOf q.2.lead) (by omega) (by omega) (by omega) (by omega) hb
                            have fe := op_equal (k := 150) H (by decide) (r1 := p.1) (r2 := q.1) (w1 := wsOf p.2.lead) (w2 := wsOf q.2.lead)
                            refine' CTurn.plain ?z6 ?z7 ?z8
                            case z6 => walk_at "asg"
                            case z7 => walk_at "ev"
                            case z8 => walk_at "wk"
                          case x8 => walk_at "wk"
end
end Mine
namespace Mine
theorem well_list {P : Params} {h : Heap} {a : Addr} {xs : List PyData} (x : Well P h (.ref a) (ofPy (.list xs))) : ∃ vs : List Value, h.get? a = some (listO vs 0) := by
  generalize hq : ofPy (.list xs) = d at x
  cases x with
  | list h1 _ => exact ⟨_, h1⟩
  | _ => simp [ofPy] at hq
theorem lay_ints {C : Addr} {P : Part} : ∀ {vs : List Value} {ns : List Int}, IntsAre vs ns → LayAll C P vs (ns.map V.int)
  | _, _, .nil => .nil
  | _, _, .cons i t h => .cons (.int i t) (lay_ints h)
theorem room0 : Room 160 callerA := by
  refine ⟨rfl, ?_, ?_⟩
  · decide +kernel
  · decide +kernel
end Mine
set_option maxHeartbeats 8000000 in
theorem PySem.Challenge.cw_pe0149_01_holds : PySem.Challenge.rw_pe0149_01.Holds := by
  refine Mine.hd ?_
  k_fill
  intro w s₀ s₁ mg mb G Y fa o pm cd doc dV kV ho hd hcd hD hmg hg args vals as hpre hlay hrd hwl hlo
  have KX := kIn_of Y
  clear ho hd hcd hD
  refine Ground.open G ?_
  intro T B D TE TW
  wrow_args hpre hlay hrd hwl hlo
  rename_i ns hs hlay0 hL1 hr1 hl2 as1 as2 l vs as3 hL ra w1 r0 hI hr hc1 hc2
  have hlaw : mg "law" = some (.ref (188 : Nat)) := mg_of KX T.g (by rfl)
  have hfa : fa = (188 : Nat) := by
    have h2 : mg "law" = some (.ref fa) := hmg
    rw [hlaw] at h2
    injection h2 with h2
    injection h2 with h2
    exact h2.symm
  subst hfa
  obtain ⟨vs', hlo'⟩ := Mine.well_list w1
  have hvs : vs' = vs := by
    obtain ⟨o1, e1, _, n1, e2⟩ := hL
    rw [hlo'] at e1
    cases e1
    have e3 : vs'.toArray = vs.toArray := by
      have : (Mine.listO vs' 0).data = Data.seq vs'.toArray 0 := rfl
      rw [this] at e2
      injection e2
    simpa using e3
  subst hvs
  let G0 : Mine.Glo := ⟨Challenge.rw_pe0149_01.row.prog, w, Mine.hd.heap_39 w.params, (127 : Nat), s₁, mg, mb, KX, T.g, T.b, T.nolimit, T.builtins⟩
  have H0 : Mine.Here G0 := ⟨rfl, rfl⟩
  have ok0 : G0.Ok s₁ := ⟨⟨s₁.heap, s₁.toks, rfl⟩, Mine.Kept.refl _⟩
  have hlen : ns.length ≤ 63 := by omega
  have P0in : Mine.Part.In (fun a => if a = l then some (Mine.listO vs' 0) else none) s₁.heap := fun a ob e => by
    by_cases ha : a = l
    · subst ha; simp at e; subst e; exact hlo'
    · simp [ha] at e
  have lay : Mine.LayAll G0.C (fun a => if a = l then some (Mine.listO vs' 0) else none) [.ref l] [.lst (ns.map .int)] := .cons (.lst (if_pos rfl) (Mine.lay_ints hI)) .nil
  refine Mine.op_law (G := G0) (k := 160) H0 (Nat.le_refl _) (ns := ns) (by omega) _ callerA s₁ _ _ _ Mine.room0 ok0 P0in lay fun val P' h' tk kp le inn nw lv => ?_
  cases lv
  refine GoodW.toG ⟨.inl ⟨_, .bool true, [], rfl, fun _ => ?_, .bool true, ?_, unshared_nil⟩, kp, rfl, hg⟩
  · rfl
  · with_unfolding_all rfl
