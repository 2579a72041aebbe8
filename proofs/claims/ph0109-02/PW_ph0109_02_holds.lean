import PyProof.Rows.All
import Wide.All
import OpenK.AllK
import Wide.FinOn
import KE.BitLaws
import KE.KBits
import KE.KEqDict
import KE.KTops
import Lean
import PySem.Challenge.RW_ph0109_02
open PySem PySem.W PyProof.Rows
set_option Elab.async false
set_option linter.unusedVariables false
namespace Mine

/-- data as the proofs see it: plain values, frozen lists, mutable objects by their address -/
inductive D where
  | undef
  | none
  | bool (b : Bool)
  | int (i : Int)
  | str (s : Str)
  | list (xs : List D)
  | tup (xs : List D)
  | ref (a : Addr)
  | ty (T : String)

abbrev FM := Addr → Option Obj

def lobj (vs : List Value) (n : Nat) : Obj := { cls := .type "list", dict := none, data := .seq vs.toArray n, slots := #[] }
def tobj (vs : List Value) (n : Nat) : Obj := { cls := .type "tuple", dict := none, data := .seq vs.toArray n, slots := #[] }

mutual
def RelV (F : FM) : D → Value → Prop
  | .undef, _ => False
  | .none, v => v = .none
  | .bool b, v => v = .bool b
  | .int i, v => ∃ t, v = .int i t
  | .str x, v => ∃ t, v = .str x t
  | .ref a, v => v = .ref a
  | .ty T, v => v = .type T
  | .list ds, v => ∃ a vs n, v = .ref a ∧ F a = some (lobj vs n) ∧ RelVs F ds vs
  | .tup ds, v => ∃ a vs n, v = .ref a ∧ F a = some (tobj vs n) ∧ RelVs F ds vs
def RelVs (F : FM) : List D → List Value → Prop
  | [], vs => vs = []
  | d :: ds, vs => ∃ v r, vs = v :: r ∧ RelV F d v ∧ RelVs F ds r
end

def FSub (F F' : FM) : Prop := ∀ a o, F a = some o → F' a = some o
theorem FSub.refl (F : FM) : FSub F F := fun _ _ h => h
theorem FSub.trans {F G H : FM} (a : FSub F G) (b : FSub G H) : FSub F H := fun x o h => b x o (a x o h)

mutual
theorem RelV.mono {F F' : FM} (hs : FSub F F') : ∀ {d : D} {v : Value}, RelV F d v → RelV F' d v
  | .undef, _, h => h
  | .none, _, h => h
  | .bool _, _, h => h
  | .int _, _, h => h
  | .str _, _, h => h
  | .ref _, _, h => h
  | .ty _, _, h => h
  | .list ds, v, h => by
    rw [RelV] at h ⊢
    obtain ⟨a, vs, n, e, hf, hr⟩ := h
    exact ⟨a, vs, n, e, hs _ _ hf, RelVs.mono hs hr⟩
  | .tup ds, v, h => by
    rw [RelV] at h ⊢
    obtain ⟨a, vs, n, e, hf, hr⟩ := h
    exact ⟨a, vs, n, e, hs _ _ hf, RelVs.mono hs hr⟩
theorem RelVs.mono {F F' : FM} (hs : FSub F F') : ∀ {ds : List D} {vs : List Value}, RelVs F ds vs → RelVs F' ds vs
  | [], _, h => h
  | d :: ds, vs, h => by
    rw [RelVs] at h ⊢
    obtain ⟨v, r, e, h1, h2⟩ := h
    exact ⟨v, r, e, RelV.mono hs h1, RelVs.mono hs h2⟩
end

theorem RelVs.length {F : FM} : ∀ {ds : List D} {vs : List Value}, RelVs F ds vs → vs.length = ds.length
  | [], vs, h => by rw [RelVs] at h; subst h; rfl
  | d :: ds, vs, h => by
    rw [RelVs] at h
    obtain ⟨v, r, rfl, _, h2⟩ := h
    simp [RelVs.length h2]

theorem RelVs.get {F : FM} : ∀ {ds : List D} {vs : List Value}, RelVs F ds vs → ∀ {i : Nat} {d : D}, ds[i]? = some d → ∃ v, vs[i]? = some v ∧ RelV F d v
  | [], vs, h, i, d, e => by simp at e
  | d :: ds, vs, h, 0, d', e => by
    rw [RelVs] at h
    obtain ⟨v, r, rfl, h1, _⟩ := h
    simp at e; subst e
    exact ⟨v, rfl, h1⟩
  | d :: ds, vs, h, i + 1, d', e => by
    rw [RelVs] at h
    obtain ⟨v, r, rfl, _, h2⟩ := h
    simp at e
    obtain ⟨v', e', hv⟩ := RelVs.get h2 e
    exact ⟨v', by simpa using e', hv⟩

theorem RelVs.append {F : FM} : ∀ {ds : List D} {vs : List Value} {es : List D} {us : List Value}, RelVs F ds vs → RelVs F es us → RelVs F (ds ++ es) (vs ++ us)
  | [], vs, es, us, h, g => by rw [RelVs] at h; subst h; exact g
  | d :: ds, vs, es, us, h, g => by
    rw [RelVs] at h
    obtain ⟨v, r, rfl, h1, h2⟩ := h
    show RelVs F (d :: (ds ++ es)) (v :: (r ++ us))
    rw [RelVs]
    exact ⟨v, _, rfl, h1, h2.append g⟩
theorem RelVs.one {F : FM} {d : D} {v : Value} (h : RelV F d v) : RelVs F [d] [v] := by
  rw [RelVs]; exact ⟨v, [], rfl, h, by rw [RelVs]⟩
theorem RelVs.nil {F : FM} : RelVs F [] [] := by rw [RelVs]
theorem RelVs.cons {F : FM} {d : D} {v : Value} {ds : List D} {vs : List Value} (h : RelV F d v) (g : RelVs F ds vs) : RelVs F (d :: ds) (v :: vs) := by
  rw [RelVs]; exact ⟨v, vs, rfl, h, g⟩

/-- mutable objects -/
inductive MObj where
  | lst (xs : List D)
  | dct (f : Int → Option D) (n : Nat)
  | itr (l : Addr) (i : Nat) (xs : List D)

def MRel (F : FM) (h : Heap) (a : Addr) : MObj → Prop
  | .lst ds => ∃ vs n, h.get? a = some (lobj vs n) ∧ RelVs F ds vs
  | .dct f n => ∃ g, h.IntMap a g ∧ h.DictLe a n ∧ ∀ k, (f k = none ∧ g k = none) ∨ ∃ d v, f k = some d ∧ g k = some v ∧ RelV F d v
  | .itr l i ds => h.IsListIter a l i ∧ ∃ vs n, F l = some (lobj vs n) ∧ RelVs F ds vs

abbrev MM := Addr → Option MObj
abbrev Ctx := List (Str × D)

end Mine

open PySem PySem.W PyProof.Rows
set_option Elab.async false
set_option linter.unusedVariables false
namespace Mine

/-- what stays fixed while the law runs: the world, the globals, the state at the law's call -/
structure Wd where
  prog : Program
  w : World
  s₁ : Shared
  mg : Str → Option Value
  mb : Str → Option Value

structure Wd.Ok (W : Wd) : Prop where
  g : W.s₁.heap.Ns mainGlobals W.mg
  b : W.s₁.heap.Ns builtinsNs W.mb
  nolimit : W.s₁.heap.NoLimit
  builtins : ∀ x : Str, x ≠ "__name__" → W.mb x = bootBuiltins x
  gens : W.s₁.gens = #[]
  gne : mainGlobals < W.s₁.heap.objs.size

abbrev Wd.M (W : Wd) : Model := model W.prog W.w

structure GoodA (A : Around) (k : Nat) : Prop where
  handled : A.handled = none
  depth : A.depth + k ≤ 400
  units : A.units + 10 * k ≤ 500

def GlobVal (W : Wd) (f : Str) (v : Value) : Prop := W.mg f = some v ∨ (W.mg f = none ∧ W.mb f = some v)

def VarIs (W : Wd) (h : Heap) (env : Env) (x : Str) (v : Value) : Prop :=
  (env.kindOf x = some .local ∧ ∃ m, h.Ns env.locals m ∧ m x = some v) ∨
  ((env.kindOf x = some .cell ∨ env.kindOf x = some .free) ∧ ∃ c, env.cells.lookup x = some c ∧ h.IsCell c (some v)) ∨
  (env.kindOf x = some .globalImplicit ∧ GlobVal W x v)

structure EnvOk (env : Env) : Prop where
  kind : env.scope.kind = .function
  globals : env.globals = mainGlobals
  builtins : env.builtins = builtinsNs
  cells : ∀ x, env.kindOf x = some .cell ∨ env.kindOf x = some .free → ∃ c, env.cells.lookup x = some c

structure St (W : Wd) (env : Env) (Δ : Ctx) (μ : MM) (F : FM) (s : Shared) : Prop where
  eok : EnvOk env
  same : ∃ h tk, s = { W.s₁ with heap := h, toks := tk }
  base : ∀ b o, W.s₁.heap.get? b = some o → F b = some o
  sub : ∀ a o, F a = some o → s.heap.get? a = some o
  vars : ∀ x d, Δ.lookup x = some d → ∃ v, VarIs W s.heap env x v ∧ RelV F d v
  mu : ∀ a m, μ a = some m → F a = none ∧ MRel F s.heap a m
  ns : ∃ m, s.heap.Ns env.locals m
  nsF : F env.locals = none
  nsM : μ env.locals = none
  cellF : ∀ x c, (x, c) ∈ env.cells → F c = none ∧ μ c = none ∧ c ≠ env.locals ∧ ∃ v, s.heap.IsCell c v
  apart : env.cells.Pairwise fun x y => x.2 ≠ y.2

structure Ext (F : FM) (s : Shared) (F' : FM) (s' : Shared) : Prop where
  keeps : Keeps s s'
  sub : FSub F F'
  inn : ∀ a o, F' a = some o → s'.heap.get? a = some o
  new : ∀ a, F' a ≠ none → F a = none → s.heap.get? a = none

theorem Keeps.get {s s' : Shared} (k : Keeps s s') {b : Addr} {o : Obj} (h : s.heap.get? b = some o) : s'.heap.get? b = some o := by
  obtain ⟨h', tk, rfl, hk⟩ := k; exact hk b o h
theorem Keeps.rfl' (s : Shared) : Keeps s s := ⟨s.heap, s.toks, rfl, fun _ _ h => h⟩
theorem Keeps.trans' {s s' s'' : Shared} (a : Keeps s s') (b : Keeps s' s'') : Keeps s s'' := by
  obtain ⟨h', tk, rfl, hk⟩ := a
  obtain ⟨h'', tk', rfl, hk'⟩ := b
  exact ⟨h'', tk', rfl, fun x o h => hk' x o (hk x o h)⟩
theorem Keeps.tok (s : Shared) (t : Nat) : Keeps s { s with toks := t } := ⟨s.heap, t, rfl, fun _ _ h => h⟩
theorem Keeps.push (s : Shared) (o : Obj) : Keeps s { s with heap := s.heap.push o } := ⟨_, s.toks, rfl, fun _ _ h => Heap.get?_push_of_some _ h⟩

theorem Ext.rfl' {F : FM} {s : Shared} (h : ∀ a o, F a = some o → s.heap.get? a = some o) : Ext F s F s :=
  ⟨Keeps.rfl' s, FSub.refl F, h, fun a h1 h2 => absurd h2 h1⟩
theorem Ext.trans {F F' F'' : FM} {s s' s'' : Shared} (a : Ext F s F' s') (b : Ext F' s' F'' s'') : Ext F s F'' s'' := by
  refine ⟨Keeps.trans' a.keeps b.keeps, a.sub.trans b.sub, b.inn, fun x h1 h2 => ?_⟩
  cases h3 : F' x with
  | some o => exact a.new x (by rw [h3]; simp) h2
  | none =>
    have h4 := b.new x h1 h3
    cases h5 : s.heap.get? x with
    | none => rfl
    | some o => rw [Keeps.get a.keeps h5] at h4; cases h4
theorem Ext.ofKeeps {F : FM} {s s' : Shared} (h : ∀ a o, F a = some o → s.heap.get? a = some o) (k : Keeps s s') : Ext F s F s' :=
  ⟨k, FSub.refl F, fun a o e => Keeps.get k (h a o e), fun a h1 h2 => absurd h2 h1⟩

/-- freeze one fresh object -/
def FM.add (F : FM) (a : Addr) (o : Obj) : FM := fun b => if b = a then some o else F b
theorem FM.add_self (F : FM) (a : Addr) (o : Obj) : F.add a o a = some o := by simp [FM.add]
theorem FM.add_sub {F : FM} {a : Addr} {o : Obj} (h : F a = none) : FSub F (F.add a o) := fun b o' e => by
  unfold FM.add; split
  · subst_vars; rw [h] at e; cases e
  · exact e
theorem Ext.addNew {F F' : FM} {s s' : Shared} {a : Addr} {o : Obj} (x : Ext F s F' s') (ho : s'.heap.get? a = some o) (hn : s.heap.get? a = none) (hF : F' a = none) : Ext F s (F'.add a o) s' := by
  refine ⟨x.keeps, x.sub.trans (FM.add_sub hF), fun b o' e => ?_, fun b h1 h2 => ?_⟩
  · unfold FM.add at e; split at e
    · subst_vars; cases e; exact ho
    · exact x.inn b o' e
  · unfold FM.add at h1; split at h1
    · subst_vars; exact hn
    · exact x.new b h1 h2
theorem Ext.push {F : FM} {s : Shared} (h : ∀ a o, F a = some o → s.heap.get? a = some o) (o : Obj) (ho : o.isFreed = false) : Ext F s (F.add s.heap.objs.size o) { s with heap := s.heap.push o } := by
  have hn : s.heap.get? s.heap.objs.size = none := by
    cases e : s.heap.get? s.heap.objs.size with
    | none => rfl
    | some o => exact absurd (Heap.lt_size e) (Nat.lt_irrefl _)
  have hF : F s.heap.objs.size = none := by
    cases e : F s.heap.objs.size with
    | none => rfl
    | some o => rw [h _ _ e] at hn; cases hn
  exact (Ext.ofKeeps h (Keeps.push s o)).addNew (Heap.get?_push_size _ ho) hn hF

theorem MRel.keeps {F F' : FM} {h h' : Heap} (hF : FSub F F') (hk : ∀ b o, h.get? b = some o → h'.get? b = some o) {a : Addr} : ∀ {m : MObj}, MRel F h a m → MRel F' h' a m
  | .lst ds, ⟨vs, n, e, r⟩ => ⟨vs, n, hk _ _ e, r.mono hF⟩
  | .dct f n, ⟨g, ⟨o, e1, e2, e3, e4⟩, hk1, hr⟩ => ⟨g, ⟨o, e1, e2, hk _ _ e3, e4⟩, (fun o' es ep x y => by rw [hk _ _ e3] at x; exact hk1 o' es ep (e3.trans x) y), fun k => (hr k).imp_right fun ⟨d, v, a1, a2, a3⟩ => ⟨d, v, a1, a2, a3.mono hF⟩⟩
  | .itr l i ds, ⟨⟨o, e1, e2⟩, vs, n, e, r⟩ => ⟨⟨o, hk _ _ e1, e2⟩, vs, n, hF _ _ e, r.mono hF⟩

theorem VarIs.keeps {W : Wd} {h h' : Heap} {env : Env} {x : Str} {v : Value} (hk : ∀ b o, h.get? b = some o → h'.get? b = some o) : VarIs W h env x v → VarIs W h' env x v
  | .inl ⟨e, m, n, hm⟩ => .inl ⟨e, m, n.keeps hk, hm⟩
  | .inr (.inl ⟨e, c, hc, hv⟩) => .inr (.inl ⟨e, c, hc, hv.keeps hk⟩)
  | .inr (.inr h) => .inr (.inr h)

theorem St.ext {W : Wd} {env : Env} {Δ : Ctx} {μ : MM} {F F' : FM} {s s' : Shared} (S : St W env Δ μ F s) (x : Ext F s F' s') : St W env Δ μ F' s' := by
  have hk : ∀ b o, s.heap.get? b = some o → s'.heap.get? b = some o := fun b o h => Keeps.get x.keeps h
  have hnone : ∀ a, F a = none → (∃ o, s.heap.get? a = some o) → F' a = none := fun a h1 ⟨o, h2⟩ => by
    cases h3 : F' a with
    | none => rfl
    | some o' => have := x.new a (by rw [h3]; simp) h1; rw [h2] at this; cases this
  refine ⟨S.eok, ?_, fun b o e => x.sub _ _ (S.base b o e), x.inn, fun y d e => ?_, fun a m e => ?_, ?_, ?_, S.nsM, fun y c hc => ?_, S.apart⟩
  · obtain ⟨h, tk, rfl⟩ := S.same
    obtain ⟨h', tk', rfl, _⟩ := x.keeps
    exact ⟨h', tk', rfl⟩
  · obtain ⟨v, h1, h2⟩ := S.vars y d e
    exact ⟨v, h1.keeps hk, h2.mono x.sub⟩
  · obtain ⟨h1, h2⟩ := S.mu a m e
    refine ⟨hnone a h1 ?_, h2.keeps x.sub hk⟩
    cases m with
    | lst ds => obtain ⟨vs, n, e, _⟩ := h2; exact ⟨_, e⟩
    | dct f n => obtain ⟨g, ⟨o, _, _, e, _⟩, _⟩ := h2; exact ⟨_, e⟩
    | itr l i ds => obtain ⟨⟨o, e, _⟩, _⟩ := h2; exact ⟨_, e⟩
  · obtain ⟨m, n⟩ := S.ns; exact ⟨m, n.keeps hk⟩
  · obtain ⟨m, o, es, ep, e, _⟩ := S.ns
    exact hnone _ S.nsF ⟨_, e⟩
  · obtain ⟨h1, h2, h3, v, h4⟩ := S.cellF y c hc
    obtain ⟨o, e, _⟩ := id h4
    exact ⟨hnone _ h1 ⟨_, e⟩, h2, h3, v, h4.keeps hk⟩

/-- e gives d, and changes nothing that stood -/
def Ev (W : Wd) (A : Around) (env : Env) (Δ : Ctx) (μ : MM) (e : Expr) (d : D) : Prop :=
  ∀ F s (E : Value → Shared → Prop), St W env Δ μ F s → wpAny W.M A (eval e env) (fun v s' => ∃ F', Ext F s F' s' ∧ RelV F' d v) E s
def Tst (W : Wd) (A : Around) (env : Env) (Δ : Ctx) (μ : MM) (e : Expr) (b : Bool) : Prop :=
  ∀ F s (E : Value → Shared → Prop), St W env Δ μ F s → wpAny W.M A (isTrue e env (eval e env)) (fun v s' => ∃ F', Ext F s F' s' ∧ v = b) E s

section
variable {W : Wd} {A : Around} {env : Env} {Δ : Ctx} {μ : MM}

/-- two in a row -/
theorem Ev.bind2 {α : Type} {l r : Expr} {a b : D} {k : Value → Value → Sem α} {Q : α → Shared → Prop} {E : Value → Shared → Prop} {F : FM} {s : Shared}
    (hl : Ev W A env Δ μ l a) (hr : Ev W A env Δ μ r b) (S : St W env Δ μ F s)
    (h : ∀ F' s' v u, Ext F s F' s' → St W env Δ μ F' s' → RelV F' a v → RelV F' b u → wpAny W.M A (k v u) Q E s') :
    wpAny W.M A (eval l env) (fun v s₁ => wpAny W.M A (eval r env) (fun u s₂ => wpAny W.M A (k v u) Q E s₂) E s₁) E s := by
  refine wpAny_mono (hl F s E S) (fun v s₁ h₁ => ?_) fun _ _ x => x
  obtain ⟨F₁, x₁, r₁⟩ := h₁
  refine wpAny_mono (hr F₁ s₁ E (S.ext x₁)) (fun u s₂ h₂ => ?_) fun _ _ x => x
  obtain ⟨F₂, x₂, r₂⟩ := h₂
  exact h F₂ s₂ v u (x₁.trans x₂) ((S.ext x₁).ext x₂) (r₁.mono x₂.sub) r₂

theorem Ev.const_int {i : Int} {k : Nat} {p : Pos} : Ev W A env Δ μ (.Constant (.int i) k p) (.int i) := fun F s E S =>
  wpAny_Constant_int ⟨F, Ext.ofKeeps S.sub (Keeps.tok s _), by rw [RelV]; exact ⟨_, rfl⟩⟩
theorem Ev.const_str {x : Str} {k : Nat} {p : Pos} : Ev W A env Δ μ (.Constant (.str x) k p) (.str x) := fun F s E S =>
  wpAny_Constant_str ⟨F, Ext.ofKeeps S.sub (Keeps.tok s _), by rw [RelV]; exact ⟨_, rfl⟩⟩
theorem Ev.const_bool {b : Bool} {k : Nat} {p : Pos} : Ev W A env Δ μ (.Constant (.bool b) k p) (.bool b) := fun F s E S =>
  wpAny_Constant_bool ⟨F, Ext.rfl' S.sub, by rw [RelV]⟩
theorem Ev.const_none {k : Nat} {p : Pos} : Ev W A env Δ μ (.Constant .none k p) .none := fun F s E S =>
  wpAny_Constant_none ⟨F, Ext.rfl' S.sub, by rw [RelV]⟩

theorem loadVar (hW : W.Ok) {x : Str} {v : Value} {Q : Value → Shared → Prop} {E : Value → Shared → Prop} {F : FM} {s : Shared} (S : St W env Δ μ F s) (hv : VarIs W s.heap env x v) (h : Q v s) (hc : (x == ("__classdict__" : Str)) = false) :
    wpAny W.M A (loadName env x) Q E s := by
  rcases hv with ⟨hl, m, hn, hm⟩ | ⟨hl | hl, c, hc', hv⟩ | ⟨hl, hm⟩
  · exact wpAny_loadName_local S.eok.kind hl hn hm h
  · exact wpAny_loadName_cell S.eok.kind hl hc' hv h
  · exact wpAny_loadName_free S.eok.kind hl hc' hv h hc
  · unfold loadName
    simp only [Env.blockKind, S.eok.kind, hl, ScopeKind.isAnnotationScope, Bool.false_and, Bool.false_eq_true, if_false]
    have hg : s.heap.Ns env.globals W.mg := by rw [S.eok.globals]; exact hW.g.keeps fun b o e => S.sub _ _ (S.base b o e)
    have hb : s.heap.Ns env.builtins W.mb := by rw [S.eok.builtins]; exact hW.b.keeps fun b o e => S.sub _ _ (S.base b o e)
    rcases hm with hm | ⟨hm, hm'⟩
    · exact Calls.loadGlobal_global hg hm h
    · exact Calls.loadGlobal_builtin hg hm hb hm' h

theorem Ev.name (hW : W.Ok) {x : Str} {p : Pos} {d : D} (h : Δ.lookup x = some d) (hd : (x == ("__debug__" : Str)) = false) (hc : (x == ("__classdict__" : Str)) = false) :
    Ev W A env Δ μ (.Name x p) d := fun F s E S => by
  obtain ⟨v, h1, h2⟩ := S.vars x d h
  exact wpAny_Name (loadVar hW S h1 ⟨F, Ext.rfl' S.sub, h2⟩ hc) hd
end
end Mine

open PySem PySem.W PyProof.Rows
set_option Elab.async false
set_option linter.unusedVariables false
namespace Mine

def asList (μ : MM) : D → Option (List D)
  | .list ds => some ds
  | .ref a => match μ a with
    | some (.lst ds) => some ds
    | _ => none
  | _ => none

theorem asList_rel {W : Wd} {env : Env} {Δ : Ctx} {μ : MM} {F : FM} {s : Shared} (S : St W env Δ μ F s) {d : D} {v : Value} {ds : List D} (hv : RelV F d v) (h : asList μ d = some ds) :
    ∃ a vs n, v = .ref a ∧ s.heap.get? a = some (lobj vs n) ∧ RelVs F ds vs := by
  cases d with
  | list es =>
    simp only [asList, Option.some.injEq] at h; subst h
    rw [RelV] at hv
    obtain ⟨a, vs, n, e, hf, hr⟩ := hv
    exact ⟨a, vs, n, e, S.sub _ _ hf, hr⟩
  | ref a =>
    simp only [asList] at h
    cases hm : μ a with
    | none => rw [hm] at h; cases h
    | some m =>
      rw [hm] at h
      cases m with
      | lst es =>
        simp only [Option.some.injEq] at h; subst h
        rw [RelV] at hv
        obtain ⟨_, vs, n, e, hr⟩ := S.mu a _ hm
        exact ⟨a, vs, n, hv, e, hr⟩
      | _ => cases h
  | _ => cases h

theorem lobj_isList {h : Heap} {a : Addr} {vs : List Value} {n : Nat} (e : h.get? a = some (lobj vs n)) : h.IsList a vs.toArray := ⟨_, e, rfl, n, rfl⟩

abbrev Gv (W : Wd) (F : FM) (s : Shared) (d : D) (v : Value) (s' : Shared) : Prop := ∃ F', Ext F s F' s' ∧ RelV F' d v

section
variable {W : Wd} {A : Around} {env : Env} {Δ : Ctx} {μ : MM} {F : FM} {s : Shared} {E : Value → Shared → Prop}

theorem gv_int (S : St W env Δ μ F s) (i : Int) (t k : Nat) : Gv W F s (.int i) (.int i t) { s with toks := k } := ⟨F, Ext.ofKeeps S.sub (Keeps.tok s k), by rw [RelV]; exact ⟨_, rfl⟩⟩
theorem gv_int0 (S : St W env Δ μ F s) (i : Int) (t : Nat) : Gv W F s (.int i) (.int i t) s := ⟨F, Ext.rfl' S.sub, by rw [RelV]; exact ⟨_, rfl⟩⟩
theorem gv_str (S : St W env Δ μ F s) (x : Str) (t k : Nat) : Gv W F s (.str x) (.str x t) { s with toks := k } := ⟨F, Ext.ofKeeps S.sub (Keeps.tok s k), by rw [RelV]; exact ⟨_, rfl⟩⟩
theorem gv_bool (S : St W env Δ μ F s) (b : Bool) : Gv W F s (.bool b) (.bool b) s := ⟨F, Ext.rfl' S.sub, by rw [RelV]⟩
theorem gv_new (S : St W env Δ μ F s) {ds : List D} {vs : List Value} (hr : RelVs F ds vs) {o : Obj} (ho : o = lobj vs 0) :
    Gv W F s (.list ds) (.ref s.heap.objs.size) { s with heap := s.heap.push o } := by
  subst ho
  have x := Ext.push (F := F) (s := s) S.sub (lobj vs 0) rfl
  exact ⟨_, x, by rw [RelV]; exact ⟨_, vs, 0, rfl, FM.add_self .., hr.mono x.sub⟩⟩

/-- arithmetic of two values -/
noncomputable def arith : Operator → Int → Int → Option Int
  | .Add, a, b => some (a + b)
  | .Sub, a, b => some (a - b)
  | .Mult, a, b => @ite _ (a.natAbs < 2 ^ 64) (Classical.propDecidable _) (some (a * b)) none
  | .FloorDiv, a, b => @ite _ (0 < b ∧ b < 1073741824) (Classical.propDecidable _) (some (a / b)) none
  | .Mod, a, b => @ite _ (0 < b) (Classical.propDecidable _) (some (a % b)) none
  | .Pow, a, b => @ite _ (0 ≤ b ∧ b ≤ 1000000 ∧ a.natAbs < 2 ^ 64) (Classical.propDecidable _) (some (a ^ b.toNat)) none
  | .LShift, a, b => @ite _ (0 ≤ b ∧ b ≤ 1000000 ∧ a.natAbs < 2 ^ 64) (Classical.propDecidable _) (some (a * 2 ^ b.toNat)) none
  | .RShift, a, b => @ite _ (0 ≤ b) (Classical.propDecidable _) (some (a / 2 ^ b.toNat)) none
  | .BitAnd, a, b => some (Builtin.bitAnd a b)
  | .BitOr, a, b => some (Builtin.bitOr a b)
  | .BitXor, a, b => some (Builtin.bitXor a b)
  | _, _, _ => none


section
variable {a b : Int}
theorem aAdd : arith .Add a b = some (a + b) := rfl
theorem aSub : arith .Sub a b = some (a - b) := rfl
theorem aMul : arith .Mult a b = @ite _ (a.natAbs < 2 ^ 64) (Classical.propDecidable _) (some (a * b)) none := rfl
theorem aDiv : arith .FloorDiv a b = @ite _ (0 < b ∧ b < 1073741824) (Classical.propDecidable _) (some (a / b)) none := rfl
theorem aMod : arith .Mod a b = @ite _ (0 < b) (Classical.propDecidable _) (some (a % b)) none := rfl
theorem aPow : arith .Pow a b = @ite _ (0 ≤ b ∧ b ≤ 1000000 ∧ a.natAbs < 2 ^ 64) (Classical.propDecidable _) (some (a ^ b.toNat)) none := rfl
theorem aShl : arith .LShift a b = @ite _ (0 ≤ b ∧ b ≤ 1000000 ∧ a.natAbs < 2 ^ 64) (Classical.propDecidable _) (some (a * 2 ^ b.toNat)) none := rfl
theorem aShr : arith .RShift a b = @ite _ (0 ≤ b) (Classical.propDecidable _) (some (a / 2 ^ b.toNat)) none := rfl
theorem aAnd : arith .BitAnd a b = some (Builtin.bitAnd a b) := rfl
theorem aOr : arith .BitOr a b = some (Builtin.bitOr a b) := rfl
theorem aXor : arith .BitXor a b = some (Builtin.bitXor a b) := rfl
end
theorem no_none {α : Type} {P : Prop} {d : α} (h : none = some d) : P := nomatch h
theorem ite_some {α : Type} {P : Prop} {x y : α} (h : @ite _ P (Classical.propDecidable _) (some x) none = some y) : P ∧ x = y := by
  split at h
  · cases h; exact ⟨by assumption, rfl⟩
  · cases h

theorem fdiv_pos {a b : Int} (h : 0 < b) : a.fdiv b = a / b := Int.fdiv_eq_ediv_of_nonneg a (Int.le_of_lt h)
theorem fmod_pos {a b : Int} (h : 0 < b) : a.fmod b = a % b := Int.fmod_eq_emod_of_nonneg a (Int.le_of_lt h)
theorem bits64 {a : Int} (h : a.natAbs < 2 ^ 64) : Builtin.Int.intBits a ≤ 64 := intBits_le_64 (by omega) (by omega)

theorem arith_sound (S : St W env Δ μ F s) {op : Operator} {a b c : Int} (h : arith op a b = some c) (t u : Tok) :
    wpAny W.M A (binaryOp op (.int a t) (.int b u)) (Gv W F s (.int c)) E s := by
  cases op with
  | Add => cases h; exact add_int (gv_int S _ _ _)
  | Sub => cases h; exact sub_int (gv_int S _ _ _)
  | Mult => obtain ⟨hb, rfl⟩ := ite_some h; exact mul_int (gv_int S _ _ _) (.of_left (bits64 hb))
  | FloorDiv => obtain ⟨hb, rfl⟩ := ite_some h; rw [← fdiv_pos hb.1]; exact floordiv_int (by omega) (gv_int S _ _ _) (.inl (PyProof.noPylong_small (by omega)))
  | Mod => obtain ⟨hb, rfl⟩ := ite_some h; rw [← fmod_pos hb]; exact mod_int (by omega) (gv_int S _ _ _)
  | Pow => obtain ⟨hb, rfl⟩ := ite_some h; exact pow_int_small hb.1 hb.2.1 hb.2.2 (gv_int S _ _ _)
  | LShift => obtain ⟨hb, rfl⟩ := ite_some h; exact lshift_int_small hb.1 hb.2.1 hb.2.2 (gv_int S _ _ _)
  | RShift =>
    obtain ⟨hb, rfl⟩ := ite_some h
    rw [← fdiv_pos (b := 2 ^ b.toNat) (Int.pow_pos (by decide))]
    exact rshift_int hb (gv_int S _ _ _)
  | BitAnd => cases h; exact and_int (gv_int S _ _ _)
  | BitOr => cases h; exact or_int (gv_int S _ _ _)
  | BitXor => cases h; exact xor_int (gv_int S _ _ _)
  | _ => exact no_none h

/-- in place: only what the texts use -/
noncomputable def iarith : Operator → Int → Int → Option Int
  | .LShift, a, b => @ite _ (0 ≤ b ∧ b ≤ 1000000 ∧ a.natAbs < 2 ^ 64) (Classical.propDecidable _) (some (a * 2 ^ b.toNat)) none
  | .BitOr, a, b => some (Builtin.bitOr a b)
  | .BitXor, a, b => some (Builtin.bitXor a b)
  | _, _, _ => none
theorem iShl {a b : Int} : iarith .LShift a b = @ite _ (0 ≤ b ∧ b ≤ 1000000 ∧ a.natAbs < 2 ^ 64) (Classical.propDecidable _) (some (a * 2 ^ b.toNat)) none := rfl
theorem iOr {a b : Int} : iarith .BitOr a b = some (Builtin.bitOr a b) := rfl
theorem iXor {a b : Int} : iarith .BitXor a b = some (Builtin.bitXor a b) := rfl
theorem iarith_sound (S : St W env Δ μ F s) {op : Operator} {a b c : Int} (h : iarith op a b = some c) (t u : Tok) :
    wpAny W.M A (inplaceOp op (.int a t) (.int b u)) (Gv W F s (.int c)) E s := by
  cases op with
  | LShift => obtain ⟨hb, rfl⟩ := ite_some h; exact ilshift_int_small hb.1 hb.2.1 hb.2.2 (gv_int S _ _ _)
  | BitOr => cases h; exact ior_int (gv_int S _ _ _)
  | BitXor => cases h; exact ixor_int (gv_int S _ _ _)
  | _ => exact no_none h

def repL (n : Nat) (ds : List D) : List D := (List.replicate n ds).flatten
theorem foldl_arr (vs : List Value) : ∀ (n : Nat) (acc : Array Value), List.foldl (fun x1 x2 => x1 ++ x2) acc (List.replicate n vs.toArray) = (acc.toList ++ (List.replicate n vs).flatten).toArray
  | 0, acc => by simp
  | n + 1, acc => by
    rw [List.replicate_succ, List.foldl_cons, foldl_arr vs n, List.replicate_succ, List.flatten_cons]
    simp
theorem RelVs.rep {ds : List D} {vs : List Value} (h : RelVs F ds vs) : ∀ n, RelVs F (repL n ds) (List.replicate n vs).flatten
  | 0 => by simp [repL, RelVs]
  | n + 1 => by
    rw [repL, List.replicate_succ, List.replicate_succ, List.flatten_cons, List.flatten_cons]
    exact h.append (RelVs.rep h n)

noncomputable def binD (μ : MM) (op : Operator) (a b : D) : Option D :=
  match a, b with
  | .int x, .int y => (arith op x y).map .int
  | .str x, .str y => @ite _ (op = .Add ∧ x.length + y.length ≤ sizeLine) (Classical.propDecidable _) (some (.str (x ++ y))) none
  | .str x, .int n => @ite _ (op = .Mult ∧ 0 ≤ n ∧ n ≤ 1000 ∧ x.length ≤ 1000) (Classical.propDecidable _) (some (.str (Txt.mul x n))) none
  | a, .int n => match asList μ a with
    | some xs => @ite _ (op = .Mult ∧ 0 ≤ n ∧ n ≤ 1000 ∧ xs.length ≤ 1000) (Classical.propDecidable _) (some (.list (repL n.toNat xs))) none
    | none => none
  | a, b => match asList μ a, asList μ b with
    | some xs, some ys => @ite _ (op = .Add ∧ xs.length + ys.length ≤ sizeLine) (Classical.propDecidable _) (some (.list (xs ++ ys))) none
    | _, _ => none

theorem add_sound (S : St W env Δ μ F s) {a b : D} {v u : Value} {xs ys : List D} (ha : RelV F a v) (hb : RelV F b u) (hx : asList μ a = some xs) (hy : asList μ b = some ys) (hs : xs.length + ys.length ≤ sizeLine) :
    wpAny W.M A (binaryOp .Add v u) (Gv W F s (.list (xs ++ ys))) E s := by
  obtain ⟨l, vs, n, rfl, e, r⟩ := asList_rel S ha hx
  obtain ⟨l', us, n', rfl, e', r'⟩ := asList_rel S hb hy
  refine P.add_list (items := vs.toArray) (items2 := us.toArray) e e' (gv_new S (r.append r') (by simp [lobj])) ?_
  simp [r.length, r'.length]; exact hs

theorem mul_sound (S : St W env Δ μ F s) {a : D} {v : Value} {n : Int} {t : Tok} {xs : List D} (ha : RelV F a v) (hx : asList μ a = some xs) (h0 : 0 ≤ n) (h1 : n ≤ 1000) (hs : xs.length ≤ 1000) :
    wpAny W.M A (binaryOp .Mult v (.int n t)) (Gv W F s (.list (repL n.toNat xs))) E s := by
  obtain ⟨l, vs, k, rfl, hl, r⟩ := asList_rel S ha hx
  have hlen := r.length
  have hmul : vs.length * n.toNat ≤ 1000000 := by
    calc vs.length * n.toNat ≤ 1000 * 1000 := Nat.mul_le_mul (by omega) (by omega)
      _ = 1000000 := rfl
  refine wpAny_binaryOp_repeat_ref (T := "list") (U := "int") (by decide) ⟨_, hl, rfl⟩ (fun s' => typeIs_int s' n t) noFill_list_mul PySem.F.fills_int_mul PySem.F.slot_int_rmul repeat_list PySem.F.slot_int_index.lookup
    (call_meets PySem.F.slot_int_rmul (typeIs_int s n t) PySem.F.entry_int_rmul (PySem.F.args_int_rmul_2 _ _) (int___rmul___int_list n t l vs.toArray k)
      ⟨hl, rfl, ⟨_, hl, rfl⟩, call_meets PySem.F.slot_list_mul ⟨_, hl, rfl⟩ PySem.F.entry_list_mul (PySem.F.args_list_mul_2 _ _)
        (AutoListH.list___mul___list_int_3 l vs.toArray k n t (by simp [Builtin.List.listFitsIndex]; omega) (by simp; omega) (by simp [Builtin.List.listTooLong, sizeLine]; omega))
        ⟨hl, ?_⟩⟩)
  have key : (List.foldl (fun x1 x2 => x1 ++ x2) #[] (List.replicate (if vs.toArray.isEmpty = true then 0 else n.toNat) vs.toArray)) = ((List.replicate n.toNat vs).flatten).toArray := by
    rw [foldl_arr]
    cases vs with
    | nil => simp
    | cons x r => simp
  exact gv_new S (r.rep n.toNat) (by rw [key]; rfl)

theorem binD_sound (S : St W env Δ μ F s) {op : Operator} {a b d : D} {v u : Value} (h : binD μ op a b = some d) (ha : RelV F a v) (hb : RelV F b u) :
    wpAny W.M A (binaryOp op v u) (Gv W F s d) E s := by
  unfold binD at h
  split at h
  · rename_i x y
    rw [RelV] at ha; rw [RelV] at hb; obtain ⟨t, rfl⟩ := ha; obtain ⟨t', rfl⟩ := hb
    obtain ⟨c, hc, rfl⟩ := Option.map_eq_some_iff.mp h
    exact arith_sound S hc _ _
  · rename_i x y
    rw [RelV] at ha; rw [RelV] at hb; obtain ⟨t, rfl⟩ := ha; obtain ⟨t', rfl⟩ := hb
    split at h
    · rename_i hc; obtain ⟨rfl, hc⟩ := hc; cases h
      exact add_str (fun t' tk => gv_str S _ _ _) hc
    · cases h
  · rename_i x n
    rw [RelV] at ha; rw [RelV] at hb; obtain ⟨t, rfl⟩ := ha; obtain ⟨t', rfl⟩ := hb
    split at h
    · rename_i hc; obtain ⟨rfl, h0, h1, h2⟩ := hc; cases h
      exact SB.mul (by
        have hm : x.length * n.toNat ≤ 1000000 := by
          calc x.length * n.toNat ≤ 1000 * 1000 := Nat.mul_le_mul (by omega) (by omega)
            _ = 1000000 := rfl
        refine ⟨by simp; omega, fun hn _ => ?_, fun _ _ => ?_⟩
        · have h3 : (1000 : Int) ≤ (2 ^ 63 - 1 : Int) / n := by
            refine (Int.le_ediv_iff_mul_le (by omega)).mpr ?_
            have : (1000 : Int) * n ≤ 1000 * 1000 := Int.mul_le_mul_of_nonneg_left h1 (by decide)
            omega
          omega
        · simp [Builtin.Str.tooLong, sizeLine]; omega) (fun t' k => gv_str S _ _ _)
    · cases h
  · rename_i n _ _
    split at h
    · rename_i xs hx
      split at h
      · rename_i hc; obtain ⟨rfl, h0, h1, h2⟩ := hc; cases h
        rw [RelV] at hb; obtain ⟨t', rfl⟩ := hb
        exact mul_sound S ha hx h0 h1 h2
      · cases h
    · cases h
  · split at h
    · rename_i xs ys hx hy
      split at h
      · rename_i hc; obtain ⟨rfl, hc⟩ := hc; cases h
        exact add_sound S ha hb hx hy hc
      · cases h
    · cases h
end
end Mine

open PySem PySem.W PyProof.Rows
set_option Elab.async false
set_option linter.unusedVariables false
namespace Mine

noncomputable def idxL {α : Type} (xs : List α) (i : Int) : Option α := @ite _ (0 ≤ i) (Classical.propDecidable _) (xs[i.toNat]?) (@ite _ (-(xs.length : Int) ≤ i) (Classical.propDecidable _) (xs[(i + xs.length).toNat]?) none)

noncomputable def idxD (μ : MM) (d : D) (i : Int) : Option D :=
  @ite _ (-(2 ^ 63) ≤ i ∧ i < 2 ^ 63) (Classical.propDecidable _) (
    match d with
    | .str x => @ite _ (0 ≤ i ∧ i < x.length) (Classical.propDecidable _) (some (.str (Txt.item x i))) none
    | d => match asList μ d with
      | some ds => idxL ds i
      | none => match d with
        | .ref a => match μ a with
          | some (.dct f _) => f i
          | _ => none
        | _ => none) none

section
variable {W : Wd} {A : Around} {env : Env} {Δ : Ctx} {μ : MM} {F : FM} {s : Shared} {E : Value → Shared → Prop}

theorem idx_list (S : St W env Δ μ F s) {d : D} {v : Value} {i : Int} {t : Tok} {ds : List D} {x : D} (hv : RelV F d v) (hl : asList μ d = some ds) (hlo : -(2 ^ 63) ≤ i) (hhi : i < 2 ^ 63) (hx : idxL ds i = some x) :
    ∃ l items, v = .ref l ∧ s.heap.IsList l items ∧ wpAny W.M A (getItem v (.int i t)) (Gv W F s x) E s := by
  obtain ⟨l, vs, n, rfl, hl, r⟩ := asList_rel S hv hl
  refine ⟨l, vs.toArray, rfl, lobj_isList hl, ?_⟩
  unfold idxL at hx
  split at hx
  · rename_i h0
    obtain ⟨y, hy, ry⟩ := r.get hx
    exact wpAny_getItem_list (lobj_isList hl) h0 hhi (by simpa using hy) ⟨F, Ext.rfl' S.sub, ry⟩
  · rename_i h0
    split at hx
    · rename_i h1
      obtain ⟨y, hy, ry⟩ := r.get hx
      exact wpAny_getItem_list_neg (lobj_isList hl) (by omega) (by simp [r.length]; omega) hlo (by simpa [r.length] using hy) ⟨F, Ext.rfl' S.sub, ry⟩
    · cases hx

theorem idxD_get (S : St W env Δ μ F s) {d x : D} {v : Value} {i : Int} {t : Tok} (hv : RelV F d v) (h : idxD μ d i = some x) :
    ∃ T id, s.TypeIs v T ∧ typeLookup (.type T) "__getitem__" = pure (some (.builtin id)) ∧ wpAny W.M A (getItem v (.int i t)) (Gv W F s x) E s := by
  unfold idxD at h
  split at h
  · rename_i hb
    split at h
    · rename_i x'
      split at h
      · rename_i hc; cases h
        rw [RelV] at hv; obtain ⟨u, rfl⟩ := hv
        refine ⟨"str", _, typeIs_str _ _ _, PySem.F.slot_str_getitem.lookup, SB.getItem ?_ ?_ (gv_str S _ _ _)⟩
        · simp [fitsSsize]; omega
        · have h1 : ¬ i < 0 := by omega
          have h2 : i.toNat < x'.cps.size := by have := hc.2; simp [Str.length] at this; omega
          have h3 : seqIndex? i x'.length = some i.toNat := by
            unfold seqIndex?; simp [h1]; omega
          simp [Txt.charAt, h3, h2]
      · cases h
    · split at h
      · rename_i ds hl
        obtain ⟨l, items, rfl, hL, hw⟩ := idx_list (A := A) (E := E) (t := t) S hv hl hb.1 hb.2 h
        exact ⟨"list", _, hL.typeIs, slot_list_getitem.lookup, hw⟩
      · split at h
        · rename_i a _ _
          split at h
          · rename_i f n hm
            rw [RelV] at hv; subst hv
            obtain ⟨_, g, hD, _, hr⟩ := S.mu a _ hm
            rcases hr i with ⟨h1, _⟩ | ⟨d', u, h1, h2, h3⟩
            · rw [h1] at h; cases h
            · rw [h1] at h; cases h
              exact ⟨"dict", _, hD.typeIs, slot_dict_getitem.lookup, wpAny_getItem_intMap hD h2 ⟨F, Ext.ofKeeps S.sub (Keeps.tok s _), h3⟩⟩
          · cases h
        · cases h
  · cases h

theorem idx_sound (S : St W env Δ μ F s) {d x : D} {v : Value} {i : Int} {t : Tok} {value slice : Expr} (hv : RelV F d v) (h : idxD μ d i = some x)
    (hs : subscripted slice false v (.int i t) = operate [v, .int i t] (getItem v (.int i t))) :
    wpAny W.M A (subscriptTail value slice v (.int i t)) (Gv W F s x) E s := by
  obtain ⟨T, id, hT, hl, hw⟩ := idxD_get (A := A) (E := E) (t := t) S hv h
  exact tail_any hT hl hw hs

/-- slices -/
def pickL {α : Type} (xs : List α) (lo hi st : Option Int) : List α :=
  (sliceRange (sliceBounds lo hi st xs.length).1 (sliceBounds lo hi st xs.length).2.1 (sliceBounds lo hi st xs.length).2.2).filterMap (xs[·]?)
theorem RelVs.pick {ds : List D} {vs : List Value} (r : RelVs F ds vs) (is : List Nat) : RelVs F (is.filterMap (ds[·]?)) (is.filterMap (vs[·]?)) := by
  induction is with
  | nil => simp [RelVs]
  | cons i is ih =>
    cases e : ds[i]? with
    | none =>
      have e' : vs[i]? = none := by
        rw [List.getElem?_eq_none_iff] at e ⊢
        rw [r.length]; exact e
      simp only [List.filterMap_cons, e, e']; exact ih
    | some d =>
      obtain ⟨v, e', rv⟩ := r.get e
      simp only [List.filterMap_cons, e, e']; exact .cons rv ih

theorem slice_list_get (S : St W env Δ μ F s) {d : D} {v : Value} {sl : Addr} {ds : List D} {vl vu vs : Value} {lo hi st : Option Int} (hv : RelV F d v) (hl : asList μ d = some ds)
    (hs : s.heap.IsSliceOf sl vl vu vs) (pl : IsPart vl lo) (pu : IsPart vu hi) (ps : IsPart vs st) (h0 : st ≠ some 0) (hsz : ds.length ≤ sizeLine) :
    s.TypeIs v "list" ∧ wpAny W.M A (getItem v (.ref sl)) (Gv W F s (.list (pickL ds lo hi st))) E s := by
  obtain ⟨l, us, n, rfl, hl, r⟩ := asList_rel S hv hl
  refine ⟨(lobj_isList hl).typeIs, wpAny_getItem_list_slice (lobj_isList hl) hs pl pu ps h0 ?_ (by simp [r.length]; exact hsz)⟩
  have hr := r.pick (sliceRange (sliceBounds lo hi st ds.length).1 (sliceBounds lo hi st ds.length).2.1 (sliceBounds lo hi st ds.length).2.2)
  exact gv_new S hr (by simp [lobj, slicePick, r.length])

theorem slice_str_get (S : St W env Δ μ F s) {x : Str} {t : Tok} {sl : Addr} {lo hi : Option (Int × Tok)} (hs : s.heap.IsSlice sl lo hi none) (hsz : x.length ≤ sizeLine) :
    wpAny W.M A (getItem (.str x t) (.ref sl)) (Gv W F s (.str (Txt.slice x (lo.map (·.1)) (hi.map (·.1))))) E s := by
  refine wpAny_getItem_str_slice (l := lo) (u := hi) (st := none) hs rfl ?_
  unfold sliceMade
  generalize hc : ((Option.map (fun x => x.fst) (none : Option (Int × Tok))).getD 1 == 1 && (slicePicked x lo hi none).length == x.length) = c
  have e : Txt.slice x (lo.map (·.1)) (hi.map (·.1)) = if c = true then x else ⟨((slicePicked x lo hi none).filterMap (x.cps[·]?)).toArray⟩ := by rw [← hc]; rfl
  have hle := Txt.slice_le x (lo.map (·.1)) (hi.map (·.1))
  rw [e] at hle ⊢
  cases c with
  | true => exact ⟨F, Ext.rfl' S.sub, by rw [RelV]; exact ⟨_, rfl⟩⟩
  | false => exact ⟨Nat.le_trans hle hsz, gv_str S _ _ _⟩
end

/-- comparison -/
def intsOf? : List D → Option (List Int)
  | [] => some []
  | .int i :: r => (intsOf? r).map (i :: ·)
  | _ => none
def strsOf? : List D → Option (List Str)
  | [] => some []
  | .str i :: r => (strsOf? r).map (i :: ·)
  | _ => none
theorem intsOf_map (ns : List Int) : intsOf? (ns.map .int) = some ns := by induction ns with | nil => rfl | cons n r ih => simp [intsOf?, ih]
theorem strsOf_map (ns : List Str) : strsOf? (ns.map .str) = some ns := by induction ns with | nil => rfl | cons n r ih => simp [strsOf?, ih]
theorem intsOf_some : ∀ {ds : List D} {ns : List Int}, intsOf? ds = some ns → ds = ns.map .int
  | [], ns, h => by simp [intsOf?] at h; subst h; rfl
  | .int i :: r, ns, h => by
    simp only [intsOf?] at h
    obtain ⟨m, hm, rfl⟩ := Option.map_eq_some_iff.mp h
    rw [intsOf_some hm]; rfl
  | .undef :: _, _, h | .none :: _, _, h | .bool _ :: _, _, h | .str _ :: _, _, h | .list _ :: _, _, h | .tup _ :: _, _, h | .ref _ :: _, _, h | .ty _ :: _, _, h => by cases h
theorem strsOf_some : ∀ {ds : List D} {ns : List Str}, strsOf? ds = some ns → ds = ns.map .str
  | [], ns, h => by simp [strsOf?] at h; subst h; rfl
  | .str i :: r, ns, h => by
    simp only [strsOf?] at h
    obtain ⟨m, hm, rfl⟩ := Option.map_eq_some_iff.mp h
    rw [strsOf_some hm]; rfl
  | .undef :: _, _, h | .none :: _, _, h | .bool _ :: _, _, h | .int _ :: _, _, h | .list _ :: _, _, h | .tup _ :: _, _, h | .ref _ :: _, _, h | .ty _ :: _, _, h => by cases h

mutual
def toPy : D → Option PyData
  | .none => some .none
  | .bool b => some (.bool b)
  | .int i => some (.int i)
  | .str x => some (.str x)
  | .list ds => (toPys ds).map .list
  | _ => none
def toPys : List D → Option (List PyData)
  | [] => some []
  | d :: ds => match toPy d, toPys ds with
    | some x, some xs => some (x :: xs)
    | _, _ => none
end

mutual
theorem toPy_reads {F : FM} {h : Heap} (hs : ∀ a o, F a = some o → h.get? a = some o) : ∀ {d : D} {v : Value} {x : PyData}, RelV F d v → toPy d = some x → ∃ as, Reads h v x as
  | .none, v, x, hv, e => by simp [toPy] at e; subst e; rw [RelV] at hv; subst hv; exact ⟨_, .none⟩
  | .bool b, v, x, hv, e => by simp [toPy] at e; subst e; rw [RelV] at hv; subst hv; exact ⟨_, .bool b⟩
  | .int i, v, x, hv, e => by simp [toPy] at e; subst e; rw [RelV] at hv; obtain ⟨t, rfl⟩ := hv; exact ⟨_, .int i t⟩
  | .str i, v, x, hv, e => by simp [toPy] at e; subst e; rw [RelV] at hv; obtain ⟨t, rfl⟩ := hv; exact ⟨_, .str i t⟩
  | .list ds, v, x, hv, e => by
    simp only [toPy] at e
    obtain ⟨xs, hx, rfl⟩ := Option.map_eq_some_iff.mp e
    rw [RelV] at hv; obtain ⟨a, vs, n, rfl, hf, hr⟩ := hv
    obtain ⟨as, q⟩ := toPys_reads hs hr hx
    exact ⟨_, reads_list_at (hs _ _ hf) rfl rfl (by simpa [lobj] using q)⟩
  | .undef, _, _, _, e | .tup _, _, _, _, e | .ref _, _, _, _, e | .ty _, _, _, _, e => by simp [toPy] at e
theorem toPys_reads {F : FM} {h : Heap} (hs : ∀ a o, F a = some o → h.get? a = some o) : ∀ {ds : List D} {vs : List Value} {xs : List PyData}, RelVs F ds vs → toPys ds = some xs → ∃ as, ReadsAll h vs xs as
  | [], vs, xs, hv, e => by simp [toPys] at e; subst e; rw [RelVs] at hv; subst hv; exact ⟨_, .nil⟩
  | d :: ds, vs, xs, hv, e => by
    rw [toPys] at e
    rw [RelVs] at hv
    obtain ⟨v, r, rfl, h1, h2⟩ := hv
    split at e
    · rename_i x' xs' e1 e2
      cases e
      obtain ⟨as, q1⟩ := toPy_reads hs h1 e1
      obtain ⟨bs, q2⟩ := toPys_reads hs h2 e2
      exact ⟨_, .cons q1 q2⟩
    · cases e
end

noncomputable def eqD (a b : D) : Option Bool :=
  match toPy a, toPy b with
  | some x, some y => @ite _ (SeqAt.shaped x && SeqAt.shaped y) (Classical.propDecidable _) (some (PyData.eqv x y)) none
  | _, _ => none

def memD (x : D) (ds : List D) : Option Bool :=
  match x with
  | .int i => (intsOf? ds).map fun ns => decide (i ∈ ns)
  | .str i => (strsOf? ds).map fun ns => decide (i ∈ ns)
  | _ => none

noncomputable def cmpD (μ : MM) (op : CmpOp) (a b : D) : Option Bool :=
  match op with
  | .Eq => (match a, b with
    | .int x, .int y => some (x == y)
    | .str x, .str y => some (x == y)
    | .list x, .list y => eqD (.list x) (.list y)
    | _, _ => none)
  | .NotEq => (match a, b with
    | .int x, .int y => some (x != y)
    | .str x, .str y => some (x != y)
    | .list x, .list y => (eqD (.list x) (.list y)).map (!·)
    | _, _ => none)
  | .Lt => (match a, b with | .int x, .int y => some (decide (x < y)) | _, _ => none)
  | .LtE => (match a, b with | .int x, .int y => some (decide (x ≤ y)) | _, _ => none)
  | .Gt => (match a, b with | .int x, .int y => some (decide (y < x)) | _, _ => none)
  | .GtE => (match a, b with | .int x, .int y => some (decide (y ≤ x)) | _, _ => none)
  | .Is => (match a, b with | .bool x, .bool y => some (x == y) | _, _ => none)
  | .In => (match a, b with
    | .str x, .str y => some (Txt.contains y x)
    | a, b => match asList μ b with
      | some ds => memD a ds
      | none => match a, b with
        | .int k, .ref d => (match μ d with | some (.dct f _) => some (f k).isSome | _ => none)
        | _, _ => none)
  | .NotIn => (match a, b with
    | .str x, .str y => some (!Txt.contains y x)
    | a, b => match asList μ b with
      | some ds => (memD a ds).map (!·)
      | none => none)
  | _ => none

section
variable {W : Wd} {A : Around} {env : Env} {Δ : Ctx} {μ : MM} {F : FM} {s : Shared} {E : Value → Shared → Prop}

def eqTo (x : Value) : Value → Bool := fun y => match y, x with
  | .int a _, .int b _ => a == b
  | .str a _, .str b _ => a.cps.toList == b.cps.toList
  | _, _ => false

theorem relInts : ∀ {ns : List Int} {vs : List Value}, RelVs F (ns.map .int) vs → ∀ (i : Int) (t : Tok), (∀ y ∈ vs, MeetsSeq.EqGives y (.int i t) (eqTo (.int i t) y)) ∧ vs.any (eqTo (.int i t)) = decide (i ∈ ns)
  | [], vs, r, i, t => by rw [List.map_nil, RelVs] at r; subst r; simp
  | n :: ns, vs, r, i, t => by
    rw [List.map_cons, RelVs] at r
    obtain ⟨v, r', rfl, h1, h2⟩ := r
    rw [RelV] at h1; obtain ⟨u, rfl⟩ := h1
    obtain ⟨q1, q2⟩ := relInts h2 i t
    refine ⟨fun y hy => ?_, ?_⟩
    · rcases List.mem_cons.mp hy with rfl | hy
      · exact MeetsSeq.EqGives.int n i u t
      · exact q1 y hy
    · rw [List.any_cons, q2]
      simp only [eqTo, List.mem_cons]
      by_cases h : n = i
      · simp [h]
      · have : ¬ i = n := fun e => h e.symm
        simp [h, this]
theorem str_eq_cps (x y : Str) : (x.cps.toList == y.cps.toList) = (x == y) := by
  by_cases h : x = y
  · subst h; simp
  · have : ¬ x.cps.toList = y.cps.toList := fun e => h (by cases x; cases y; simp at e; simp [e])
    rw [beq_eq_false_iff_ne.mpr this, beq_eq_false_iff_ne.mpr h]
theorem relStrs : ∀ {ns : List Str} {vs : List Value}, RelVs F (ns.map .str) vs → ∀ (i : Str) (t : Tok), (∀ y ∈ vs, MeetsSeq.EqGives y (.str i t) (eqTo (.str i t) y)) ∧ vs.any (eqTo (.str i t)) = decide (i ∈ ns)
  | [], vs, r, i, t => by rw [List.map_nil, RelVs] at r; subst r; simp
  | n :: ns, vs, r, i, t => by
    rw [List.map_cons, RelVs] at r
    obtain ⟨v, r', rfl, h1, h2⟩ := r
    rw [RelV] at h1; obtain ⟨u, rfl⟩ := h1
    obtain ⟨q1, q2⟩ := relStrs h2 i t
    refine ⟨fun y hy => ?_, ?_⟩
    · rcases List.mem_cons.mp hy with rfl | hy
      · exact SeqRoads2.EqGives.str n i u t
      · exact q1 y hy
    · rw [List.any_cons, q2]
      simp only [eqTo, List.mem_cons, str_eq_cps]
      by_cases h : n = i
      · simp [h]
      · have : ¬ i = n := fun e => h e.symm
        simp [h, this]

theorem mem_sound (S : St W env Δ μ F s) {a b : D} {v u : Value} {ds : List D} {r : Bool} (ha : RelV F a v) (hb : RelV F b u) (hl : asList μ b = some ds) (hm : memD a ds = some r) :
    wpAny W.M A (compareOp .In v u) (Gv W F s (.bool r)) E s ∧ wpAny W.M A (compareOp .NotIn v u) (Gv W F s (.bool (!r))) E s := by
  obtain ⟨l, us, n, rfl, hl, rr⟩ := asList_rel S hb hl
  unfold memD at hm
  split at hm
  · rename_i i
    obtain ⟨ns, hn, rfl⟩ := Option.map_eq_some_iff.mp hm
    rw [intsOf_some hn] at rr
    rw [RelV] at ha; obtain ⟨t, rfl⟩ := ha
    obtain ⟨q1, q2⟩ := relInts rr i t
    have e : us.toArray.any (eqTo (.int i t)) = decide (i ∈ ns) := by rw [List.any_toArray]; exact q2
    exact ⟨SeqRoads2.in_list (eqTo (.int i t)) (fun y hy => q1 y (by simpa using hy)) hl (by rw [e]; exact gv_bool S _),
      SeqRoads2.notIn_list (eqTo (.int i t)) (fun y hy => q1 y (by simpa using hy)) hl (by rw [e]; exact gv_bool S _)⟩
  · rename_i i
    obtain ⟨ns, hn, rfl⟩ := Option.map_eq_some_iff.mp hm
    rw [strsOf_some hn] at rr
    rw [RelV] at ha; obtain ⟨t, rfl⟩ := ha
    obtain ⟨q1, q2⟩ := relStrs rr i t
    have e : us.toArray.any (eqTo (.str i t)) = decide (i ∈ ns) := by rw [List.any_toArray]; exact q2
    exact ⟨SeqRoads2.in_list (eqTo (.str i t)) (fun y hy => q1 y (by simpa using hy)) hl (by rw [e]; exact gv_bool S _),
      SeqRoads2.notIn_list (eqTo (.str i t)) (fun y hy => q1 y (by simpa using hy)) hl (by rw [e]; exact gv_bool S _)⟩
  · cases hm

theorem eqD_sound (S : St W env Δ μ F s) {a b : D} {v u : Value} {r : Bool} (hu : A.units + 64 < cLine) (ha : RelV F a v) (hb : RelV F b u) (h : eqD a b = some r) :
    wpAny W.M A (compareOp .Eq v u) (Gv W F s (.bool r)) E s ∧ wpAny W.M A (compareOp .NotEq v u) (Gv W F s (.bool (!r))) E s := by
  unfold eqD at h
  split at h
  · rename_i x y hx hy
    split at h
    · rename_i hsh; cases h
      rw [Bool.and_eq_true] at hsh
      obtain ⟨as, q1⟩ := toPy_reads S.sub ha hx
      obtain ⟨bs, q2⟩ := toPy_reads S.sub hb hy
      exact ⟨eq_dataH q1 q2 hsh.1 hsh.2 hu (gv_bool S _), ne_dataH q1 q2 hsh.1 hsh.2 hu (gv_bool S _)⟩
    · cases h
  · cases h

theorem cmp_sound (S : St W env Δ μ F s) {op : CmpOp} {a b : D} {v u : Value} {r : Bool} (hu : A.units + 64 < cLine) (h : cmpD μ op a b = some r) (ha : RelV F a v) (hb : RelV F b u) :
    wpAny W.M A (compareOp op v u) (Gv W F s (.bool r)) E s := by
  cases op <;> simp only [cmpD] at h
  case Eq =>
    split at h
    · rw [RelV] at ha; rw [RelV] at hb; obtain ⟨t, rfl⟩ := ha; obtain ⟨t', rfl⟩ := hb; cases h; exact eq_int (gv_bool S _)
    · rw [RelV] at ha; rw [RelV] at hb; obtain ⟨t, rfl⟩ := ha; obtain ⟨t', rfl⟩ := hb; cases h; exact eq_str (gv_bool S _)
    · exact (eqD_sound S hu ha hb h).1
    · cases h
  case NotEq =>
    split at h
    · rw [RelV] at ha; rw [RelV] at hb; obtain ⟨t, rfl⟩ := ha; obtain ⟨t', rfl⟩ := hb; cases h; exact ne_int (gv_bool S _)
    · rw [RelV] at ha; rw [RelV] at hb; obtain ⟨t, rfl⟩ := ha; obtain ⟨t', rfl⟩ := hb; cases h; exact ne_str (gv_bool S _)
    · obtain ⟨r', hr, rfl⟩ := Option.map_eq_some_iff.mp h
      exact (eqD_sound S hu ha hb hr).2
    · cases h
  case Lt => split at h <;> first | (rw [RelV] at ha; rw [RelV] at hb; obtain ⟨t, rfl⟩ := ha; obtain ⟨t', rfl⟩ := hb; cases h; exact lt_int (gv_bool S _)) | cases h
  case LtE => split at h <;> first | (rw [RelV] at ha; rw [RelV] at hb; obtain ⟨t, rfl⟩ := ha; obtain ⟨t', rfl⟩ := hb; cases h; exact le_int (gv_bool S _)) | cases h
  case Gt => split at h <;> first | (rw [RelV] at ha; rw [RelV] at hb; obtain ⟨t, rfl⟩ := ha; obtain ⟨t', rfl⟩ := hb; cases h; exact gt_int (gv_bool S _)) | cases h
  case GtE => split at h <;> first | (rw [RelV] at ha; rw [RelV] at hb; obtain ⟨t, rfl⟩ := ha; obtain ⟨t', rfl⟩ := hb; cases h; exact ge_int (gv_bool S _)) | cases h
  case Is =>
    split at h
    · rename_i x y
      rw [RelV] at ha; rw [RelV] at hb; subst ha; subst hb; cases h
      show wpAny _ A (do return Value.bool (← isSame (.bool x) (.bool y))) _ E s
      have e : isSame (.bool x) (.bool y) = pure (x == y) := by cases x <;> cases y <;> rfl
      rw [e]
      exact wpAny_bind (wpAny_pure (wpAny_pure (gv_bool S _)))
    · cases h
  case In =>
    split at h
    · rw [RelV] at ha; rw [RelV] at hb; obtain ⟨t, rfl⟩ := ha; obtain ⟨t', rfl⟩ := hb; cases h; exact SB.contains (gv_bool S _)
    · split at h
      · rename_i ds hl; exact (mem_sound S ha hb hl h).1
      · split at h
        · rename_i k d _ _
          split at h
          · rename_i f n hm; cases h
            rw [RelV] at ha; rw [RelV] at hb; obtain ⟨t, rfl⟩ := ha; subst hb
            obtain ⟨_, g, hD, _, hr⟩ := S.mu d _ hm
            refine wpAny_in_intMap hD ?_
            have : (g k).isSome = (f k).isSome := by rcases hr k with ⟨h1, h2⟩ | ⟨_, _, h1, h2, _⟩ <;> rw [h1, h2] <;> rfl
            rw [this]
            exact ⟨F, Ext.ofKeeps S.sub (Keeps.tok s _), by rw [RelV]⟩
          · cases h
        · cases h
  case NotIn =>
    split at h
    · rw [RelV] at ha; rw [RelV] at hb; obtain ⟨t, rfl⟩ := ha; obtain ⟨t', rfl⟩ := hb; cases h; exact SB.notContains (gv_bool S _)
    · split at h
      · rename_i ds hl
        obtain ⟨r', hr, rfl⟩ := Option.map_eq_some_iff.mp h
        exact (mem_sound S ha hb hl hr).2
      · cases h
  all_goals cases h
end
end Mine

open PySem PySem.W PyProof.Rows
set_option Elab.async false
set_option linter.unusedVariables false
namespace Mine

def notStar : Expr → Bool
  | .Starred .. => false
  | _ => true
theorem starEach_cons {e : Expr} {rest : List Expr} {env : Env} (h : notStar e = true) : starEach (e :: rest) env = (false, eval e env) :: starEach rest env := by
  cases e <;> first | rfl | cases h

def Keeper (W : Wd) (fv : Value) : Prop := (∃ id, fv = .builtin id) ∨ (∃ T, fv = .type T) ∨ ∃ a o fd, fv = .ref a ∧ W.s₁.heap.get? a = some o ∧ o.data = .func fd

/-- a call of the global f upon data ds gives d and changes nothing that stood -/
def FnOk (W : Wd) (k : Nat) (μ : MM) (f : Str) (ds : List D) (d : D) : Prop :=
  ∃ fv, GlobVal W f fv ∧ Keeper W fv ∧ ∀ (A : Around) (env : Env) (Δ : Ctx) (F : FM) (s : Shared) (E : Value → Shared → Prop) (vs : List Value),
    GoodA A k → St W env Δ μ F s → RelVs F ds vs → wpAny W.M A (call fv vs) (Gv W F s d) E s

section
variable {W : Wd} {A : Around} {env : Env} {Δ : Ctx} {μ : MM}

inductive EvL (W : Wd) (A : Around) (env : Env) (Δ : Ctx) (μ : MM) : List Expr → List D → Prop
  | nil : EvL W A env Δ μ [] []
  | cons {e es d ds} : notStar e = true → Ev W A env Δ μ e d → EvL W A env Δ μ es ds → EvL W A env Δ μ (e :: es) (d :: ds)

theorem EvL.spliced {es : List Expr} {ds : List D} (h : EvL W A env Δ μ es ds) : ∀ {pos : Pos} {Q : List Value → Shared → Prop} {E : Value → Shared → Prop} {F : FM} {s : Shared}, St W env Δ μ F s →
    (∀ F' s' vs, Ext F s F' s' → RelVs F' ds vs → Q vs s') → wpAny W.M A (spliced (backTo pos (starEach es env))) Q E s := by
  induction h with
  | nil => intro pos Q E F s S k; exact args_nil (k F s [] (Ext.rfl' S.sub) .nil)
  | cons hn he _ ih =>
    intro pos Q E F s S k
    refine args_cons (wpAny_mono (he F s E S) (fun v s₁ h₁ => ?_) fun _ _ x => x) (starEach_cons hn)
    obtain ⟨F₁, x₁, r₁⟩ := h₁
    exact ih (S.ext x₁) fun F₂ s₂ vs x₂ r₂ => k F₂ s₂ (v :: vs) (x₁.trans x₂) (.cons (r₁.mono x₂.sub) r₂)

theorem Ev.list {es : List Expr} {ds : List D} {pos : Pos} (h : EvL W A env Δ μ es ds) (hsz : ds.length ≤ sizeLine) : Ev W A env Δ μ (.List es pos) (.list ds) := fun F s E S => by
  refine wpAny_List (h.spliced S fun F' s' vs x r => ⟨by rw [r.length]; exact hsz, ?_⟩)
  obtain ⟨F₂, x₂, r₂⟩ := gv_new (S.ext x) r (o := { cls := .type "list", data := .seq vs.toArray }) rfl
  exact ⟨F₂, x.trans x₂, r₂⟩

theorem Ev.binop {l r : Expr} {op : Operator} {pos : Pos} {a b d : D} (hl : Ev W A env Δ μ l a) (hr : Ev W A env Δ μ r b) (h : binD μ op a b = some d) : Ev W A env Δ μ (.BinOp l op r pos) d := fun F s E S => by
  refine wpAny_BinOp (Ev.bind2 (k := fun v u => binaryOp op v u) hl hr S fun F' s' v u x S' r1 r2 => wpAny_mono (binD_sound S' h r1 r2) (fun v' s'' h' => ?_) fun _ _ e => e)
  obtain ⟨F₂, x₂, r₂⟩ := h'
  exact ⟨F₂, x.trans x₂, r₂⟩

theorem Ev.compare {l r : Expr} {op : CmpOp} {pos : Pos} {a b : D} {c : Bool} (hu : A.units + 64 < cLine) (hm : behindInMarks op r = false) (hl : Ev W A env Δ μ l a) (hr : Ev W A env Δ μ r b) (h : cmpD μ op a b = some c) :
    Ev W A env Δ μ (.Compare l [op] [r] pos) (.bool c) := fun F s E S => by
  refine wpAny_Compare1 (Ev.bind2 (k := fun v u => compareOp op v u) hl hr S fun F' s' v u x S' r1 r2 => wpAny_mono (cmp_sound S' hu h r1 r2) (fun v' s'' h' => ?_) fun _ _ e => e) hm
  obtain ⟨F₂, x₂, r₂⟩ := h'
  exact ⟨F₂, x.trans x₂, r₂⟩

theorem Tst.compare {l r : Expr} {op : CmpOp} {pos : Pos} {a b : D} {c : Bool} (hu : A.units + 64 < cLine) (hm : behindInMarks op r = false) (hl : Ev W A env Δ μ l a) (hr : Ev W A env Δ μ r b) (h : cmpD μ op a b = some c) :
    Tst W A env Δ μ (.Compare l [op] [r] pos) c := fun F s E S => by
  refine wpAny_isTrue_Compare1 (Ev.bind2 (k := fun v u => compareOp op v u) hl hr S fun F' s' v u x S' r1 r2 => wpAny_mono (cmp_sound S' hu h r1 r2) (fun v' s'' h' => ?_) fun _ _ e => e) hm
  obtain ⟨F₂, x₂, r₂⟩ := h'
  rw [RelV] at r₂; subst r₂
  exact wpAny_truthy_bool ⟨F₂, x.trans x₂, rfl⟩

theorem Ev.ifexp {t a b : Expr} {pos : Pos} {c : Bool} {d : D} (ht : Tst W A env Δ μ t c) (h1 : c = true → Ev W A env Δ μ a d) (h2 : c = false → Ev W A env Δ μ b d) : Ev W A env Δ μ (.IfExp t a b pos) d := fun F s E S => by
  refine wpAny_IfExp (wpAny_mono (ht F s E S) (fun v s₁ h₁ => ?_) fun _ _ e => e)
  obtain ⟨F₁, x₁, rfl⟩ := h₁
  have key : ∀ e, Ev W A env Δ μ e d → wpAny W.M A (eval e env) (fun v s' => ∃ F', Ext F s F' s' ∧ RelV F' d v) E s₁ := fun e he =>
    wpAny_mono (he F₁ s₁ E (S.ext x₁)) (fun v s₂ h₂ => by obtain ⟨F₂, x₂, r₂⟩ := h₂; exact ⟨F₂, x₁.trans x₂, r₂⟩) fun _ _ e => e
  cases v with
  | true => exact key a (h1 rfl)
  | false => exact key b (h2 rfl)

def truthD (μ : MM) : D → Option Bool
  | .bool b => some b
  | .int i => some (i != 0)
  | _ => none

theorem truth_sound {F : FM} {s : Shared} {E : Value → Shared → Prop} (S : St W env Δ μ F s) {d : D} {v : Value} {c : Bool} {Q : Bool → Shared → Prop} (h : truthD μ d = some c) (hv : RelV F d v) (hq : Q c s) : wpAny W.M A (truthy v) Q E s := by
  cases d <;> simp only [truthD] at h
  case bool b => cases h; rw [RelV] at hv; subst hv; exact wpAny_truthy_bool hq
  case int i => cases h; rw [RelV] at hv; obtain ⟨t, rfl⟩ := hv; exact truthy_int hq
  all_goals cases h

theorem Tst.value {e : Expr} {d : D} {c : Bool} (he : ∀ whole, isTrue e env whole = (do let v ← whole; standAt e.pos; holding [v] (truthy v))) (h : Ev W A env Δ μ e d) (hc : truthD μ d = some c) : Tst W A env Δ μ e c := fun F s E S => by
  refine wpAny_isTrue_value (wpAny_mono (h F s E S) (fun v s₁ h₁ => ?_) fun _ _ e => e) (he _)
  obtain ⟨F₁, x₁, r₁⟩ := h₁
  exact truth_sound (S.ext x₁) hc r₁ ⟨F₁, x₁, rfl⟩

theorem Tst.not {e : Expr} {pos : Pos} {c : Bool} (h : Tst W A env Δ μ e c) : Tst W A env Δ μ (.UnaryOp .Not e pos) (!c) := fun F s E S =>
  wpAny_isTrue_Not (wpAny_mono (h F s E S) (fun v s₁ h₁ => by obtain ⟨F₁, x₁, rfl⟩ := h₁; exact ⟨F₁, x₁, rfl⟩) fun _ _ e => e)

theorem Ev.neg {e : Expr} {pos : Pos} {i : Int} (h : Ev W A env Δ μ e (.int i)) : Ev W A env Δ μ (.UnaryOp .USub e pos) (.int (-i)) := fun F s E S => by
  refine wpAny_UnaryOp (wpAny_mono (h F s E S) (fun v s₁ h₁ => ?_) fun _ _ e => e)
  obtain ⟨F₁, x₁, r₁⟩ := h₁
  rw [RelV] at r₁; obtain ⟨t, rfl⟩ := r₁
  refine neg_int ?_
  obtain ⟨F₂, x₂, r₂⟩ := gv_int (S.ext x₁) (-i) s₁.toks (s₁.toks + 1)
  exact ⟨F₂, x₁.trans x₂, r₂⟩

theorem Ev.subscript {v i : Expr} {pos : Pos} {d x : D} {k : Int} (hi : ∀ o w, subscripted i false o w = operate [o, w] (getItem o w)) (hv : Ev W A env Δ μ v d) (hk : Ev W A env Δ μ i (.int k)) (h : idxD μ d k = some x) :
    Ev W A env Δ μ (.Subscript v i pos) x := fun F s E S => by
  refine Subscript_ (Ev.bind2 (k := fun o w => subscriptTail v i o w) hv hk S fun F' s' o w x S' r1 r2 => ?_)
  rw [RelV] at r2; obtain ⟨t, rfl⟩ := r2
  refine wpAny_mono (idx_sound S' r1 h (hi _ _)) (fun v' s'' h' => ?_) fun _ _ e => e
  obtain ⟨F₂, x₂, r₂⟩ := h'
  exact ⟨F₂, x.trans x₂, r₂⟩
end
end Mine

open PySem PySem.W PyProof.Rows
set_option Elab.async false
set_option linter.unusedVariables false
namespace Mine
section
variable {W : Wd} {A : Around} {env : Env} {Δ : Ctx} {μ : MM}

theorem Gv.after {F F' : FM} {s s' : Shared} (x : Ext F s F' s') {d : D} {v : Value} {s'' : Shared} (h : Gv W F' s' d v s'') : Gv W F s d v s'' := by
  obtain ⟨F₂, x₂, r₂⟩ := h; exact ⟨F₂, x.trans x₂, r₂⟩

theorem loadGlob (hW : W.Ok) {f : Str} {fv : Value} {Q : Value → Shared → Prop} {E : Value → Shared → Prop} {F : FM} {s : Shared} (S : St W env Δ μ F s) (hg : GlobVal W f fv) (hk : env.kindOf f = some .globalImplicit) (h : Q fv s) :
    wpAny W.M A (loadName env f) Q E s := by
  unfold loadName
  simp only [Env.blockKind, S.eok.kind, hk, ScopeKind.isAnnotationScope, Bool.false_and, Bool.false_eq_true, if_false]
  have hg' : s.heap.Ns env.globals W.mg := by rw [S.eok.globals]; exact hW.g.keeps fun b o e => S.sub _ _ (S.base b o e)
  have hb' : s.heap.Ns env.builtins W.mb := by rw [S.eok.builtins]; exact hW.b.keeps fun b o e => S.sub _ _ (S.base b o e)
  rcases hg with hg | ⟨hg, hb⟩
  · exact Calls.loadGlobal_global hg' hg h
  · exact Calls.loadGlobal_builtin hg' hg hb' hb h

/-- callWith for the three kinds of callees -/
theorem callWith_any {fv : Value} {es : List Expr} {ds : List D} {pos : Pos} {Q : Value → Shared → Prop} {E : Value → Shared → Prop} {F : FM} {s : Shared} (hk : Keeper W fv) (hl : EvL W A env Δ μ es ds) (hne : es ≠ []) (S : St W env Δ μ F s)
    (h : ∀ F' s' vs, Ext F s F' s' → RelVs F' ds vs → wpAny W.M A (call fv vs) Q E s') : wpAny W.M A (callWith pos fv [] (backTo pos (starEach es env)) []) Q E s := by
  cases hl with
  | nil => exact absurd rfl hne
  | @cons e es d ds hn he hr =>
    have hstar := starEach_cons (rest := es) (env := env) hn
    have hplain : ∀ {es : List Expr} {ds : List D}, EvL W A env Δ μ es ds → (backTo pos (starEach es env)).any (·.1) = false := by
      intro es ds h
      induction h with
      | nil => rfl
      | cons hn _ _ ih => rw [starEach_cons hn]; exact ih
    rcases hk with ⟨id, rfl⟩ | ⟨T, rfl⟩ | ⟨a, o, fd, rfl, ho, hd⟩
    · exact callWith_builtin1 ((EvL.cons hn he hr).spliced S fun F' s' vs x r => h F' s' vs x r) hstar (hplain hr)
    · refine PySem.callWith_type (by
        have := hplain (EvL.cons hn he hr); exact this) ?_
      have sp := (EvL.cons hn he hr).spliced (pos := pos) (E := E) S (Q := fun vs s' => wpAny W.M A (call (.type T) vs) Q E s') fun F' s' vs x r => h F' s' vs x r
      rw [hstar] at sp ⊢
      exact Calls.evalArgs_plain (wpAny_mono sp (fun vs s' h' => by simpa using h') fun _ _ e => e)
    · exact callWith_def hd ((EvL.cons hn he hr).spliced S fun F' s' vs x r => ⟨x.inn _ _ (x.sub _ _ (S.base a o ho)), h F' s' vs x r⟩) hstar

theorem Ev.call (hW : W.Ok) {f : Str} {p pos : Pos} {es : List Expr} {ds : List D} {d : D} {k : Nat} (hA : GoodA A k) (hf : FnOk W k μ f ds d) (hl : EvL W A env Δ μ es ds) (hne : es ≠ [])
    (hk : env.kindOf f = some .globalImplicit) (hd : (f == ("__debug__" : Str)) = false) : Ev W A env Δ μ (.Call (.Name f p) es [] pos) d := fun F s E S => by
  obtain ⟨fv, hg, hkp, hcall⟩ := hf
  refine Call_ (wpAny_Name (loadGlob hW S hg hk ?_) hd) rfl
  refine callWith_any hkp hl hne S fun F' s' vs x r => ?_
  exact wpAny_mono (hcall A env Δ F' s' E vs hA (S.ext x) r) (fun v s'' h' => Gv.after x h') fun _ _ e => e

/-- methods of plain values -/
def plainBase : Expr → Bool
  | .Call .. => false
  | _ => true
theorem base_eq {o : Expr} {name : Str} (h : plainBase o = true) (whole : Sem Value) : attributeBase o name env whole = whole := by
  cases o <;> first | rfl | cases h

theorem strs_rel {F : FM} : ∀ {xs : List Str} {vs : List Value}, RelVs F (xs.map .str) vs → ∃ l : List (Str × Tok), vs = strValues l ∧ l.map (·.1) = xs
  | [], vs, r => by rw [List.map_nil, RelVs] at r; subst r; exact ⟨[], rfl, rfl⟩
  | x :: xs, vs, r => by
    rw [List.map_cons, RelVs] at r
    obtain ⟨v, r', rfl, h1, h2⟩ := r
    rw [RelV] at h1; obtain ⟨t, rfl⟩ := h1
    obtain ⟨l, rfl, rfl⟩ := strs_rel h2
    exact ⟨(x, t) :: l, rfl, rfl⟩
theorem strs_rel' {F : FM} : ∀ (l : List (Str × Tok)), RelVs F ((l.map (·.1)).map .str) (strValues l)
  | [] => .nil
  | (x, t) :: l => .cons (by rw [RelV]; exact ⟨t, rfl⟩) (strs_rel' l)

theorem Ev.join {o e : Expr} {apos pos : Pos} {sep : Str} {d : D} {ds : List D} {xs : List Str} (hb : plainBase o = true) (hn : notStar e = true) (hline : (apos.endLine == pos.line) = true)
    (ho : Ev W A env Δ μ o (.str sep)) (he : Ev W A env Δ μ e d) (hl : asList μ d = some ds) (hs : strsOf? ds = some xs) (hok : JoinOk sep xs = true) :
    Ev W A env Δ μ (.Call (.Attribute o "join" apos) [e] [] pos) (.str (Txt.join sep xs)) := fun F s E S => by
  refine Call_method1 (base_eq hb _) (starEach_cons hn) hline (wpAny_mono (ho F s E S) (fun v s₁ h₁ => ?_) fun _ _ e => e)
  obtain ⟨F₁, x₁, r₁⟩ := h₁
  rw [RelV] at r₁; obtain ⟨t, rfl⟩ := r₁
  refine SB.join (wpAny_mono (he F₁ s₁ E (S.ext x₁)) (fun v s₂ h₂ => ?_) fun _ _ e => e)
  obtain ⟨F₂, x₂, r₂⟩ := h₂
  have S₂ := (S.ext x₁).ext x₂
  obtain ⟨l, vs, n, rfl, hget, hr⟩ := asList_rel S₂ r₂ hl
  rw [strsOf_some hs] at hr
  obtain ⟨l', rfl, hl'⟩ := strs_rel hr
  exact ⟨l, l', rfl, lobj_isList hget, xs, hl', hok, fun t' k => Gv.after (x₁.trans x₂) (gv_str S₂ _ _ _)⟩

theorem Ev.split {o e : Expr} {apos pos : Pos} {x y : Str} (hb : plainBase o = true) (hn : notStar e = true) (hline : (apos.endLine == pos.line) = true)
    (ho : Ev W A env Δ μ o (.str x)) (he : Ev W A env Δ μ e (.str y)) (hy : (y.length == 0) = false) (hx : x.length ≤ sizeLine)
    (hparts : (Builtin.Str.partsBetween x (Builtin.Str.occurrences x y 0 x.length (x.length + 1)) y.length).length ≤ sizeLine) :
    Ev W A env Δ μ (.Call (.Attribute o "split" apos) [e] [] pos) (.list ((Txt.split x y).map .str)) := fun F s E S => by
  refine Call_method1 (base_eq hb _) (starEach_cons hn) hline (wpAny_mono (ho F s E S) (fun v s₁ h₁ => ?_) fun _ _ e => e)
  obtain ⟨F₁, x₁, r₁⟩ := h₁
  rw [RelV] at r₁; obtain ⟨t, rfl⟩ := r₁
  refine ⟨"str", _, PySem.F.plainAttrs_str, PySem.F.slot_str_split, PySem.F.type_str_split, typeIs_str _ _ _, (fun _ e => nomatch e),
    method1_meets PySem.F.slot_str_split PySem.F.entry_str_split (wpAny_mono (he F₁ s₁ E (S.ext x₁)) (fun v s₂ h₂ => ?_) fun _ _ e => e)⟩
  obtain ⟨F₂, x₂, r₂⟩ := h₂
  have S₂ := (S.ext x₁).ext x₂
  rw [RelV] at r₂; obtain ⟨u, rfl⟩ := r₂
  refine ⟨typeIs_str _ _ _, PySem.F.args_str_split_2 _ _, ?_⟩
  have fin : ∀ (l : List (Str × Tok)) (k : Nat), l.map (·.1) = Txt.split x y → Gv W F s (.list ((Txt.split x y).map .str)) (.ref s₂.heap.objs.size) { s₂ with heap := s₂.heap.push { cls := .type "list", data := .seq (strValues l).toArray }, toks := k } := by
    intro l k hl
    have hp := Ext.ofKeeps (F := F₂) S₂.sub (Keeps.tok s₂ k)
    have S₃ := S₂.ext hp
    have g := gv_new S₃ (strs_rel' l) (o := { cls := .type "list", data := .seq (strValues l).toArray }) rfl
    rw [hl] at g
    exact Gv.after ((x₁.trans x₂).trans hp) g
  cases h1 : (decide (x.length < y.length) || decide (Builtin.Str.strKind x < Builtin.Str.strKind y))
  · cases hf : (Builtin.Str.occurrences x y 0 x.length (x.length + 1)).isEmpty
    · refine ⟨_, meets_str_split_sep x y t u h1 hy hf hx hparts, ?_⟩
      have g := fin (numbered s₂.toks (Builtin.Str.partsBetween x (Builtin.Str.occurrences x y 0 x.length (x.length + 1)) y.length)) (s₂.toks + (Builtin.Str.partsBetween x (Builtin.Str.occurrences x y 0 x.length (x.length + 1)) y.length).length)
        ((numbered_texts _ _).trans ((if_neg (ne_true_of_eq_false h1)).trans (if_neg (ne_true_of_eq_false hf))).symm)
      rw [← strsFrom_eq] at g
      exact g
    · exact ⟨_, meets_str_split_not_found x y t u h1 hy hf, fin [(x, t)] s₂.toks ((if_neg (ne_true_of_eq_false h1)).trans (if_pos hf)).symm⟩
  · exact ⟨_, meets_str_split_cannot_occur x y t u h1, fin [(x, t)] s₂.toks (if_pos h1).symm⟩

/-- xs.index(v), ints or strs -/
def findIdxD (x : D) (ds : List D) : Option Nat :=
  match x with
  | .int i => (intsOf? ds).bind fun ns => if i ∈ ns then some (ns.idxOf i) else none
  | .str i => (strsOf? ds).bind fun ns => if i ∈ ns then some (ns.idxOf i) else none
  | _ => none

theorem idxOf_facts {α : Type} [DecidableEq α] : ∀ {ns : List α} {i : α}, i ∈ ns → ns.idxOf i < ns.length ∧ ns[ns.idxOf i]? = some i ∧ ∀ m, m < ns.idxOf i → ∀ y, ns[m]? = some y → y ≠ i
  | n :: ns, i, h => by
    by_cases e : n = i
    · subst e; simp
    · have hm : i ∈ ns := by rcases List.mem_cons.mp h with rfl | h; exact absurd rfl e; exact h
      obtain ⟨a, b, c⟩ := idxOf_facts hm
      have e' : (n == i) = false := by simpa using e
      rw [List.idxOf_cons, e']
      simp only [cond_false]
      refine ⟨by simp; omega, by simpa using b, fun m hm' y hy => ?_⟩
      cases m with
      | zero => simp at hy; subst hy; exact e
      | succ m => exact c m (by omega) y (by simpa using hy)

theorem Ev.index {o e : Expr} {apos pos : Pos} {d x : D} {ds : List D} {j : Nat} (hb : plainBase o = true) (hn : notStar e = true) (hline : (apos.endLine == pos.line) = true)
    (ho : Ev W A env Δ μ o d) (he : Ev W A env Δ μ e x) (hl : asList μ d = some ds) (hj : findIdxD x ds = some j) (hsz : ds.length ≤ sizeLine) :
    Ev W A env Δ μ (.Call (.Attribute o "index" apos) [e] [] pos) (.int j) := fun F s E S => by
  refine Call_method1 (base_eq hb _) (starEach_cons hn) hline (wpAny_mono (ho F s E S) (fun v s₁ h₁ => ?_) fun _ _ e => e)
  obtain ⟨F₁, x₁, r₁⟩ := h₁
  have S₁ := S.ext x₁
  obtain ⟨l, vs, n, rfl, hget, hr⟩ := asList_rel S₁ r₁ hl
  refine ⟨"list", _, PySem.F.plainAttrs_list, PySem.F.slot_list_index, PySem.F.type_list_index, ⟨_, hget, rfl⟩, (fun a e => ⟨_, by cases e; exact hget, rfl⟩), ?_⟩
  refine P.index_list (wpAny_mono (he F₁ s₁ E S₁) (fun v s₂ h₂ => ?_) fun _ _ e => e)
  obtain ⟨F₂, x₂, r₂⟩ := h₂
  have S₂ := S₁.ext x₂
  have hget₂ := Keeps.get x₂.keeps hget
  have hr₂ := hr.mono x₂.sub
  have hlen := hr₂.length
  have hfit : (sizeLine : Int) < 2 ^ 63 - 1 := by decide
  unfold findIdxD at hj
  split at hj
  · rename_i i
    obtain ⟨ns, hns, hj⟩ := Option.bind_eq_some_iff.mp hj
    rw [intsOf_some hns] at hr₂ hlen hsz
    split at hj
    · rename_i hmem; cases hj
      obtain ⟨a1, a2, a3⟩ := idxOf_facts hmem
      simp only [List.length_map] at hlen hsz
      rw [RelV] at r₂; obtain ⟨t, rfl⟩ := r₂
      obtain ⟨q1, _⟩ := relInts hr₂ i t
      have hel : ∀ m y, ns[m]? = some y → ∃ u, vs[m]? = some (Value.int y u) := fun m y hy => by
        obtain ⟨v, hv, rv⟩ := hr₂.get (i := m) (d := .int y) (by rw [List.getElem?_map, hy]; rfl)
        rw [RelV] at rv; obtain ⟨u, rfl⟩ := rv; exact ⟨u, hv⟩
      obtain ⟨u, hu⟩ := hel _ _ a2
      have hsize : vs.toArray.size = ns.length := by simpa using hlen
      refine ⟨vs.toArray, n, eqTo (.int i t), ns.idxOf i, by rw [hsize]; exact a1, hget₂, fun y hy => q1 y (by simpa using hy), by omega, ?_, fun m hm hmj => ?_, Gv.after (x₁.trans x₂) (gv_int S₂ _ _ _)⟩
      · have e : vs.toArray[ns.idxOf i]'(by rw [hsize]; exact a1) = Value.int i u := by
          have := hu; simp at this ⊢
          exact (List.getElem?_eq_some_iff.mp this).2
        rw [e]; simp [eqTo]
      · have hm' : m < ns.length := by omega
        obtain ⟨u', hu'⟩ := hel m ns[m] (by simp [hm'])
        have e : vs.toArray[m] = Value.int ns[m] u' := by
          simp
          exact (List.getElem?_eq_some_iff.mp hu').2
        rw [e]; simp [eqTo]; exact a3 m hmj ns[m] (by simp [hm'])
    · cases hj
  · rename_i i
    obtain ⟨ns, hns, hj⟩ := Option.bind_eq_some_iff.mp hj
    rw [strsOf_some hns] at hr₂ hlen hsz
    split at hj
    · rename_i hmem; cases hj
      obtain ⟨a1, a2, a3⟩ := idxOf_facts hmem
      simp only [List.length_map] at hlen hsz
      rw [RelV] at r₂; obtain ⟨t, rfl⟩ := r₂
      obtain ⟨q1, _⟩ := relStrs hr₂ i t
      have hel : ∀ m y, ns[m]? = some y → ∃ u, vs[m]? = some (Value.str y u) := fun m y hy => by
        obtain ⟨v, hv, rv⟩ := hr₂.get (i := m) (d := .str y) (by rw [List.getElem?_map, hy]; rfl)
        rw [RelV] at rv; obtain ⟨u, rfl⟩ := rv; exact ⟨u, hv⟩
      obtain ⟨u, hu⟩ := hel _ _ a2
      have hsize : vs.toArray.size = ns.length := by simpa using hlen
      refine ⟨vs.toArray, n, eqTo (.str i t), ns.idxOf i, by rw [hsize]; exact a1, hget₂, fun y hy => q1 y (by simpa using hy), by omega, ?_, fun m hm hmj => ?_, Gv.after (x₁.trans x₂) (gv_int S₂ _ _ _)⟩
      · have e : vs.toArray[ns.idxOf i]'(by rw [hsize]; exact a1) = Value.str i u := by
          have := hu; simp at this ⊢
          exact (List.getElem?_eq_some_iff.mp this).2
        rw [e]; simp [eqTo]
      · have hm' : m < ns.length := by omega
        obtain ⟨u', hu'⟩ := hel m ns[m] (by simp [hm'])
        have e : vs.toArray[m] = Value.str ns[m] u' := by
          simp
          exact (List.getElem?_eq_some_iff.mp hu').2
        rw [e]; simp only [eqTo, str_eq_cps]; simpa using a3 m hmj ns[m] (by simp [hm'])
    · cases hj
  · cases hj
end
end Mine

open PySem PySem.W PyProof.Rows
set_option Elab.async false
set_option linter.unusedVariables false
namespace Mine

theorem ns_unique {h : Heap} {a : Addr} {m m' : Str → Option Value} (x : h.Ns a m) (y : h.Ns a m') : m = m' := by
  obtain ⟨o, es, ep, e1, e2, e3, e4⟩ := x
  obtain ⟨o', es', ep', f1, f2, f3, f4⟩ := y
  rw [e1] at f1; cases f1
  rw [e2] at f2; cases f2
  funext n
  rw [← e4 n, ← f4 n]

def KeepsBut (X : List Addr) (s s' : Shared) : Prop := ∃ h' tk, s' = { s with heap := h', toks := tk } ∧ ∀ b o, b ∉ X → s.heap.get? b = some o → h'.get? b = some o
theorem KeepsBut.get {X : List Addr} {s s' : Shared} (k : KeepsBut X s s') {b : Addr} {o : Obj} (hb : b ∉ X) (h : s.heap.get? b = some o) : s'.heap.get? b = some o := by
  obtain ⟨h', tk, rfl, hk⟩ := k; exact hk b o hb h
theorem KeepsBut.ofKeeps {X : List Addr} {s s' : Shared} (k : Keeps s s') : KeepsBut X s s' := by
  obtain ⟨h', tk, rfl, hk⟩ := k; exact ⟨h', tk, rfl, fun b o _ h => hk b o h⟩
theorem KeepsBut.trans {X : List Addr} {s s' s'' : Shared} (a : KeepsBut X s s') (b : KeepsBut X s' s'') : KeepsBut X s s'' := by
  obtain ⟨h', tk, rfl, hk⟩ := a
  obtain ⟨h'', tk', rfl, hk'⟩ := b
  exact ⟨h'', tk', rfl, fun x o hx h => hk' x o hx (hk x o hx h)⟩
theorem KeepsBut.mono {X Y : List Addr} {s s' : Shared} (a : KeepsBut X s s') (h : ∀ b ∈ X, b ∈ Y) : KeepsBut Y s s' := by
  obtain ⟨h', tk, rfl, hk⟩ := a
  exact ⟨h', tk, rfl, fun x o hx e => hk x o (fun hm => hx (h x hm)) e⟩
theorem KeepsBut.rfl' {X : List Addr} (s : Shared) : KeepsBut X s s := .ofKeeps (Keeps.rfl' s)

structure ExtBut (X : List Addr) (F : FM) (s : Shared) (F' : FM) (s' : Shared) : Prop where
  keeps : KeepsBut X s s'
  sub : FSub F F'
  new : ∀ a, F' a ≠ none → F a = none → s.heap.get? a = none ∨ a ∈ X

theorem ExtBut.rfl' {X : List Addr} {F : FM} {s : Shared} : ExtBut X F s F s := ⟨.rfl' s, .refl F, fun a h1 h2 => absurd h2 h1⟩
theorem ExtBut.trans {X : List Addr} {F F' F'' : FM} {s s' s'' : Shared} (a : ExtBut X F s F' s') (b : ExtBut X F' s' F'' s'') : ExtBut X F s F'' s'' := by
  refine ⟨a.keeps.trans b.keeps, a.sub.trans b.sub, fun x h1 h2 => ?_⟩
  cases h3 : F' x with
  | some o => exact a.new x (by rw [h3]; simp) h2
  | none =>
    rcases b.new x h1 h3 with h4 | h4
    · by_cases hx : x ∈ X
      · exact .inr hx
      · left
        cases h5 : s.heap.get? x with
        | none => rfl
        | some o => rw [a.keeps.get hx h5] at h4; cases h4
    · exact .inr h4
theorem ExtBut.mono {X Y : List Addr} {F F' : FM} {s s' : Shared} (a : ExtBut X F s F' s') (h : ∀ b ∈ X, b ∈ Y) : ExtBut Y F s F' s' := ⟨a.keeps.mono h, a.sub, fun x h1 h2 => (a.new x h1 h2).imp id (h x)⟩
theorem Ext.but {X : List Addr} {F F' : FM} {s s' : Shared} (a : Ext F s F' s') : ExtBut X F s F' s' := ⟨.ofKeeps a.keeps, a.sub, fun x h1 h2 => .inl (a.new x h1 h2)⟩
theorem ExtBut.same {X : List Addr} {F : FM} {s s' : Shared} (k : KeepsBut X s s') : ExtBut X F s F s' := ⟨k, .refl F, fun a h1 h2 => absurd h2 h1⟩
/-- what is fresh need not be named -/
theorem ExtBut.drop {X Y : List Addr} {F F' : FM} {s s' : Shared} (a : ExtBut X F s F' s') (h : ∀ b ∈ X, b ∈ Y ∨ s.heap.get? b = none) : ExtBut Y F s F' s' := by
  refine ⟨?_, a.sub, fun x h1 h2 => ?_⟩
  · obtain ⟨h', tk, rfl, hk⟩ := a.keeps
    refine ⟨h', tk, rfl, fun b o hb e => hk b o (fun hX => ?_) e⟩
    rcases h b hX with h1 | h1
    · exact hb h1
    · rw [h1] at e; cases e
  · rcases a.new x h1 h2 with h3 | h3
    · exact .inl h3
    · rcases h x h3 with h4 | h4
      · exact .inr h4
      · exact .inl h4
theorem ExtBut.ext {F F' : FM} {s s' : Shared} (a : ExtBut [] F s F' s') (hin : ∀ b o, F' b = some o → s'.heap.get? b = some o) : Ext F s F' s' := by
  refine ⟨?_, a.sub, hin, fun x h1 h2 => ?_⟩
  · obtain ⟨h', tk, rfl, hk⟩ := a.keeps; exact ⟨h', tk, rfl, fun b o e => hk b o (by simp) e⟩
  · rcases a.new x h1 h2 with h3 | h3
    · exact h3
    · cases h3

theorem MRel.same {F : FM} {h h' : Heap} {a : Addr} (hk : ∀ o, h.get? a = some o → h'.get? a = some o) : ∀ {m : MObj}, MRel F h a m → MRel F h' a m
  | .lst ds, ⟨vs, n, e, r⟩ => ⟨vs, n, hk _ e, r⟩
  | .dct f n, ⟨g, ⟨o, e1, e2, e3, e4⟩, hk1, hr⟩ => ⟨g, ⟨o, e1, e2, hk _ e3, e4⟩, (fun o' es ep x y => by rw [hk _ e3] at x; exact hk1 o' es ep (e3.trans x) y), hr⟩
  | .itr l i ds, ⟨⟨o, e1, e2⟩, r⟩ => ⟨⟨o, hk _ e1, e2⟩, r⟩
theorem MRel.some {F : FM} {h : Heap} {a : Addr} : ∀ {m : MObj}, MRel F h a m → ∃ o, h.get? a = Option.some o
  | .lst ds, ⟨vs, n, e, _⟩ => ⟨_, e⟩
  | .dct f n, ⟨g, ⟨o, _, _, e, _⟩, _⟩ => ⟨_, e⟩
  | .itr l i ds, ⟨⟨o, e, _⟩, _⟩ => ⟨_, e⟩

section
variable {W : Wd} {A : Around} {env : Env} {Δ : Ctx} {μ : MM} {F : FM} {s : Shared} {E : Value → Shared → Prop}

theorem St.lookupCell (S : St W env Δ μ F s) {x y : Str} {c : Addr} (h1 : env.cells.lookup x = some c) (h2 : env.cells.lookup y = some c) : x = y :=
  name_of_addr S.apart (mem_of_lookup h1) (mem_of_lookup h2)

/-- a name of the frame's own is stored -/
theorem St.store (S : St W env Δ μ F s) {x : Str} {d : D} {v : Value} {Q : Unit → Shared → Prop} (hk : env.kindOf x = some .local ∨ env.kindOf x = some .cell) (hv : RelV F d v)
    (h : ∀ s' b, (b = env.locals ∧ env.kindOf x = some .local ∨ env.cells.lookup x = some b ∧ env.kindOf x = some .cell) → St W env ((x, d) :: Δ) μ F s' → ExtBut [b] F s F s' → Q () s') : wpAny W.M A (storeName env x v) Q E s := by
  rcases hk with hk | hk
  · obtain ⟨m, hn⟩ := S.ns
    refine wpAny_storeName_local hk hn (fun h' hn' hs' => ?_) (by rw [S.eok.kind]; rfl)
    have keep : ∀ b o, b ≠ env.locals → s.heap.get? b = some o → h'.get? b = some o := fun b o hb e => (hs'.2 b hb).trans e
    have hext : ExtBut [env.locals] F s F { s with heap := h', toks := s.toks + 1 } := .same ⟨h', _, rfl, fun b o hb e => keep b o (by simpa using hb) e⟩
    refine h _ env.locals (.inl ⟨rfl, hk⟩) ⟨S.eok, ?_, S.base, fun a o e => keep a o (fun e' => by rw [e', S.nsF] at e; cases e) (S.sub a o e), fun y d' hy => ?_, fun a mo e => ?_, ⟨_, hn'⟩, S.nsF, S.nsM, fun y c hc => ?_, S.apart⟩ hext
    · obtain ⟨h₀, tk, rfl⟩ := S.same; exact ⟨h', _, rfl⟩
    · rw [List.lookup_cons] at hy
      cases hb : y == x with
      | true => rw [hb] at hy; cases hy; rw [beq_iff_eq.mp hb]; exact ⟨v, .inl ⟨hk, _, hn', by simp⟩, hv⟩
      | false =>
        rw [hb] at hy
        have hne : y ≠ x := fun e => by simp [e] at hb
        obtain ⟨u, hu, ru⟩ := S.vars y d' hy
        refine ⟨u, ?_, ru⟩
        rcases hu with ⟨h1, m', hm', hmy⟩ | ⟨h1, c, hc, hv'⟩ | h1
        · rw [ns_unique hm' hn] at hmy
          exact .inl ⟨h1, _, hn', by simp [hne, hmy]⟩
        · refine .inr (.inl ⟨h1, c, hc, ?_⟩)
          obtain ⟨o, ho, hd⟩ := hv'
          exact ⟨o, keep c o (S.cellF y c (mem_of_lookup hc)).2.2.1 ho, hd⟩
        · exact .inr (.inr h1)
    · obtain ⟨h1, h2⟩ := S.mu a mo e
      exact ⟨h1, h2.same fun o e' => keep a o (fun e'' => by rw [e'', S.nsM] at e; cases e) e'⟩
    · obtain ⟨h1, h2, h3, u, o, ho, hd⟩ := S.cellF y c hc
      exact ⟨h1, h2, h3, u, o, keep c o h3 ho, hd⟩
  · obtain ⟨c, hc⟩ := S.eok.cells x (.inl hk)
    obtain ⟨hcF, hcM, hcL, u₀, hu₀⟩ := S.cellF x c (mem_of_lookup hc)
    refine wpAny_storeName_cell S.eok.kind hk hc hu₀ fun h' hc' hs' => ?_
    have keep : ∀ b o, b ≠ c → s.heap.get? b = some o → h'.get? b = some o := fun b o hb e => (hs'.2 b hb).trans e
    have hext : ExtBut [c] F s F { s with heap := h' } := .same ⟨h', _, rfl, fun b o hb e => keep b o (by simpa using hb) e⟩
    refine h _ c (.inr ⟨hc, hk⟩) ⟨S.eok, ?_, S.base, fun a o e => keep a o (fun e' => by rw [e', hcF] at e; cases e) (S.sub a o e), fun y d' hy => ?_, fun a mo e => ?_, ?_, S.nsF, S.nsM, fun y c' hc'' => ?_, S.apart⟩ hext
    · obtain ⟨h₀, tk, rfl⟩ := S.same; exact ⟨h', _, rfl⟩
    · rw [List.lookup_cons] at hy
      cases hb : y == x with
      | true => rw [hb] at hy; cases hy; rw [beq_iff_eq.mp hb]; exact ⟨v, .inr (.inl ⟨.inl hk, c, hc, hc'⟩), hv⟩
      | false =>
        rw [hb] at hy
        have hne : y ≠ x := fun e => by simp [e] at hb
        obtain ⟨u, hu, ru⟩ := S.vars y d' hy
        refine ⟨u, ?_, ru⟩
        rcases hu with ⟨h1, m', hm', hmy⟩ | ⟨h1, c₂, hc₂, hv'⟩ | h1
        · exact .inl ⟨h1, m', hm'.sameBut hs' (Ne.symm hcL), hmy⟩
        · refine .inr (.inl ⟨h1, c₂, hc₂, ?_⟩)
          obtain ⟨o, ho, hd⟩ := hv'
          exact ⟨o, keep c₂ o (fun e => hne (S.lookupCell hc₂ (e ▸ hc))) ho, hd⟩
        · exact .inr (.inr h1)
    · obtain ⟨h1, h2⟩ := S.mu a mo e
      exact ⟨h1, h2.same fun o e' => keep a o (fun e'' => by rw [e'', hcM] at e; cases e) e'⟩
    · obtain ⟨m, hn⟩ := S.ns; exact ⟨m, hn.sameBut hs' (Ne.symm hcL)⟩
    · obtain ⟨h1, h2, h3, u, o, ho, hd⟩ := S.cellF y c' hc''
      refine ⟨h1, h2, h3, ?_⟩
      by_cases e : c' = c
      · subst e; exact ⟨_, hc'⟩
      · exact ⟨u, o, keep c' o e ho, hd⟩

/-- objects that neither are the frame's nor frozen nor named may change -/
theorem St.frame (S : St W env Δ μ F s) {X : List Addr} {s' : Shared} (k : KeepsBut X s s') (hX : ∀ b ∈ X, F b = none ∧ μ b = none ∧ b ≠ env.locals ∧ ∀ y, (y, b) ∉ env.cells) : St W env Δ μ F s' := by
  have keepF : ∀ a o, F a = some o → s'.heap.get? a = some o := fun a o e => k.get (fun hm => by rw [(hX a hm).1] at e; cases e) (S.sub a o e)
  have keepL : ∀ o, s.heap.get? env.locals = some o → s'.heap.get? env.locals = some o := fun o e => k.get (fun hm => (hX _ hm).2.2.1 rfl) e
  have keepC : ∀ y c, (y, c) ∈ env.cells → ∀ o, s.heap.get? c = some o → s'.heap.get? c = some o := fun y c hc o e => k.get (fun hm => (hX c hm).2.2.2 y hc) e
  refine ⟨S.eok, ?_, S.base, keepF, fun y d hy => ?_, fun a mo e => ?_, ?_, S.nsF, S.nsM, fun y c hc => ?_, S.apart⟩
  · obtain ⟨h, tk, rfl⟩ := S.same
    obtain ⟨h', tk', rfl, _⟩ := k
    exact ⟨h', tk', rfl⟩
  · obtain ⟨u, hu, ru⟩ := S.vars y d hy
    refine ⟨u, ?_, ru⟩
    rcases hu with ⟨h1, m', hm', hmy⟩ | ⟨h1, c₂, hc₂, hv'⟩ | h1
    · exact .inl ⟨h1, m', hm'.at' keepL, hmy⟩
    · obtain ⟨o, ho, hd⟩ := hv'
      exact .inr (.inl ⟨h1, c₂, hc₂, o, keepC y c₂ (mem_of_lookup hc₂) o ho, hd⟩)
    · exact .inr (.inr h1)
  · obtain ⟨h1, h2⟩ := S.mu a mo e
    exact ⟨h1, h2.same fun o e' => k.get (fun hm => by rw [(hX a hm).2.1] at e; cases e) e'⟩
  · obtain ⟨m, hn⟩ := S.ns; exact ⟨m, hn.at' keepL⟩
  · obtain ⟨h1, h2, h3, u, o, ho, hd⟩ := S.cellF y c hc
    exact ⟨h1, h2, h3, u, o, keepC y c hc o ho, hd⟩
end
end Mine

open PySem PySem.W PyProof.Rows
set_option Elab.async false
set_option linter.unusedVariables false
namespace Mine

def MM.set (μ : MM) (a : Addr) (m : MObj) : MM := fun b => if b = a then some m else μ b
theorem MM.set_self (μ : MM) (a : Addr) (m : MObj) : μ.set a m a = some m := by simp [MM.set]
theorem MM.set_ne {μ : MM} {a b : Addr} {m : MObj} (h : b ≠ a) : μ.set a m b = μ b := by simp [MM.set, h]
theorem MM.set_set (μ : MM) (a : Addr) (m m' : MObj) : (μ.set a m).set a m' = μ.set a m' := by funext b; simp [MM.set]; split <;> rfl

section
variable {W : Wd} {A : Around} {env : Env} {Δ : Ctx} {μ : MM} {F : FM} {s : Shared} {E : Value → Shared → Prop}

theorem St.weakenM (S : St W env Δ μ F s) {μ' : MM} (h : ∀ a m, μ' a = some m → μ a = some m) : St W env Δ μ' F s := by
  refine ⟨S.eok, S.same, S.base, S.sub, S.vars, fun a m e => S.mu a m (h a m e), S.ns, S.nsF, ?_, fun y c hc => ?_, S.apart⟩
  · cases e : μ' env.locals with
    | none => rfl
    | some m => have := h _ _ e; rw [S.nsM] at this; cases this
  · obtain ⟨h1, h2, h3, h4⟩ := S.cellF y c hc
    refine ⟨h1, ?_, h3, h4⟩
    cases e : μ' c with
    | none => rfl
    | some m => have := h _ _ e; rw [h2] at this; cases this

theorem St.weakenV (S : St W env Δ μ F s) {Δ' : Ctx} (h : ∀ x d, Δ'.lookup x = some d → Δ.lookup x = some d) : St W env Δ' μ F s :=
  ⟨S.eok, S.same, S.base, S.sub, fun x d e => S.vars x d (h x d e), S.mu, S.ns, S.nsF, S.nsM, S.cellF, S.apart⟩

/-- a mutable object changes -/
theorem St.mutate (S : St W env Δ μ F s) {a : Addr} {m m' : MObj} (hm : μ a = some m) {s' : Shared} (hk : KeepsBut [a] s s') (hr : MRel F s'.heap a m') : St W env Δ (μ.set a m') F s' := by
  obtain ⟨hF, hR⟩ := S.mu a m hm
  have hL : a ≠ env.locals := fun e => by rw [e, S.nsM] at hm; cases hm
  have hC : ∀ y, (y, a) ∉ env.cells := fun y hc => by rw [(S.cellF y a hc).2.1] at hm; cases hm
  have S' : St W env Δ (fun b => if b = a then none else μ b) F s' :=
    (S.weakenM (μ' := fun b => if b = a then none else μ b) (fun b m e => by split at e; cases e; exact e)).frame hk (fun b hb => by
      simp at hb; subst hb; exact ⟨hF, by simp, hL, hC⟩)
  refine ⟨S'.eok, S'.same, S'.base, S'.sub, S'.vars, fun b mo e => ?_, S'.ns, S'.nsF, ?_, fun y c hc => ?_, S'.apart⟩
  · unfold MM.set at e
    split at e
    · cases e; subst_vars; exact ⟨hF, hr⟩
    · exact S'.mu b mo (by simp [*])
  · rw [MM.set_ne (Ne.symm hL)]; exact S.nsM
  · obtain ⟨h1, h2, h3, h4⟩ := S'.cellF y c hc
    have hca : c ≠ a := fun e => hC y (by rw [← e]; exact hc)
    exact ⟨h1, by rw [MM.set_ne hca]; exact (S.cellF y c hc).2.1, h3, h4⟩

/-- a new mutable object -/
theorem St.addM (S : St W env Δ μ F s) {a : Addr} {m : MObj} (ho : μ a = none) (hF : F a = none) (hL : a ≠ env.locals) (hC : ∀ y, (y, a) ∉ env.cells) (hr : MRel F s.heap a m) : St W env Δ (μ.set a m) F s := by
  refine ⟨S.eok, S.same, S.base, S.sub, S.vars, fun b mo e => ?_, S.ns, S.nsF, ?_, fun y c hc => ?_, S.apart⟩
  · unfold MM.set at e
    split at e
    · cases e; subst_vars; exact ⟨hF, hr⟩
    · exact S.mu b mo e
  · rw [MM.set_ne (Ne.symm hL)]; exact S.nsM
  · obtain ⟨h1, h2, h3, h4⟩ := S.cellF y c hc
    have hca : c ≠ a := fun e => hC y (by rw [← e]; exact hc)
    exact ⟨h1, by rw [MM.set_ne hca]; exact h2, h3, h4⟩

theorem plain_of_lobj {h : Heap} {a : Addr} {vs : List Value} {n : Nat} (e : h.get? a = some (lobj vs n)) : h.PlainList a vs.toArray := ⟨n, e⟩

theorem append_mut (S : St W env Δ μ F s) {a : Addr} {ys : List D} {d : D} {v : Value} {Q : Value → Shared → Prop} (hm : μ a = some (.lst ys)) (hv : RelV F d v) (hsz : ys.length ≤ sizeLine)
    (h : ∀ s', St W env Δ (μ.set a (.lst (ys ++ [d]))) F s' → ExtBut [a] F s F s' → Q .none s') : wpAny W.M A (call (.builtin "list.append") [.ref a, v]) Q E s := by
  obtain ⟨hF, vs, n, e, r⟩ := S.mu a _ hm
  refine wpAny_list_append_plain (hsz := by simp [r.length]; exact hsz) (plain_of_lobj e) fun h' hl' hs' => ?_
  have hk : KeepsBut [a] s { s with heap := h' } := ⟨h', s.toks, rfl, fun b o hb e' => (hs'.2 b (by simpa using hb)).trans e'⟩
  obtain ⟨n', e'⟩ := hl'
  refine h _ (S.mutate hm hk ⟨vs ++ [v], n', ?_, r.append (.one hv)⟩) (.same hk)
  show h'.get? a = _; rw [e']; simp [lobj]
end
end Mine

open PySem PySem.W PyProof.Rows
set_option Elab.async false
set_option linter.unusedVariables false
namespace Mine

def closGo (cells : List (Str × Addr)) : List (Str × NameKind) → List (Str × Addr) → List (Str × Addr)
  | [], acc => acc
  | (n, k) :: r, acc => if k == .free then (match cells.lookup n with | some c => closGo cells r ((n, c) :: acc) | none => closGo cells r acc) else closGo cells r acc

theorem closGo_forIn {env : Env} (f : Str × NameKind → List (Str × Addr) → Sem (ForInStep (List (Str × Addr))))
    (hf : ∀ n k cs, f (n, k) cs = if (k == NameKind.free) = true then (do let a ← cellOf env n; pure (ForInStep.yield ((n, a) :: cs))) else pure (ForInStep.yield cs)) :
    ∀ (names : List (Str × NameKind)) (acc : List (Str × Addr)), (∀ n, (n, NameKind.free) ∈ names → ∃ c, env.cells.lookup n = some c) → (forIn names acc f : Sem (List (Str × Addr))) = pure (closGo env.cells names acc)
  | [], acc, _ => by rw [List.forIn_nil]; rfl
  | (n, k) :: r, acc, h => by
    rw [List.forIn_cons, hf]
    have hr : ∀ m, (m, NameKind.free) ∈ r → ∃ c, env.cells.lookup m = some c := fun m hm => h m (List.mem_cons_of_mem _ hm)
    unfold closGo
    cases hk : k == NameKind.free with
    | true =>
      have hk' : k = .free := by simpa using hk
      subst hk'
      obtain ⟨c, hc⟩ := h n List.mem_cons_self
      simp only [if_true, hc]
      unfold cellOf; rw [hc]
      exact closGo_forIn f hf r ((n, c) :: acc) hr
    | false =>
      simp only [Bool.false_eq_true, if_false]
      exact closGo_forIn f hf r acc hr

theorem closureFor_eq {scope : Scope} {env : Env} (h : ∀ n, (n, NameKind.free) ∈ scope.names → ∃ c, env.cells.lookup n = some c) : closureFor scope env = pure (closGo env.cells scope.names []) := by
  simp only [closureFor]
  rw [closGo_forIn (env := env) _ (fun n k cs => by cases hk : k == NameKind.free <;> simp [hk]) scope.names [] h]
  rfl

theorem closGo_mem {cells : List (Str × Addr)} : ∀ (names : List (Str × NameKind)) (acc : List (Str × Addr)) (n : Str) (c : Addr), (n, c) ∈ closGo cells names acc → (n, c) ∈ acc ∨ (n, NameKind.free) ∈ names ∧ cells.lookup n = some c
  | [], acc, n, c, h => .inl h
  | (m, k) :: r, acc, n, c, h => by
    unfold closGo at h
    split at h
    · rename_i hk
      have hk' : k = .free := by simpa using hk
      subst hk'
      split at h
      · rename_i c' hc
        rcases closGo_mem r _ n c h with h1 | ⟨h1, h2⟩
        · rcases List.mem_cons.mp h1 with e | h1
          · cases e; exact .inr ⟨List.mem_cons_self, hc⟩
          · exact .inl h1
        · exact .inr ⟨List.mem_cons_of_mem _ h1, h2⟩
      · rcases closGo_mem r _ n c h with h1 | ⟨h1, h2⟩
        · exact .inl h1
        · exact .inr ⟨List.mem_cons_of_mem _ h1, h2⟩
    · rcases closGo_mem r _ n c h with h1 | ⟨h1, h2⟩
      · exact .inl h1
      · exact .inr ⟨List.mem_cons_of_mem _ h1, h2⟩

theorem lookup_of_mem {α : Type} : ∀ {l : List (Str × α)} {n : Str} {c : α}, (n, c) ∈ l → ∃ c', l.lookup n = some c'
  | (m, d) :: r, n, c, h => by
    rw [List.lookup_cons]
    cases hb : n == m with
    | true => exact ⟨d, rfl⟩
    | false =>
      rcases List.mem_cons.mp h with e | h
      · cases e; simp at hb
      · exact lookup_of_mem h

theorem closGo_acc {cells : List (Str × Addr)} : ∀ (names : List (Str × NameKind)) (acc : List (Str × Addr)) (p : Str × Addr), p ∈ acc → p ∈ closGo cells names acc
  | [], acc, p, h => h
  | (m, k) :: r, acc, p, h => by
    unfold closGo
    split
    · split
      · exact closGo_acc r _ p (List.mem_cons_of_mem _ h)
      · exact closGo_acc r _ p h
    · exact closGo_acc r _ p h

theorem closGo_has {cells : List (Str × Addr)} : ∀ (names : List (Str × NameKind)) (acc : List (Str × Addr)) (n : Str) (c : Addr), (n, NameKind.free) ∈ names → cells.lookup n = some c → (n, c) ∈ closGo cells names acc
  | (m, k) :: r, acc, n, c, h, hc => by
    unfold closGo
    rcases List.mem_cons.mp h with e | h
    · cases e
      simp only [beq_self_eq_true, if_true, hc]
      exact closGo_acc r _ _ List.mem_cons_self
    · split
      · split
        · exact closGo_has r _ n c h hc
        · exact closGo_has r _ n c h hc
      · exact closGo_has r _ n c h hc

theorem closGo_lookup {cells : List (Str × Addr)} {names : List (Str × NameKind)} {n : Str} {c : Addr} (h : (n, NameKind.free) ∈ names) (hc : cells.lookup n = some c) : (closGo cells names []).lookup n = some c := by
  obtain ⟨c', e⟩ := lookup_of_mem (closGo_has names [] n c h hc)
  rcases closGo_mem names [] n c' (mem_of_lookup e) with h1 | ⟨_, h2⟩
  · cases h1
  · rw [h2] at hc; cases hc; exact e

theorem cellsFrom_eq : ∀ (names : List (Str × NameKind)) (n : Nat) (acc : List (Str × Addr)), cellsFrom n names acc = cellsFrom n names [] ++ acc
  | [], n, acc => rfl
  | (m, k) :: r, n, acc => by
    unfold cellsFrom
    split
    · rw [cellsFrom_eq r (n + 1) ((m, n) :: acc), cellsFrom_eq r (n + 1) [(m, n)]]; simp
    · exact cellsFrom_eq r n acc

theorem cellsFrom_names : ∀ (names : List (Str × NameKind)) (n : Nat) (x : Str) (c : Addr), (x, c) ∈ cellsFrom n names [] → (x, NameKind.cell) ∈ names ∧ n ≤ c
  | [], n, x, c, h => by cases h
  | (m, k) :: r, n, x, c, h => by
    unfold cellsFrom at h
    split at h
    · rename_i hk
      have hk' : k = .cell := by simpa using hk
      subst hk'
      rw [cellsFrom_eq] at h
      rcases List.mem_append.mp h with h | h
      · obtain ⟨h1, h2⟩ := cellsFrom_names r (n + 1) x c h
        exact ⟨List.mem_cons_of_mem _ h1, by omega⟩
      · simp at h; obtain ⟨rfl, rfl⟩ := h; exact ⟨List.mem_cons_self, Nat.le_refl _⟩
    · obtain ⟨h1, h2⟩ := cellsFrom_names r n x c h
      exact ⟨List.mem_cons_of_mem _ h1, h2⟩

theorem cellsFrom_has : ∀ (names : List (Str × NameKind)) (n : Nat) (x : Str), (x, NameKind.cell) ∈ names → ∃ c, (x, c) ∈ cellsFrom n names []
  | (m, k) :: r, n, x, h => by
    unfold cellsFrom
    rcases List.mem_cons.mp h with e | h
    · cases e
      simp only [beq_self_eq_true, if_true]
      rw [cellsFrom_eq]
      exact ⟨n, List.mem_append_right _ (by simp)⟩
    · split
      · obtain ⟨c, hc⟩ := cellsFrom_has r (n + 1) x h
        rw [cellsFrom_eq]
        exact ⟨c, List.mem_append_left _ hc⟩
      · exact cellsFrom_has r n x h

theorem lookup_app_left {α : Type} : ∀ {l r : List (Str × α)} {n : Str} {c : α}, l.lookup n = some c → (l ++ r).lookup n = some c
  | (m, d) :: l, r, n, c, h => by
    rw [List.cons_append, List.lookup_cons] at *
    cases hb : n == m with
    | true => rw [hb] at h; exact h
    | false => rw [hb] at h; exact lookup_app_left h
theorem lookup_app_right {α : Type} : ∀ {l r : List (Str × α)} {n : Str}, (∀ c, (n, c) ∉ l) → (l ++ r).lookup n = r.lookup n
  | [], r, n, h => rfl
  | (m, d) :: l, r, n, h => by
    rw [List.cons_append, List.lookup_cons]
    cases hb : n == m with
    | true => exact absurd (by rw [beq_iff_eq.mp hb]; exact List.mem_cons_self) (h d)
    | false => exact lookup_app_right fun c hc => h c (List.mem_cons_of_mem _ hc)

/-- what a comprehension's table must be like -/
structure ScopeOk (scope : Scope) (env : Env) : Prop where
  kind : scope.kind = .function
  nodup : (scope.names.map (·.1)).Nodup
  free : ∀ n, (n, NameKind.free) ∈ scope.names → env.kindOf n = some .cell ∨ env.kindOf n = some .free

theorem lookup_nodup {α : Type} : ∀ {l : List (Str × α)} {n : Str} {k : α}, (l.map (·.1)).Nodup → (n, k) ∈ l → l.lookup n = some k
  | (m, d) :: r, n, k, hn, h => by
    rw [List.lookup_cons]
    simp only [List.map_cons, List.nodup_cons] at hn
    cases hb : n == m with
    | true =>
      rcases List.mem_cons.mp h with e | h
      · cases e; rfl
      · exact absurd (List.mem_map_of_mem (f := fun q : Str × α => q.1) h) (by rw [beq_iff_eq.mp hb]; exact hn.1)
    | false =>
      rcases List.mem_cons.mp h with e | h
      · cases e; simp at hb
      · exact lookup_nodup hn.2 h

theorem kind_unique {scope : Scope} {n : Str} {k k' : NameKind} (hn : (scope.names.map (·.1)).Nodup) (h : (n, k) ∈ scope.names) (h' : (n, k') ∈ scope.names) : k = k' := by
  have := lookup_nodup hn h; rw [lookup_nodup hn h'] at this; cases this; rfl

theorem relabel_lookup {scope : Scope} {env : Env} {x : Str} : (relabel scope env).names.lookup x = (scope.names.lookup x).map (fun k => if (k == .free && env.scope.kind == .function && env.kindOf x == some .cell) then .cell else k) := by
  unfold relabel
  generalize scope.names = names
  induction names with
  | nil => rfl
  | cons p r ih =>
    obtain ⟨n, k⟩ := p
    simp only [List.map_cons]
    by_cases hc : (k == NameKind.free && env.scope.kind == .function && env.kindOf n == some .cell) = true
    · rw [if_pos hc, List.lookup_cons, List.lookup_cons]
      cases hb : x == n with
      | true => have := beq_iff_eq.mp hb; subst this; simp only [Option.map_some]; rw [if_pos hc]
      | false => simpa using ih
    · rw [if_neg hc, List.lookup_cons, List.lookup_cons]
      cases hb : x == n with
      | true => have := beq_iff_eq.mp hb; subst this; simp only [Option.map_some]; rw [if_neg hc]
      | false => simpa using ih

def freeCtx (scope : Scope) (Δ : Ctx) : Ctx := scope.names.filterMap fun p => if p.2 == .free then (Δ.lookup p.1).map (p.1, ·) else none
theorem freeCtx_lookup {scope : Scope} {Δ : Ctx} {x : Str} {d : D} (h : (freeCtx scope Δ).lookup x = some d) : (x, NameKind.free) ∈ scope.names ∧ Δ.lookup x = some d := by
  have hm := mem_of_lookup h
  unfold freeCtx at hm
  obtain ⟨⟨n, k⟩, h1, h2⟩ := List.mem_filterMap.mp hm
  dsimp only at h2
  split at h2
  · rename_i hk
    have hk' : k = .free := by simpa using hk
    subst hk'
    obtain ⟨d', e1, e2⟩ := Option.map_eq_some_iff.mp h2
    cases e2
    exact ⟨h1, e1⟩
  · cases h2

/-- the comprehension's own place -/
structure CompEnv (W : Wd) (env : Env) (scope : Scope) (s : Shared) (cenv : Env) : Prop where
  sc : cenv.scope = relabel scope env
  locals : s.heap.get? cenv.locals = none
  own : ∀ x c, (x, NameKind.cell) ∈ scope.names → cenv.cells.lookup x = some c → s.heap.get? c = none
  cells : ∀ y c, (y, c) ∈ cenv.cells → s.heap.get? c = none ∨ (y, c) ∈ env.cells

section
variable {W : Wd} {A : Around} {env : Env} {Δ : Ctx} {μ : MM} {F : FM} {s : Shared} {E : Value → Shared → Prop}

theorem closGo_apart {cs : List (Str × Addr)} (hap : cs.Pairwise fun x y => x.2 ≠ y.2) : ∀ (names : List (Str × NameKind)) (acc : List (Str × Addr)), (names.map (·.1)).Nodup → (acc.Pairwise fun x y => x.2 ≠ y.2) → (∀ p ∈ acc, cs.lookup p.1 = some p.2 ∧ ∀ k, (p.1, k) ∉ names) → (closGo cs names acc).Pairwise fun x y => x.2 ≠ y.2 := by
  intro names
  induction names with
  | nil => intro acc _ h1 _; exact h1
  | cons p r ih =>
    obtain ⟨n, k⟩ := p
    intro acc hn h1 h2
    simp only [List.map_cons, List.nodup_cons] at hn
    have h2' : ∀ p ∈ acc, cs.lookup p.1 = some p.2 ∧ ∀ k, (p.1, k) ∉ r := fun p hp => ⟨(h2 p hp).1, fun k hk => (h2 p hp).2 k (List.mem_cons_of_mem _ hk)⟩
    unfold closGo
    split
    · split
      · rename_i c hc
        refine ih _ hn.2 (List.pairwise_cons.mpr ⟨fun q hq e => ?_, h1⟩) (fun q hq => ?_)
        · have hq1 := (h2 q hq).1
          have e' : c = q.2 := e
          have := name_of_addr hap (mem_of_lookup hc) (by rw [e']; exact mem_of_lookup hq1)
          exact (h2 q hq).2 k (by rw [← this]; exact List.mem_cons_self)
        · rcases List.mem_cons.mp hq with rfl | hq
          · exact ⟨hc, fun k' hk' => hn.1 (List.mem_map_of_mem (f := fun q : Str × NameKind => q.1) hk')⟩
          · exact h2' q hq
      · exact ih acc hn.2 h1 h2'
    · exact ih acc hn.2 h1 h2'

theorem comp_env0 (S : St W env Δ μ F s) {scope : Scope} (ok : ScopeOk scope env) {ce : Env} {H : Heap} {tk : Nat} (hsc : ce.scope = relabel scope env) (hloc : ce.locals = s.heap.objs.size) (hg : ce.globals = env.globals) (hb : ce.builtins = env.builtins)
    (hcells : ce.cells = cellsFrom (s.heap.objs.size + 1) scope.names [] ++ closGo env.cells scope.names []) (keep : ∀ b o, s.heap.get? b = some o → H.get? b = some o) (hns : ∃ m, H.Ns s.heap.objs.size m)
    (okc : CellsOk H (s.heap.objs.size + 1) (cellsFrom (s.heap.objs.size + 1) scope.names [])) : CompEnv W env scope s ce ∧ St W ce (freeCtx scope Δ) μ F { s with heap := H, toks := tk } := by
  have hkind : ∀ x, ce.kindOf x = (relabel scope env).names.lookup x := fun x => by unfold Env.kindOf; rw [hsc]
  have fresh : ∀ b, s.heap.objs.size ≤ b → s.heap.get? b = none := fun b hb => by
    cases e : s.heap.get? b with
    | none => rfl
    | some o => exact absurd (Heap.lt_size e) (Nat.not_lt.mpr hb)
  have Ffresh : ∀ b, s.heap.objs.size ≤ b → F b = none := fun b hb => by
    cases e : F b with
    | none => rfl
    | some o => have := fresh b hb; rw [S.sub _ _ e] at this; cases this
  have Mfresh : ∀ b, s.heap.objs.size ≤ b → μ b = none := fun b hb => by
    cases e : μ b with
    | none => rfl
    | some m => obtain ⟨_, hr⟩ := S.mu b m e; obtain ⟨o, ho⟩ := hr.some; rw [fresh b hb] at ho; cases ho
  have hclo : ∀ n c, (n, c) ∈ closGo env.cells scope.names [] → env.cells.lookup n = some c := fun n c hm => by
    rcases closGo_mem _ _ n c hm with h1 | h1
    · cases h1
    · exact h1.2
  have hnew : ∀ n c, (n, c) ∈ cellsFrom (s.heap.objs.size + 1) scope.names [] → (n, NameKind.cell) ∈ scope.names ∧ s.heap.objs.size + 1 ≤ c := fun n c hm => cellsFrom_names _ _ n c hm
  have hfreelk : ∀ n c, (n, NameKind.free) ∈ scope.names → env.cells.lookup n = some c → ce.cells.lookup n = some c := fun n c h1 h2 => by
    rw [hcells, lookup_app_right fun c' hc' => by have := kind_unique ok.nodup h1 (hnew n c' hc').1; cases this]
    exact closGo_lookup h1 h2
  have hcelllk : ∀ n, (n, NameKind.cell) ∈ scope.names → ∃ c, ce.cells.lookup n = some c ∧ s.heap.objs.size + 1 ≤ c := fun n h1 => by
    obtain ⟨c, hc⟩ := cellsFrom_has scope.names (s.heap.objs.size + 1) n h1
    obtain ⟨c', e⟩ := lookup_of_mem hc
    exact ⟨c', by rw [hcells]; exact lookup_app_left e, (hnew n c' (mem_of_lookup e)).2⟩
  have hin : ∀ y c, (y, c) ∈ ce.cells → (y, c) ∈ cellsFrom (s.heap.objs.size + 1) scope.names [] ∨ (y, c) ∈ closGo env.cells scope.names [] := fun y c hc => by rw [hcells] at hc; exact List.mem_append.mp hc
  refine ⟨⟨hsc, by rw [hloc]; exact fresh _ (Nat.le_refl _), fun x c h1 h2 => ?_, fun y c hc => ?_⟩, ⟨by rw [hsc]; exact ok.kind, by rw [hg]; exact S.eok.globals, by rw [hb]; exact S.eok.builtins, fun x hx => ?_⟩, ?_, S.base, fun a o e => keep a o (S.sub a o e), fun x d hx => ?_, fun a m e => ?_, by rw [hloc]; exact hns, by rw [hloc]; exact Ffresh _ (Nat.le_refl _), by rw [hloc]; exact Mfresh _ (Nat.le_refl _), fun y c hc => ?_, ?_⟩
  · obtain ⟨c', e1, e2⟩ := hcelllk x h1
    rw [e1] at h2; cases h2
    exact fresh _ (Nat.le_of_succ_le e2)
  · rcases hin y c hc with h1 | h1
    · exact .inl (fresh _ (Nat.le_of_succ_le (hnew y c h1).2))
    · exact .inr (mem_of_lookup (hclo y c h1))
  · rw [hkind, relabel_lookup] at hx
    cases hk : scope.names.lookup x with
    | none => rw [hk] at hx; simp at hx
    | some k =>
      have hm := mem_of_lookup hk
      rw [hk] at hx
      simp only [Option.map_some, Option.some.injEq] at hx
      by_cases hkc : k = .cell
      · subst hkc; obtain ⟨c, e, _⟩ := hcelllk x hm; exact ⟨c, e⟩
      · have hkf : k = .free := by
          rcases hx with h1 | h1 <;> split at h1
          · rename_i hh; simp at hh; exact hh.1.1
          · exact absurd h1 hkc
          · cases h1
          · exact h1
        subst hkf
        obtain ⟨c, hc⟩ := S.eok.cells x (ok.free x hm)
        exact ⟨c, hfreelk x c hm hc⟩
  · obtain ⟨h₀, tk, rfl⟩ := S.same; exact ⟨_, _, rfl⟩
  · obtain ⟨h1, h2⟩ := freeCtx_lookup hx
    obtain ⟨v, hv, rv⟩ := S.vars x d h2
    refine ⟨v, ?_, rv⟩
    have hkf := ok.free x h1
    rcases hv with ⟨h3, _⟩ | ⟨h3, c, hc, hv'⟩ | ⟨h3, _⟩
    · rcases hkf with e | e <;> rw [e] at h3 <;> cases h3
    · refine .inr (.inl ⟨?_, c, hfreelk x c h1 hc, hv'.keeps keep⟩)
      rw [hkind, relabel_lookup, lookup_nodup ok.nodup h1]
      simp only [Option.map_some]
      split
      · exact .inl rfl
      · exact .inr rfl
    · rcases hkf with e | e <;> rw [e] at h3 <;> cases h3
  · obtain ⟨h1, h2⟩ := S.mu a m e
    exact ⟨h1, h2.same fun o e' => keep a o e'⟩
  · rcases hin y c hc with h1 | h1
    · have h2 := (hnew y c h1).2
      exact ⟨Ffresh _ (Nat.le_of_succ_le h2), Mfresh _ (Nat.le_of_succ_le h2), by rw [hloc]; exact Nat.ne_of_gt h2, _, (okc.empty y c h1).1⟩
    · obtain ⟨q1, q2, q3, v, q4⟩ := S.cellF y c (mem_of_lookup (hclo y c h1))
      exact ⟨q1, q2, by rw [hloc]; exact Nat.ne_of_lt q4.lt, v, q4.keeps keep⟩
  · rw [hcells, List.pairwise_append]
    refine ⟨okc.apart, closGo_apart S.apart scope.names [] ok.nodup List.Pairwise.nil (fun p hp => by cases hp), fun a ha b hb => ?_⟩
    obtain ⟨n, c⟩ := a
    obtain ⟨n', c'⟩ := b
    have h1 := (hnew n c ha).2
    obtain ⟨v, hv⟩ := (S.cellF n' c' (mem_of_lookup (hclo n' c' hb))).2.2.2
    exact Nat.ne_of_gt (Nat.lt_of_lt_of_le (Nat.lt_succ_of_lt hv.lt) h1)

theorem comp_env (S : St W env Δ μ F s) {scope : Scope} (ok : ScopeOk scope env) {Q : Env → Shared → Prop}
    (h : ∀ cenv s', CompEnv W env scope s { cenv with scope := relabel scope env } → St W { cenv with scope := relabel scope env } (freeCtx scope Δ) μ F s' → Keeps s s' → Q cenv s') :
    wpAny W.M A (newFunctionEnv scope env.globals (closGo env.cells scope.names []) [] env.qual none .none (some env)) Q E s := by
  simp only [newFunctionEnv, Option.isSome_some, if_true]
  refine wpAny_bind (wpAny_alloc ?_)
  refine wpAny_bind (wpAny_layCells _ (fun name kind cells => by cases hkc : kind == NameKind.cell <;> simp [hkc]) _ _ _ _ ?_)
  have okc := cellsFrom_ok scope.names (s.heap.push { cls := .type "dict", data := .dict #[] }) (s.heap.objs.size + 1) [] ⟨fun _ _ hm => (nomatch hm), List.Pairwise.nil⟩ (by rw [Heap.size_push]; exact Nat.le_refl _)
  rw [Heap.size_push] at okc
  rw [show ({ s with heap := s.heap.push { cls := .type "dict", data := .dict #[] } } : Shared).heap.objs.size = s.heap.objs.size + 1 from Heap.size_push ..]
  refine wpAny_bind (wpAny_pure (wpAny_pure ?_))
  rw [cellsFrom_eq]
  have keep : ∀ b o, s.heap.get? b = some o → (pushCells (s.heap.push { cls := .type "dict", data := .dict #[] }) scope.names).get? b = some o := fun b o e => pushCells_keeps _ _ b o (Heap.get?_push_of_some _ e)
  obtain ⟨q1, q2⟩ := comp_env0 S ok (ce := { scope := relabel scope env, locals := s.heap.objs.size, globals := env.globals, cells := cellsFrom (s.heap.objs.size + 1) scope.names [] ++ closGo env.cells scope.names [], qual := _, func := _, code := env.code, frame := env.frame, builtins := env.builtins }) (tk := s.toks) rfl rfl rfl rfl rfl keep ⟨_, (Heap.Ns.new s.heap (.type "dict")).keeps (pushCells_keeps _ _)⟩ okc
  exact h _ _ q1 q2 ⟨_, _, rfl, keep⟩
end
end Mine

open PySem PySem.W PyProof.Rows
set_option Elab.async false
set_option linter.unusedVariables false
namespace Mine

structure Itr where
  I : Addr
  fp : List Addr
  wr : List Addr
  P : Nat → Value → Prop
  Stw : Nat → Heap → Prop
structure SrcAt (W : Wd) (A : Around) (μ : MM) (F₂ : FM) (s s₂ : Shared) (xs : List D) (i : Itr) : Prop where
  hW : Walks W.prog W.w A i.I i.fp i.wr xs.length i.P i.Stw
  now : i.Stw 0 s₂.heap
  hP : ∀ j v, i.P j v → ∃ d, xs[j]? = some d ∧ RelV F₂ d v
  hfd : ∀ b ∈ i.fp, s₂.heap.get? b ≠ none
  hfo : ∀ b ∈ i.fp, b ∈ i.wr ∨ F₂ b ≠ none ∨ μ b ≠ none
  hwr : ∀ b ∈ i.wr, F₂ b = none ∧ s.heap.get? b = none
  hex : ∀ j h, i.Stw j h → ∀ b ∈ i.wr, h.get? b ≠ none
def Src (W : Wd) (A : Around) (μ : MM) (F₂ : FM) (s s₂ : Shared) (it : Value) (xs : List D) : Prop := ∃ i : Itr, it = .ref i.I ∧ SrcAt W A μ F₂ s s₂ xs i

def IterEvF (W : Wd) (A : Around) (env : Env) (Δ : Ctx) (μ : MM) (iter : Expr) (xs : List D) : Prop :=
  ∀ F s (E : Value → Shared → Prop), St W env Δ μ F s → wpAny W.M A (eval iter env) (fun x s₁ => wpAny W.M A (pyIter x) (fun it s₂ => ∃ F₂, Ext F s F₂ s₂ ∧ Src W A (fun _ => none) F₂ s s₂ it xs) E s₁) E s

def IterEv (W : Wd) (A : Around) (env : Env) (Δ : Ctx) (μ : MM) (iter : Expr) (xs : List D) : Prop :=
  ∀ F s (E : Value → Shared → Prop), St W env Δ μ F s → wpAny W.M A (eval iter env) (fun x s₁ => wpAny W.M A (pyIter x) (fun it s₂ => ∃ F₂, Ext F s F₂ s₂ ∧ Src W A μ F₂ s s₂ it xs) E s₁) E s

section
variable {W : Wd} {A : Around} {env : Env} {Δ : Ctx} {μ : MM}

theorem iter_list {F : FM} {s : Shared} (S : St W env Δ μ F s) {d : D} {v : Value} {xs : List D} (hh : A.handled = none) {E : Value → Shared → Prop} (hv : RelV F d v) (hl : asList μ d = some xs) :
    wpAny W.M A (pyIter v) (fun it s₂ => ∃ F₂, Ext F s F₂ s₂ ∧ Src W A μ F₂ s s₂ it xs) E s := by
  obtain ⟨l, vs, n, rfl, hget, r⟩ := asList_rel S hv hl
  refine wpAny_pyIter_list (lobj_isList hget) ?_
  have hlt := Heap.lt_size hget
  have hne : l ≠ s.heap.objs.size := Nat.ne_of_lt hlt
  have hfresh : s.heap.get? s.heap.objs.size = none := by
    cases e : s.heap.get? s.heap.objs.size with
    | none => rfl
    | some o => exact absurd (Heap.lt_size e) (Nat.lt_irrefl _)
  have hF : F s.heap.objs.size = none := by
    cases e : F s.heap.objs.size with
    | none => rfl
    | some o => rw [S.sub _ _ e] at hfresh; cases hfresh
  have hw := Walks.list (prog := W.prog) (w := W.w) (A := A) hh s.heap.objs.size l hne vs.toArray
  have hlen : vs.toArray.size = xs.length := by simp [r.length]
  rw [hlen] at hw
  refine ⟨F, Ext.ofKeeps S.sub (Keeps.push s _), ⟨s.heap.objs.size, _, _, _, _⟩, rfl, hw, ⟨⟨_, Heap.get?_push_size _ rfl, rfl, rfl⟩, (lobj_isList hget).push _⟩, fun i v hv => ?_, fun b hb => ?_, fun b hb => ?_, fun b hb => ?_, fun i h st b hb => ?_⟩
  · have hi : i < xs.length := by
      have : i < vs.length := by
        have h' : vs[i]? = some v := by simpa using hv
        exact (List.getElem?_eq_some_iff.mp h').1
      rw [← r.length]; exact this
    obtain ⟨v', h1, h2⟩ := r.get (i := i) (d := xs[i]) (by simp [hi])
    have h' : vs[i]? = some v := by simpa using hv
    rw [h1] at h'; cases h'
    exact ⟨xs[i], by simp [hi], h2⟩
  · simp at hb
    rcases hb with rfl | rfl
    · rw [Heap.get?_push_size _ rfl]; simp
    · rw [Heap.get?_push_of_some _ hget]; simp
  · simp at hb
    rcases hb with rfl | rfl
    · exact .inl (by simp)
    · right
      cases d with
      | list es => rw [RelV] at hv; obtain ⟨a, vs', n', e, hf, _⟩ := hv; cases e; exact .inl (by rw [hf]; simp)
      | ref a =>
        rw [RelV] at hv; cases hv
        simp only [asList] at hl
        right
        cases hm : μ b with
        | none => rw [hm] at hl; cases hl
        | some m => simp
      | _ => cases hl
  · simp at hb; subst hb; exact ⟨hF, hfresh⟩
  · simp at hb; subst hb; obtain ⟨⟨o, e, _⟩, _⟩ := st; rw [e]; simp

theorem IterEv.list {e : Expr} {d : D} {xs : List D} (hh : A.handled = none) (he : Ev W A env Δ μ e d) (hl : asList μ d = some xs) : IterEv W A env Δ μ e xs := fun F s E S => by
  refine wpAny_mono (he F s E S) (fun v s₁ h₁ => ?_) fun _ _ e => e
  obtain ⟨F₁, x₁, r₁⟩ := h₁
  refine wpAny_mono (iter_list (S.ext x₁) hh r₁ hl) (fun it s₂ h₂ => ?_) fun _ _ e => e
  obtain ⟨F₂, x₂, i, e1, q⟩ := h₂
  refine ⟨F₂, x₁.trans x₂, i, e1, q.hW, q.now, q.hP, q.hfd, q.hfo, fun b hb => ⟨(q.hwr b hb).1, ?_⟩, q.hex⟩
  cases e : s.heap.get? b with
  | none => rfl
  | some o => have := (q.hwr b hb).2; rw [Keeps.get x₁.keeps e] at this; cases this

def rangeL (a b c : Int) : List Int := (List.range (Builtin.Range.rangeSize a b c).toNat).map fun (i : Nat) => a + (i : Int) * c

theorem iter_range {F : FM} {s : Shared} (S : St W env Δ μ F s) {r : Addr} {a b c : Int} {t u v : Tok} {E : Value → Shared → Prop} (hh : A.handled = none) (hr : IsRange s.heap r a b c t u v) (hsm : Builtin.Range.small a b c = true) (h0 : 0 ≤ Builtin.Range.rangeSize a b c) :
    wpAny W.M A (pyIter (.ref r)) (fun it s₂ => ∃ F₂, Ext F s F₂ s₂ ∧ Src W A μ F₂ s s₂ it ((rangeL a b c).map .int)) E s := by
  refine wpAny_pyIter_range hr hsm ?_
  have hfresh : s.heap.get? s.heap.objs.size = none := by
    cases e : s.heap.get? s.heap.objs.size with
    | none => rfl
    | some o => exact absurd (Heap.lt_size e) (Nat.lt_irrefl _)
  have hF : F s.heap.objs.size = none := by
    cases e : F s.heap.objs.size with
    | none => rfl
    | some o => rw [S.sub _ _ e] at hfresh; cases hfresh
  have hlen : ((rangeL a b c).map D.int).length = (Builtin.Range.rangeSize a b c).toNat := by simp [rangeL]
  have hw := Walks.range (prog := W.prog) (w := W.w) (A := A) hh s.heap.objs.size a c (Builtin.Range.rangeSize a b c).toNat
  rw [← hlen] at hw
  refine ⟨F, Ext.ofKeeps S.sub (Keeps.push s _), ⟨s.heap.objs.size, _, _, _, _⟩, rfl, hw.bound, ?_, fun i v hv => ?_, fun b hb => ?_, fun b hb => ?_, fun b hb => ?_, fun i h st b hb => ?_⟩
  · show IsRangeIter _ _ _ _ _
    rw [hlen, Int.toNat_of_nonneg h0]
    simpa using Heap.get?_push_size _ rfl
  · obtain ⟨hi, t', rfl⟩ := hv
    have hi' : i < (Builtin.Range.rangeSize a b c).toNat := by rw [← hlen]; exact hi
    refine ⟨.int (a + i * c), ?_, by rw [RelV]; exact ⟨_, rfl⟩⟩
    simp [rangeL, hi']
  · simp at hb; subst hb; rw [Heap.get?_push_size _ rfl]; simp
  · exact .inl hb
  · simp at hb; subst hb; exact ⟨hF, hfresh⟩
  · simp at hb; subst hb; have e : h.get? _ = _ := st; rw [e]; simp

theorem rangeSize_nonneg (a b c : Int) : 0 ≤ Builtin.Range.rangeSize a b c := by
  unfold Builtin.Range.rangeSize
  split
  · split
    · have : 0 ≤ (b - a - 1) / c := Int.ediv_nonneg (by omega) (by omega)
      omega
    · omega
  · split
    · by_cases hc : c = 0
      · subst hc; simp
      · have : 0 ≤ (a - b - 1) / (-c) := Int.ediv_nonneg (by omega) (by omega)
        omega
    · omega

/-- the three forms of range(..) -/
def rangeArgs : List D → Option (Int × Int × Int)
  | [.int n] => some (0, n, 1)
  | [.int a, .int b] => some (a, b, 1)
  | [.int a, .int b, .int c] => if c = -1 then some (a, b, c) else none
  | _ => none

theorem src_after {F F' : FM} {s s' s₂ : Shared} {it : Value} {xs : List D} (x : Ext F s F' s') (h : ∃ F₂, Ext F' s' F₂ s₂ ∧ Src W A μ F₂ s' s₂ it xs) : ∃ F₂, Ext F s F₂ s₂ ∧ Src W A μ F₂ s s₂ it xs := by
  obtain ⟨F₂, x₂, i, e1, q⟩ := h
  refine ⟨F₂, x.trans x₂, i, e1, q.hW, q.now, q.hP, q.hfd, q.hfo, fun b hb => ⟨(q.hwr b hb).1, ?_⟩, q.hex⟩
  cases e : s.heap.get? b with
  | none => rfl
  | some o => have := (q.hwr b hb).2; rw [Keeps.get x.keeps e] at this; cases this

theorem IterEvF.range (hW : W.Ok) {p pos : Pos} {es : List Expr} {ds : List D} {a b c : Int} (hh : A.handled = none) (hg : GlobVal W "range" (.type "range")) (hk : env.kindOf "range" = some .globalImplicit) (hl : EvL W A env Δ μ es ds)
    (hr : rangeArgs ds = some (a, b, c)) (hsm : Builtin.Range.small a b c = true) : IterEvF W A env Δ μ (.Call (.Name "range" p) es [] pos) ((rangeL a b c).map .int) := fun F s E S => by
  refine Call_ (wpAny_Name (loadGlob hW S hg hk ?_) (by decide)) rfl
  refine callWith_any (.inr (.inl ⟨_, rfl⟩)) hl (by rintro rfl; cases hl; cases hr) S fun F' s' vs x r => ?_
  have S' := S.ext x
  have fin : ∀ (o : Obj) (k : Nat), (∃ t u v, o = { cls := .type "range", data := .fields #[.int a t, .int b u, .int c v] }) →
      wpAny W.M A (pyIter (.ref s'.heap.objs.size)) (fun it s₂ => ∃ F₂, Ext F s F₂ s₂ ∧ Src W A (fun _ => none) F₂ s s₂ it ((rangeL a b c).map .int)) E { s' with heap := s'.heap.push o, toks := k } := by
    rintro o k ⟨t, u, v, rfl⟩
    have hk : Keeps s' { s' with heap := s'.heap.push { cls := .type "range", data := .fields #[.int a t, .int b u, .int c v] }, toks := k } := ⟨_, _, rfl, fun _ _ h => Heap.get?_push_of_some _ h⟩
    have x' := Ext.ofKeeps S'.sub hk
    refine wpAny_mono (iter_range ((S'.ext x').weakenM (μ' := fun _ => none) (fun _ _ e => by cases e)) hh (t := t) (u := u) (v := v) (Heap.get?_push_size _ rfl) hsm (rangeSize_nonneg a b c)) (fun it s₂ h₂ => src_after (x.trans x') h₂) fun _ _ e => e
  unfold rangeArgs at hr
  split at hr
  · cases hr
    rw [RelVs] at r; obtain ⟨v, r', rfl, h1, h2⟩ := r
    rw [RelVs] at h2; subst h2
    rw [RelV] at h1; obtain ⟨t, rfl⟩ := h1
    exact call_range_1 (fin _ _ ⟨_, _, _, rfl⟩)
  · cases hr
    rw [RelVs] at r; obtain ⟨v, r', rfl, h1, h2⟩ := r
    rw [RelVs] at h2; obtain ⟨v', r2, rfl, h3, h4⟩ := h2
    rw [RelVs] at h4; subst h4
    rw [RelV] at h1 h3; obtain ⟨t, rfl⟩ := h1; obtain ⟨t', rfl⟩ := h3
    exact call_range_2 (fin _ _ ⟨_, _, _, rfl⟩)
  · split at hr
    · rename_i hc; subst hc
      cases hr
      rw [RelVs] at r; obtain ⟨v, r', rfl, h1, h2⟩ := r
      rw [RelVs] at h2; obtain ⟨v', r2, rfl, h3, h4⟩ := h2
      rw [RelVs] at h4; obtain ⟨v3, r3, rfl, h5, h6⟩ := h4
      rw [RelVs] at h6; subst h6
      rw [RelV] at h1; rw [RelV] at h3; rw [RelV] at h5; obtain ⟨t, rfl⟩ := h1; obtain ⟨t', rfl⟩ := h3; obtain ⟨t3, rfl⟩ := h5
      exact call_range_3 (by decide) (fin _ _ ⟨_, _, _, rfl⟩) (.inl (PyProof.noPylong_small (by decide)))
    · cases hr
  · cases hr

theorem IterEvF.iter {e : Expr} {xs : List D} (h : IterEvF W A env Δ μ e xs) : IterEv W A env Δ μ e xs := fun F s E S => by
  refine wpAny_mono (h F s E S) (fun v s₁ h₁ => wpAny_mono h₁ (fun it s₂ h₂ => ?_) fun _ _ e => e) fun _ _ e => e
  obtain ⟨F₂, x₂, i, e1, q⟩ := h₂
  refine ⟨F₂, x₂, i, e1, q.hW, q.now, q.hP, q.hfd, fun b hb => ?_, q.hwr, q.hex⟩
  rcases q.hfo b hb with h | h | h
  · exact .inl h
  · exact .inr (.inl h)
  · exact absurd rfl h

theorem IterEvF.list {e : Expr} {xs : List D} (hh : A.handled = none) (he : Ev W A env Δ μ e (.list xs)) : IterEvF W A env Δ μ e xs := fun F s E S => by
  refine wpAny_mono (he F s E S) (fun v s₁ h₁ => ?_) fun _ _ e => e
  obtain ⟨F₁, x₁, r₁⟩ := h₁
  refine wpAny_mono (iter_list ((S.ext x₁).weakenM (μ' := fun _ => none) (fun _ _ e => by cases e)) hh r₁ rfl) (fun it s₂ h₂ => src_after x₁ h₂) fun _ _ e => e
end
end Mine

open PySem PySem.W PyProof.Rows
set_option Elab.async false
set_option linter.unusedVariables false
namespace Mine

abbrev testsT (ifs : List Expr) (env : Env) : Sem Bool := forIn ifs true fun c r => if r = true then do let ok ← isTrue c env (eval c env); pure (ForInStep.yield ok) else pure (ForInStep.yield r)

/-- a loop's code: what one turn is -/
def LoopCode (W : Wd) (A : Around) (env : Env) (c : Code) (it : Value) (target : Expr) (ifs : List Expr) (B : (Unit → Shared → Prop) → (Value → Shared → Prop) → Shared → Prop) : Prop :=
  ∀ (R : Result → Shared → Prop) (I : Nat → Shared → Prop),
    (∀ n s, I n s → wpAny W.M A (pyNext it) (fun r s₁ => match r with
      | none => R (.ok .next) s₁
      | some v => wpAny W.M A (assign target env v) (fun _ s₂ =>
          wpAny W.M A (testsT ifs env) (fun ok s₃ =>
            if ok = true then B (fun _ s₅ => ∃ m, m < n ∧ I m s₅) (notedBy W.M A env fun e s' => R (.error e) s') s₃
            else ∃ m, m < n ∧ I m s₃) (notedBy W.M A env fun e s' => R (.error e) s') s₂) (notedBy W.M A env fun e s' => R (.error e) s') s₁) (notedBy W.M A env fun e s' => R (.error e) s') s) →
    ∀ n s, I n s → codeAny W.M A c R s

abbrev emitT (elt : Expr) (acc : Value) (env : Env) : Sem Unit := do let _ ← call (.builtin "list.append") [acc, ← eval elt env]

section
variable {W : Wd} {A : Around} {env : Env}


abbrev turnT (iterPos : Pos) (it : Value) (target : Expr) (ifs : List Expr) (K : Sem Fin) (env : Env) (c : Code) : Sem Fin :=
  standAt iterPos >>= fun _ => pyNext it >>= fun r => match r with
    | none => pure (.done .next)
    | some v => letOwnedTupleGo target it v >>= fun _ => assign target env v >>= fun _ => testsT ifs env >>= fun ok => if ok = true then K else again c

theorem loop_of_turn {c : Code} {it : Value} {target : Expr} {ifs : List Expr} {B : (Unit → Shared → Prop) → (Value → Shared → Prop) → Shared → Prop} {K : Sem Fin} {ip : Pos} {t : Sem Fin} (hq : c.quiet = true) (hu : A.under c = A)
    (hden : W.M.den c = (t.onRaise (fun x => do noteFrame x env; theTreesLotGoes x)))
    (ht : t = turnT ip it target ifs K env c) (hlet : ∀ v, letOwnedTupleGo target it v = pure ())
    (hK : ∀ (P : Shared → Prop) (Q : Fin → Shared → Prop) (E : Value → Shared → Prop) s, (∀ s', P s' → Q (.again c) s') → B (fun _ => P) E s → wpAny W.M A K Q E s) : LoopCode W A env c it target ifs B := by
  intro R I turn n s h
  refine codeAny_loop hq I (fun n s hI => ?_) n h
  rw [hu, hden, ht]
  refine wpAny_noted ?_
  refine wpAny_bind (wpAny_standAt (wpAny_bind (wpAny_mono (turn n s hI) (fun r s₁ h₁ => ?_) fun _ _ h' => h')))
  cases r with
  | none => exact wpAny_pure h₁
  | some v =>
    refine wpAny_bind (wpAny_of_eq (hlet v) ?_)
    refine wpAny_bind (wpAny_mono h₁ (fun _ s₂ h₂ => wpAny_bind (wpAny_mono h₂ (fun ok s₃ h₃ => ?_) fun _ _ h' => h')) fun _ _ h' => h')
    cases ok with
    | false => exact wpAny_pure ⟨rfl, h₃⟩
    | true => exact hK (fun s₅ => ∃ m, m < n ∧ I m s₅) _ _ s₃ (fun s' h' => ⟨rfl, h'⟩) h₃

abbrev emitB (W : Wd) (A : Around) (elt : Expr) (acc : Value) (env : Env) : (Unit → Shared → Prop) → (Value → Shared → Prop) → Shared → Prop :=
  fun Q E s => wpAny W.M A (eval elt env) (fun v s₁ => wpAny W.M A (call (.builtin "list.append") [acc, v]) (fun _ s₂ => Q () s₂) E s₁) E s

theorem loop1 {elt iter : Expr} {x : Str} {px : Pos} {ifs : List Expr} {scope : Scope} {pos : Pos} {it acc : Value} :
    LoopCode W A env (.compLoop (.ListComp elt [⟨.Name x px, iter, ifs, 0⟩] scope pos) 0 it acc env) it (.Name x px) ifs (emitB W A elt acc env) :=
  loop_of_turn (ip := iter.pos) (t := compTurn (.ListComp elt [⟨.Name x px, iter, ifs, 0⟩] scope pos) 0 it acc env)
    (K := emitT elt acc env >>= fun _ => again (.compLoop (.ListComp elt [⟨.Name x px, iter, ifs, 0⟩] scope pos) 0 it acc env)) rfl (Around.under_of_weight rfl) rfl
    (by rw [compTurn_list]; rfl) (fun _ => rfl) fun P Q E s hp h => wpAny_bind (wpAny_bind (wpAny_mono h (fun v s₁ h₁ => wpAny_bind (wpAny_mono h₁ (fun _ s₂ h₂ => wpAny_pure (wpAny_pure (hp s₂ h₂))) fun _ _ e => e)) fun _ _ e => e))

theorem loop2_1 {elt iter iter' : Expr} {x x' : Str} {px px' : Pos} {scope : Scope} {pos : Pos} {it acc : Value} :
    LoopCode W A env (.compLoop (.ListComp elt [⟨.Name x px, iter, [], 0⟩, ⟨.Name x' px', iter', [], 0⟩] scope pos) 1 it acc env) it (.Name x' px') [] (emitB W A elt acc env) :=
  loop_of_turn (ip := iter'.pos) (t := compTurn (.ListComp elt [⟨.Name x px, iter, [], 0⟩, ⟨.Name x' px', iter', [], 0⟩] scope pos) 1 it acc env)
    (K := emitT elt acc env >>= fun _ => again (.compLoop (.ListComp elt [⟨.Name x px, iter, [], 0⟩, ⟨.Name x' px', iter', [], 0⟩] scope pos) 1 it acc env)) rfl (Around.under_of_weight rfl) rfl
    (by rfl) (fun _ => rfl) fun P Q E s hp h => wpAny_bind (wpAny_bind (wpAny_mono h (fun v s₁ h₁ => wpAny_bind (wpAny_mono h₁ (fun _ s₂ h₂ => wpAny_pure (wpAny_pure (hp s₂ h₂))) fun _ _ e => e)) fun _ _ e => e))

abbrev nestB (W : Wd) (A : Around) (e iter' : Expr) (acc : Value) (env : Env) : (Unit → Shared → Prop) → (Value → Shared → Prop) → Shared → Prop :=
  fun Q E s => wpAny W.M A (eval iter' env) (fun v s₁ => wpAny W.M A (pyIter v) (fun it s₂ => codeAny W.M A (.compStart e 1 it acc env) (fun r s' => match r with | .ok _ => Q () s' | .error x => cameBackBy W.M A env E x s') s₂) E s₁) E s

theorem loop2_0 {elt iter iter' : Expr} {x x' : Str} {px px' : Pos} {scope : Scope} {pos : Pos} {it acc : Value} (hfold : ∀ v, foldedSetIterable iter' env v = pure v) :
    LoopCode W A env (.compLoop (.ListComp elt [⟨.Name x px, iter, [], 0⟩, ⟨.Name x' px', iter', [], 0⟩] scope pos) 0 it acc env) it (.Name x px) []
      (nestB W A (.ListComp elt [⟨.Name x px, iter, [], 0⟩, ⟨.Name x' px', iter', [], 0⟩] scope pos) iter' acc env) :=
  loop_of_turn (ip := iter.pos) (t := compTurn (.ListComp elt [⟨.Name x px, iter, [], 0⟩, ⟨.Name x' px', iter', [], 0⟩] scope pos) 0 it acc env)
    (K := eval iter' env >>= fun v => standAt iter'.pos >>= fun _ => foldedSetIterable iter' env v >>= fun v => holding [v] (pyIter v) >>= fun it' =>
      runOwn (.compStart (.ListComp elt [⟨.Name x px, iter, [], 0⟩, ⟨.Name x' px', iter', [], 0⟩] scope pos) 1 it' acc env) env >>= fun _ => again (.compLoop (.ListComp elt [⟨.Name x px, iter, [], 0⟩, ⟨.Name x' px', iter', [], 0⟩] scope pos) 0 it acc env)) rfl (Around.under_of_weight rfl) rfl
    (by rfl) (fun _ => rfl) fun P Q E s hp h => wpAny_bind (wpAny_mono h (fun v s₁ h₁ => wpAny_bind (wpAny_standAt (wpAny_bind (wpAny_of_eq (hfold v) (wpAny_bind (wpAny_holding (wpAny_mono h₁ (fun it' s₂ h₂ =>
      wpAny_bind (wpAny_runOwn (codeAny_mono h₂ fun r s' hr => by cases r with | ok f => exact wpAny_pure (hp s' hr) | error x => exact hr))) fun _ _ e => e))))))) fun _ _ e => e)
end
end Mine

open PySem PySem.W PyProof.Rows
set_option Elab.async false
set_option linter.unusedVariables false
namespace Mine
section
variable {W : Wd} {A : Around} {env : Env} {Δ : Ctx} {μ : MM}

theorem lookup_cons_ne {x y : Str} {d e : D} {Δ : Ctx} (h : Δ.lookup y = some e) (hx : y ≠ x) : ((x, d) :: Δ).lookup y = some e := by
  rw [List.lookup_cons]
  have : (y == x) = false := by simpa using hx
  rw [this]; exact h

theorem St.dropM {F : FM} {s : Shared} {a : Addr} {m : MObj} (S : St W env Δ (μ.set a m) F s) (h : μ a = none) : St W env Δ μ F s :=
  S.weakenM fun b m' e => by
    by_cases hb : b = a
    · subst hb; rw [h] at e; cases e
    · rw [MM.set_ne hb]; exact e

theorem comp_core {c : Code} {x : Str} {px : Pos} {ifs : List Expr} {B : (Unit → Shared → Prop) → (Value → Shared → Prop) → Shared → Prop} {I : Addr} {fp wr : List Addr} {P : Nat → Value → Prop} {Stw : Nat → Heap → Prop}
    {xs : List D} {Acc : Addr} {xa : List Addr} {o : Nat → List D} {F : FM} {s : Shared} {R : Result → Shared → Prop} {ys₀ : List D}
    (LC : LoopCode W A env c (.ref I) (.Name x px) ifs B)
    (hW : Walks W.prog W.w A I fp wr xs.length P Stw) (hst : Stw 0 s.heap) (hP : ∀ i v, P i v → ∃ d, xs[i]? = some d ∧ RelV F d v)
    (hex : ∀ i h, Stw i h → ∀ b ∈ wr, h.get? b ≠ none)
    (hxk : env.kindOf x = some .local ∨ env.kindOf x = some .cell)
    (hxa : ∀ b, (b = env.locals ∧ env.kindOf x = some .local ∨ env.cells.lookup x = some b ∧ env.kindOf x = some .cell) → b ∈ xa)
    (hfp : ∀ b ∈ fp, b ∉ xa ∧ b ≠ Acc)
    (hwr : ∀ b ∈ wr, F b = none ∧ μ b = none ∧ b ≠ env.locals ∧ (∀ y, (y, b) ∉ env.cells) ∧ b ≠ Acc)
    (hΔ : ∀ y d, Δ.lookup y = some d → y ≠ x) (hAcc : μ Acc = none)
    (hsz : ys₀.length + ((List.range xs.length).flatMap o).length ≤ sizeLine)
    (body : ∀ i d, xs[i]? = some d → ∃ b, (∀ F s (E : Value → Shared → Prop), St W env ((x, d) :: Δ) μ F s → wpAny W.M A (testsT ifs env) (fun r s' => ∃ F', Ext F s F' s' ∧ r = b) E s) ∧ (b = false → o i = []) ∧
      (b = true → ∀ ys F s (Q : Unit → Shared → Prop) (E : Value → Shared → Prop), St W env ((x, d) :: Δ) (μ.set Acc (.lst ys)) F s → ys.length + (o i).length ≤ sizeLine →
        (∀ F' s', St W env ((x, d) :: Δ) (μ.set Acc (.lst (ys ++ o i))) F' s' → ExtBut (Acc :: xa) F s F' s' → Q () s') → B Q E s))
    (S : St W env Δ (μ.set Acc (.lst ys₀)) F s)
    (hR : ∀ F' s', St W env Δ (μ.set Acc (.lst (ys₀ ++ (List.range xs.length).flatMap o))) F' s' → ExtBut (Acc :: xa ++ wr) F s F' s' → R (.ok .next) s') :
    codeAny W.M A c R s := by
  have hmono : ∀ i, i ≤ xs.length → ((List.range i).flatMap o).length ≤ ((List.range xs.length).flatMap o).length := by
    intro i hi
    have e : List.range xs.length = List.range i ++ (List.range (xs.length - i)).map (i + ·) := by
      rw [← List.range_add]; congr 1; omega
    rw [e, List.flatMap_append, List.length_append]; omega
  refine LC R (fun k s' => ∃ i F', k = xs.length + 1 - i ∧ i ≤ xs.length ∧ St W env Δ (μ.set Acc (.lst (ys₀ ++ (List.range i).flatMap o))) F' s' ∧ ExtBut (Acc :: xa ++ wr) F s F' s' ∧ Stw i s'.heap ∧ ∀ b ∈ wr, F' b = none) ?_ (xs.length + 1) s
    ⟨0, F, rfl, Nat.zero_le _, by simpa using S, .rfl', hst, fun b hb => (hwr b hb).1⟩
  rintro k s' ⟨i, F', rfl, hi, S', x', st', hF'⟩
  have wrOk : ∀ (F' : FM) (ys : List D), (∀ b ∈ wr, F' b = none) → ∀ b ∈ wr, F' b = none ∧ (μ.set Acc (.lst ys)) b = none ∧ b ≠ env.locals ∧ ∀ y, (y, b) ∉ env.cells := fun F' ys hF b hb =>
    ⟨hF b hb, by rw [MM.set_ne (hwr b hb).2.2.2.2]; exact (hwr b hb).2.1, (hwr b hb).2.2.1, (hwr b hb).2.2.2.1⟩
  by_cases hlt : i < xs.length
  · refine hW.item i s' _ _ hlt st' fun v h₁ tk₁ hPv st₁ hk₁ => ?_
    obtain ⟨d, hd, rv⟩ := hP i v hPv
    have kb : KeepsBut wr s' { s' with heap := h₁, toks := tk₁ } := ⟨h₁, tk₁, rfl, fun b ob hb e => hk₁ b ob hb e⟩
    have S₁ := S'.frame kb (wrOk F' _ hF')
    have x₁ : ExtBut (Acc :: xa ++ wr) F s F' { s' with heap := h₁, toks := tk₁ } := x'.trans ((ExtBut.same kb).mono fun b hb => by simp [hb])
    refine wpAny_assign_Name (S₁.store hxk (rv.mono x'.sub) fun s₂ b hb S₂ x₂ => ?_)
    have hb' := hxa b hb
    have x₂' : ExtBut (Acc :: xa ++ wr) F s F' s₂ := x₁.trans (x₂.mono fun c hc => by simp at hc; subst hc; simp [hb'])
    have st₂ : Stw (i + 1) s₂.heap := hW.frame _ _ _ st₁ fun c hc oc e => x₂.keeps.get (by simp; rintro rfl; exact (hfp c hc).1 hb') e
    obtain ⟨bb, htest, hfalse, htrue⟩ := body i d hd
    refine wpAny_mono (htest F' s₂ _ (S₂.dropM hAcc)) (fun ok s₃ h₃ => ?_) fun _ _ e => e
    obtain ⟨F₃, x₃, rfl⟩ := h₃
    have S₃ := S₂.ext x₃
    have hk₃ : ∀ c oc, s₂.heap.get? c = some oc → s₃.heap.get? c = some oc := fun c oc e => Keeps.get x₃.keeps e
    have st₃ : Stw (i + 1) s₃.heap := hW.frame _ _ _ st₂ fun c _ oc e => hk₃ c oc e
    have hF₃ : ∀ b ∈ wr, F₃ b = none := fun b hb => by
      cases e : F₃ b with
      | none => rfl
      | some ob =>
        have := x₃.new b (by rw [e]; simp) (hF' b hb)
        exact absurd this (hex _ _ st₂ b hb)
    have x₃' : ExtBut (Acc :: xa ++ wr) F s F₃ s₃ := x₂'.trans x₃.but
    have hstep : (List.range (i + 1)).flatMap o = (List.range i).flatMap o ++ o i := by rw [List.range_succ, List.flatMap_append]; simp
    have back : ∀ y e, Δ.lookup y = some e → ((x, d) :: Δ).lookup y = some e := fun y e h => lookup_cons_ne h (hΔ y e h)
    cases ok with
    | false =>
      refine ⟨xs.length + 1 - (i + 1), by omega, i + 1, F₃, rfl, by omega, ?_, x₃', st₃, hF₃⟩
      rw [hstep, hfalse rfl, List.append_nil]
      exact S₃.weakenV back
    | true =>
      refine htrue rfl _ F₃ s₃ _ _ S₃ ?_ fun F₄ s₄ S₄ x₄ => ?_
      · have := hmono (i + 1) (by omega)
        rw [hstep, List.length_append] at this
        rw [List.length_append]; omega
      · have hkeep : ∀ c ∈ fp, ∀ oc, s₃.heap.get? c = some oc → s₄.heap.get? c = some oc := fun c hc oc e => x₄.keeps.get (by simp; exact ⟨(hfp c hc).2, (hfp c hc).1⟩) e
        refine ⟨xs.length + 1 - (i + 1), by omega, i + 1, F₄, rfl, by omega, ?_, x₃'.trans (x₄.mono fun c hc => by simp at hc ⊢; rcases hc with h | h <;> simp [h]), hW.frame _ _ _ st₃ hkeep, fun b hb => ?_⟩
        · rw [hstep, ← List.append_assoc]; exact S₄.weakenV back
        · cases e : F₄ b with
          | none => rfl
          | some ob =>
            rcases x₄.new b (by rw [e]; simp) (hF₃ b hb) with h1 | h1
            · exact absurd h1 (hex _ _ st₃ b hb)
            · have hbf := hfp b (hW.sub b hb)
              simp at h1
              rcases h1 with h1 | h1
              · exact absurd h1 hbf.2
              · exact absurd h1 hbf.1
  · have hin : i = xs.length := by omega
    subst hin
    refine hW.done s' _ _ st' fun h₁ tk₁ hk₁ => ?_
    have kb : KeepsBut wr s' { s' with heap := h₁, toks := tk₁ } := ⟨h₁, tk₁, rfl, fun b ob hb e => hk₁ b ob hb e⟩
    exact hR F' _ (S'.frame kb (wrOk F' _ hF')) (x'.trans ((ExtBut.same kb).mono fun b hb => by simp [hb]))
end
end Mine

open PySem PySem.W PyProof.Rows
set_option Elab.async false
set_option linter.unusedVariables false
namespace Mine

def notSet : Expr → Bool
  | .Set .. => false
  | _ => true
theorem folded_of {e : Expr} {env : Env} (h : notSet e = true) (x : Value) : foldedSetIterable e env x = pure x := by
  cases e <;> first | rfl | cases h

def xaOf (cenv : Env) (names : List Str) : List Addr := cenv.locals :: names.filterMap fun x => if cenv.kindOf x = some .cell then cenv.cells.lookup x else none

/-- a target of the comprehension's own -/
def OwnName (scope : Scope) (x : Str) : Prop := (x, NameKind.local) ∈ scope.names ∨ (x, NameKind.cell) ∈ scope.names

/-- a place that a comprehension's expression is reckoned in -/
structure In (W : Wd) (env : Env) (scope : Scope) (cenv : Env) : Prop where
  eok : EnvOk cenv
  sc : cenv.scope = relabel scope env

section
variable {W : Wd} {A : Around} {env : Env} {Δ : Ctx} {μ : MM}

theorem own_kind {scope : Scope} {cenv : Env} (ok : ScopeOk scope env) (hs : cenv.scope = relabel scope env) {x : Str} (h : OwnName scope x) :
    (cenv.kindOf x = some .local ∧ (x, NameKind.local) ∈ scope.names) ∨ (cenv.kindOf x = some .cell ∧ (x, NameKind.cell) ∈ scope.names) := by
  unfold Env.kindOf
  rw [hs, relabel_lookup]
  rcases h with h | h
  · rw [lookup_nodup ok.nodup h]; exact .inl ⟨rfl, h⟩
  · rw [lookup_nodup ok.nodup h]; exact .inr ⟨rfl, h⟩

/-- what the end of a comprehension finds -/
structure Made (W : Wd) (F : FM) (s : Shared) (out : List D) (F' : FM) (s' : Shared) (Acc C : Addr) : Prop where
  ext : Ext F s F' s'
  accF : F' Acc = none
  accN : s.heap.get? Acc = none
  locF : F' C = none
  locN : s.heap.get? C = none
  ne : Acc ≠ C
  ns : ∃ m, s'.heap.Ns C m
  rel : ∃ vs n, s'.heap.get? Acc = some (lobj vs n) ∧ RelVs F' out vs

/-- the loop of a comprehension, whatever its shape, from its own environment on -/
def CompRun (W : Wd) (A : Around) (env : Env) (Δ : Ctx) (μ : MM) (e : Expr) (scope : Scope) (names : List Str) (xs out : List D) : Prop :=
  ∀ (cenv : Env) (F : FM) (s₀ s : Shared) (it : Value) (Acc : Addr) (R : Result → Shared → Prop) fp wr P Stw I, In W env scope cenv → it = .ref I → St W cenv (freeCtx scope Δ) (μ.set Acc (.lst [])) F s → μ Acc = none →
    Walks W.prog W.w A I fp wr xs.length P Stw → Stw 0 s.heap → (∀ i v, P i v → ∃ d, xs[i]? = some d ∧ RelV F d v) → (∀ i h, Stw i h → ∀ b ∈ wr, h.get? b ≠ none) →
    (∀ b ∈ fp, b ∉ xaOf cenv names ∧ b ≠ Acc) → (∀ b ∈ wr, F b = none ∧ μ b = none ∧ b ≠ cenv.locals ∧ (∀ y, (y, b) ∉ cenv.cells) ∧ b ≠ Acc) →
    (∀ F' s', St W cenv (freeCtx scope Δ) (μ.set Acc (.lst out)) F' s' → ExtBut (Acc :: xaOf cenv names ++ wr) F s F' s' → R (.ok .next) s') →
    codeAny W.M A (.compLoop e 0 it (.ref Acc) cenv) R s

/-- what any source of a comprehension gives: its iterator, and the loop over it -/
structure Src0 (W : Wd) (A : Around) (env : Env) (Δ : Ctx) (μ : MM) (e : Expr) (scope : Scope) (names : List Str) (out : List D) (F₂ : FM) (s s₂ : Shared) (I : Addr) (fp wr : List Addr) (st : Heap → Prop) : Prop where
  sub : ∀ b ∈ wr, b ∈ fp
  now : st s₂.heap
  frame : ∀ h h' : Heap, st h → (∀ b ∈ fp, ∀ o, h.get? b = some o → h'.get? b = some o) → st h'
  self : ∀ (s : Shared) (Q E : Value → Shared → Prop), st s.heap → Q (.ref I) s → wpAny W.M A (pyIter (.ref I)) Q E s
  hfd : ∀ b ∈ fp, s₂.heap.get? b ≠ none
  hwr : ∀ b ∈ wr, F₂ b = none ∧ s.heap.get? b = none
  run : ∀ (cenv : Env) (s₄ : Shared) (Acc : Addr) (R : Result → Shared → Prop), In W env scope cenv → St W cenv (freeCtx scope Δ) (μ.set Acc (.lst [])) F₂ s₄ → μ Acc = none → st s₄.heap → (∀ b ∈ fp, b ∉ xaOf cenv names ∧ b ≠ Acc) →
      (∀ b ∈ wr, F₂ b = none ∧ μ b = none ∧ b ≠ cenv.locals ∧ (∀ y, (y, b) ∉ cenv.cells) ∧ b ≠ Acc) →
      (∀ F' s', St W cenv (freeCtx scope Δ) (μ.set Acc (.lst out)) F' s' → ExtBut (Acc :: xaOf cenv names ++ wr) F₂ s₄ F' s' → R (.ok .next) s') → codeAny W.M A (.compLoop e 0 (.ref I) (.ref Acc) cenv) R s₄

theorem comp_gen {elt : Expr} {g : Comprehension} {gs : List Comprehension} {scope : Scope} {pos p : Pos} {use : Option (Value → Sem Unit)} {names : List Str} {out : List D} {Q : Value → Shared → Prop} {E : Value → Shared → Prop} {F : FM} {s : Shared}
    (ok : ScopeOk scope env) (hown : ∀ x ∈ names, OwnName scope x) (hset : notSet g.iter = true) (hasync : g.is_async = 0)
    (hit : wpAny W.M A (eval g.iter env) (fun x s₁ => wpAny W.M A (pyIter x) (fun it s₂ => ∃ F₂ I fp wr st, it = .ref I ∧ Ext F s F₂ s₂ ∧ Src0 W A env Δ μ (.ListComp elt (g :: gs) scope p) scope names out F₂ s s₂ I fp wr st) E s₁) E s) (S : St W env Δ μ F s)
    (fin : ∀ F' s' Acc C, Made W F s out F' s' Acc C → compPost W.M A E use Q (.ref Acc) C (.ok .next) s') :
    wpAny W.M A (comprehension (.ListComp elt (g :: gs) scope p) scope env pos (newList []) false (eval g.iter env) use) Q E s := by
  refine wpAny_comprehension_free rfl (fun x => folded_of hset x) (closureFor_eq fun n hn => S.eok.cells n (ok.free n hn)) ok.kind (fun x hx hl => by obtain ⟨n, k⟩ := x; subst hl; exact lookup_nodup ok.nodup hx) ?_
  refine wpAny_mono hit (fun x s₁ h₁ => wpAny_mono h₁ (fun it s₂ h₂ => ?_) fun _ _ e => e) fun _ _ e => e
  obtain ⟨F₂, I, fp, wr, st, rfl, x₂, src⟩ := h₂
  have hfd := src.hfd
  have hwr := src.hwr
  have S₂ := S.ext x₂
  refine wpAny_newObj_type ?_
  have kacc : Keeps s₂ { s₂ with heap := s₂.heap.push { cls := .type "list", data := .seq ([] : List Value).toArray } } := Keeps.push s₂ _
  have S₃ := S₂.ext (Ext.ofKeeps S₂.sub kacc)
  have accN : s₂.heap.get? s₂.heap.objs.size = none := by
    cases e : s₂.heap.get? s₂.heap.objs.size with
    | none => rfl
    | some o => exact absurd (Heap.lt_size e) (Nat.lt_irrefl _)
  have accG : ∀ s', Keeps { s₂ with heap := s₂.heap.push { cls := .type "list", data := .seq ([] : List Value).toArray } } s' → s'.heap.get? s₂.heap.objs.size = some (lobj [] 0) := fun s' k => Keeps.get k (Heap.get?_push_size _ rfl)
  have accF : F₂ s₂.heap.objs.size = none := by
    cases e : F₂ s₂.heap.objs.size with
    | none => rfl
    | some o => rw [S₂.sub _ _ e] at accN; cases accN
  have accM : μ s₂.heap.objs.size = none := by
    cases e : μ s₂.heap.objs.size with
    | none => rfl
    | some m => obtain ⟨_, hr⟩ := S₂.mu _ m e; obtain ⟨o, ho⟩ := hr.some; rw [accN] at ho; cases ho
  refine comp_env S₃ ok fun cenv s₄ C₄ S₄ k₄ => ?_
  generalize hAcc : s₂.heap.objs.size = Acc at *
  have keep24 : ∀ b ob, s₂.heap.get? b = some ob → s₄.heap.get? b = some ob := fun b ob e => Keeps.get k₄ (Keeps.get kacc e)
  have accNeL : Acc ≠ cenv.locals := fun e => by
    have h1 := C₄.locals
    have h2 := accG _ (Keeps.rfl' _)
    rw [e] at h2
    have h1' : ({ s₂ with heap := s₂.heap.push { cls := .type "list", data := .seq ([] : List Value).toArray } } : Shared).heap.get? cenv.locals = none := h1
    rw [h2] at h1'; cases h1'
  have accC : ∀ y, (y, Acc) ∉ cenv.cells := fun y hy => by
    obtain ⟨_, _, _, v, o, ho, hd⟩ := S₄.cellF y Acc hy
    rw [accG s₄ k₄] at ho; cases ho; cases hd
  have S₅ : St W { cenv with scope := relabel scope env } (freeCtx scope Δ) (μ.set Acc (.lst [])) F₂ s₄ := S₄.addM accM accF accNeL accC ⟨[], 0, accG s₄ k₄, .nil⟩
  -- fresh seen from s
  have fresh : ∀ b, s₂.heap.get? b = none → s.heap.get? b = none := fun b h => by
    cases e : s.heap.get? b with
    | none => rfl
    | some o => rw [Keeps.get x₂.keeps e] at h; cases h
  have xaN : ∀ b ∈ xaOf { cenv with scope := relabel scope env } names, s₂.heap.get? b = none := fun b hb => by
    have key : ∀ b, ({ s₂ with heap := s₂.heap.push { cls := .type "list", data := .seq ([] : List Value).toArray } } : Shared).heap.get? b = none → s₂.heap.get? b = none := fun b h => by
      cases e : s₂.heap.get? b with
      | none => rfl
      | some o => rw [Keeps.get kacc e] at h; cases h
    unfold xaOf at hb
    rcases List.mem_cons.mp hb with rfl | hb
    · exact key _ C₄.locals
    · obtain ⟨y, hy, e⟩ := List.mem_filterMap.mp hb
      split at e
      · rename_i hk
        rcases own_kind (cenv := { cenv with scope := relabel scope env }) ok rfl (hown y hy) with ⟨h1, _⟩ | ⟨_, h2⟩
        · rw [h1] at hk; cases hk
        · exact key _ (C₄.own y b h2 e)
      · cases e
  have st₄ : st s₄.heap := src.frame _ _ src.now fun b _ o e => keep24 b o e
  have hfp : ∀ b ∈ fp, b ∉ xaOf { cenv with scope := relabel scope env } names ∧ b ≠ Acc := fun b hb => ⟨fun h => hfd b hb (xaN b h), fun e => by subst e; exact hfd b hb accN⟩
  have hwr' : ∀ b ∈ wr, F₂ b = none ∧ μ b = none ∧ b ≠ cenv.locals ∧ (∀ y, (y, b) ∉ cenv.cells) ∧ b ≠ Acc := fun b hb => by
    have hb2 := hfd b (src.sub b hb)
    refine ⟨(hwr b hb).1, ?_, ?_, ?_, ?_⟩
    · cases e : μ b with
      | none => rfl
      | some m => obtain ⟨_, hr⟩ := S.mu b m e; obtain ⟨o, ho⟩ := hr.some; rw [(hwr b hb).2] at ho; cases ho
    · rintro rfl; exact hb2 (xaN _ (by unfold xaOf; exact List.mem_cons_self))
    · intro y hy
      rcases C₄.cells y b hy with h1 | h1
      · cases e2 : s₂.heap.get? b with
        | none => exact hb2 e2
        | some o2 =>
          have h1' : ({ s₂ with heap := s₂.heap.push { cls := .type "list", data := .seq ([] : List Value).toArray } } : Shared).heap.get? b = none := h1
          rw [Keeps.get kacc e2] at h1'; cases h1'
      · obtain ⟨_, _, _, v, o, ho, hd⟩ := S.cellF y b h1
        rw [(hwr b hb).2] at ho; cases ho
    · rintro rfl; exact hb2 accN
  have main : ∀ R : Result → Shared → Prop, (∀ F' s', St W { cenv with scope := relabel scope env } (freeCtx scope Δ) (μ.set Acc (.lst out)) F' s' → ExtBut (Acc :: xaOf { cenv with scope := relabel scope env } names ++ wr) F₂ s₄ F' s' → R (.ok .next) s') →
      codeAny W.M A (.compLoop (.ListComp elt (g :: gs) scope p) 0 (.ref I) (.ref Acc) { cenv with scope := relabel scope env }) R s₄ := fun R hR =>
    src.run { cenv with scope := relabel scope env } s₄ Acc R ⟨S₄.eok, rfl⟩ S₅ accM st₄ hfp hwr' hR
  obtain ⟨target, iter, ifs, as⟩ := g
  simp only at hasync; subst hasync
  have loop := main (compPost W.M A E use Q (.ref Acc) cenv.locals) fun F' s' S' x' => ?_
  · exact codeAny_compStart_list loop (src.self _ _ _ st₄ loop)
  · obtain ⟨hF', vs, n, hget, hrel⟩ := S'.mu Acc _ (MM.set_self ..)
    have x24 : ExtBut [] F₂ s₂ F₂ s₄ := .same (.ofKeeps (Keeps.trans' kacc k₄))
    have xall : ExtBut [] F s F' s' := by
      have y1 : ExtBut (Acc :: xaOf { cenv with scope := relabel scope env } names ++ wr) F s F' s' := (x₂.but.trans (x24.mono (by simp))).trans x'
      refine y1.drop fun b hb => .inr ?_
      simp at hb
      rcases hb with rfl | hb | hb
      · exact fresh _ accN
      · exact fresh _ (xaN b hb)
      · exact (hwr b hb).2
    exact fin F' s' Acc cenv.locals ⟨xall.ext S'.sub, hF', fresh _ accN, S'.nsF, fresh _ (xaN _ (by unfold xaOf; exact List.mem_cons_self)), accNeL, S'.ns, vs, n, hget, hrel⟩

theorem comp_all {elt : Expr} {g : Comprehension} {gs : List Comprehension} {scope : Scope} {pos p : Pos} {use : Option (Value → Sem Unit)} {names : List Str} {xs out : List D} {Q : Value → Shared → Prop} {E : Value → Shared → Prop} {F : FM} {s : Shared}
    (ok : ScopeOk scope env) (hown : ∀ x ∈ names, OwnName scope x) (hset : notSet g.iter = true) (hasync : g.is_async = 0) (hit : IterEv W A env Δ μ g.iter xs)
    (run : CompRun W A env Δ μ (.ListComp elt (g :: gs) scope p) scope names xs out) (S : St W env Δ μ F s)
    (fin : ∀ F' s' Acc C, Made W F s out F' s' Acc C → compPost W.M A E use Q (.ref Acc) C (.ok .next) s') :
    wpAny W.M A (comprehension (.ListComp elt (g :: gs) scope p) scope env pos (newList []) false (eval g.iter env) use) Q E s := by
  refine comp_gen ok hown hset hasync (wpAny_mono (hit F s E S) (fun x s₁ h₁ => wpAny_mono h₁ (fun it s₂ h₂ => ?_) fun _ _ e => e) fun _ _ e => e) S fin
  obtain ⟨F₂, x₂, i, rfl, q⟩ := h₂
  exact ⟨F₂, i.I, i.fp, i.wr, i.Stw 0, rfl, x₂, q.hW.sub, q.now, q.hW.frame 0, q.hW.self 0, q.hfd, q.hwr, fun cenv s₄ Acc R hin S₅ hA st₄ hfp hwr' hR => run cenv F₂ s s₄ _ Acc R i.fp i.wr i.P i.Stw i.I hin rfl S₅ hA q.hW st₄ q.hP q.hex hfp hwr' hR⟩
end
end Mine

open PySem PySem.W PyProof.Rows
set_option Elab.async false
set_option linter.unusedVariables false
namespace Mine

def TstL (W : Wd) (A : Around) (env : Env) (Δ : Ctx) (μ : MM) (ifs : List Expr) (b : Bool) : Prop :=
  ∀ F s (E : Value → Shared → Prop), St W env Δ μ F s → wpAny W.M A (testsT ifs env) (fun r s' => ∃ F', Ext F s F' s' ∧ r = b) E s

section
variable {W : Wd} {A : Around} {env : Env} {Δ : Ctx} {μ : MM}

theorem TstL.nil : TstL W A env Δ μ [] true := fun F s E S => wpAny_tests_nil ⟨F, Ext.rfl' S.sub, rfl⟩
theorem TstL.one {c : Expr} {b : Bool} (h : Tst W A env Δ μ c b) : TstL W A env Δ μ [c] b := fun F s E S => wpAny_tests_one (h F s E S)

theorem own_ne {scope : Scope} {x y : Str} {d : D} (ok : ScopeOk scope env) (hx : OwnName scope x) (h : (freeCtx scope Δ).lookup y = some d) : y ≠ x := by
  rintro rfl
  have h1 := (freeCtx_lookup h).1
  rcases hx with hx | hx <;> (have := kind_unique ok.nodup h1 hx; cases this)

theorem own_xa {scope : Scope} {cenv : Env} (ok : ScopeOk scope env) (hs : cenv.scope = relabel scope env) {names : List Str} {x : Str} (hm : x ∈ names) {b : Addr}
    (hb : b = cenv.locals ∧ cenv.kindOf x = some .local ∨ cenv.cells.lookup x = some b ∧ cenv.kindOf x = some .cell) : b ∈ xaOf cenv names := by
  unfold xaOf
  rcases hb with ⟨rfl, _⟩ | ⟨h1, h2⟩
  · exact List.mem_cons_self
  · exact List.mem_cons_of_mem _ (List.mem_filterMap.mpr ⟨x, hm, by rw [if_pos h2]; exact h1⟩)

theorem emit_ok {elt : Expr} {Acc : Addr} {ys : List D} {y : D} {F : FM} {s : Shared} {xa : List Addr} {Q : Unit → Shared → Prop} {E : Value → Shared → Prop} (hAcc : μ Acc = none) (he : Ev W A env Δ μ elt y) (S : St W env Δ (μ.set Acc (.lst ys)) F s) (hsz : ys.length + 1 ≤ sizeLine)
    (h : ∀ F' s', St W env Δ (μ.set Acc (.lst (ys ++ [y]))) F' s' → ExtBut (Acc :: xa) F s F' s' → Q () s') : emitB W A elt (.ref Acc) env Q E s := by
  refine wpAny_mono (he F s E (S.dropM hAcc)) (fun v s₁ h₁ => ?_) fun _ _ e => e
  obtain ⟨F₁, x₁, r₁⟩ := h₁
  refine append_mut (S.ext x₁) (MM.set_self ..) r₁ (by omega) fun s' S' x' => ?_
  rw [MM.set_set] at S'
  exact h F₁ s' S' (x₁.but.trans (x'.mono fun b hb => by simp at hb; simp [hb]))

theorem run1 {elt iter : Expr} {x : Str} {px : Pos} {ifs : List Expr} {scope : Scope} {p : Pos} {xs : List D} {o : Nat → List D} (ok : ScopeOk scope env) (hx : OwnName scope x)
    (hsz : ((List.range xs.length).flatMap o).length ≤ sizeLine)
    (body : ∀ cenv, In W env scope cenv → ∀ i d, xs[i]? = some d → ∃ b, TstL W A cenv ((x, d) :: freeCtx scope Δ) μ ifs b ∧ (b = false → o i = []) ∧ (b = true → ∃ y, o i = [y] ∧ Ev W A cenv ((x, d) :: freeCtx scope Δ) μ elt y)) :
    CompRun W A env Δ μ (.ListComp elt [⟨.Name x px, iter, ifs, 0⟩] scope p) scope [x] xs ((List.range xs.length).flatMap o) := by
  intro cenv F s₀ s it Acc R fp wr P Stw I hin hit S hAcc hW hst hP hex hfp hwr hR
  subst hit
  refine comp_core (B := emitB W A elt (.ref Acc) cenv) (o := o) (ys₀ := []) (xa := xaOf cenv [x]) loop1 hW hst hP hex ?_ (fun b hb => own_xa ok hin.sc (by simp) hb) hfp hwr (fun y d h => own_ne ok hx h) hAcc (by simpa using hsz) (fun i d hd => ?_) S (by simpa using hR)
  · rcases own_kind ok hin.sc hx with h | h
    · exact .inl h.1
    · exact .inr h.1
  · obtain ⟨b, h1, h2, h3⟩ := body cenv hin i d hd
    refine ⟨b, h1, h2, fun hb ys F s Q E S hsz h => ?_⟩
    obtain ⟨y, hy, he⟩ := h3 hb
    rw [hy] at hsz h
    exact emit_ok hAcc he S (by simpa using hsz) h

theorem compStart2 {prog : Program} {w : World} {R : Result → Shared → Prop} {s : Shared} {elt iter iter' : Expr} {target target' : Expr} {scope : Scope} {pos : Pos} {it acc : Value} {env : Env}
    (h0 : codeAny (model prog w) A (.compLoop (.ListComp elt [⟨target, iter, [], 0⟩, ⟨target', iter', [], 0⟩] scope pos) 1 it acc env) R s)
    (h : wpAny (model prog w) A (pyIter it) (fun it' s' => codeAny (model prog w) A (.compLoop (.ListComp elt [⟨target, iter, [], 0⟩, ⟨target', iter', [], 0⟩] scope pos) 1 it' acc env) R s')
      (notedBy (model prog w) A env fun x s' => R (.error x) s') s) :
    codeAny (model prog w) A (.compStart (.ListComp elt [⟨target, iter, [], 0⟩, ⟨target', iter', [], 0⟩] scope pos) 1 it acc env) R s := by
  refine codeAny_of_tree ?_
  show wpAny _ _ ((compStart (.ListComp elt [⟨target, iter, [], 0⟩, ⟨target', iter', [], 0⟩] scope pos) 1 it acc env).onRaise (fun x => do noteFrame x env; standAt theWindowsPlace)) _ _ s
  refine wpAny_notedAt ?_
  unfold compStart
  show wpAny _ _ (ask >>= _) _ _ s
  refine wpAny_bind (wpAny_askSetting (wpAny_ite ?_))
  split
  · first
      | exact wpAny_bind (wpAny_pure (wpAny_pure (And.intro rfl h0)))
      | exact wpAny_pure (And.intro rfl h0)
  · first
      | exact wpAny_bind (wpAny_rule (wpAny_bind (wpAny_standAt (wpAny_bind (wpAny_mono h (fun it' s' h' => wpAny_pure (And.intro rfl h')) fun _ _ x => x)))))
      | (refine wpAny_bind (wpAny_rule ?_); show wpAny _ _ (standAt iter'.pos >>= _) _ _ s; exact wpAny_bind (wpAny_standAt (wpAny_bind (wpAny_mono h (fun it' s' h' => wpAny_pure (And.intro rfl h')) fun _ _ x => x))))

theorem run2 {elt iter iter' : Expr} {x x' : Str} {px px' : Pos} {scope : Scope} {p : Pos} {xs : List D} {o : Nat → List D} (ok : ScopeOk scope env) (hx : OwnName scope x) (hx' : OwnName scope x') (hne : x ≠ x') (hset : notSet iter' = true)
    (hsz : ((List.range xs.length).flatMap o).length ≤ sizeLine)
    (body : ∀ cenv, In W env scope cenv → ∀ i d, xs[i]? = some d → ∃ xs', IterEv W A cenv ((x, d) :: freeCtx scope Δ) μ iter' xs' ∧ ∃ o' : Nat → D, o i = (List.range xs'.length).map o' ∧
      ∀ j d', xs'[j]? = some d' → Ev W A cenv ((x', d') :: (x, d) :: freeCtx scope Δ) μ elt (o' j)) :
    CompRun W A env Δ μ (.ListComp elt [⟨.Name x px, iter, [], 0⟩, ⟨.Name x' px', iter', [], 0⟩] scope p) scope [x, x'] xs ((List.range xs.length).flatMap o) := by
  intro cenv F s₀ s it Acc R fp wr P Stw I hin hit S hAcc hW hst hP hex hfp hwr hR
  subst hit
  have kx : cenv.kindOf x = some .local ∨ cenv.kindOf x = some .cell := by
    rcases own_kind ok hin.sc hx with h | h
    · exact .inl h.1
    · exact .inr h.1
  have kx' : cenv.kindOf x' = some .local ∨ cenv.kindOf x' = some .cell := by
    rcases own_kind ok hin.sc hx' with h | h
    · exact .inl h.1
    · exact .inr h.1
  refine comp_core (B := nestB W A (.ListComp elt [⟨.Name x px, iter, [], 0⟩, ⟨.Name x' px', iter', [], 0⟩] scope p) iter' (.ref Acc) cenv) (o := o) (ys₀ := []) (xa := xaOf cenv [x, x']) (loop2_0 fun v => folded_of hset v) hW hst hP hex kx
    (fun b hb => own_xa ok hin.sc (by simp) hb) hfp hwr (fun y d h => own_ne ok hx h) hAcc (by simpa using hsz) (fun i d hd => ?_) S (by simpa using hR)
  obtain ⟨xs', hit, o', hoi, hel⟩ := body cenv hin i d hd
  refine ⟨true, TstL.nil, (fun h => by cases h), fun _ ys F₁ s₁ Q E S₁ hsz₁ h₁ => ?_⟩
  refine wpAny_mono (hit F₁ s₁ E (S₁.dropM hAcc)) (fun v s₂ h₂ => wpAny_mono h₂ (fun it s₃ h₃ => ?_) fun _ _ e => e) fun _ _ e => e
  obtain ⟨F₃, x₃, ⟨I', fp', wr', P', Stw'⟩, rfl, hW', hst', hP', hfd', hfo', hwr', hex'⟩ := h₃
  have S₃ := S₁.ext x₃
  obtain ⟨hAF, hAR⟩ := S₃.mu Acc _ (MM.set_self ..)
  obtain ⟨hAF₁, hAR₁⟩ := S₁.mu Acc _ (MM.set_self ..)
  have accSome : ∃ ob, s₁.heap.get? Acc = some ob := hAR₁.some
  have xaSome : ∀ b ∈ xaOf cenv [x, x'], (∃ ob, s₁.heap.get? b = some ob) ∧ F₃ b = none ∧ μ b = none := fun b hb => by
    have hM : (μ.set Acc (.lst ys)) b = none → μ b = none := fun h => by
      by_cases e : b = Acc
      · subst e; exact hAcc
      · rw [MM.set_ne e] at h; exact h
    unfold xaOf at hb
    rcases List.mem_cons.mp hb with rfl | hb
    · obtain ⟨m, ob, es, ep, e, _⟩ := S₁.ns
      exact ⟨⟨ob, e⟩, S₃.nsF, hM S₃.nsM⟩
    · obtain ⟨y, hy, e⟩ := List.mem_filterMap.mp hb
      split at e
      · obtain ⟨_, _, _, v, ob, e', _⟩ := S₁.cellF y b (mem_of_lookup e)
        have := S₃.cellF y b (mem_of_lookup e)
        exact ⟨⟨ob, e'⟩, this.1, hM this.2.1⟩
      · cases e
  have hfp₂ : ∀ b ∈ fp', b ∉ xaOf cenv [x, x'] ∧ b ≠ Acc := fun b hb => by
    refine ⟨fun h => ?_, fun h => ?_⟩
    · obtain ⟨⟨ob, e⟩, h2, h3⟩ := xaSome b h
      rcases hfo' b hb with h4 | h4 | h4
      · rw [(hwr' b h4).2] at e; cases e
      · exact h4 h2
      · exact h4 h3
    · subst h
      obtain ⟨ob, e⟩ := accSome
      rcases hfo' b hb with h4 | h4 | h4
      · rw [(hwr' b h4).2] at e; cases e
      · exact h4 hAF
      · exact h4 hAcc
  have hwr₂ : ∀ b ∈ wr', F₃ b = none ∧ μ b = none ∧ b ≠ cenv.locals ∧ (∀ y, (y, b) ∉ cenv.cells) ∧ b ≠ Acc := fun b hb => by
    have hn := (hwr' b hb).2
    refine ⟨(hwr' b hb).1, ?_, ?_, ?_, (hfp₂ b (hW'.sub b hb)).2⟩
    · cases e : μ b with
      | none => rfl
      | some m =>
        obtain ⟨_, hr⟩ := (S₁.dropM hAcc).mu b m e
        obtain ⟨ob, ho⟩ := hr.some
        rw [hn] at ho; cases ho
    · rintro rfl; obtain ⟨m, ob, es, ep, e, _⟩ := S₁.ns; rw [hn] at e; cases e
    · intro y hy; obtain ⟨_, _, _, v, ob, e, _⟩ := S₁.cellF y b hy; rw [hn] at e; cases e
  have loop : ∀ R' : Result → Shared → Prop, (∀ F' s', St W cenv ((x, d) :: freeCtx scope Δ) (μ.set Acc (.lst (ys ++ o i))) F' s' → ExtBut (Acc :: xaOf cenv [x, x'] ++ wr') F₃ s₃ F' s' → R' (.ok .next) s') →
      codeAny W.M A (.compLoop (.ListComp elt [⟨.Name x px, iter, [], 0⟩, ⟨.Name x' px', iter', [], 0⟩] scope p) 1 (.ref I') (.ref Acc) cenv) R' s₃ := fun R' hR' => by
    have hfl : (List.range xs'.length).flatMap (fun j => [o' j]) = o i := by rw [hoi, List.map_eq_flatMap]
    refine comp_core (B := emitB W A elt (.ref Acc) cenv) (o := fun j => [o' j]) (ys₀ := ys) (xa := xaOf cenv [x, x']) loop2_1 hW' hst' hP' hex' kx' (fun b hb => own_xa ok hin.sc (by simp) hb) hfp₂ hwr₂ (fun y e h => ?_) hAcc (by rw [hfl]; exact hsz₁) (fun j d' hd' => ?_) S₃ (by rw [hfl]; exact hR')
    · rw [List.lookup_cons] at h
      cases hb : y == x with
      | true => rw [beq_iff_eq.mp hb]; exact hne
      | false => rw [hb] at h; exact own_ne ok hx' h
    · refine ⟨true, TstL.nil, (fun h => by cases h), fun _ ys' F₄ s₄ Q' E' S₄ hsz₄ h₄ => ?_⟩
      exact emit_ok hAcc (hel j d' hd') S₄ (by simpa using hsz₄) h₄
  have fin : codeAny W.M A (.compLoop (.ListComp elt [⟨.Name x px, iter, [], 0⟩, ⟨.Name x' px', iter', [], 0⟩] scope p) 1 (.ref I') (.ref Acc) cenv)
      (fun r s' => match r with | .ok _ => Q () s' | .error x => cameBackBy W.M A cenv E x s') s₃ := loop _ fun F' s' S' x' => by
    refine h₁ F' s' S' ?_
    refine (x₃.but.trans x').drop fun b hb => ?_
    simp at hb ⊢
    rcases hb with h | h | h
    · exact .inl (.inl h)
    · exact .inl (.inr h)
    · exact .inr (hwr' b h).2
  exact compStart2 fin (hW'.self 0 _ _ _ hst' fin)
end
end Mine

open PySem PySem.W PyProof.Rows
set_option Elab.async false
set_option linter.unusedVariables false
namespace Mine

theorem Ev.comp {W : Wd} {A : Around} {env : Env} {Δ : Ctx} {μ : MM} {elt : Expr} {g : Comprehension} {gs : List Comprehension} {scope : Scope} {p : Pos} {names : List Str} {xs out : List D}
    (ok : ScopeOk scope env) (hown : ∀ x ∈ names, OwnName scope x) (hset : notSet g.iter = true) (hasync : g.is_async = 0) (hit : IterEv W A env Δ μ g.iter xs)
    (run : CompRun W A env Δ μ (.ListComp elt (g :: gs) scope p) scope names xs out) : Ev W A env Δ μ (.ListComp elt (g :: gs) scope p) (.list out) := fun F s E S => by
  rw [eval_ListComp]
  obtain ⟨target, iter, ifs, as⟩ := g
  simp only at hasync; subst hasync
  refine comp_all (use := none) ok hown hset rfl hit run S fun F' s' Acc C M => ?_
  obtain ⟨m, hn⟩ := M.ns
  refine ⟨m, hn, fun h' hs' => ?_⟩
  obtain ⟨vs, n, hget, hrel⟩ := M.rel
  have k : KeepsBut [C] s' { s' with heap := h' } := ⟨h', s'.toks, rfl, fun b o hb e => (hs'.2 b (by simpa using hb)).trans e⟩
  have hin : ∀ b o, F' b = some o → h'.get? b = some o := fun b o e => (hs'.2 b (fun e' => by rw [e', M.locF] at e; cases e)).trans (M.ext.inn b o e)
  have x : Ext F s F' { s' with heap := h' } := by
    refine ⟨?_, M.ext.sub, hin, M.ext.new⟩
    obtain ⟨h₀, tk, e, hk⟩ := M.ext.keeps
    subst e
    exact ⟨h', tk, rfl, fun b o e => (hs'.2 b (fun e' => by rw [e', M.locN] at e; cases e)).trans (hk b o e)⟩
  have hg : h'.get? Acc = some (lobj vs n) := (hs'.2 Acc M.ne).trans hget
  have x2 := x.addNew (a := Acc) hg M.accN M.accF
  exact ⟨_, x2, by rw [RelV]; exact ⟨Acc, vs, n, rfl, FM.add_self .., hrel.mono (FM.add_sub M.accF)⟩⟩

def lookEq (N : List (Str × NameKind)) (x : Str) (k : NameKind) : Bool := N.lookup x == some k

/-- a comprehension's table upon the table around it -/
def innerN (scope : Scope) (N : List (Str × NameKind)) : List (Str × NameKind) :=
  scope.names.map fun p => if (p.2 == .free && true && N.lookup p.1 == some .cell) then (p.1, .cell) else (p.1, p.2)
def scopeOkB (scope : Scope) (N : List (Str × NameKind)) : Bool :=
  (scope.kind == .function) && decide (scope.names.map (·.1)).Nodup && scope.names.all fun p => p.2 != .free || N.lookup p.1 == some .cell || N.lookup p.1 == some .free
def ownB (scope : Scope) (x : Str) : Bool := scope.names.lookup x == some .local || scope.names.lookup x == some .cell

theorem scopeOk_of {scope : Scope} {env : Env} (h : scopeOkB scope env.scope.names = true) : ScopeOk scope env := by
  simp only [scopeOkB, Bool.and_eq_true, beq_iff_eq, decide_eq_true_eq, List.all_eq_true] at h
  obtain ⟨⟨h1, h2⟩, h3⟩ := h
  refine ⟨h1, h2, fun n hn => ?_⟩
  have := h3 (n, .free) hn
  simp only [Bool.or_eq_true, bne_iff_ne, ne_eq, not_true_eq_false, beq_iff_eq, false_or] at this
  exact this
theorem own_of {scope : Scope} {x : Str} (h : ownB scope x = true) : OwnName scope x := by
  simp only [ownB, Bool.or_eq_true, beq_iff_eq] at h
  rcases h with h | h
  · exact .inl (mem_of_lookup h)
  · exact .inr (mem_of_lookup h)
theorem innerN_eq {scope : Scope} {env : Env} (h : env.scope.kind = .function) : (relabel scope env).names = innerN scope env.scope.names := by
  unfold relabel innerN Env.kindOf
  rw [h]
  rfl
end Mine

open PySem PySem.W PyProof.Rows
set_option Elab.async false
set_option linter.unusedVariables false
namespace Mine

def evs (f : Expr → Option D) : List Expr → Option (List D)
  | [] => some []
  | e :: r => match f e, evs f r with
    | some d, some ds => some (d :: ds)
    | _, _ => none
def collect (f : D → Option (List D)) : List D → Option (List D)
  | [] => some []
  | x :: r => match f x, collect f r with
    | some a, some b => some (a ++ b)
    | _, _ => none
def tstAll (op : BoolOp) (f : Expr → Option Bool) : List Expr → Option Bool
  | [] => some (op == .And)
  | e :: r => match f e with
    | some b => if b == (op == .And) then tstAll op f r else some b
    | none => none
def partI (f : Expr → Option D) : Option Expr → Option (Option Int)
  | none => some none
  | some e => match f e with
    | some (.int i) => some (some i)
    | _ => none
noncomputable def sized (ds : List D) : Option D := @ite _ (ds.length ≤ sizeLine) (Classical.propDecidable _) (some (.list ds)) none

noncomputable def sliceD (μ : MM) (d : D) (lo hi st : Option Int) : Option D :=
  match d with
  | .str x => @ite _ (st = none ∧ x.length ≤ sizeLine) (Classical.propDecidable _) (some (.str (Txt.slice x lo hi))) none
  | d => match asList μ d with
    | some ds => @ite _ (st ≠ some 0 ∧ ds.length ≤ sizeLine) (Classical.propDecidable _) (some (.list (pickL ds lo hi st))) none
    | none => none

def nmJoin : Str := "join"
def nmSplit : Str := "split"
def nmIndex : Str := "index"
def nmGet : Str := "get"
def nmRange : Str := "range"
noncomputable def methD (μ : MM) (name : Str) (ov : D) (args : List D) : Option D :=
  if name = nmJoin then
    (match ov, args with
    | .str sep, [d] => match (asList μ d).bind strsOf? with
      | some xs => @ite _ (JoinOk sep xs = true) (Classical.propDecidable _) (some (.str (Txt.join sep xs))) none
      | none => none
    | _, _ => none)
  else if name = nmSplit then
    (match ov, args with
    | .str x, [.str y] => @ite _ ((y.length == 0) = false ∧ x.length ≤ sizeLine ∧ (Builtin.Str.partsBetween x (Builtin.Str.occurrences x y 0 x.length (x.length + 1)) y.length).length ≤ sizeLine) (Classical.propDecidable _) (some (.list ((Txt.split x y).map .str))) none
    | _, _ => none)
  else if name = nmIndex then
    (match asList μ ov, args with
    | some ds, [x] => @ite _ (ds.length ≤ sizeLine) (Classical.propDecidable _) ((findIdxD x ds).map (fun (j : Nat) => D.int (j : Int))) none
    | _, _ => none)
  else none

def ownT (scope : Scope) (g : Comprehension) : Bool := match g.target with
  | .Name x _ => ownB scope x
  | _ => false
def neT (g g' : Comprehension) : Bool := match g.target with
  | .Name x _ => (match g'.target with | .Name x' _ => x != x' | _ => false)
  | _ => false
def globT (N : List (Str × NameKind)) (o : Expr) : Bool := match o with
  | .Name t _ => lookEq N t .globalImplicit
  | _ => true

def opt2 {α : Type} (f : D → D → Option α) : Option D → Option D → Option α
  | some a, some b => f a b
  | _, _ => none
theorem opt2_of {α : Type} {f : D → D → Option α} : ∀ {o o' : Option D} {d : α}, opt2 f o o' = some d → ∃ a b, o = some a ∧ o' = some b ∧ f a b = some d
  | some a, some b, _, h => ⟨a, b, rfl, rfl, h⟩
  | none, _, _, h => nomatch h
  | some _, none, _, h => nomatch h
theorem opt2_ss {α : Type} {f : D → D → Option α} {a b : D} : opt2 f (some a) (some b) = f a b := rfl
def optS (o : Option (List D)) (f : List D → Option D) : Option D := match o with
  | some ds => f ds
  | none => none
theorem optS_of {f : List D → Option D} : ∀ {o : Option (List D)} {d : D}, optS o f = some d → ∃ ds, o = some ds ∧ f ds = some d
  | some ds, _, h => ⟨ds, rfl, h⟩
  | none, _, h => nomatch h
theorem optS_s {f : List D → Option D} {ds : List D} : optS (some ds) f = f ds := rfl

noncomputable def idxV (μ : MM) (d i : D) : Option D := match i with
  | .int k => idxD μ d k
  | _ => none
theorem idxV_int {μ : MM} {d : D} {k : Int} : idxV μ d (.int k) = idxD μ d k := rfl

mutual
noncomputable def evD (Φ : Str → List D → Option D) (Ψ : Str → List D → Option D) (μ : MM) : Nat → Expr → Ctx → Option D
  | 0, _, _ => none
  | n + 1, e, Δ => match e with
    | .Constant c _ _ => (match c with
      | .int i => some (.int i)
      | .str x => some (.str x)
      | .bool b => some (.bool b)
      | .none => some .none
      | _ => none)
    | .Name x _ => Δ.lookup x
    | .BinOp l op r _ => opt2 (binD μ op) (evD Φ Ψ μ n l Δ) (evD Φ Ψ μ n r Δ)
    | .UnaryOp op x _ => (match op with
      | .USub => (match evD Φ Ψ μ n x Δ with
        | some (.int i) => some (.int (-i))
        | _ => none)
      | _ => none)
    | .Compare l ops rs _ => (match ops with
      | [op] => (match rs with
        | [r] => opt2 (fun a b => (cmpD μ op a b).map .bool) (evD Φ Ψ μ n l Δ) (evD Φ Ψ μ n r Δ)
        | _ => none)
      | _ => none)
    | .BoolOp op vs _ => (match op with
      | .And => (match vs with
        | [x, y] => (match evD Φ Ψ μ n x Δ with
          | some (.bool true) => evD Φ Ψ μ n y Δ
          | some (.bool false) => some (.bool false)
          | _ => none)
        | _ => none)
      | _ => none)
    | .IfExp t a b _ => (match tstD Φ Ψ μ n t Δ with
      | some true => evD Φ Ψ μ n a Δ
      | some false => evD Φ Ψ μ n b Δ
      | none => none)
    | .List es _ => optS (evs (fun e => evD Φ Ψ μ n e Δ) es) sized
    | .ListComp elt gens scope _ => (match gens with
      | [] => none
      | g :: gs => (match g.target with
        | .Name x _ => optS (itD Φ Ψ μ n g.iter Δ) (fun xs => match gs with
            | [] => optS (collect (fun d => match g.ifs with
                | [] => (evD Φ Ψ μ n elt ((x, d) :: freeCtx scope Δ)).map fun y => [y]
                | [c] => (match tstD Φ Ψ μ n c ((x, d) :: freeCtx scope Δ) with
                  | some true => (evD Φ Ψ μ n elt ((x, d) :: freeCtx scope Δ)).map fun y => [y]
                  | some false => some []
                  | none => none)
                | _ => none) xs) sized
            | [g'] => (match g'.target with
              | .Name x' _ => (match g.ifs with
                | [] => (match g'.ifs with
                  | [] => optS (collect (fun d => match itD Φ Ψ μ n g'.iter ((x, d) :: freeCtx scope Δ) with
                      | some xs' => collect (fun d' => (evD Φ Ψ μ n elt ((x', d') :: (x, d) :: freeCtx scope Δ)).map fun y => [y]) xs'
                      | none => none) xs) sized
                  | _ => none)
                | _ => none)
              | _ => none)
            | _ => none)
        | _ => none))
    | .Subscript v i _ => (match i with
      | .Slice lo hi st _ => (match evD Φ Ψ μ n v Δ, partI (fun e => evD Φ Ψ μ n e Δ) lo, partI (fun e => evD Φ Ψ μ n e Δ) hi, partI (fun e => evD Φ Ψ μ n e Δ) st with
        | some d, some l, some h, some s => sliceD μ d l h s
        | _, _, _, _ => none)
      | i => opt2 (idxV μ) (evD Φ Ψ μ n v Δ) (evD Φ Ψ μ n i Δ))
    | .Call f args ks _ => (match ks with
      | [] => (match f with
        | .Name f _ => optS (evs (fun e => evD Φ Ψ μ n e Δ) args) (Φ f)
        | .Attribute o name _ => (match args with
          | [a] => opt2 (fun ov x => methD μ name ov [x]) (evD Φ Ψ μ n o Δ) (evD Φ Ψ μ n a Δ)
          | [a, b] => (match o with
            | .Name t _ => opt2 (fun x y => if name = nmGet then Ψ t [x, y] else none) (evD Φ Ψ μ n a Δ) (evD Φ Ψ μ n b Δ)
            | _ => none)
          | _ => none)
        | _ => none)
      | _ => none)
    | _ => none
noncomputable def tstD (Φ : Str → List D → Option D) (Ψ : Str → List D → Option D) (μ : MM) : Nat → Expr → Ctx → Option Bool
  | 0, _, _ => none
  | n + 1, e, Δ => match e with
    | .UnaryOp op x _ => (match op with
      | .Not => (tstD Φ Ψ μ n x Δ).map fun b => !b
      | _ => none)
    | .BoolOp op vs _ => tstAll op (fun x => tstD Φ Ψ μ n x Δ) vs
    | .Compare l ops rs _ => (match ops with
      | [op] => (match rs with
        | [r] => opt2 (cmpD μ op) (evD Φ Ψ μ n l Δ) (evD Φ Ψ μ n r Δ)
        | _ => none)
      | _ => none)
    | .Name x p => (evD Φ Ψ μ n (.Name x p) Δ).bind (truthD μ)
    | .BinOp a op b p => (evD Φ Ψ μ n (.BinOp a op b p) Δ).bind (truthD μ)
    | .Call f as ks p => (evD Φ Ψ μ n (.Call f as ks p) Δ).bind (truthD μ)
    | _ => none
noncomputable def itD (Φ : Str → List D → Option D) (Ψ : Str → List D → Option D) (μ : MM) : Nat → Expr → Ctx → Option (List D)
  | 0, _, _ => none
  | n + 1, e, Δ => match e with
    | .Call (.Name f p) args [] q => if f = nmRange then
        (match evs (fun e => evD Φ Ψ μ n e Δ) args with
        | some ds => (match rangeArgs ds with
          | some (a, b, c) => @ite _ (Builtin.Range.small a b c = true) (Classical.propDecidable _) (some ((rangeL a b c).map .int)) none
          | none => none)
        | none => none)
      else (evD Φ Ψ μ n (.Call (.Name f p) args [] q) Δ).bind (asList μ)
    | e => (evD Φ Ψ μ n e Δ).bind (asList μ)
end

-- what the text alone must be like
def okG (it it' : Expr → Bool) (tst : Expr → Bool) (scope : Scope) (gens : List Comprehension) : Bool := match gens with
  | [] => false
  | g :: gs => ownT scope g && it g.iter && notSet g.iter && g.is_async == 0 && (match gs with
    | [] => g.ifs.all tst
    | [g'] => ownT scope g' && neT g g' && it' g'.iter && notSet g'.iter && g'.is_async == 0
    | _ => false)
def okS (ok : Expr → Bool) (i : Expr) : Bool := match i with
  | .Slice lo hi st _ => lo.all ok && hi.all ok && st.all ok
  | i => ok i
def okF (ok : Expr → Bool) (N : List (Str × NameKind)) (f : Expr) (args : List Expr) (pos : Pos) : Bool := match f with
  | .Name f _ => lookEq N f .globalImplicit && !(f == ("__debug__" : Str)) && !args.isEmpty
  | .Attribute o name apos => (apos.endLine == pos.line) && plainBase o && ok o && (match args with | [_, _] => globT N o | _ => true)
  | _ => false
mutual
def okE : Nat → List (Str × NameKind) → Expr → Bool
  | 0, _, _ => false
  | n + 1, N, e => match e with
    | .Constant .. => true
    | .Name x _ => !(x == ("__debug__" : Str)) && !(x == ("__classdict__" : Str))
    | .BinOp l _ r _ => okE n N l && okE n N r
    | .UnaryOp _ x _ => okE n N x
    | .BoolOp _ vs _ => vs.all (okE n N)
    | .Compare l _ rs _ => okE n N l && rs.all fun r => okE n N r && notSet r
    | .IfExp t a b _ => okT n N t && okE n N a && okE n N b
    | .List es _ => es.all fun e => okE n N e && notStar e
    | .ListComp elt gens scope _ => scopeOkB scope N && okE n (innerN scope N) elt &&
        okG (okI n N) (okI n (innerN scope N)) (okT n (innerN scope N)) scope gens
    | .Subscript v i _ => okE n N v && okS (okE n N) i
    | .Call f args _ pos => args.all (fun e => okE n N e && notStar e) && okF (okE n N) N f args pos
    | _ => false
def okT : Nat → List (Str × NameKind) → Expr → Bool
  | 0, _, _ => false
  | n + 1, N, e => match e with
    | .UnaryOp op x _ => (match op with | .Not => okT n N x | _ => false)
    | .BoolOp _ vs _ => vs.all (okT n N)
    | .Compare l _ rs _ => okE n N l && rs.all fun r => okE n N r && notSet r
    | e => okE n N e
def okI : Nat → List (Str × NameKind) → Expr → Bool
  | 0, _, _ => false
  | n + 1, N, e => match e with
    | .Call (.Name f p) args [] q => if f = nmRange then lookEq N f .globalImplicit && args.all (fun e => okE n N e && notStar e) else okE n N (.Call (.Name f p) args [] q)
    | e => okE n N e
end

section
variable {Φ Ψ : Str → List D → Option D} {μ : MM} {n : Nat} {Δ : Ctx}
theorem eI {i : Int} {a : Nat} {p : Pos} : evD Φ Ψ μ (n + 1) (.Constant (.int i) a p) Δ = some (.int i) := rfl
theorem eS {i : Str} {a : Nat} {p : Pos} : evD Φ Ψ μ (n + 1) (.Constant (.str i) a p) Δ = some (.str i) := rfl
theorem eB {i : Bool} {a : Nat} {p : Pos} : evD Φ Ψ μ (n + 1) (.Constant (.bool i) a p) Δ = some (.bool i) := rfl
theorem eN {x : Str} {p : Pos} : evD Φ Ψ μ (n + 1) (.Name x p) Δ = Δ.lookup x := rfl
theorem eBin {l r : Expr} {op : Operator} {p : Pos} : evD Φ Ψ μ (n + 1) (.BinOp l op r p) Δ = opt2 (binD μ op) (evD Φ Ψ μ n l Δ) (evD Φ Ψ μ n r Δ) := rfl
theorem eNeg {x : Expr} {p : Pos} : evD Φ Ψ μ (n + 1) (.UnaryOp .USub x p) Δ = (match evD Φ Ψ μ n x Δ with | some (.int i) => some (.int (-i)) | _ => none) := rfl
theorem eCmp {l r : Expr} {op : CmpOp} {p : Pos} : evD Φ Ψ μ (n + 1) (.Compare l [op] [r] p) Δ = opt2 (fun a b => (cmpD μ op a b).map .bool) (evD Φ Ψ μ n l Δ) (evD Φ Ψ μ n r Δ) := rfl
theorem eAnd {x y : Expr} {p : Pos} : evD Φ Ψ μ (n + 1) (.BoolOp .And [x, y] p) Δ = (match evD Φ Ψ μ n x Δ with | some (.bool true) => evD Φ Ψ μ n y Δ | some (.bool false) => some (.bool false) | _ => none) := rfl
theorem eIf {t a b : Expr} {p : Pos} : evD Φ Ψ μ (n + 1) (.IfExp t a b p) Δ = (match tstD Φ Ψ μ n t Δ with | some true => evD Φ Ψ μ n a Δ | some false => evD Φ Ψ μ n b Δ | none => none) := rfl
theorem eL {es : List Expr} {p : Pos} : evD Φ Ψ μ (n + 1) (.List es p) Δ = optS (evs (fun e => evD Φ Ψ μ n e Δ) es) sized := rfl
theorem eC1 {elt iter : Expr} {x : Str} {ifs : List Expr} {a : Int} {scope : Scope} {px p : Pos} : evD Φ Ψ μ (n + 1) (.ListComp elt [⟨.Name x px, iter, ifs, a⟩] scope p) Δ = optS (itD Φ Ψ μ n iter Δ) fun xs => optS (collect (fun d => match ifs with
                | [] => (evD Φ Ψ μ n elt ((x, d) :: freeCtx scope Δ)).map fun y => [y]
                | [c] => (match tstD Φ Ψ μ n c ((x, d) :: freeCtx scope Δ) with
                  | some true => (evD Φ Ψ μ n elt ((x, d) :: freeCtx scope Δ)).map fun y => [y]
                  | some false => some []
                  | none => none)
                | _ => none) xs) sized := rfl
theorem eC2 {elt iter iter' : Expr} {x x' : Str} {a a' : Int} {scope : Scope} {px px' p : Pos} : evD Φ Ψ μ (n + 1) (.ListComp elt [⟨.Name x px, iter, [], a⟩, ⟨.Name x' px', iter', [], a'⟩] scope p) Δ = optS (itD Φ Ψ μ n iter Δ) fun xs => optS (collect (fun d => match itD Φ Ψ μ n iter' ((x, d) :: freeCtx scope Δ) with
                      | some xs' => collect (fun d' => (evD Φ Ψ μ n elt ((x', d') :: (x, d) :: freeCtx scope Δ)).map fun y => [y]) xs'
                      | none => none) xs) sized := rfl
theorem eSl {v : Expr} {lo hi st : Option Expr} {p q : Pos} : evD Φ Ψ μ (n + 1) (.Subscript v (.Slice lo hi st p) q) Δ = (match evD Φ Ψ μ n v Δ, partI (fun e => evD Φ Ψ μ n e Δ) lo, partI (fun e => evD Φ Ψ μ n e Δ) hi, partI (fun e => evD Φ Ψ μ n e Δ) st with
        | some d, some l, some h, some s => sliceD μ d l h s
        | _, _, _, _ => none) := rfl
theorem eXn {v : Expr} {x : Str} {q p : Pos} : evD Φ Ψ μ (n + 1) (.Subscript v (.Name x q) p) Δ = opt2 (idxV μ) (evD Φ Ψ μ n v Δ) (evD Φ Ψ μ n (.Name x q) Δ) := rfl
theorem eXb {v l r : Expr} {op : Operator} {q p : Pos} : evD Φ Ψ μ (n + 1) (.Subscript v (.BinOp l op r q) p) Δ = opt2 (idxV μ) (evD Φ Ψ μ n v Δ) (evD Φ Ψ μ n (.BinOp l op r q) Δ) := rfl
theorem eXc {v : Expr} {c : Const} {a : Nat} {q p : Pos} : evD Φ Ψ μ (n + 1) (.Subscript v (.Constant c a q) p) Δ = opt2 (idxV μ) (evD Φ Ψ μ n v Δ) (evD Φ Ψ μ n (.Constant c a q) Δ) := rfl
theorem eXu {v x : Expr} {op : UnaryOp} {q p : Pos} : evD Φ Ψ μ (n + 1) (.Subscript v (.UnaryOp op x q) p) Δ = opt2 (idxV μ) (evD Φ Ψ μ n v Δ) (evD Φ Ψ μ n (.UnaryOp op x q) Δ) := rfl
theorem eXs {v l r : Expr} {q p : Pos} : evD Φ Ψ μ (n + 1) (.Subscript v (.Subscript l r q) p) Δ = opt2 (idxV μ) (evD Φ Ψ μ n v Δ) (evD Φ Ψ μ n (.Subscript l r q) Δ) := rfl
theorem eX {v i : Expr} {p : Pos} (hs : ∀ lo hi st q, i ≠ .Slice lo hi st q) : evD Φ Ψ μ (n + 1) (.Subscript v i p) Δ = opt2 (idxV μ) (evD Φ Ψ μ n v Δ) (evD Φ Ψ μ n i Δ) := by
  cases i <;> first | rfl | exact absurd rfl (hs _ _ _ _)
theorem eCall {f : Str} {args : List Expr} {q p : Pos} : evD Φ Ψ μ (n + 1) (.Call (.Name f q) args [] p) Δ = optS (evs (fun e => evD Φ Ψ μ n e Δ) args) (Φ f) := rfl
theorem eM1 {o a : Expr} {name : Str} {q p : Pos} : evD Φ Ψ μ (n + 1) (.Call (.Attribute o name q) [a] [] p) Δ = opt2 (fun ov x => methD μ name ov [x]) (evD Φ Ψ μ n o Δ) (evD Φ Ψ μ n a Δ) := rfl
theorem eM2 {t name : Str} {a b : Expr} {q q' p : Pos} : evD Φ Ψ μ (n + 1) (.Call (.Attribute (.Name t q) name q') [a, b] [] p) Δ = opt2 (fun x y => if name = nmGet then Ψ t [x, y] else none) (evD Φ Ψ μ n a Δ) (evD Φ Ψ μ n b Δ) := rfl
theorem tNot {x : Expr} {p : Pos} : tstD Φ Ψ μ (n + 1) (.UnaryOp .Not x p) Δ = (tstD Φ Ψ μ n x Δ).map fun b => !b := rfl
theorem tBool {op : BoolOp} {vs : List Expr} {p : Pos} : tstD Φ Ψ μ (n + 1) (.BoolOp op vs p) Δ = tstAll op (fun x => tstD Φ Ψ μ n x Δ) vs := rfl
theorem tCmp {l r : Expr} {op : CmpOp} {p : Pos} : tstD Φ Ψ μ (n + 1) (.Compare l [op] [r] p) Δ = opt2 (cmpD μ op) (evD Φ Ψ μ n l Δ) (evD Φ Ψ μ n r Δ) := rfl
theorem tN {x : Str} {p : Pos} : tstD Φ Ψ μ (n + 1) (.Name x p) Δ = (evD Φ Ψ μ n (.Name x p) Δ).bind (truthD μ) := rfl
theorem tBin {l r : Expr} {op : Operator} {p : Pos} : tstD Φ Ψ μ (n + 1) (.BinOp l op r p) Δ = (evD Φ Ψ μ n (.BinOp l op r p) Δ).bind (truthD μ) := rfl
theorem tCall {f : Expr} {args : List Expr} {ks : List Keyword} {p : Pos} : tstD Φ Ψ μ (n + 1) (.Call f args ks p) Δ = (evD Φ Ψ μ n (.Call f args ks p) Δ).bind (truthD μ) := rfl
theorem iRange {args : List Expr} {q p : Pos} : itD Φ Ψ μ (n + 1) (.Call (.Name "range" q) args [] p) Δ = (match evs (fun e => evD Φ Ψ μ n e Δ) args with
        | some ds => (match rangeArgs ds with
          | some (a, b, c) => @ite _ (Builtin.Range.small a b c = true) (Classical.propDecidable _) (some ((rangeL a b c).map .int)) none
          | none => none)
        | none => none) := rfl
end
end Mine

open PySem PySem.W PyProof.Rows
set_option Elab.async false
set_option linter.unusedVariables false
namespace Mine

/-- t.get(x, y) of a table of the top -/
def GetOk (W : Wd) (k : Nat) (μ : MM) (t : Str) (ds : List D) (d : D) : Prop :=
  ∃ a o, W.mg t = some (.ref a) ∧ W.s₁.heap.get? a = some o ∧ o.cls = .type "dict" ∧ o.dict = none ∧ ∀ (A : Around) (env : Env) (Δ : Ctx) (F : FM) (s : Shared) (E : Value → Shared → Prop) (vs : List Value),
    GoodA A k → St W env Δ μ F s → RelVs F ds vs → wpAny W.M A (call (.builtin "dict.get") (.ref a :: vs)) (Gv W F s d) E s

section
variable {W : Wd} {A : Around} {env : Env} {Δ : Ctx} {μ : MM}

theorem Ev.get2 (hW : W.Ok) {t : Str} {p apos pos : Pos} {e₁ e₂ : Expr} {x y d : D} {k : Nat} (hA : GoodA A k) (hg : GetOk W k μ t [x, y] d) (h1 : Ev W A env Δ μ e₁ x) (h2 : Ev W A env Δ μ e₂ y) (n1 : notStar e₁ = true) (n2 : notStar e₂ = true)
    (hk : env.kindOf t = some .globalImplicit) (hd : (t == ("__debug__" : Str)) = false) (hline : (apos.endLine == pos.line) = true) : Ev W A env Δ μ (.Call (.Attribute (.Name t p) "get" apos) [e₁, e₂] [] pos) d := fun F s E S => by
  obtain ⟨a, o, hm, ho, hc, hdct, hcall⟩ := hg
  have hl : EvL W A env Δ μ [e₁, e₂] [x, y] := .cons n1 h1 (.cons n2 h2 .nil)
  have hst : starEach [e₁, e₂] env = [(false, eval e₁ env), (false, eval e₂ env)] := by rw [starEach_cons n1, starEach_cons n2]; rfl
  refine Call_method2 (base_eq rfl _) hst hline (wpAny_Name (loadGlob hW S (.inl hm) hk ?_) hd)
  have ho' := S.sub _ _ (S.base a o ho)
  refine ⟨"dict", "dict.get", PySem.F.plainAttrs_dict, PySem.F.slot_dict_get, PySem.F.type_dict_get, ⟨o, ho', hc⟩, (fun b e => by cases e; exact ⟨o, ho', hdct⟩), ?_⟩
  have sp := hl.spliced (pos := pos) (E := E) S (Q := fun vs s' => wpAny W.M A (PySem.call (.builtin "dict.get") ([.ref a] ++ vs)) (Gv W F s d) E s') fun F' s' vs x r =>
    wpAny_mono (hcall A env Δ F' s' E vs hA (S.ext x) r) (fun v s'' h' => Gv.after x h') fun _ _ e => e
  rw [hst] at sp
  exact Calls.callWith_builtin rfl (Calls.evalArgs_plain sp)

theorem Ev.and {x y : Expr} {pos : Pos} {b : Bool} {d : D} (hx : Ev W A env Δ μ x (.bool b)) (hy : b = true → Ev W A env Δ μ y d) (hd : b = false → d = .bool false) : Ev W A env Δ μ (.BoolOp .And [x, y] pos) d := fun F s E S => by
  refine wpAny_And2 (wpAny_mono (hx F s E S) (fun v s₁ h₁ => ?_) fun _ _ e => e)
  obtain ⟨F₁, x₁, r₁⟩ := h₁
  rw [RelV] at r₁; subst r₁
  refine wpAny_truthy_bool ?_
  cases b with
  | true => exact wpAny_mono (hy rfl F₁ s₁ E (S.ext x₁)) (fun v s₂ h₂ => Gv.after (W := W) x₁ h₂) fun _ _ e => e
  | false => rw [hd rfl]; exact ⟨F₁, x₁, by rw [RelV]⟩

theorem sub_plain {i : Expr} (h : ∀ a b c p, i ≠ .Slice a b c p) (o w : Value) : subscripted i false o w = operate [o, w] (getItem o w) := by
  cases i <;> first | rfl | exact absurd rfl (h _ _ _ _)

theorem part_ev {f : Expr → Option D} {o : Option Expr} {r : Option Int} (he : ∀ e d, o = some e → f e = some d → Ev W A env Δ μ e d) (h : partI f o = some r) {F : FM} {s : Shared} {E : Value → Shared → Prop} {Q : Value → Shared → Prop} (S : St W env Δ μ F s)
    (hq : ∀ F' s' v, Ext F s F' s' → IsPart v r → (∀ i, r = some i → ∃ t, v = .int i t) → (r = none → v = .none) → Q v s') : wpAny W.M A (evalPart o env) Q E s := by
  cases o with
  | none => simp only [partI, Option.some.injEq] at h; subst h; exact wpAny_pure (hq F s .none (Ext.rfl' S.sub) .none (fun i e => by cases e) fun _ => rfl)
  | some e =>
    simp only [partI] at h
    split at h
    · rename_i i hi
      cases h
      refine wpAny_mono (he e _ rfl hi F s E S) (fun v s₁ h₁ => ?_) fun _ _ e => e
      obtain ⟨F₁, x₁, r₁⟩ := h₁
      rw [RelV] at r₁; obtain ⟨t, rfl⟩ := r₁
      exact hq F₁ s₁ _ x₁ (.int i t) (fun j e => by cases e; exact ⟨t, rfl⟩) (fun e => by cases e)
    · cases h

theorem Ev.slice {v : Expr} {lo hi st : Option Expr} {p pos : Pos} {d x : D} {l h c : Option Int} {f : Expr → Option D} (hv : Ev W A env Δ μ v d)
    (he : ∀ e d, (lo = some e ∨ hi = some e ∨ st = some e) → f e = some d → Ev W A env Δ μ e d) (hl : partI f lo = some l) (hh : partI f hi = some h) (hs : partI f st = some c) (hx : sliceD μ d l h c = some x) :
    Ev W A env Δ μ (.Subscript v (.Slice lo hi st p) pos) x := fun F s E S => by
  refine Subscript_ (wpAny_mono (hv F s E S) (fun o s₁ h₁ => ?_) fun _ _ e => e)
  obtain ⟨F₁, x₁, r₁⟩ := h₁
  refine wpAny_Slice ?_
  refine part_ev (fun e d h => he e d (.inl h)) hl (S.ext x₁) fun F₂ s₂ vl x₂ pl ql nl => ?_
  refine part_ev (fun e d h => he e d (.inr (.inl h))) hh ((S.ext x₁).ext x₂) fun F₃ s₃ vu x₃ pu qu nu => ?_
  refine part_ev (fun e d h => he e d (.inr (.inr h))) hs (((S.ext x₁).ext x₂).ext x₃) fun F₄ s₄ vc x₄ pc qc nc => ?_
  have S₄ := (((S.ext x₁).ext x₂).ext x₃).ext x₄
  have x5 := Ext.ofKeeps S₄.sub (Keeps.push s₄ { cls := .type "slice", data := .fields #[vl, vu, vc] })
  have S₅ := S₄.ext x5
  have xall := (((x₁.trans x₂).trans x₃).trans x₄).trans x5
  have r₅ : RelV F₄ d o := r₁.mono ((x₂.sub.trans x₃.sub).trans x₄.sub)
  have hsub : ∃ ops, subscripted (.Slice lo hi st p) false o (.ref s₄.heap.objs.size) = operate ops (getItem o (.ref s₄.heap.objs.size)) := by
    cases st with
    | none => exact ⟨_, rfl⟩
    | some e => exact ⟨_, rfl⟩
  obtain ⟨ops, hsub⟩ := hsub
  unfold sliceD at hx
  split at hx
  · rename_i y
    split at hx
    · rename_i hc; obtain ⟨rfl, hsz⟩ := hc; cases hx
      rw [RelV] at r₅; obtain ⟨t, rfl⟩ := r₅
      have hvc := nc rfl; subst hvc
      have key : ∀ (q : Option Int) (w : Value), (∀ i, q = some i → ∃ t, w = .int i t) → (q = none → w = .none) → ∃ z : Option (Int × Tok), z.map (·.1) = q ∧ w = partValue z := fun q w h1 h2 => by
        cases q with
        | none => exact ⟨none, rfl, h2 rfl⟩
        | some i => obtain ⟨t, rfl⟩ := h1 i rfl; exact ⟨some (i, t), rfl, rfl⟩
      obtain ⟨zl, e1, rfl⟩ := key l vl ql nl
      obtain ⟨zu, e2, rfl⟩ := key h vu qu nu
      subst e1; subst e2
      refine tail_any (typeIs_str _ _ _) PySem.F.slot_str_getitem.lookup ?_ hsub
      refine wpAny_mono (slice_str_get S₅ (lo := zl) (hi := zu) ⟨_, Heap.get?_push_size _ rfl, rfl, rfl⟩ hsz) (fun v s' h' => Gv.after (W := W) xall h') fun _ _ e => e
    · cases hx
  · split at hx
    · rename_i ds hds
      split at hx
      · rename_i hc; cases hx
        obtain ⟨hT, hw⟩ := slice_list_get (A := A) (E := E) S₅ r₅ hds (Heap.IsSliceOf.new s₄.heap vl vu vc) pl pu pc hc.1 hc.2
        exact tail_any hT slot_list_getitem.lookup (wpAny_mono hw (fun v s' h' => Gv.after (W := W) xall h') fun _ _ e => e) hsub
      · cases hx
    · cases hx
end
end Mine

open PySem PySem.W PyProof.Rows
set_option Elab.async false
set_option linter.unusedVariables false
namespace Mine

/-- the tables of functions are true of the world -/
structure TabOk (W : Wd) (k : Nat) (μ : MM) (Φ Ψ : Str → List D → Option D) : Prop where
  fn : ∀ f ds d, Φ f ds = some d → FnOk W k μ f ds d
  get : ∀ t ds d, Ψ t ds = some d → GetOk W k μ t ds d
  range : GlobVal W "range" (.type "range")

theorem sized_some {ds : List D} {d : D} (h : sized ds = some d) : d = .list ds ∧ ds.length ≤ sizeLine := by
  unfold sized at h; split at h
  · cases h; exact ⟨rfl, by assumption⟩
  · cases h

theorem collect_some {f : D → Option (List D)} : ∀ {xs out : List D}, collect f xs = some out → ∃ o : Nat → List D, out = (List.range xs.length).flatMap o ∧ ∀ i d, xs[i]? = some d → f d = some (o i)
  | [], out, h => by simp only [collect, Option.some.injEq] at h; subst h; exact ⟨fun _ => [], rfl, fun i d e => by simp at e⟩
  | x :: r, out, h => by
    simp only [collect] at h
    split at h
    · rename_i a b ha hb
      cases h
      obtain ⟨o, h1, h2⟩ := collect_some hb
      refine ⟨fun i => match i with | 0 => a | j + 1 => o j, ?_, fun i d e => ?_⟩
      · rw [List.length_cons, List.range_succ_eq_map, List.flatMap_cons, List.flatMap_map, h1]
      · cases i with
        | zero => simp at e; subst e; exact ha
        | succ j => exact h2 j d (by simpa using e)
    · cases h

theorem flatMap_congr' {α β : Type} {f g : α → List β} : ∀ {l : List α}, (∀ x ∈ l, f x = g x) → l.flatMap f = l.flatMap g
  | [], _ => rfl
  | x :: l, h => by rw [List.flatMap_cons, List.flatMap_cons, h x List.mem_cons_self, flatMap_congr' fun y hy => h y (List.mem_cons_of_mem _ hy)]

theorem ok_and {a b : Bool} (h : (a && b) = true) : a = true ∧ b = true := Bool.and_eq_true_iff.mp h

theorem behind_of {op : CmpOp} {r : Expr} (h : notSet r = true) : behindInMarks op r = false := by
  cases r <;> first | rfl | cases h

section
variable {W : Wd} {A : Around} {μ : MM} {Φ Ψ : Str → List D → Option D} {k : Nat}

theorem look_of {env : Env} {x : Str} {kd : NameKind} (h : lookEq env.scope.names x kd = true) : env.kindOf x = some kd := by
  unfold lookEq at h; exact beq_iff_eq.mp h

theorem evs_sound {n : Nat} {env : Env} {Δ : Ctx} (ih : ∀ e d, okE n env.scope.names e = true → evD Φ Ψ μ n e Δ = some d → Ev W A env Δ μ e d) :
    ∀ {es : List Expr} {ds : List D}, (es.all fun e => okE n env.scope.names e && notStar e) = true → evs (fun e => evD Φ Ψ μ n e Δ) es = some ds → EvL W A env Δ μ es ds
  | [], ds, _, h => by simp only [evs, Option.some.injEq] at h; subst h; exact .nil
  | e :: r, ds, hk, h => by
    simp only [evs] at h
    simp only [List.all_cons] at hk
    obtain ⟨hk1, hk2⟩ := ok_and hk
    obtain ⟨hk3, hk4⟩ := ok_and hk1
    split at h
    · rename_i a b ha hb
      cases h
      exact .cons hk4 (ih e a hk3 ha) (evs_sound ih hk2 hb)
    · cases h

theorem tstAll_sound {n : Nat} {env : Env} {Δ : Ctx} {op : BoolOp} (ih : ∀ e b, okT n env.scope.names e = true → tstD Φ Ψ μ n e Δ = some b → Tst W A env Δ μ e b) :
    ∀ {es : List Expr} {b : Bool}, (es.all (okT n env.scope.names)) = true → tstAll op (fun x => tstD Φ Ψ μ n x Δ) es = some b →
      ∀ F s (E : Value → Shared → Prop), St W env Δ μ F s → wpAny W.M A (allTrue op es env) (fun v s' => ∃ F', Ext F s F' s' ∧ v = b) E s
  | [], b, _, h, F, s, E, S => by
    simp only [tstAll, Option.some.injEq] at h; subst h
    cases op
    · exact wpAny_allTrue_And_nil ⟨F, Ext.rfl' S.sub, rfl⟩
    · exact wpAny_allTrue_Or_nil ⟨F, Ext.rfl' S.sub, rfl⟩
  | e :: r, b, hk, h, F, s, E, S => by
    simp only [List.all_cons] at hk
    obtain ⟨hk1, hk2⟩ := ok_and hk
    simp only [tstAll] at h
    split at h
    · rename_i c hc
      have he := ih e c hk1 hc
      have go : ∀ s₁ F₁, Ext F s F₁ s₁ → tstAll op (fun x => tstD Φ Ψ μ n x Δ) r = some b → wpAny W.M A (allTrue op r env) (fun v s' => ∃ F', Ext F s F' s' ∧ v = b) E s₁ := fun s₁ F₁ x₁ hr =>
        wpAny_mono (tstAll_sound ih hk2 hr F₁ s₁ E (S.ext x₁)) (fun v s₂ h₂ => by obtain ⟨F₂, x₂, rfl⟩ := h₂; exact ⟨F₂, x₁.trans x₂, rfl⟩) fun _ _ e => e
      cases op
      · refine wpAny_allTrue_And_cons (wpAny_mono (he F s E S) (fun v s₁ h₁ => ?_) fun _ _ e => e)
        obtain ⟨F₁, x₁, rfl⟩ := h₁
        cases v
        · simp at h; subst h; exact ⟨F₁, x₁, rfl⟩
        · simp at h; exact go s₁ F₁ x₁ h
      · refine wpAny_allTrue_Or_cons (wpAny_mono (he F s E S) (fun v s₁ h₁ => ?_) fun _ _ e => e)
        obtain ⟨F₁, x₁, rfl⟩ := h₁
        cases v
        · simp at h; exact go s₁ F₁ x₁ h
        · simp at h; subst h; exact ⟨F₁, x₁, rfl⟩
    · cases h

def SndE (W : Wd) (A : Around) (μ : MM) (Φ Ψ : Str → List D → Option D) (n : Nat) : Prop := ∀ e Δ d env, EnvOk env → okE n env.scope.names e = true → evD Φ Ψ μ n e Δ = some d → Ev W A env Δ μ e d
def SndT (W : Wd) (A : Around) (μ : MM) (Φ Ψ : Str → List D → Option D) (n : Nat) : Prop := ∀ e Δ b env, EnvOk env → okT n env.scope.names e = true → tstD Φ Ψ μ n e Δ = some b → Tst W A env Δ μ e b
def SndI (W : Wd) (A : Around) (μ : MM) (Φ Ψ : Str → List D → Option D) (n : Nat) : Prop := ∀ e Δ xs env, EnvOk env → okI n env.scope.names e = true → itD Φ Ψ μ n e Δ = some xs → IterEv W A env Δ μ e xs

/-- a comprehension that the pure evaluator has reckoned -/
def CompOk (W : Wd) (A : Around) (env : Env) (Δ : Ctx) (μ : MM) (elt : Expr) (gens : List Comprehension) (scope : Scope) (p : Pos) (d : D) : Prop :=
  ∃ g gs names xs out, gens = g :: gs ∧ d = .list out ∧ ScopeOk scope env ∧ (∀ x ∈ names, OwnName scope x) ∧ notSet g.iter = true ∧ g.is_async = 0 ∧ IterEv W A env Δ μ g.iter xs ∧
    CompRun W A env Δ μ (.ListComp elt (g :: gs) scope p) scope names xs out

theorem CompOk.ev {env : Env} {Δ : Ctx} {elt : Expr} {gens : List Comprehension} {scope : Scope} {p : Pos} {d : D} (h : CompOk W A env Δ μ elt gens scope p d) : Ev W A env Δ μ (.ListComp elt gens scope p) d := by
  obtain ⟨⟨t, i, fs, a⟩, gs, names, xs, out, rfl, rfl, h1, h2, h3, rfl, h5, h6⟩ := h
  exact Ev.comp h1 h2 h3 rfl h5 h6

theorem one_out {elt : Expr} {n : Nat} {Γ : Ctx} {l : List D} (h : ((evD Φ Ψ μ n elt Γ).map fun y => [y]) = some l) : ∃ y, l = [y] ∧ evD Φ Ψ μ n elt Γ = some y := by
  obtain ⟨y, hy, e⟩ := Option.map_eq_some_iff.mp h
  exact ⟨y, e.symm, hy⟩

theorem comp_one {n : Nat} (ihE : SndE W A μ Φ Ψ n) (ihT : SndT W A μ Φ Ψ n) {elt iter : Expr} {ifs : List Expr} {x : Str} {px p : Pos} {scope : Scope} {Δ : Ctx} {xs ds : List D} {env : Env}
    (hN : ∀ scope, (relabel scope env).names = innerN scope env.scope.names) (hs : ScopeOk scope env) (ho : OwnName scope x) (hset : notSet iter = true) (helt : okE n (innerN scope env.scope.names) elt = true) (hi : IterEv W A env Δ μ iter xs)
    (hds : collect (fun d => match ifs with
      | [] => (evD Φ Ψ μ n elt ((x, d) :: freeCtx scope Δ)).map fun y => [y]
      | [c] => (match tstD Φ Ψ μ n c ((x, d) :: freeCtx scope Δ) with
        | some true => (evD Φ Ψ μ n elt ((x, d) :: freeCtx scope Δ)).map fun y => [y]
        | some false => some []
        | none => none)
      | _ => none) xs = some ds) (hsz : ds.length ≤ sizeLine) (hifs : ifs.all (okT n (innerN scope env.scope.names)) = true) : CompOk W A env Δ μ elt [⟨.Name x px, iter, ifs, 0⟩] scope p (.list ds) := by
  obtain ⟨o, rfl, ho'⟩ := collect_some hds
  refine ⟨_, _, [x], xs, _, rfl, rfl, hs, (fun y hy => by rw [List.mem_singleton.mp hy]; exact ho), hset, rfl, hi, run1 hs ho hsz fun cenv hin i d hd => ?_⟩
  have hod := ho' i d hd
  have hcn : cenv.scope.names = innerN scope env.scope.names := by rw [hin.sc]; exact hN scope
  rw [← hcn] at helt hifs
  clear hcn
  cases ifs with
  | nil =>
    obtain ⟨y, e, hy⟩ := one_out hod
    exact ⟨true, TstL.nil, (fun e => by cases e), fun _ => ⟨y, e, ihE _ _ _ cenv hin.eok helt hy⟩⟩
  | cons c cs =>
    cases cs with
    | cons => cases hod
    | nil =>
    simp only at hod
    have hc' : okT n cenv.scope.names c = true := List.all_eq_true.mp hifs c List.mem_cons_self
    split at hod
    · rename_i ht
      obtain ⟨y, e, hy⟩ := one_out hod
      exact ⟨true, TstL.one (ihT _ _ _ cenv hin.eok hc' ht), (fun e => by cases e), fun _ => ⟨y, e, ihE _ _ _ cenv hin.eok helt hy⟩⟩
    · rename_i ht
      exact ⟨false, TstL.one (ihT _ _ _ cenv hin.eok hc' ht), (fun _ => (Option.some.inj hod).symm), fun e => by cases e⟩
    · cases hod

theorem comp_two {n : Nat} (ihE : SndE W A μ Φ Ψ n) (ihI : SndI W A μ Φ Ψ n) {elt iter iter' : Expr} {x x' : Str} {px px' p : Pos} {scope : Scope} {Δ : Ctx} {xs ds : List D} {env : Env}
    (hN : ∀ scope, (relabel scope env).names = innerN scope env.scope.names) (hs : ScopeOk scope env) (ho : OwnName scope x) (ho' : OwnName scope x') (hne : x ≠ x') (hset : notSet iter = true) (helt : okE n (innerN scope env.scope.names) elt = true) (hiter' : okI n (innerN scope env.scope.names) iter' = true) (hset' : notSet iter' = true) (hi : IterEv W A env Δ μ iter xs)
    (hds : collect (fun d => match itD Φ Ψ μ n iter' ((x, d) :: freeCtx scope Δ) with
      | some xs' => collect (fun d' => (evD Φ Ψ μ n elt ((x', d') :: (x, d) :: freeCtx scope Δ)).map fun y => [y]) xs'
      | none => none) xs = some ds) (hsz : ds.length ≤ sizeLine) : CompOk W A env Δ μ elt [⟨.Name x px, iter, [], 0⟩, ⟨.Name x' px', iter', [], 0⟩] scope p (.list ds) := by
  obtain ⟨o, rfl, ho2⟩ := collect_some hds
  refine ⟨_, _, [x, x'], xs, _, rfl, rfl, hs, (fun y hy => by rcases List.mem_cons.mp hy with rfl | hy; exact ho; rw [List.mem_singleton.mp hy]; exact ho'), hset, rfl, hi, run2 hs ho ho' hne hset' hsz fun cenv hin i d hd => ?_⟩
  have hod := ho2 i d hd
  have hcn : cenv.scope.names = innerN scope env.scope.names := by rw [hin.sc]; exact hN scope
  rw [← hcn] at helt hiter'
  clear hcn
  split at hod
  · rename_i xs' hxs'
    obtain ⟨o', ho1, ho2⟩ := collect_some hod
    have hel : ∀ j d', xs'[j]? = some d' → ∃ y, o' j = [y] ∧ evD Φ Ψ μ n elt ((x', d') :: (x, d) :: freeCtx scope Δ) = some y := fun j d' hj => one_out (ho2 j d' hj)
    refine ⟨xs', ihI _ _ _ cenv hin.eok hiter' hxs', fun j => (o' j).headD .none, ?_, fun j d' hj => ?_⟩
    · rw [ho1, List.map_eq_flatMap]
      refine flatMap_congr' fun j hj => ?_
      have hj' : j < xs'.length := List.mem_range.mp hj
      obtain ⟨y, hy, _⟩ := hel j xs'[j] (List.getElem?_eq_getElem hj')
      rw [hy]; rfl
    · obtain ⟨y, hy, he⟩ := hel j d' hj
      have e : (fun j => (o' j).headD D.none) j = y := by show (o' j).headD D.none = y; rw [hy]; rfl
      rw [e]
      exact ihE _ _ _ cenv hin.eok helt he
  · cases hod

theorem ownT_of {scope : Scope} {g : Comprehension} (h : ownT scope g = true) : ∃ x p, g.target = .Name x p ∧ OwnName scope x := by
  unfold ownT at h
  split at h
  · exact ⟨_, _, by assumption, own_of h⟩
  · cases h
theorem is_zero {a : Int} (h : (a == 0) = true) : a = 0 := beq_iff_eq.mp h

theorem comp_ih {n : Nat} (ihE : SndE W A μ Φ Ψ n) (ihT : SndT W A μ Φ Ψ n) (ihI : SndI W A μ Φ Ψ n) {elt : Expr} {gens : List Comprehension} {scope : Scope} {p : Pos} {Δ : Ctx} {d : D} {env : Env} (hE : EnvOk env)
    (hk : okE (n + 1) env.scope.names (.ListComp elt gens scope p) = true) (h : evD Φ Ψ μ (n + 1) (.ListComp elt gens scope p) Δ = some d) : CompOk W A env Δ μ elt gens scope p d := by
  have hN : ∀ scope, (relabel scope env).names = innerN scope env.scope.names := fun scope => innerN_eq hE.kind
  obtain ⟨hk1, hk2⟩ := ok_and hk
  obtain ⟨hsc, helt⟩ := ok_and hk1
  clear hk hk1
  cases gens with
  | nil => exact no_none h
  | cons g gs =>
    obtain ⟨tg, iter, ifs, a⟩ := g
    obtain ⟨hk3, hrest⟩ := ok_and hk2
    obtain ⟨hk4, ha⟩ := ok_and hk3
    obtain ⟨hk5, hset⟩ := ok_and hk4
    obtain ⟨hown, hiter⟩ := ok_and hk5
    clear hk2 hk3 hk4 hk5
    obtain ⟨x, px, e1, hown1⟩ := ownT_of hown
    obtain rfl := is_zero ha
    simp only at e1; subst e1
    cases gs with
    | nil =>
      obtain ⟨xs, hxs, h⟩ := optS_of (eC1.symm.trans h)
      obtain ⟨ds, hds, h⟩ := optS_of h
      obtain ⟨rfl, hsz⟩ := sized_some h
      exact comp_one ihE ihT hN (scopeOk_of hsc) hown1 hset helt (ihI _ _ _ env hE hiter hxs) hds hsz hrest
    | cons g' gs =>
      cases gs with
      | cons => exact no_none (optS_of h).choose_spec.2
      | nil =>
        obtain ⟨tg', iter', ifs', a'⟩ := g'
        obtain ⟨hk3, ha'⟩ := ok_and hrest
        obtain ⟨hk4, hset'⟩ := ok_and hk3
        obtain ⟨hk5, hiter'⟩ := ok_and hk4
        obtain ⟨hown', hne⟩ := ok_and hk5
        clear hrest hk3 hk4 hk5
        obtain ⟨x', px', e1, hown1'⟩ := ownT_of hown'
        obtain rfl := is_zero ha'
        simp only at e1; subst e1
        cases ifs with
        | cons => exact no_none (optS_of h).choose_spec.2
        | nil =>
          cases ifs' with
          | cons => exact no_none (optS_of h).choose_spec.2
          | nil =>
            obtain ⟨xs, hxs, h⟩ := optS_of (eC2.symm.trans h)
            obtain ⟨ds, hds, h⟩ := optS_of h
            obtain ⟨rfl, hsz⟩ := sized_some h
            exact comp_two ihE ihI hN (scopeOk_of hsc) hown1 hown1' (bne_iff_ne.mp hne) hset helt hiter' hset' (ihI _ _ _ env hE hiter hxs) hds hsz

theorem meth_ih {env : Env} {Δ : Ctx} {o e : Expr} {name : Str} {apos pos : Pos} {ov x d : D} (hb : plainBase o = true) (hn : notStar e = true) (hline : (apos.endLine == pos.line) = true)
    (eo : Ev W A env Δ μ o ov) (ea : Ev W A env Δ μ e x) (h : methD μ name ov [x] = some d) : Ev W A env Δ μ (.Call (.Attribute o name apos) [e] [] pos) d := by
  unfold methD at h
  split at h
  · rename_i hn'; subst hn'
    split at h
    · rename_i sep d' e1 e2
      cases e2
      split at h
      · rename_i xs hxs
        obtain ⟨ds, hds, hs⟩ := Option.bind_eq_some_iff.mp hxs
        split at h
        · rename_i hok; cases h
          exact Ev.join hb hn hline eo ea hds hs hok
        · exact no_none h
      · exact no_none h
    · exact no_none h
  · split at h
    · rename_i hn'; subst hn'
      split at h
      · rename_i y z e1 e2
        cases e2
        split at h
        · rename_i hc; cases h
          exact Ev.split hb hn hline eo ea hc.1 hc.2.1 hc.2.2
        · exact no_none h
      · exact no_none h
    · split at h
      · rename_i hn'; subst hn'
        split at h
        · rename_i ds x' hds e2
          cases e2
          split at h
          · rename_i hsz
            obtain ⟨j, hj, rfl⟩ := Option.map_eq_some_iff.mp h
            exact Ev.index hb hn hline eo ea hds hj hsz
          · exact no_none h
        · exact no_none h
      · exact no_none h

theorem call_ih (hW : W.Ok) (hA : GoodA A k) (hT : TabOk W k μ Φ Ψ) {n : Nat} (ihE : SndE W A μ Φ Ψ n) {f : Expr} {args : List Expr} {ks : List Keyword} {pos : Pos} {Δ : Ctx} {d : D} {env : Env} (hE : EnvOk env)
    (hk : okE (n + 1) env.scope.names (.Call f args ks pos) = true) (h : evD Φ Ψ μ (n + 1) (.Call f args ks pos) Δ = some d) : Ev W A env Δ μ (.Call f args ks pos) d := by
  obtain ⟨hargs, hkf⟩ := ok_and hk
  clear hk
  cases ks with
  | cons => exact no_none h
  | nil =>
    cases f with
    | Name f q =>
      obtain ⟨hk, hk3⟩ := ok_and hkf
      obtain ⟨hk1, hk2⟩ := ok_and hk
      obtain ⟨ds, hds, h⟩ := optS_of (eCall.symm.trans h)
      exact Ev.call hW hA (hT.fn _ _ _ h) (evs_sound (fun e d h1 h2 => ihE e _ d env hE h1 h2) hargs hds) (by rintro rfl; cases hk3) (look_of hk1) (by simpa using hk2)
    | Attribute o name apos =>
      obtain ⟨hk, hg⟩ := ok_and hkf
      clear hkf
      obtain ⟨hk', hko⟩ := ok_and hk
      obtain ⟨hline, hbase⟩ := ok_and hk'
      clear hk hk'
      cases args with
      | nil => exact no_none h
      | cons a args =>
        obtain ⟨ha, hargs⟩ := ok_and hargs
        obtain ⟨hka, hna⟩ := ok_and ha
        cases args with
        | nil =>
          obtain ⟨ov, x, ho, hx, h⟩ := opt2_of (eM1.symm.trans h)
          exact meth_ih hbase hna hline (ihE _ _ _ env hE hko ho) (ihE _ _ _ env hE hka hx) h
        | cons b args =>
          cases args with
          | cons => exact no_none h
          | nil =>
            obtain ⟨hb, _⟩ := ok_and hargs
            obtain ⟨hkb, hnb⟩ := ok_and hb
            cases o with
            | Name t p =>
              obtain ⟨x, y, hx, hy, h2⟩ := opt2_of (eM2.symm.trans h)
              split at h2
              · rename_i hn; subst hn
                have hkt : (t == ("__debug__" : Str)) = false := by
                  cases n with
                  | zero => cases hko
                  | succ m => simpa using (ok_and hko).1
                exact Ev.get2 hW hA (hT.get _ _ _ h2) (ihE _ _ _ env hE hka hx) (ihE _ _ _ env hE hkb hy) hna hnb (look_of hg) hkt hline
              · exact no_none h2
            | _ => exact no_none h
    | _ => exact no_none h

theorem idxV_of {d i x : D} (h : idxV μ d i = some x) : ∃ k, i = .int k ∧ idxD μ d k = some x := by
  cases i with
  | int k => exact ⟨k, rfl, h⟩
  | _ => exact no_none h
theorem index_ih {n : Nat} (ihE : SndE W A μ Φ Ψ n) {v i : Expr} {pos : Pos} {Δ : Ctx} {d : D} {env : Env} (hE : EnvOk env) (hns : ∀ a b c p, i ≠ .Slice a b c p)
    (hk1 : okE n env.scope.names v = true) (hk2 : okE n env.scope.names i = true) (h : opt2 (idxV μ) (evD Φ Ψ μ n v Δ) (evD Φ Ψ μ n i Δ) = some d) : Ev W A env Δ μ (.Subscript v i pos) d := by
  obtain ⟨d', i', hd, hi, h⟩ := opt2_of h
  obtain ⟨k, rfl, h⟩ := idxV_of h
  exact Ev.subscript (fun o w => sub_plain hns o w) (ihE _ _ _ env hE hk1 hd) (ihE _ _ _ env hE hk2 hi) h
theorem sub_ih {n : Nat} (ihE : SndE W A μ Φ Ψ n) {v i : Expr} {pos : Pos} {Δ : Ctx} {d : D} {env : Env} (hE : EnvOk env)
    (hk : okE (n + 1) env.scope.names (.Subscript v i pos) = true) (h : evD Φ Ψ μ (n + 1) (.Subscript v i pos) Δ = some d) : Ev W A env Δ μ (.Subscript v i pos) d := by
  obtain ⟨hk1, hk2⟩ := ok_and hk
  clear hk
  cases i with
  | Slice lo hi st p =>
    obtain ⟨hk, hst⟩ := ok_and hk2
    obtain ⟨hlo, hhi⟩ := ok_and hk
    have h := eSl.symm.trans h
    split at h
    · rename_i d' l hh c hd hl hhh hc
      refine Ev.slice (ihE _ _ _ env hE hk1 hd) (fun e d'' hor hf => ?_) hl hhh hc h
      refine ihE e _ d'' env hE ?_ hf
      rcases hor with rfl | rfl | rfl
      · exact hlo
      · exact hhi
      · exact hst
    · exact no_none h
  | _ => exact index_ih ihE hE (by intro _ _ _ _ e; cases e) hk1 hk2 h

theorem stepE (hW : W.Ok) (hA : GoodA A k) (hT : TabOk W k μ Φ Ψ) {n : Nat} (ihE : SndE W A μ Φ Ψ n) (ihT : SndT W A μ Φ Ψ n) (ihI : SndI W A μ Φ Ψ n) : SndE W A μ Φ Ψ (n + 1) := by
  intro e Δ d env hE hk h
  have hu : A.units + 64 < cLine := by have := hA.units; unfold cLine; omega
  cases e with
  | ListComp => exact (comp_ih ihE ihT ihI hE hk h).ev
  | Call => exact call_ih hW hA hT ihE hE hk h
  | Subscript => exact sub_ih ihE hE hk h
  | Constant c =>
    cases c with
    | int => cases h; exact Ev.const_int
    | str => cases h; exact Ev.const_str
    | bool => cases h; exact Ev.const_bool
    | none => cases h; exact Ev.const_none
    | _ => exact no_none h
  | Name =>
    obtain ⟨hk1, hk2⟩ := ok_and hk
    exact Ev.name hW h (by simpa using hk1) (by simpa using hk2)
  | BinOp =>
    obtain ⟨hk1, hk2⟩ := ok_and hk
    obtain ⟨a, b, ha, hb, h⟩ := opt2_of (eBin.symm.trans h)
    exact Ev.binop (ihE _ _ _ env hE hk1 ha) (ihE _ _ _ env hE hk2 hb) h
  | UnaryOp op =>
    cases op with
    | USub =>
      have h := eNeg.symm.trans h
      split at h
      · rename_i i hi; cases h
        exact Ev.neg (ihE _ _ _ env hE hk hi)
      · exact no_none h
    | _ => exact no_none h
  | Compare l ops rs =>
    obtain ⟨hk1, hk2⟩ := ok_and hk
    cases ops with
    | nil => exact no_none h
    | cons op ops =>
      cases ops with
      | cons => exact no_none h
      | nil =>
        cases rs with
        | nil => exact no_none h
        | cons r rs =>
          cases rs with
          | cons => exact no_none h
          | nil =>
            obtain ⟨hk3, hk4⟩ := ok_and (List.all_eq_true.mp hk2 r List.mem_cons_self)
            obtain ⟨a, b, ha, hb, h⟩ := opt2_of (eCmp.symm.trans h)
            obtain ⟨c, hc, rfl⟩ := Option.map_eq_some_iff.mp h
            exact Ev.compare hu (behind_of hk4) (ihE _ _ _ env hE hk1 ha) (ihE _ _ _ env hE hk3 hb) hc
  | BoolOp op vs =>
    cases op with
    | Or => exact no_none h
    | And =>
      cases vs with
      | nil => exact no_none h
      | cons x vs =>
        cases vs with
        | nil => exact no_none h
        | cons y vs =>
          cases vs with
          | cons => exact no_none h
          | nil =>
            have hk1 := List.all_eq_true.mp hk x List.mem_cons_self
            have hk2 := List.all_eq_true.mp hk y (List.mem_cons_of_mem _ List.mem_cons_self)
            have h := eAnd.symm.trans h
            split at h
            · rename_i hx
              exact Ev.and (b := true) (ihE _ _ _ env hE hk1 hx) (fun _ => ihE _ _ _ env hE hk2 h) (fun e => by cases e)
            · rename_i hx; cases h
              exact Ev.and (b := false) (ihE _ _ _ env hE hk1 hx) (fun e => by cases e) (fun _ => rfl)
            · exact no_none h
  | IfExp =>
    obtain ⟨hk1, hk2⟩ := ok_and hk
    obtain ⟨hk3, hk4⟩ := ok_and hk1
    have h := eIf.symm.trans h
    split at h
    · rename_i ht
      exact Ev.ifexp (c := true) (ihT _ _ _ env hE hk3 ht) (fun _ => ihE _ _ _ env hE hk4 h) (fun e => by cases e)
    · rename_i ht
      exact Ev.ifexp (c := false) (ihT _ _ _ env hE hk3 ht) (fun e => by cases e) (fun _ => ihE _ _ _ env hE hk2 h)
    · exact no_none h
  | List =>
    obtain ⟨ds, hds, h⟩ := optS_of (eL.symm.trans h)
    obtain ⟨rfl, hsz⟩ := sized_some h
    exact Ev.list (evs_sound (fun e d h1 h2 => ihE e _ d env hE h1 h2) hk hds) hsz
  | _ => exact no_none h

theorem stepT (hA : GoodA A k) {n : Nat} (ihE : SndE W A μ Φ Ψ n) (ihT : SndT W A μ Φ Ψ n) : SndT W A μ Φ Ψ (n + 1) := by
  intro e Δ b env hE hk h
  have hu : A.units + 64 < cLine := by have := hA.units; unfold cLine; omega
  have val : ∀ e, (∀ whole, isTrue e env whole = (do let v ← whole; standAt e.pos; holding [v] (truthy v))) → okE n env.scope.names e = true → (evD Φ Ψ μ n e Δ).bind (truthD μ) = some b → Tst W A env Δ μ e b := fun e he hk h => by
    obtain ⟨d, hd, hb⟩ := Option.bind_eq_some_iff.mp h
    exact Tst.value he (ihE _ _ _ env hE hk hd) hb
  cases e with
  | UnaryOp op =>
    cases op with
    | Not =>
      obtain ⟨c, hc, rfl⟩ := Option.map_eq_some_iff.mp (tNot.symm.trans h)
      exact Tst.not (ihT _ _ _ env hE hk hc)
    | _ => exact no_none h
  | BoolOp =>
    intro F s E S
    exact wpAny_isTrue_BoolOp (tstAll_sound (fun e b h1 h2 => ihT e _ b env hE h1 h2) hk h F s E S)
  | Compare l ops rs =>
    obtain ⟨hk1, hk2⟩ := ok_and hk
    cases ops with
    | nil => exact no_none h
    | cons op ops =>
      cases ops with
      | cons => exact no_none h
      | nil =>
        cases rs with
        | nil => exact no_none h
        | cons r rs =>
          cases rs with
          | cons => exact no_none h
          | nil =>
            obtain ⟨hk3, hk4⟩ := ok_and (List.all_eq_true.mp hk2 r List.mem_cons_self)
            obtain ⟨a, b, ha, hb, h⟩ := opt2_of (tCmp.symm.trans h)
            exact Tst.compare hu (behind_of hk4) (ihE _ _ _ env hE hk1 ha) (ihE _ _ _ env hE hk3 hb) h
  | Name => exact val _ (fun _ => rfl) hk h
  | BinOp => exact val _ (fun _ => rfl) hk h
  | Call => exact val _ (fun _ => rfl) hk h
  | _ => exact no_none h

theorem stepI (hW : W.Ok) (hA : GoodA A k) (hT : TabOk W k μ Φ Ψ) {n : Nat} (ihE : SndE W A μ Φ Ψ n) : SndI W A μ Φ Ψ (n + 1) := by
  intro e Δ xs env hE hk h
  have val : ∀ e, okE n env.scope.names e = true → (evD Φ Ψ μ n e Δ).bind (asList μ) = some xs → IterEv W A env Δ μ e xs := fun e hk h => by
    obtain ⟨d, hd, hl⟩ := Option.bind_eq_some_iff.mp h
    exact IterEv.list hA.handled (ihE _ _ _ env hE hk hd) hl
  unfold itD at h
  unfold okI at hk
  split at h
  · rename_i f p args q
    simp only at hk
    split at h
    · rename_i hf
      rw [if_pos hf] at hk
      subst hf
      obtain ⟨hk1, hk2⟩ := ok_and hk
      split at h
      · rename_i ds hds
        split at h
        · rename_i a b c habc
          split at h
          · rename_i hsm
            cases h
            exact (IterEvF.range hW hA.handled hT.range (look_of hk1) (evs_sound (fun e d h1 h2 => ihE e _ d env hE h1 h2) hk2 hds) habc hsm).iter
          · exact no_none h
        · exact no_none h
      · exact no_none h
    · rename_i hf
      rw [if_neg hf] at hk
      exact val _ hk h
  · rename_i hne
    split at hk
    · exact absurd rfl (hne _ _ _ _)
    · exact val _ hk h

theorem sound (hW : W.Ok) (hA : GoodA A k) (hT : TabOk W k μ Φ Ψ) : ∀ n : Nat, SndE W A μ Φ Ψ n ∧ SndT W A μ Φ Ψ n ∧ SndI W A μ Φ Ψ n
  | 0 => ⟨fun _ _ _ _ _ _ h => (by cases h), fun _ _ _ _ _ _ h => (by cases h), fun _ _ _ _ _ _ h => (by cases h)⟩
  | n + 1 => by
    obtain ⟨ihE, ihT, ihI⟩ := sound hW hA hT n
    exact ⟨stepE hW hA hT ihE ihT ihI, stepT hA ihE ihT, stepI hW hA hT ihE⟩
theorem comp_sound (hW : W.Ok) (hA : GoodA A k) (hT : TabOk W k μ Φ Ψ) (n : Nat) {elt : Expr} {gens : List Comprehension} {scope : Scope} {p : Pos} {Δ : Ctx} {d : D} {env : Env} (hE : EnvOk env)
    (hk : okE (n + 1) env.scope.names (.ListComp elt gens scope p) = true) (h : evD Φ Ψ μ (n + 1) (.ListComp elt gens scope p) Δ = some d) : CompOk W A env Δ μ elt gens scope p d := by
  obtain ⟨ihE, ihT, ihI⟩ := sound hW hA hT n
  exact comp_ih ihE ihT ihI hE hk h
end
end Mine

open PySem PySem.W PyProof.Rows
set_option Elab.async false
set_option linter.unusedVariables false
namespace Mine

inductive Out where
  | next | brk | cont
  | ret (d : D)

/-- a function's state: what stood at its call (B) is kept -/
structure Sf (W : Wd) (fr : List Addr) (B : FM) (F₀ : FM) (env : Env) (Δ : Ctx) (μ : MM) (F : FM) (s : Shared) : Prop where
  st : St W env Δ μ F s
  keep : ∀ b o, B b = some o → ∃ sl, s.heap.get? b = some { o with slots := sl } ∧ (b ∉ fr → sl = o.slots)
  frB : ∀ b ∈ fr, ∃ o, B b = some o ∧ ∀ vs, o.data ≠ .fields vs
  frF₀ : ∀ b ∈ fr, F₀ b = none
  loc : B env.locals = none
  cel : ∀ y c, (y, c) ∈ env.cells → B c = none
  own : ∀ a m, μ a = some m → B a = none
  fsub : FSub F₀ F
  fnew : ∀ a, F a ≠ none → F₀ a = none → B a = none

section
variable {W : Wd} {fr : List Addr} {B F₀ : FM} {env : Env} {Δ : Ctx} {μ : MM} {F : FM} {s : Shared}

theorem Sf.there (S : Sf W fr B F₀ env Δ μ F s) {b : Addr} {o : Obj} (h : B b = some o) : ∃ o', s.heap.get? b = some o' := by
  obtain ⟨sl, h1, _⟩ := S.keep b o h; exact ⟨_, h1⟩
theorem Sf.exact (S : Sf W fr B F₀ env Δ μ F s) {b : Addr} {o : Obj} (h : B b = some o) (hb : b ∉ fr) : s.heap.get? b = some o := by
  obtain ⟨sl, h1, h2⟩ := S.keep b o h; rw [h1, h2 hb]
theorem Sf.frF (S : Sf W fr B F₀ env Δ μ F s) {b : Addr} (h : b ∈ fr) : F b = none := by
  cases e : F b with
  | none => rfl
  | some o =>
    obtain ⟨o', h1, _⟩ := S.frB b h
    have := S.fnew b (by rw [e]; simp) (S.frF₀ b h); rw [h1] at this; cases this
theorem Sf.ext (S : Sf W fr B F₀ env Δ μ F s) {F' : FM} {s' : Shared} (x : Ext F s F' s') : Sf W fr B F₀ env Δ μ F' s' :=
  ⟨S.st.ext x, fun b o e => by obtain ⟨sl, h1, h2⟩ := S.keep b o e; exact ⟨sl, Keeps.get x.keeps h1, h2⟩, S.frB, S.frF₀, S.loc, S.cel, S.own, S.fsub.trans x.sub, fun a h1 h2 => by
    cases h3 : F a with
    | some o => exact S.fnew a (by rw [h3]; simp) h2
    | none =>
      have h4 := x.new a h1 h3
      cases h5 : B a with
      | none => rfl
      | some o => obtain ⟨o', h6⟩ := S.there h5; rw [h6] at h4; cases h4⟩

/-- a change of the function's own -/
theorem Sf.own' (S : Sf W fr B F₀ env Δ μ F s) {Δ' : Ctx} {μ' : MM} {s' : Shared} {X : List Addr} (S' : St W env Δ' μ' F s') (x : ExtBut X F s F s') (hX : ∀ b ∈ X, B b = none) (hm : ∀ a m, μ' a = some m → B a = none) : Sf W fr B F₀ env Δ' μ' F s' :=
  ⟨S', fun b o e => by obtain ⟨sl, h1, h2⟩ := S.keep b o e; exact ⟨sl, x.keeps.get (fun h => by rw [hX b h] at e; cases e) h1, h2⟩, S.frB, S.frF₀, S.loc, S.cel, hm, S.fsub, S.fnew⟩

theorem Sf.weakenV (S : Sf W fr B F₀ env Δ μ F s) {Δ' : Ctx} (h : ∀ x d, Δ'.lookup x = some d → Δ.lookup x = some d) : Sf W fr B F₀ env Δ' μ F s :=
  ⟨S.st.weakenV h, S.keep, S.frB, S.frF₀, S.loc, S.cel, S.own, S.fsub, S.fnew⟩
theorem Sf.weakenM (S : Sf W fr B F₀ env Δ μ F s) {μ' : MM} (h : ∀ a m, μ' a = some m → μ a = some m) : Sf W fr B F₀ env Δ μ' F s :=
  ⟨S.st.weakenM h, S.keep, S.frB, S.frF₀, S.loc, S.cel, fun a m e => S.own a m (h a m e), S.fsub, S.fnew⟩
end

def Fin' (Q : Flow → Shared → Prop) (F : FM) (s : Shared) : Out → Prop
  | .next => Q .next s
  | .brk => Q .brk s
  | .cont => Q .cont s
  | .ret d => ∀ v, RelV F d v → Q (.ret v) s

/-- the statements end as K says; they raise nothing -/
def Wp (W : Wd) (A : Around) (fr : List Addr) (env : Env) (ss : List Stmt) (Δ : Ctx) (μ : MM) (K : Out → Ctx → MM → Prop) : Prop :=
  ∀ B F₀ F s (Q : Flow → Shared → Prop) (E : Value → Shared → Prop), Sf W fr B F₀ env Δ μ F s →
    (∀ o Δ' μ' F' s', K o Δ' μ' → Sf W fr B F₀ env Δ' μ' F' s' → Fin' Q F' s' o) → wpAny W.M A (execs ss env) Q E s

/-- one statement -/
def Wp1 (W : Wd) (A : Around) (fr : List Addr) (env : Env) (st : Stmt) (Δ : Ctx) (μ : MM) (K : Out → Ctx → MM → Prop) : Prop :=
  ∀ B F₀ F s (Q : Flow → Shared → Prop) (E : Value → Shared → Prop), Sf W fr B F₀ env Δ μ F s →
    (∀ o Δ' μ' F' s', K o Δ' μ' → Sf W fr B F₀ env Δ' μ' F' s' → Fin' Q F' s' o) → wpAny W.M A (exec st env) Q E s

section
variable {W : Wd} {A : Around} {B F₀ : FM} {env : Env} {Δ : Ctx} {μ : MM} {K : Out → Ctx → MM → Prop} {fr : List Addr}

theorem Wp.nil (h : K .next Δ μ) : Wp W A fr env [] Δ μ K := fun B F₀ F s Q E S k => wpAny_execs_nil (k _ _ _ F s h S)

theorem Wp.cons {st : Stmt} {rest : List Stmt} (h : Wp1 W A fr env st Δ μ (fun o Δ' μ' => match o with | .next => Wp W A fr env rest Δ' μ' K | o => K o Δ' μ')) : Wp W A fr env (st :: rest) Δ μ K := fun B F₀ F s Q E S k => by
  refine wpAny_execs_cons (h B F₀ F s _ E S fun o Δ' μ' F' s' hk S' => ?_)
  cases o with
  | next => exact hk B F₀ F' s' Q E S' k
  | brk => exact k _ _ _ F' s' hk S'
  | cont => exact k _ _ _ F' s' hk S'
  | ret d => exact fun v hv => k _ _ _ F' s' hk S' v hv

theorem Wp1.mono {st : Stmt} {K' : Out → Ctx → MM → Prop} (h : Wp1 W A fr env st Δ μ K') (hk : ∀ o Δ' μ', K' o Δ' μ' → K o Δ' μ') : Wp1 W A fr env st Δ μ K :=
  fun B F₀ F s Q E S k => h B F₀ F s Q E S fun o Δ' μ' F' s' h' S' => k o Δ' μ' F' s' (hk _ _ _ h') S'
theorem Wp.mono {ss : List Stmt} {K' : Out → Ctx → MM → Prop} (h : Wp W A fr env ss Δ μ K') (hk : ∀ o Δ' μ', K' o Δ' μ' → K o Δ' μ') : Wp W A fr env ss Δ μ K :=
  fun B F₀ F s Q E S k => h B F₀ F s Q E S fun o Δ' μ' F' s' h' S' => k o Δ' μ' F' s' (hk _ _ _ h') S'

theorem store_sf (S : Sf W fr B F₀ env Δ μ F s) {x : Str} {d : D} {v : Value} {Q : Unit → Shared → Prop} {E : Value → Shared → Prop} (hk : env.kindOf x = some .local ∨ env.kindOf x = some .cell) (hv : RelV F d v)
    (h : ∀ s', Sf W fr B F₀ env ((x, d) :: Δ) μ F s' → Q () s') : wpAny W.M A (storeName env x v) Q E s :=
  S.st.store hk hv fun s' b hb S' x' => h s' (S.own' S' x' (fun c hc => by
    simp at hc; subst hc
    rcases hb with ⟨rfl, _⟩ | ⟨h1, _⟩
    · exact S.loc
    · exact S.cel _ _ (mem_of_lookup h1)) S.own)

theorem Wp1.assign {x : Str} {px pos : Pos} {e : Expr} {d : D} (hs : swapsWith e (some (.Name x px)) pos.line env = pure false) (hk : env.kindOf x = some .local ∨ env.kindOf x = some .cell) (he : Ev W A env Δ μ e d) (h : K .next ((x, d) :: Δ) μ) :
    Wp1 W A fr env (.Assign [.Name x px] e pos) Δ μ K := fun B F₀ F s Q E S k => by
  refine wpAny_Assign_Name (wpAny_mono (he F s E S.st) (fun v s₁ h₁ => ?_) fun _ _ e => e) hs
  obtain ⟨F₁, x₁, r₁⟩ := h₁
  exact store_sf (S.ext x₁) hk r₁ fun s' S' => k _ _ _ F₁ s' h S'

theorem Wp1.augName {x : Str} {px pos : Pos} {op : Operator} {e : Expr} {a b c : Int} (hW : W.Ok) (hk : env.kindOf x = some .local ∨ env.kindOf x = some .cell) (hx : Δ.lookup x = some (.int a)) (hcd : (x == ("__classdict__" : Str)) = false)
    (he : Ev W A env Δ μ e (.int b)) (ho : iarith op a b = some c) (h : K .next ((x, .int c) :: Δ) μ) : Wp1 W A fr env (.AugAssign (.Name x px) op e pos) Δ μ K := fun B F₀ F s Q E S k => by
  obtain ⟨v, hv, rv⟩ := S.st.vars x _ hx
  refine wpAny_AugAssign_Name (loadVar hW S.st hv ?_ hcd)
  refine wpAny_mono (he F s E S.st) (fun u s₁ h₁ => ?_) fun _ _ e => e
  obtain ⟨F₁, x₁, r₁⟩ := h₁
  rw [RelV] at rv; obtain ⟨t, rfl⟩ := rv
  rw [RelV] at r₁; obtain ⟨t', rfl⟩ := r₁
  have S₁ := S.ext x₁
  refine wpAny_mono (iarith_sound S₁.st ho t t') (fun r s₂ h₂ => ?_) fun _ _ e => e
  obtain ⟨F₂, x₂, r₂⟩ := h₂
  exact store_sf (S₁.ext x₂) hk r₂ fun s' S' => k _ _ _ F₂ s' h S'

theorem Wp1.if_ {t : Expr} {body orelse : List Stmt} {pos : Pos} {b : Bool} (ht : Tst W A env Δ μ t b) (h1 : b = true → Wp W A fr env body Δ μ K) (h2 : b = false → Wp W A fr env orelse Δ μ K) :
    Wp1 W A fr env (.If t body orelse pos) Δ μ K := fun B F₀ F s Q E S k => by
  refine wpAny_If (wpAny_mono (ht F s E S.st) (fun v s₁ h₁ => ?_) fun _ _ e => e)
  obtain ⟨F₁, x₁, rfl⟩ := h₁
  cases v with
  | true => exact h1 rfl B F₀ F₁ s₁ Q E (S.ext x₁) k
  | false => exact h2 rfl B F₀ F₁ s₁ Q E (S.ext x₁) k

theorem Wp1.ret {e : Expr} {pos : Pos} {d : D} (he : Ev W A env Δ μ e d) (h : K (.ret d) Δ μ) : Wp1 W A fr env (.Return (some e) pos) Δ μ K := fun B F₀ F s Q E S k => by
  refine wpAny_Return_some (wpAny_mono (he F s E S.st) (fun v s₁ h₁ => ?_) fun _ _ e => e)
  obtain ⟨F₁, x₁, r₁⟩ := h₁
  exact k (.ret d) _ _ F₁ s₁ h (S.ext x₁) v r₁

theorem Wp1.break_ {pos : Pos} (h : K .brk Δ μ) : Wp1 W A fr env (.Break pos) Δ μ K := fun B F₀ F s Q E S k => wpAny_Break (k _ _ _ F s h S)

/-- a mutable object named by x is from here on a frozen list -/
theorem Wp.freeze {ss : List Stmt} {x : Str} {a : Addr} {ds : List D} (hx : Δ.lookup x = some (.ref a)) (hm : μ a = some (.lst ds)) (h : Wp W A fr env ss ((x, .list ds) :: Δ) (fun b => if b = a then none else μ b) K) : Wp W A fr env ss Δ μ K := fun B F₀ F s Q E S k => by
  obtain ⟨hF, vs, n, hg, hr⟩ := S.st.mu a _ hm
  have hsub : FSub F (F.add a (lobj vs n)) := FM.add_sub hF
  have hL : a ≠ env.locals := fun e => by rw [e, S.st.nsM] at hm; cases hm
  have hC : ∀ y, (y, a) ∉ env.cells := fun y hc => by rw [(S.st.cellF y a hc).2.1] at hm; cases hm
  have hne : ∀ b, b ≠ a → F.add a (lobj vs n) b = F b := fun b hb => by simp [FM.add, hb]
  refine h B F₀ (F.add a (lobj vs n)) s Q E ⟨⟨S.st.eok, S.st.same, fun b o e => hsub _ _ (S.st.base b o e), fun b o e => ?_, fun y d hy => ?_, fun b m e => ?_, S.st.ns, ?_, ?_, fun y c hc => ?_, S.st.apart⟩, S.keep, S.frB, S.frF₀, S.loc, S.cel, fun b m e => ?_, S.fsub.trans hsub, fun b h1 h2 => ?_⟩ k
  · unfold FM.add at e; split at e
    · cases e; subst_vars; exact hg
    · exact S.st.sub b o e
  · rw [List.lookup_cons] at hy
    cases hb : y == x with
    | true =>
      rw [hb] at hy; cases hy
      rw [beq_iff_eq.mp hb]
      obtain ⟨v, hv, rv⟩ := S.st.vars x _ hx
      rw [RelV] at rv; subst rv
      exact ⟨_, hv, by rw [RelV]; exact ⟨a, vs, n, rfl, FM.add_self .., hr.mono hsub⟩⟩
    | false =>
      rw [hb] at hy
      obtain ⟨v, hv, rv⟩ := S.st.vars y d hy
      exact ⟨v, hv, rv.mono hsub⟩
  · split at e
    · cases e
    · rename_i hba
      obtain ⟨h1, h2⟩ := S.st.mu b m e
      exact ⟨by rw [hne b hba]; exact h1, h2.keeps hsub (fun _ _ e => e)⟩
  · rw [hne _ (Ne.symm hL)]; exact S.st.nsF
  · show (if env.locals = a then none else μ env.locals) = none
    rw [if_neg (Ne.symm hL)]; exact S.st.nsM
  · obtain ⟨h1, h2, h3, h4⟩ := S.st.cellF y c hc
    have hca : c ≠ a := fun e => hC y (by rw [← e]; exact hc)
    exact ⟨by rw [hne c hca]; exact h1, by show (if c = a then none else μ c) = none; rw [if_neg hca]; exact h2, h3, h4⟩
  · split at e
    · cases e
    · exact S.own b m e
  · by_cases hb : b = a
    · subst hb; exact S.own b _ hm
    · exact S.fnew b (by rw [← hne b hb]; exact h1) h2
end
end Mine

open PySem PySem.W PyProof.Rows
set_option Elab.async false
set_option linter.unusedVariables false
namespace Mine
section
variable {W : Wd} {A : Around} {env : Env} {Δ : Ctx} {μ : MM} {K : Out → Ctx → MM → Prop} {fr : List Addr}

theorem Wp1.for_ {x : Str} {px pos : Pos} {iter : Expr} {body orelse : List Stmt} {xs : List D} (Inv : Nat → Ctx → MM → Prop) (hset : notSet iter = true) (hk : env.kindOf x = some .local ∨ env.kindOf x = some .cell) (hit : IterEvF W A env Δ μ iter xs)
    (h0 : Inv 0 Δ μ)
    (hbody : ∀ i d Δ' μ', xs[i]? = some d → Inv i Δ' μ' → Wp W A fr env body ((x, d) :: Δ') μ' (fun o Δ'' μ'' => match o with | .next => Inv (i + 1) Δ'' μ'' | .cont => Inv (i + 1) Δ'' μ'' | .brk => K .next Δ'' μ'' | .ret d => K (.ret d) Δ'' μ''))
    (hend : ∀ Δ' μ', Inv xs.length Δ' μ' → Wp W A fr env orelse Δ' μ' K) :
    Wp1 W A fr env (.For (.Name x px) iter body orelse pos) Δ μ K := fun B F₀ F s Q E S k => by
  refine wpAny_For (wpAny_mono (hit F s E S.st) (fun v s₁ h₁ => wpAny_mono h₁ (fun it s₂ h₂ => ?_) fun _ _ e => e) fun _ _ e => e) (fun v => folded_of hset v)
  obtain ⟨F₂, x₂, ⟨I, fp, wr, P, Stw⟩, rfl, q⟩ := h₂
  have hW := q.hW
  have hst := q.now
  have hP := q.hP
  have hfo := q.hfo
  have hwr := q.hwr
  have hex := q.hex
  simp only at hW hst hP hfo hwr hex
  clear q
  have S₂ := S.ext x₂
  have hfo' : ∀ b ∈ fp, b ∈ wr ∨ F₂ b ≠ none := fun b hb => by
    rcases hfo b hb with h | h | h
    · exact .inl h
    · exact .inr h
    · exact absurd rfl h
  have hF₀wr : ∀ b ∈ wr, F₀ b = none := fun b hb => by
    cases e : F₀ b with
    | none => rfl
    | some o => have := S₂.fsub b o e; rw [(hwr b hb).1] at this; cases this
  have hBwr : ∀ b ∈ wr, B b = none := fun b hb => by
    cases e : B b with
    | none => rfl
    | some o => have := (hwr b hb).2; obtain ⟨o', h6⟩ := S.there e; rw [h6] at this; cases this
  have hwrL : ∀ b ∈ wr, b ≠ env.locals ∧ ∀ y, (y, b) ∉ env.cells := fun b hb => by
    refine ⟨?_, fun y hy => ?_⟩
    · rintro rfl; obtain ⟨m, ob, es, ep, e, _⟩ := S.st.ns; rw [(hwr _ hb).2] at e; cases e
    · obtain ⟨_, _, _, v, ob, e, _⟩ := S.st.cellF y b hy; rw [(hwr _ hb).2] at e; cases e
  have hμwr : ∀ b ∈ wr, μ b = none := fun b hb => by
    cases e : μ b with
    | none => rfl
    | some m => obtain ⟨_, hr⟩ := S.st.mu b m e; obtain ⟨o, ho⟩ := hr.some; rw [(hwr b hb).2] at ho; cases ho
  refine codeAny_forLoop (fun n s' => ∃ i Δ' μ' F', n = xs.length + 1 - i ∧ i ≤ xs.length ∧ Inv i Δ' μ' ∧ Sf W fr B F₀ env Δ' μ' F' s' ∧ FSub F₂ F' ∧ Stw i s'.heap ∧ (∀ b ∈ wr, F' b = none ∧ μ' b = none)) ?_ (xs.length + 1)
    ⟨0, Δ, μ, F₂, rfl, Nat.zero_le _, h0, S₂, .refl _, hst, fun b hb => ⟨(hwr b hb).1, hμwr b hb⟩⟩
  rintro n s' ⟨i, Δ', μ', F', rfl, hi, hinv, S', hsub, st', hwr'⟩
  have advance : ∀ h₁ tk₁, (∀ b ob, b ∉ wr → s'.heap.get? b = some ob → h₁.get? b = some ob) → Sf W fr B F₀ env Δ' μ' F' { s' with heap := h₁, toks := tk₁ } := fun h₁ tk₁ hk₁ => by
    have kb : KeepsBut wr s' { s' with heap := h₁, toks := tk₁ } := ⟨h₁, tk₁, rfl, hk₁⟩
    exact S'.own' (S'.st.frame kb fun b hb => ⟨(hwr' b hb).1, (hwr' b hb).2, (hwrL b hb).1, (hwrL b hb).2⟩) (.same kb) hBwr S'.own
  by_cases hlt : i < xs.length
  · refine hW.item i s' _ _ hlt st' fun v h₁ tk₁ hPv st₁ hk₁ => ?_
    obtain ⟨d, hd, rv⟩ := hP i v hPv
    have S₁ := advance h₁ tk₁ hk₁
    refine wpAny_assign_Name (S₁.st.store hk (rv.mono hsub) fun s₃ b hb S₃ x₃ => ?_)
    have hbB : ∀ c ∈ [b], B c = none := fun c hc => by
      simp at hc; subst hc
      rcases hb with ⟨rfl, _⟩ | ⟨h1, _⟩
      · exact S₁.loc
      · exact S₁.cel _ _ (mem_of_lookup h1)
    have hbwr : b ∉ wr := fun h => by
      rcases hb with ⟨rfl, _⟩ | ⟨h1, _⟩
      · exact (hwrL _ h).1 rfl
      · exact (hwrL _ h).2 _ (mem_of_lookup h1)
    have hbF : F' b = none := by
      rcases hb with ⟨rfl, _⟩ | ⟨h1, _⟩
      · exact S₁.st.nsF
      · exact (S₁.st.cellF _ _ (mem_of_lookup h1)).1
    have st₃ : Stw (i + 1) s₃.heap := hW.frame _ _ _ st₁ fun c hc oc e => x₃.keeps.get (by
      simp; rintro rfl
      rcases hfo' c hc with h | h
      · exact hbwr h
      · cases e2 : F₂ c with
        | none => exact h e2
        | some o2 => rw [hsub _ _ e2] at hbF; cases hbF) e
    have Sf₃ : Sf W fr B F₀ env ((x, d) :: Δ') μ' F' s₃ := S₁.own' S₃ x₃ hbB S₁.own
    -- the body may not touch the iterator
    have Sb : Sf W fr (fun c => if c ∈ wr then s₃.heap.get? c else B c) F' env ((x, d) :: Δ') μ' F' s₃ := by
      refine ⟨S₃, fun c o e => ?_, fun c hc => ?_, fun c hc => Sf₃.frF hc, ?_, fun y c hc => ?_, fun a m e => ?_, .refl _, fun a h1 h2 => absurd h2 h1⟩
      · split at e
        · exact ⟨o.slots, e, fun _ => rfl⟩
        · exact Sf₃.keep c o e
      · obtain ⟨o, q1, q2⟩ := Sf₃.frB c hc
        exact ⟨o, by rw [if_neg (fun h => by rw [hBwr c h] at q1; cases q1)]; exact q1, q2⟩
      · rw [if_neg (fun h => (hwrL _ h).1 rfl)]; exact Sf₃.loc
      · rw [if_neg (fun h => (hwrL _ h).2 _ hc)]; exact Sf₃.cel y c hc
      · rw [if_neg (fun h => by rw [(hwr' _ h).2] at e; cases e)]; exact Sf₃.own a m e
    refine hbody i d Δ' μ' hd hinv _ F' F' s₃ _ _ Sb fun o Δ'' μ'' F'' s'' hK S'' => ?_
    have hwr'' : ∀ b ∈ wr, F'' b = none ∧ μ'' b = none := fun b hb => by
      have hBb : (if b ∈ wr then s₃.heap.get? b else B b) ≠ none := by rw [if_pos hb]; exact hex _ _ st₃ b hb
      refine ⟨?_, ?_⟩
      · cases e : F'' b with
        | none => rfl
        | some ob => exact absurd (S''.fnew b (by rw [e]; simp) (hwr' b hb).1) hBb
      · cases e : μ'' b with
        | none => rfl
        | some m => exact absurd (S''.own b m e) hBb
    have Sf'' : Sf W fr B F₀ env Δ'' μ'' F'' s'' := by
      have hle : ∀ b o, B b = some o → (if b ∈ wr then s₃.heap.get? b else B b) = some o := fun b o e => by
        rw [if_neg (fun h => by rw [hBwr b h] at e; cases e)]; exact e
      have hnone : ∀ b, (if b ∈ wr then s₃.heap.get? b else B b) = none → B b = none := fun b h => by
        cases e : B b with
        | none => rfl
        | some o => rw [hle b o e] at h; cases h
      exact ⟨S''.st, fun b o e => S''.keep b o (hle b o e), Sf₃.frB, Sf₃.frF₀, S''.loc |> hnone _, fun y c hc => hnone _ (S''.cel y c hc), fun a m e => hnone _ (S''.own a m e), Sf₃.fsub.trans S''.fsub, fun a h1 h2 => by
        cases e : F' a with
        | some o => exact Sf₃.fnew a (by rw [e]; simp) h2
        | none => exact hnone _ (S''.fnew a h1 e)⟩
    have hF3 : ∀ a o, F' a = some o → F'' a = some o := S''.fsub
    have st'' : Stw (i + 1) s''.heap := hW.frame _ _ _ st₃ fun c hc oc e => by
      rcases hfo' c hc with h | h
      · exact S''.exact (by rw [if_pos h]; exact e) (fun hf => by obtain ⟨o, q1, _⟩ := Sf₃.frB c hf; rw [hBwr c h] at q1; cases q1)
      · cases e2 : F₂ c with
        | none => exact absurd e2 h
        | some o2 =>
          have h1 := S₃.sub c o2 (hsub _ _ e2)
          rw [e] at h1; cases h1
          exact S''.st.sub c oc (hF3 _ _ (hsub _ _ e2))
    cases o with
    | next => exact ⟨xs.length + 1 - (i + 1), by omega, i + 1, Δ'', μ'', F'', rfl, by omega, hK, Sf'', fun a o e => hF3 _ _ (hsub _ _ e), st'', hwr''⟩
    | cont => exact ⟨xs.length + 1 - (i + 1), by omega, i + 1, Δ'', μ'', F'', rfl, by omega, hK, Sf'', fun a o e => hF3 _ _ (hsub _ _ e), st'', hwr''⟩
    | brk => exact k _ _ _ F'' s'' hK Sf''
    | ret d => exact fun v hv => k _ _ _ F'' s'' hK Sf'' v hv
  · have hin : i = xs.length := by omega
    subst hin
    refine hW.done s' _ _ st' fun h₁ tk₁ hk₁ => ?_
    refine hend Δ' μ' hinv B F₀ F' _ _ _ (advance h₁ tk₁ hk₁) fun o Δ'' μ'' F'' s'' hK S'' => ?_
    cases o with
    | next => exact k _ _ _ F'' s'' hK S''
    | brk => exact k _ _ _ F'' s'' hK S''
    | cont => exact k _ _ _ F'' s'' hK S''
    | ret d => exact fun v hv => k _ _ _ F'' s'' hK S'' v hv
end
end Mine

open PySem PySem.W PyProof.Rows
set_option Elab.async false
set_option linter.unusedVariables false
namespace Mine

/-- e makes a new list, which nothing else knows -/
def EvNew (W : Wd) (A : Around) (env : Env) (Δ : Ctx) (μ : MM) (e : Expr) (ds : List D) : Prop :=
  ∀ F s (E : Value → Shared → Prop), St W env Δ μ F s → wpAny W.M A (eval e env) (fun v s' => ∃ F' a vs n, v = .ref a ∧ Ext F s F' s' ∧ F' a = none ∧ s.heap.get? a = none ∧ s'.heap.get? a = some (lobj vs n) ∧ RelVs F' ds vs) E s

section
variable {W : Wd} {A : Around} {env : Env} {Δ : Ctx} {μ : MM} {K : Out → Ctx → MM → Prop} {fr : List Addr}

theorem fresh_get {s : Shared} : s.heap.get? s.heap.objs.size = none := by
  cases e : s.heap.get? s.heap.objs.size with
  | none => rfl
  | some o => exact absurd (Heap.lt_size e) (Nat.lt_irrefl _)

theorem EvNew.display {es : List Expr} {ds : List D} {pos : Pos} (h : EvL W A env Δ μ es ds) (hsz : ds.length ≤ sizeLine) : EvNew W A env Δ μ (.List es pos) ds := fun F s E S => by
  refine wpAny_List (h.spliced S fun F' s' vs x r => ⟨by rw [r.length]; exact hsz, ?_⟩)
  have S' := S.ext x
  have hF : F' s'.heap.objs.size = none := by
    cases e : F' s'.heap.objs.size with
    | none => rfl
    | some o => have := S'.sub _ _ e; rw [fresh_get] at this; cases this
  refine ⟨F', s'.heap.objs.size, vs, 0, rfl, x.trans (Ext.ofKeeps S'.sub (Keeps.push s' _)), hF, ?_, Heap.get?_push_size _ rfl, r⟩
  cases e : s.heap.get? s'.heap.objs.size with
  | none => rfl
  | some o => have := Keeps.get x.keeps e; rw [fresh_get] at this; cases this


/-- the new object joins the function's own -/
theorem Sf.addM {B F₀ : FM} {F : FM} {s s' : Shared} (S : Sf W fr B F₀ env Δ μ F s) {F' : FM} {a : Addr} {m : MObj} (x : Ext F s F' s') (hF : F' a = none) (hn : s.heap.get? a = none) (hr : MRel F' s'.heap a m) : Sf W fr B F₀ env Δ (μ.set a m) F' s' ∧ μ a = none := by
  have S' := S.ext x
  have hμ : μ a = none := by
    cases e : μ a with
    | none => rfl
    | some m' => obtain ⟨_, hr'⟩ := S.st.mu a m' e; obtain ⟨o, ho⟩ := hr'.some; rw [hn] at ho; cases ho
  have hL : a ≠ env.locals := by rintro rfl; obtain ⟨m, ob, es, ep, e, _⟩ := S.st.ns; rw [hn] at e; cases e
  have hC : ∀ y, (y, a) ∉ env.cells := fun y hy => by obtain ⟨_, _, _, v, ob, e, _⟩ := S.st.cellF y a hy; rw [hn] at e; cases e
  have hB : B a = none := by
    cases e : B a with
    | none => rfl
    | some o => obtain ⟨o', h6⟩ := S.there e; rw [h6] at hn; cases hn
  refine ⟨⟨S'.st.addM hμ hF hL hC hr, S'.keep, S'.frB, S'.frF₀, S'.loc, S'.cel, fun b m' e => ?_, S'.fsub, S'.fnew⟩, hμ⟩
  unfold MM.set at e; split at e
  · subst_vars; exact hB
  · exact S'.own b m' e

theorem Wp1.assignNew {x : Str} {px pos : Pos} {e : Expr} {ds : List D} (hs : swapsWith e (some (.Name x px)) pos.line env = pure false) (hk : env.kindOf x = some .local ∨ env.kindOf x = some .cell) (he : EvNew W A env Δ μ e ds)
    (h : ∀ a, μ a = none → K .next ((x, .ref a) :: Δ) (μ.set a (.lst ds))) : Wp1 W A fr env (.Assign [.Name x px] e pos) Δ μ K := fun B F₀ F s Q E S k => by
  refine wpAny_Assign_Name (wpAny_mono (he F s E S.st) (fun v s₁ h₁ => ?_) fun _ _ e => e) hs
  obtain ⟨F₁, a, vs, n, rfl, x₁, hF, hn, hg, hr⟩ := h₁
  obtain ⟨S₁, hμ⟩ := S.addM x₁ hF hn (m := .lst ds) ⟨vs, n, hg, hr⟩
  exact store_sf S₁ hk (d := .ref a) (by rw [RelV]) fun s' S' => k _ _ _ F₁ s' (h a hμ) S'

theorem append_sf {B F₀ F : FM} {s : Shared} (S : Sf W fr B F₀ env Δ μ F s) {a : Addr} {ys : List D} {d : D} {v : Value} {Q : Value → Shared → Prop} {E : Value → Shared → Prop} (hm : μ a = some (.lst ys)) (hv : RelV F d v) (hsz : ys.length ≤ sizeLine)
    (h : ∀ s', Sf W fr B F₀ env Δ (μ.set a (.lst (ys ++ [d]))) F s' → Q .none s') : wpAny W.M A (call (.builtin "list.append") [.ref a, v]) Q E s :=
  append_mut S.st hm hv hsz fun s' S' x' => h s' (S.own' S' x' (fun b hb => by simp at hb; subst hb; exact S.own b _ hm) (fun b m e => by
    unfold MM.set at e; split at e
    · subst_vars; exact S.own _ _ hm
    · exact S.own b m e))

theorem interactive_fn (h : env.scope.kind = .function) : interactive env = false := by unfold interactive; rw [h]; rfl

theorem Wp1.append {o e : Expr} {apos cpos pos : Pos} {a : Addr} {ys : List D} {d : D} (hb : plainBase o = true) (hn : notStar e = true) (hline : (apos.endLine == cpos.line) = true) (ho : Ev W A env Δ μ o (.ref a)) (hm : μ a = some (.lst ys)) (he : Ev W A env Δ μ e d)
    (hsz : ys.length ≤ sizeLine) (h : K .next Δ (μ.set a (.lst (ys ++ [d])))) : Wp1 W A fr env (.Expr (.Call (.Attribute o "append" apos) [e] [] cpos) pos) Δ μ K := fun B F₀ F s Q E S k => by
  refine wpAny_Expr ?_ (interactive_fn S.st.eok.kind) rfl
  refine Call_method1 (base_eq hb _) (starEach_cons hn) hline (wpAny_mono (ho F s E S.st) (fun v s₁ h₁ => ?_) fun _ _ e => e)
  obtain ⟨F₁, x₁, r₁⟩ := h₁
  rw [RelV] at r₁; subst r₁
  have S₁ := S.ext x₁
  obtain ⟨hF, vs, n, hg, hr⟩ := S₁.st.mu a _ hm
  refine ⟨"list", "list.append", PySem.F.plainAttrs_list, PySem.F.slot_list_append, PySem.F.type_list_append, ⟨_, hg, rfl⟩, (fun b e => by cases e; exact ⟨_, hg, rfl⟩), ?_⟩
  refine Calls.callWith_builtin rfl (Calls.evalArgs_plain (Calls.spliced_cons (wpAny_mono (he F₁ s₁ E S₁.st) (fun v s₂ h₂ => Calls.spliced_nil ?_) fun _ _ e => e)))
  obtain ⟨F₂, x₂, r₂⟩ := h₂
  exact append_sf (S₁.ext x₂) hm r₂ hsz fun s' S' => k _ _ _ F₂ s' h S'
end
end Mine

open PySem PySem.W PyProof.Rows
set_option Elab.async false
set_option linter.unusedVariables false
namespace Mine

def FnAt (W : Wd) (f : Str) (params : Arguments) (body : List Stmt) (scope : Scope) : Prop :=
  ∃ a o pm code doc, W.mg f = some (.ref a) ∧ W.s₁.heap.get? a = some o ∧ o.data = .func (Calls.docDef f params body scope pm code doc) ∧ W.s₁.heap.CodeRec code f

theorem bindL_other {kd : Str → Option NameKind} {x : Str} : ∀ (r : List (Str × Value)) (m : Str → Option Value), x ∉ r.map (·.1) → bindL kd r m x = m x
  | [], m, _ => rfl
  | (n, v) :: r, m, h => by
    simp only [List.map_cons, List.mem_cons, not_or] at h
    unfold bindL
    rw [bindL_other r _ h.2]
    split
    · show (if x = n then some v else m x) = m x
      rw [if_neg h.1]
    · rfl
theorem bindC_other {kd : Str → Option NameKind} {x : Str} : ∀ (r : List (Str × Value)) (m : Str → Option Value), x ∉ r.map (·.1) → bindC kd r m x = m x
  | [], m, _ => rfl
  | (n, v) :: r, m, h => by
    simp only [List.map_cons, List.mem_cons, not_or] at h
    unfold bindC
    rw [bindC_other r _ h.2]
    split
    · rfl
    · show (if x = n then some v else m x) = m x
      rw [if_neg h.1]
theorem bindL_has {kd : Str → Option NameKind} {x : Str} {v : Value} (hk : kd x = some .local) : ∀ (r : List (Str × Value)) (m : Str → Option Value), (r.map (·.1)).Nodup → (x, v) ∈ r → bindL kd r m x = some v
  | (n, u) :: r, m, hn, h => by
    simp only [List.map_cons, List.nodup_cons] at hn
    unfold bindL
    rcases List.mem_cons.mp h with e | h
    · cases e; rw [bindL_other r _ hn.1, if_pos hk]; simp
    · exact bindL_has hk r _ hn.2 h
theorem bindC_has {kd : Str → Option NameKind} {x : Str} {v : Value} (hk : kd x ≠ some .local) : ∀ (r : List (Str × Value)) (m : Str → Option Value), (r.map (·.1)).Nodup → (x, v) ∈ r → bindC kd r m x = some v
  | (n, u) :: r, m, hn, h => by
    simp only [List.map_cons, List.nodup_cons] at hn
    unfold bindC
    rcases List.mem_cons.mp h with e | h
    · cases e; rw [bindC_other r _ hn.1, if_neg hk]; simp
    · exact bindC_has hk r _ hn.2 h

theorem cellsFrom_nodup : ∀ (names : List (Str × NameKind)) (n : Nat), (names.map (·.1)).Nodup → ((cellsFrom n names []).map (·.1)).Nodup
  | [], n, _ => by simp [cellsFrom]
  | (m, k) :: r, n, h => by
    simp only [List.map_cons, List.nodup_cons] at h
    unfold cellsFrom
    split
    · rw [cellsFrom_eq, List.map_append]
      refine List.nodup_append.mpr ⟨cellsFrom_nodup r (n + 1) h.2, by simp, fun a ha b hb => ?_⟩
      simp at hb; subst hb
      rintro rfl
      obtain ⟨⟨y, c⟩, hm, rfl⟩ := List.mem_map.mp ha
      exact h.1 (List.mem_map_of_mem (f := fun q : Str × NameKind => q.1) (cellsFrom_names r (n + 1) y c hm).1)
    · exact cellsFrom_nodup r n h.2

/-- a def's table -/
structure FnScope (scope : Scope) (ps : List Str) : Prop where
  kind : scope.kind = .function
  co : scope.isCoroutine = false
  gen : scope.isGenerator = false
  nodup : (scope.names.map (·.1)).Nodup
  free : ∀ n, (n, NameKind.free) ∉ scope.names
  psn : ps.Nodup
  pk : ∀ p ∈ ps, (p, NameKind.local) ∈ scope.names ∨ (p, NameKind.cell) ∈ scope.names
def fnScopeB (scope : Scope) (ps : List Str) : Bool :=
  (scope.kind == .function) && !scope.isCoroutine && !scope.isGenerator && decide (scope.names.map (·.1)).Nodup && (scope.names.all fun p => p.2 != .free) && decide ps.Nodup && ps.all fun p => scope.names.lookup p == some .local || scope.names.lookup p == some .cell
theorem fnScope_of {scope : Scope} {ps : List Str} (h : fnScopeB scope ps = true) : FnScope scope ps := by
  simp only [fnScopeB, Bool.and_eq_true, beq_iff_eq, decide_eq_true_eq, List.all_eq_true, Bool.not_eq_true', Bool.or_eq_true] at h
  obtain ⟨⟨⟨⟨⟨⟨h1, h2⟩, h3⟩, h4⟩, h5⟩, h6⟩, h7⟩ := h
  refine ⟨h1, h2, h3, h4, fun n hn => ?_, h6, fun p hp => ?_⟩
  · have := h5 _ hn; simp at this
  · rcases h7 p hp with h | h
    · exact .inl (mem_of_lookup h)
    · exact .inr (mem_of_lookup h)

theorem zip_rel {F : FM} : ∀ {ps : List Str} {ds : List D} {vs : List Value}, RelVs F ds vs → ps.length = ds.length → ∀ x d, (ps.zip ds).lookup x = some d → ∃ v, (x, v) ∈ ps.zip vs ∧ RelV F d v
  | [], _, _, _, _, x, d, h => by simp at h
  | p :: ps, [], _, _, hl, x, d, h => by simp at hl
  | p :: ps, e :: ds, vs, r, hl, x, d, h => by
    rw [RelVs] at r
    obtain ⟨v, r', rfl, h1, h2⟩ := r
    simp only [List.zip_cons_cons] at h ⊢
    rw [List.lookup_cons] at h
    cases hb : x == p with
    | true => rw [hb] at h; cases h; rw [beq_iff_eq.mp hb]; exact ⟨v, List.mem_cons_self, h1⟩
    | false =>
      rw [hb] at h
      obtain ⟨u, hm, hu⟩ := zip_rel h2 (by simpa using hl) x d h
      exact ⟨u, List.mem_cons_of_mem _ hm, hu⟩

section
variable {W : Wd}

/-- a def is entered: its frame is new -/
theorem enterF {k : Nat} {f : Str} {params : Arguments} {body : List Stmt} {scope : Scope} {ps : List Str} {ds : List D} (hW : W.Ok) {a : Addr} {o : Obj} {pm code doc : Value} (ho : W.s₁.heap.get? a = some o) (hd : o.data = .func (Calls.docDef f params body scope pm code doc)) (hcode : W.s₁.heap.CodeRec code f)
    (hs : FnScope scope ps) (hlen : ps.length = ds.length) (hbind : ∀ vs : List Value, vs.length = ds.length → bindArgs (Calls.docDef f params body scope pm code doc) ⟨vs, []⟩ = pure (ps.zip vs))
    {A : Around} {F : FM} {s : Shared} {vs : List Value} {fr : List Addr} {B : FM} {μ₀ : MM} {Q E : Value → Shared → Prop} (hA : GoodA A (k + 1)) (hsame : ∃ h tk, s = { W.s₁ with heap := h, toks := tk }) (hbase : ∀ b o, W.s₁.heap.get? b = some o → F b = some o) (hsub : ∀ a o, F a = some o → s.heap.get? a = some o) (r : RelVs F ds vs)
    (hmu : ∀ b m, μ₀ b = some m → F b = none ∧ B b = none ∧ MRel F s.heap b m) (hB : ∀ b o, B b = some o → s.heap.get? b = some o) (hfr : ∀ b ∈ fr, (∃ o, B b = some o ∧ ∀ vs, o.data ≠ .fields vs) ∧ F b = none)
    (h : ∀ fenv s₁, GoodA (A.deeper fenv) k → EnvOk fenv → fenv.scope = scope → fenv.frame = some fenv.locals → s.heap.get? fenv.locals = none → Sf W fr B F fenv (ps.zip ds) μ₀ F s₁ →
      wpAny W.M (A.deeper fenv) (execs body fenv) (fun fl s' => Q (match fl with | .ret v => v | _ => .none) s') (fun e s' => wpAny W.M (A.deeper fenv) (leaving fenv e) (fun _ s'' => E e s'') (fun e' s'' => E e' s'') s') s₁) : wpAny W.M A (call (.ref a) vs) Q E s := by
  have base : ∀ b ob, W.s₁.heap.get? b = some ob → s.heap.get? b = some ob := fun b ob e => hsub _ _ (hbase b ob e)
  have hvl : vs.length = ds.length := r.length
  have hroom : A.depth < recursionLimit := by have := hA.depth; unfold recursionLimit; omega
  refine wpAny_call (codeAny_call_cells (fd := Calls.docDef f params body scope pm code doc) hroom (base a o ho) hd (hW.nolimit.keeps base) (hcode.keeps base) rfl (hbind vs hvl) rfl (fun x hx => ?_) (fun s₁ IC => ?_) hs.co hs.gen hs.kind)
  · have hx' : x.1 ∈ ps := (List.of_mem_zip (a := x.1) (b := x.2) hx).1
    rcases hs.pk _ hx' with h | h
    · exact .inl (lookup_nodup hs.nodup h)
    · obtain ⟨c, hc⟩ := cellsFrom_has scope.names (s.heap.objs.size + 1) x.1 h
      obtain ⟨c', e⟩ := lookup_of_mem hc
      exact .inr ⟨lookup_nodup hs.nodup h, by show ((cellsFrom (s.heap.objs.size + 1) scope.names []).lookup x.1).isSome = true; rw [e]; rfl⟩
  have hsc : (callEnvC (Calls.docDef f params body scope pm code doc) s.heap.objs.size a).scope = scope := rfl
  have hloc : (callEnvC (Calls.docDef f params body scope pm code doc) s.heap.objs.size a).locals = s.heap.objs.size := rfl
  have hframe : (callEnvC (Calls.docDef f params body scope pm code doc) s.heap.objs.size a).frame = some (callEnvC (Calls.docDef f params body scope pm code doc) s.heap.objs.size a).locals := rfl
  have hcells : (callEnvC (Calls.docDef f params body scope pm code doc) s.heap.objs.size a).cells = cellsFrom (s.heap.objs.size + 1) scope.names [] := rfl
  have hg1 : (callEnvC (Calls.docDef f params body scope pm code doc) s.heap.objs.size a).globals = mainGlobals := rfl
  have hg2 : (callEnvC (Calls.docDef f params body scope pm code doc) s.heap.objs.size a).builtins = builtinsNs := rfl
  show wpAny W.M _ (execs body _) (fun fl s' => Q (match fl with | .ret v => v | _ => .none) s') (fun e s' => wpAny W.M _ (leaving _ e) (fun _ s'' => E e s'') (fun e' s'' => E e' s'') s') s₁
  generalize callEnvC (Calls.docDef f params body scope pm code doc) s.heap.objs.size a = fenv at *
  clear hd hbind hcode ho hroom hvl
  have hkind : ∀ x, fenv.kindOf x = scope.names.lookup x := fun x => by unfold Env.kindOf; rw [hsc]
  have fresh : ∀ b, s.heap.objs.size ≤ b → s.heap.get? b = none := fun b hb => by
    cases e : s.heap.get? b with
    | none => rfl
    | some o => exact absurd (Heap.lt_size e) (Nat.not_lt.mpr hb)
  have Ffresh : ∀ b, s.heap.objs.size ≤ b → F b = none := fun b hb => by
    cases e : F b with
    | none => rfl
    | some o => have := hsub _ _ e; rw [fresh b hb] at this; cases this
  have Bfresh : ∀ b, s.heap.objs.size ≤ b → B b = none := fun b hb => by
    cases e : B b with
    | none => rfl
    | some o => have := hB _ _ e; rw [fresh b hb] at this; cases this
  have μfresh : ∀ b, s.heap.objs.size ≤ b → μ₀ b = none := fun b hb => by
    cases e : μ₀ b with
    | none => rfl
    | some m => obtain ⟨o, ho⟩ := (hmu b m e).2.2.some; rw [fresh b hb] at ho; cases ho
  have eok : EnvOk fenv := by
    refine ⟨by rw [hsc]; exact hs.kind, hg1, hg2, fun x hx => ?_⟩
    rw [hkind] at hx
    rcases hx with hx | hx
    · obtain ⟨c, hc⟩ := cellsFrom_has scope.names (s.heap.objs.size + 1) x (mem_of_lookup hx)
      rw [hcells]; exact lookup_of_mem hc
    · exact absurd (mem_of_lookup hx) (hs.free x)
  have keep := IC.toInCall.keep
  have hcellfact : ∀ y c, (y, c) ∈ fenv.cells → s.heap.objs.size + 1 ≤ c := fun y c hc => by rw [hcells] at hc; exact (cellsFrom_names _ _ y c hc).2
  have hzn : ((ps.zip vs).map (·.1)).Nodup := by
    rw [List.map_fst_zip (by rw [hlen, r.length]; exact Nat.le_refl _)]; exact hs.psn
  have hA' : GoodA (A.deeper fenv) k := by
    have h1 := hA.depth; have h2 := hA.units
    exact ⟨hA.handled, by show A.depth + 1 + k ≤ 400; omega, by show A.units + 3 + 10 * k ≤ 500; omega⟩
  refine h fenv s₁ hA' eok hsc hframe (by rw [hloc]; exact fresh _ (Nat.le_refl _)) ⟨⟨eok, ?_, hbase, fun b ob e => keep b ob (hsub b ob e), fun x d' hx => ?_, fun b m e => ⟨(hmu b m e).1, (hmu b m e).2.2.keeps (.refl _) keep⟩, ⟨_, IC.toInCall.ns⟩, ?_, ?_, fun y c hc => ?_, IC.apart⟩, fun b ob e => ⟨ob.slots, keep b ob (hB b ob e), fun _ => rfl⟩, fun b hb => (hfr b hb).1, fun b hb => (hfr b hb).2, ?_, fun y c hc => ?_, fun b m e => (hmu b m e).2.1, .refl _, fun b h1 h2 => absurd h2 h1⟩
  · obtain ⟨h₀, tk, rfl⟩ := hsame
    obtain ⟨h', tk', e⟩ := IC.toInCall.same
    exact ⟨h', tk', e⟩
  · obtain ⟨v, hv, rv⟩ := zip_rel r hlen x d' hx
    refine ⟨v, ?_, rv⟩
    have hxp : x ∈ ps := (List.of_mem_zip hv).1
    rcases hs.pk x hxp with h | h
    · have hkl : fenv.kindOf x = some .local := by rw [hkind]; exact lookup_nodup hs.nodup h
      exact .inl ⟨hkl, _, IC.toInCall.ns, bindL_has hkl _ _ hzn hv⟩
    · have hkc : fenv.kindOf x = some .cell := by rw [hkind]; exact lookup_nodup hs.nodup h
      obtain ⟨c, hc⟩ := eok.cells x (.inl hkc)
      refine .inr (.inl ⟨.inl hkc, c, hc, ?_⟩)
      have := IC.cell x c hc
      rw [bindC_has (by rw [hkc]; simp) _ _ hzn hv] at this
      exact this
  · rw [hloc]; exact Ffresh _ (Nat.le_refl _)
  · rw [hloc]; exact μfresh _ (Nat.le_refl _)
  · have h2 := hcellfact y c hc
    refine ⟨Ffresh c (Nat.le_of_succ_le h2), μfresh c (Nat.le_of_succ_le h2), ?_, ?_⟩
    · rw [hloc]; exact Nat.ne_of_gt h2
    · obtain ⟨c', e⟩ := lookup_of_mem hc
      have e2 := lookup_nodup (l := fenv.cells) (n := y) (k := c) (by rw [hcells]; exact cellsFrom_nodup _ _ hs.nodup) hc
      exact ⟨_, IC.cell y c e2⟩
  · rw [hloc]; exact Bfresh _ (Nat.le_refl _)
  · exact Bfresh c (Nat.le_of_succ_le (hcellfact y c hc))

theorem fnOk {k : Nat} {μ : MM} {f : Str} {params : Arguments} {body : List Stmt} {scope : Scope} {ps : List Str} {ds : List D} {d : D} (hW : W.Ok) (hfn : FnAt W f params body scope) (hs : FnScope scope ps) (hlen : ps.length = ds.length)
    (hbind : ∀ pm code doc vs, vs.length = ds.length → bindArgs (Calls.docDef f params body scope pm code doc) ⟨vs, []⟩ = pure (ps.zip vs))
    (hbody : ∀ A env, GoodA A k → EnvOk env → env.scope = scope → Wp W A [] env body (ps.zip ds) (fun _ => none) (fun o _ _ => o = .ret d)) : FnOk W (k + 1) μ f ds d := by
  obtain ⟨a, o, pm, code, doc, hm, ho, hd, hcode⟩ := hfn
  refine ⟨.ref a, .inl hm, .inr (.inr ⟨a, o, _, rfl, ho, hd⟩), fun A env Δ F s E vs hA S r => ?_⟩
  refine enterF hW ho hd hcode hs hlen (hbind pm code doc) (fr := []) (B := fun b => s.heap.get? b) (μ₀ := fun _ => none) hA S.same S.base S.sub r (fun b m e => by cases e) (fun _ _ e => e) (fun b hb => by cases hb) fun fenv s₁ hA' eok hsc _ _ Sfn => ?_
  refine hbody (A.deeper fenv) fenv hA' eok hsc _ F F s₁ _ _ Sfn fun o' Δ' μ' F' s' hK S' => ?_
  subst hK
  intro v hv
  show Gv W F s d v s'
  refine ⟨F', ⟨?_, S'.fsub, S'.st.sub, S'.fnew⟩, hv⟩
  obtain ⟨h₀, tk, e0⟩ := S.same
  obtain ⟨h', tk', e1⟩ := S'.st.same
  refine ⟨h', tk', by rw [e1, e0], fun b ob e => ?_⟩
  have := S'.exact e (by simp); rw [e1] at this; exact this
end
end Mine

open PySem PySem.W PyProof.Rows
set_option Elab.async false
set_option linter.unusedVariables false
namespace Mine

/-- the n-th def of a text -/
def nthDef (p : Program) (f : Str) : Option DefRec := (recsOf p).find? fun d => d.name == f

theorem fnAt_of {p : Program} {loose : List Str} {mean : ExcName → Option Value} {W : Wd} (T : Top p loose mean W.mg W.mb W.s₁.heap) {f : Str} {d : DefRec} (h : nthDef p f = some d) : FnAt W f d.params d.body d.scope := by
  have hm := List.mem_of_find?_eq_some h
  have hn : d.name = f := by have := List.find?_some h; simpa using this
  obtain ⟨a, o, pm, code, doc, h1, h2, h3, h4⟩ := T.fn d hm
  rw [hn] at h1 h3 h4
  exact ⟨a, o, pm, code, doc, h1, h2, h3, h4⟩




section
variable {W : Wd} {A : Around} {env : Env} {Δ : Ctx} {μ : MM} {K : Out → Ctx → MM → Prop} {fr : List Addr} {Φ Ψ : Str → List D → Option D} {k : Nat}

theorem Wp.addGlobal {ss : List Stmt} {x : Str} {d : D} {v : Value} (hk : env.kindOf x = some .globalImplicit) (hm : GlobVal W x v) (hr : ∀ F, RelV F d v) (h : Wp W A fr env ss ((x, d) :: Δ) μ K) : Wp W A fr env ss Δ μ K := fun B F₀ F s Q E S c => by
  refine h B F₀ F s Q E ⟨⟨S.st.eok, S.st.same, S.st.base, S.st.sub, fun y d' hy => ?_, S.st.mu, S.st.ns, S.st.nsF, S.st.nsM, S.st.cellF, S.st.apart⟩, S.keep, S.frB, S.frF₀, S.loc, S.cel, S.own, S.fsub, S.fnew⟩ c
  rw [List.lookup_cons] at hy
  cases hb : y == x with
  | true => rw [hb] at hy; cases hy; rw [beq_iff_eq.mp hb]; exact ⟨v, .inr (.inr ⟨hk, hm⟩), hr F⟩
  | false => rw [hb] at hy; exact S.st.vars y d' hy

/-- what stands fixed while one def's body is walked -/
structure Cx (W : Wd) (A : Around) (env : Env) (μ : MM) (Φ Ψ : Str → List D → Option D) (k : Nat) (sc : Scope) : Prop where
  ok : W.Ok
  good : GoodA A k
  tab : TabOk W k μ Φ Ψ
  eok : EnvOk env
  sc : env.scope = sc

theorem Cx.ev {sc : Scope} (C : Cx W A env μ Φ Ψ k sc) (n : Nat) {e : Expr} {d : D} (ok : okE n sc.names e = true) (h : evD Φ Ψ μ n e Δ = some d) : Ev W A env Δ μ e d :=
  (sound C.ok C.good C.tab n).1 e Δ d env C.eok (by rw [C.sc]; exact ok) h
theorem Cx.tst {sc : Scope} (C : Cx W A env μ Φ Ψ k sc) (n : Nat) {e : Expr} {b : Bool} (ok : okT n sc.names e = true) (h : tstD Φ Ψ μ n e Δ = some b) : Tst W A env Δ μ e b :=
  (sound C.ok C.good C.tab n).2.1 e Δ b env C.eok (by rw [C.sc]; exact ok) h
theorem Cx.kind {sc : Scope} (C : Cx W A env μ Φ Ψ k sc) {x : Str} {kd : NameKind} (h : sc.names.lookup x = some kd) : env.kindOf x = some kd := by unfold Env.kindOf; rw [C.sc]; exact h
end

def dBody : Stmt → List Stmt
  | .FunctionDef _ _ b _ _ _ _ _ _ _ => b
  | _ => []
def dArgs : Stmt → Arguments
  | .FunctionDef _ a _ _ _ _ _ _ _ _ => a
  | _ => ⟨[], [], none, [], [], none, []⟩
def dScope : Stmt → Scope
  | .FunctionDef _ _ _ _ _ _ s _ _ _ => s
  | _ => { kind := .function, names := [], isGenerator := false, isCoroutine := false }
def sAt (l : List Stmt) : Nat → Stmt
  | 0 => match l with | s :: _ => s | [] => .Pass ⟨0, 0, 0, 0⟩
  | n + 1 => match l with | _ :: r => sAt r n | [] => .Pass ⟨0, 0, 0, 0⟩
theorem map_toNat_inj : ∀ {l l' : List Char}, l.map Char.toNat = l'.map Char.toNat → l = l'
  | [], [], _ => rfl
  | [], _ :: _, h => by simp at h
  | _ :: _, [], h => by simp at h
  | c :: l, c' :: l', h => by
    simp only [List.map_cons, List.cons.injEq] at h
    rw [map_toNat_inj h.2, Char.ext (UInt32.toNat_inj.mp h.1)]
theorem str_inj {a b : String} : Str.ofString a = Str.ofString b ↔ a = b := by
  refine ⟨fun e => ?_, fun h => by rw [h]⟩
  rw [Str.ofString_eq_toList, Str.ofString_eq_toList] at e
  simp at e
  exact String.toList_inj.mp (map_toNat_inj e)
theorem str_beq (a b : String) : (Str.ofString a == Str.ofString b) = decide (a = b) := by
  by_cases h : a = b
  · subst h; simp
  · have : Str.ofString a ≠ Str.ofString b := fun e => h (str_inj.mp e)
    simp [this, h]
end Mine

open PySem PySem.W PyProof.Rows
set_option Elab.async false
set_option linter.unusedVariables false
namespace Mine
section
variable {W : Wd}

theorem ok_len_list {k : Nat} {μ : MM} {d : D} {ds : List D} (hg : GlobVal W "len" (.builtin "len")) (hl : asList μ d = some ds) (hsz : ds.length ≤ sizeLine) : FnOk W k μ "len" [d] (.int ds.length) :=
  ⟨.builtin "len", hg, .inl ⟨_, rfl⟩, fun A env Δ F s E vs hA S r => by
    rw [RelVs] at r; obtain ⟨v, r', rfl, h1, h2⟩ := r
    rw [RelVs] at h2; subst h2
    obtain ⟨l, us, n, rfl, hget, rr⟩ := asList_rel S h1 hl
    have e : us.toArray.size = ds.length := by simp [rr.length]
    have hs : sizeLine < 2 ^ 62 := by decide
    refine len_list (lobj_isList hget) (by rw [e]; omega) ?_
    rw [e]
    exact gv_int S _ _ _⟩

theorem ok_len_str {k : Nat} {μ : MM} {x : Str} (hg : GlobVal W "len" (.builtin "len")) (hsz : x.length ≤ sizeLine) : FnOk W k μ "len" [.str x] (.int x.length) :=
  ⟨.builtin "len", hg, .inl ⟨_, rfl⟩, fun A env Δ F s E vs hA S r => by
    rw [RelVs] at r; obtain ⟨v, r', rfl, h1, h2⟩ := r
    rw [RelVs] at h2; subst h2
    rw [RelV] at h1; obtain ⟨t, rfl⟩ := h1
    have hs : sizeLine < 2 ^ 62 := by decide
    exact P.len_str (by omega) (gv_int S _ _ _)⟩

theorem rel_intItems {F : FM} : ∀ {ns : List Int} {vs : List Value}, RelVs F (ns.map .int) vs → ∃ l : List (Int × Tok), vs = l.map (fun p => Value.int p.1 p.2) ∧ l.map (·.1) = ns
  | [], vs, r => by rw [List.map_nil, RelVs] at r; subst r; exact ⟨[], rfl, rfl⟩
  | n :: ns, vs, r => by
    rw [List.map_cons, RelVs] at r
    obtain ⟨v, r', rfl, h1, h2⟩ := r
    rw [RelV] at h1; obtain ⟨t, rfl⟩ := h1
    obtain ⟨l, rfl, rfl⟩ := rel_intItems h2
    exact ⟨(n, t) :: l, rfl, rfl⟩

theorem ok_sum {k : Nat} {μ : MM} {d : D} {ds : List D} {ns : List Int} (hg : GlobVal W "sum" (.builtin "sum")) (hl : asList μ d = some ds) (hi : intsOf? ds = some ns) : FnOk W k μ "sum" [d] (.int ns.sum) :=
  ⟨.builtin "sum", hg, .inl ⟨_, rfl⟩, fun A env Δ F s E vs hA S r => by
    rw [RelVs] at r; obtain ⟨v, r', rfl, h1, h2⟩ := r
    rw [RelVs] at h2; subst h2
    obtain ⟨l, us, n, rfl, hget, rr⟩ := asList_rel S h1 hl
    rw [intsOf_some hi] at rr
    obtain ⟨ps, rfl, rfl⟩ := rel_intItems rr
    have hL : s.heap.IsList l (intItems ps.toArray) := by
      have := lobj_isList hget
      simpa [intItems] using this
    refine sum_intListG hA.handled hL fun h' tk t' hk => ?_
    have e : preSum (numAt ps.toArray) ps.toArray.size = (ps.map (·.1)).sum := by
      rw [preSum_eq, List.take_of_length_le (by simp)]
    rw [e]
    exact ⟨F, Ext.ofKeeps S.sub ⟨h', tk, rfl, hk⟩, by rw [RelV]; exact ⟨_, rfl⟩⟩⟩

theorem ok_hex {k : Nat} {μ : MM} {i : Int} (hg : GlobVal W "hex" (.builtin "hex")) (hsz : (baseText "0x" 16 i).length ≤ sizeLine) : FnOk W k μ "hex" [.int i] (.str (baseText "0x" 16 i)) :=
  ⟨.builtin "hex", hg, .inl ⟨_, rfl⟩, fun A env Δ F s E vs hA S r => by
    rw [RelVs] at r; obtain ⟨v, r', rfl, h1, h2⟩ := r
    rw [RelVs] at h2; subst h2
    rw [RelV] at h1; obtain ⟨t, rfl⟩ := h1
    exact P.hex_of_int (gv_str S _ _ _) hsz⟩

theorem sub_int_int : isSubtype (.type "int") (.type "int") = pure true := by rw [isSubtype_type]; kernel_rfl
theorem sub_int_bool : isSubtype (.type "int") (.type "bool") = pure false := by rw [isSubtype_type]; kernel_rfl

theorem ok_isi_int {k : Nat} {μ : MM} {i : Int} (hg : GlobVal W "isinstance" (.builtin "isinstance")) : FnOk W k μ "isinstance" [.int i, .ty "int"] (.bool true) :=
  ⟨.builtin "isinstance", hg, .inl ⟨_, rfl⟩, fun A env Δ F s E vs hA S r => by
    rw [RelVs] at r; obtain ⟨v, r', rfl, h1, h2⟩ := r
    rw [RelVs] at h2; obtain ⟨v', r2, rfl, h3, h4⟩ := h2
    rw [RelVs] at h4; subst h4
    rw [RelV] at h1; obtain ⟨t, rfl⟩ := h1
    rw [RelV] at h3; subst h3
    exact call_isinstance (isinstance_true (Tx := "int") rfl sub_int_int) ⟨typeIs_int _ _ _, gv_bool S _⟩⟩
theorem ok_isi_bool {k : Nat} {μ : MM} {i : Int} (hg : GlobVal W "isinstance" (.builtin "isinstance")) : FnOk W k μ "isinstance" [.int i, .ty "bool"] (.bool false) :=
  ⟨.builtin "isinstance", hg, .inl ⟨_, rfl⟩, fun A env Δ F s E vs hA S r => by
    rw [RelVs] at r; obtain ⟨v, r', rfl, h1, h2⟩ := r
    rw [RelVs] at h2; obtain ⟨v', r2, rfl, h3, h4⟩ := h2
    rw [RelVs] at h4; subst h4
    rw [RelV] at h1; obtain ⟨t, rfl⟩ := h1
    rw [RelV] at h3; subst h3
    refine call_isinstance (isinstance_false_int (by decide) rfl sub_int_bool) ?_
    exact ⟨F, Ext.ofKeeps S.sub (Keeps.tok s _), by rw [RelV]⟩⟩
end
end Mine

open PySem PySem.W PyProof.Rows
set_option Elab.async false
set_option linter.unusedVariables false
namespace Mine
section
variable {W : Wd} {A : Around} {fr : List Addr} {env : Env} {Δ : Ctx} {μ : MM} {K : Out → Ctx → MM → Prop}

theorem Wp1.assignUsed {x : Str} {px pos p : Pos} {elt : Expr} {gens : List Comprehension} {scope : Scope} {d : D} (hs : swapsWith (.ListComp elt gens scope p) (some (.Name x px)) pos.line env = pure true)
    (hk : env.kindOf x = some .local) (he : CompOk W A env Δ μ elt gens scope p d) (h : K .next ((x, d) :: Δ) μ) : Wp1 W A fr env (.Assign [.Name x px] (.ListComp elt gens scope p) pos) Δ μ K := fun B F₀ F s Q E S k => by
  obtain ⟨g, gs, names, xs, out, rfl, rfl, ok, hown, hset, hasync, hit, run⟩ := he
  obtain ⟨target, iter, ifs, as⟩ := g
  simp only at hasync; subst hasync
  rw [exec_Assign_Name_used _ _ _ _ hs]
  refine wpAny_bind (wpAny_standAt (wpAny_bind ?_))
  show wpAny _ A (do let _ ← comprehension (.ListComp elt (⟨target, iter, ifs, 0⟩ :: gs) scope p) scope env _ (newList []) false (eval iter env) (some (PySem.assign (.Name x px) env))) _ _ s
  refine wpAny_bind (wpAny_mono (comp_all (use := some (PySem.assign (.Name x px) env)) (Q := fun _ s' => Q .next s') ok hown hset rfl hit run S.st fun F' s' Acc C M => ?_) (fun _ s' hq => wpAny_pure (wpAny_pure hq)) fun _ _ e => e)
  show wpAny _ A (PySem.assign (.Name x px) env (.ref Acc)) _ _ _
  obtain ⟨vs, n, hget, hrel⟩ := M.rel
  have S₂ : Sf W fr B F₀ env Δ μ (F'.add Acc (lobj vs n)) s' := S.ext (M.ext.addNew (a := Acc) hget M.accN M.accF)
  have hLC : env.locals ≠ C := by
    rintro h0; obtain ⟨m, o, _, _, ho, _⟩ := S.st.ns; rw [h0, M.locN] at ho; cases ho
  have hCnew : ∀ b o, s.heap.get? b = some o → b ≠ C := fun b o e h0 => by rw [h0, M.locN] at e; cases e
  refine wpAny_assign_Name (S₂.st.store (.inl hk) (d := .list out) (by rw [RelV]; exact ⟨Acc, vs, n, rfl, FM.add_self .., hrel.mono (FM.add_sub M.accF)⟩) fun s₃ b hb S₃ x₃ => ?_)
  have hbL : b = env.locals := by
    rcases hb with ⟨h1, _⟩ | ⟨_, h1⟩
    · exact h1
    · rw [hk] at h1; cases h1
  have Sf₃ : Sf W fr B F₀ env ((x, .list out) :: Δ) μ (F'.add Acc (lobj vs n)) s₃ := S₂.own' S₃ x₃ (fun c hc => by simp at hc; subst hc; rw [hbL]; exact S.loc) S.own
  obtain ⟨m, hn⟩ := M.ns
  have hCF : (F'.add Acc (lobj vs n)) C = none := by
    have : C ≠ Acc := fun e => M.ne e.symm
    simp [FM.add, this, M.locF]
  have hCμ : μ C = none := by
    cases e : μ C with
    | none => rfl
    | some m' => obtain ⟨_, hr⟩ := S.st.mu C m' e; obtain ⟨o, ho⟩ := hr.some; rw [M.locN] at ho; cases ho
  have hCB : B C = none := by
    cases e : B C with
    | none => rfl
    | some o => obtain ⟨o', h6⟩ := S.there e; rw [M.locN] at h6; cases h6
  refine ⟨m, hn.at' fun o e => x₃.keeps.get (by simp; rw [hbL]; exact fun e => hLC e.symm) e, fun h' hs' => ?_⟩
  have kb : KeepsBut [C] s₃ { s₃ with heap := h' } := ⟨h', s₃.toks, rfl, fun b o hb e => (hs'.2 b (by simpa using hb)).trans e⟩
  refine k .next _ _ _ _ h (Sf₃.own' (Sf₃.st.frame kb fun b hb => ?_) (.same kb) (fun b hb => by simp at hb; subst hb; exact hCB) Sf₃.own)
  simp at hb; subst hb
  refine ⟨hCF, hCμ, fun e => hLC e.symm, fun y hy => ?_⟩
  obtain ⟨_, _, _, v, o, ho, _⟩ := S.st.cellF y b hy
  rw [M.locN] at ho; cases ho

/-- whether an assignment of a comprehension swaps: told by the text -/
def swapB (N : List (Str × NameKind)) (value : Expr) (x : Str) (px : Pos) : Option Bool :=
  match value with
  | .ListComp _ _ sc p => match N.lookup x with
    | some .local => some (px.line == p.line && !(sc.names.any fun q => q.1 == x && (q.2 == .local || q.2 == .cell)))
    | some .cell => some false
    | _ => none
  | .SetComp .. | .DictComp .. => none
  | _ => some false

theorem swap_of {env : Env} (hE : EnvOk env) {value : Expr} {x : Str} {px : Pos} {line : Nat} {b : Bool} (h : swapB env.scope.names value x px = some b) : swapsWith value (some (.Name x px)) line env = pure b := by
  unfold swapB at h
  split at h
  · rename_i elt gens sc p
    unfold swapsWith
    have hk : env.blockKind = .function := by unfold Env.blockKind; simp [hE.kind, ScopeKind.isAnnotationScope]
    split at h
    · rename_i hl
      have hkl : env.kindOf x = some .local := hl
      cases h
      simp [hk, hkl]
      rfl
    · rename_i hl
      have hkl : env.kindOf x = some .cell := hl
      cases h
      simp [hk, hkl]
      rfl
    · cases h
  · cases h
  · cases h
  · rename_i h1 h2 h3
    cases h
    cases value <;> first | rfl | exact absurd rfl (h1 _ _ _ _) | exact absurd rfl (h2 _ _ _ _) | exact absurd rfl (h3 _ _ _ _ _)
end
end Mine

open PySem PySem.W PyProof.Rows
set_option Elab.async false
set_option linter.unusedVariables false
namespace Mine

/-- e gives a value, and may make new objects of the function's own -/
def EvA (W : Wd) (A : Around) (fr : List Addr) (env : Env) (Δ : Ctx) (μ : MM) (e : Expr) (P : D → MM → Prop) : Prop :=
  ∀ B F₀ F s (E : Value → Shared → Prop), Sf W fr B F₀ env Δ μ F s →
    wpAny W.M A (eval e env) (fun v s' => ∃ d μ' F', P d μ' ∧ Sf W fr B F₀ env Δ μ' F' s' ∧ FSub F F' ∧ RelV F' d v) E s


section
variable {W : Wd} {A : Around} {fr : List Addr} {env : Env} {Δ : Ctx} {μ : MM} {K : Out → Ctx → MM → Prop} {B F₀ F : FM} {s : Shared} {E : Value → Shared → Prop}



theorem noneF (S : St W env Δ μ F s) : F s.heap.objs.size = none := by
  cases e : F s.heap.objs.size with
  | none => rfl
  | some o => have := S.sub _ _ e; rw [fresh_get] at this; cases this




theorem Wp1.assignA {x : Str} {px pos : Pos} {e : Expr} {P : D → MM → Prop} (hs : swapsWith e (some (.Name x px)) pos.line env = pure false) (hk : env.kindOf x = some .local ∨ env.kindOf x = some .cell) (he : EvA W A fr env Δ μ e P)
    (h : ∀ d μ', P d μ' → K .next ((x, d) :: Δ) μ') : Wp1 W A fr env (.Assign [.Name x px] e pos) Δ μ K := fun B F₀ F s Q E S k => by
  refine wpAny_Assign_Name (wpAny_mono (he B F₀ F s E S) (fun v s₁ h₁ => ?_) fun _ _ e => e) hs
  obtain ⟨d, μ', F₁, hp, S₁, x₁, r₁⟩ := h₁
  exact store_sf S₁ hk r₁ fun s' S' => k _ _ _ F₁ s' (h d μ' hp) S'



theorem same_sf (S : Sf W fr B F₀ env Δ μ F s) {a : Addr} {m m' : MObj} (hm : μ a = some m) {h' : Heap} {tk : Nat} (hs : Heap.SameBut a s.heap h') (hr : MRel F h' a m') : Sf W fr B F₀ env Δ (μ.set a m') F { s with heap := h', toks := tk } := by
  have hk : KeepsBut [a] s { s with heap := h', toks := tk } := ⟨h', tk, rfl, fun b o hb e' => (hs.2 b (by simpa using hb)).trans e'⟩
  exact S.own' (S.st.mutate hm hk hr) (.same hk) (fun b hb => by simp at hb; subst hb; exact S.own _ _ hm) fun b m e => by
    unfold MM.set at e; split at e
    · subst_vars; exact S.own _ _ hm
    · exact S.own b m e





theorem Wp1.extend {o e : Expr} {apos cpos pos : Pos} {a : Addr} {ys zs : List D} {d : D} (hb : plainBase o = true) (hn : notStar e = true) (hline : (apos.endLine == cpos.line) = true) (ho : Ev W A env Δ μ o (.ref a)) (hm : μ a = some (.lst ys)) (he : Ev W A env Δ μ e d)
    (hz : asList μ d = some zs) (hsz : ys.length + zs.length ≤ sizeLine) (h : K .next Δ (μ.set a (.lst (ys ++ zs)))) : Wp1 W A fr env (.Expr (.Call (.Attribute o "extend" apos) [e] [] cpos) pos) Δ μ K := fun B F₀ F s Q E S k => by
  refine wpAny_Expr ?_ (interactive_fn S.st.eok.kind) rfl
  refine Call_method1 (base_eq hb _) (starEach_cons hn) hline (wpAny_mono (ho F s E S.st) (fun v s₁ h₁ => ?_) fun _ _ e => e)
  obtain ⟨F₁, x₁, r₁⟩ := h₁
  rw [RelV] at r₁; subst r₁
  have S₁ := S.ext x₁
  obtain ⟨hF, vs, n, hg, hr⟩ := S₁.st.mu a _ hm
  refine ⟨"list", "list.extend", PySem.F.plainAttrs_list, PySem.F.slot_list_extend, PySem.F.type_list_extend, ⟨_, hg, rfl⟩, (fun b e => by cases e; exact ⟨_, hg, rfl⟩), ?_⟩
  refine P.extend_list (wpAny_mono (he F₁ s₁ E S₁.st) (fun v s₂ h₂ => ?_) fun _ _ e => e)
  obtain ⟨F₂, x₂, r₂⟩ := h₂
  have S₂ := S₁.ext x₂
  obtain ⟨l, us, n', rfl, hget, hru⟩ := asList_rel S₂.st r₂ hz
  obtain ⟨hF₂, vs₂, n₂, hg₂, hr₂⟩ := S₂.st.mu a _ hm
  refine ⟨l, vs₂.toArray, us.toArray, n₂, n', by simp [hr₂.length]; omega, by simp [hr₂.length, hru.length]; omega, extend_door (by simp [hr₂.length, hru.length]; exact hsz), rfl, hg₂, hget, ?_⟩
  have hfin : ∃ n'', (s₂.heap.update a (Obj.mapSeq fun xs => xs ++ us.toArray)).get? a = some (lobj (vs₂ ++ us) n'') := by
    obtain ⟨n'', hd'⟩ := Obj.data_mapSeq (o := lobj vs₂ n₂) rfl (fun xs => xs ++ us.toArray)
    refine ⟨n'', (Heap.get?_update_self _ hg₂ (Obj.isFreed_of_seq hd')).trans ?_⟩
    have e : (Obj.mapSeq (fun xs => xs ++ us.toArray) (lobj vs₂ n₂)) = { lobj vs₂ n₂ with data := (Obj.mapSeq (fun xs => xs ++ us.toArray) (lobj vs₂ n₂)).data } := rfl
    rw [e, hd']; simp [lobj]
  obtain ⟨n'', hfin⟩ := hfin
  exact k _ _ _ F₂ _ h (same_sf (tk := s₂.toks) S₂ hm (Heap.SameBut.update ..) ⟨_, n'', hfin, hr₂.append hru⟩)
end
end Mine

open PySem PySem.W PyProof.Rows
set_option Elab.async false
set_option linter.unusedVariables false
namespace Mine

/-- d' is d with what stands at a written out -/
def Frz (a : Addr) (ds : List D) (d d' : D) : Prop := ∀ F v, (∃ vs n, F a = some (lobj vs n) ∧ RelVs F ds vs) → RelV F d v → RelV F d' v
def FrzM (a : Addr) (ds : List D) (m m' : MObj) : Prop := ∀ F h b, (∃ vs n, F a = some (lobj vs n) ∧ RelVs F ds vs) → MRel F h b m → MRel F h b m'


section
variable {W : Wd} {A : Around} {fr : List Addr} {env : Env} {Δ : Ctx} {μ : MM} {K : Out → Ctx → MM → Prop} {B F₀ F : FM} {s : Shared}

theorem Sf.freeze (S : Sf W fr B F₀ env Δ μ F s) {a : Addr} {ds : List D} {Δ' : Ctx} {μ' : MM} (hm : μ a = some (.lst ds)) (hΔ : ∀ x d', Δ'.lookup x = some d' → ∃ d, Δ.lookup x = some d ∧ Frz a ds d d')
    (hμ : ∀ b m', μ' b = some m' → b ≠ a ∧ ∃ m, μ b = some m ∧ FrzM a ds m m') : ∃ F', Sf W fr B F₀ env Δ' μ' F' s ∧ FSub F F' ∧ ∀ v, RelV F (.ref a) v → RelV F' (.list ds) v := by
  obtain ⟨hF, vs, n, hg, hr⟩ := S.st.mu a _ hm
  have hsub : FSub F (F.add a (lobj vs n)) := FM.add_sub hF
  have hL : a ≠ env.locals := fun e => by rw [e, S.st.nsM] at hm; cases hm
  have hC : ∀ y, (y, a) ∉ env.cells := fun y hc => by rw [(S.st.cellF y a hc).2.1] at hm; cases hm
  have hne : ∀ b, b ≠ a → F.add a (lobj vs n) b = F b := fun b hb => by simp [FM.add, hb]
  have hnew : ∃ vs' n', F.add a (lobj vs n) a = some (lobj vs' n') ∧ RelVs (F.add a (lobj vs n)) ds vs' := ⟨vs, n, FM.add_self .., hr.mono hsub⟩
  have hnone : ∀ b, μ b = none → μ' b = none := fun b h => by
    cases e : μ' b with
    | none => rfl
    | some m' => obtain ⟨_, m, e2, _⟩ := hμ b m' e; rw [h] at e2; cases e2
  refine ⟨F.add a (lobj vs n), ⟨⟨S.st.eok, S.st.same, fun b o e => hsub _ _ (S.st.base b o e), fun b o e => ?_, fun y d' hy => ?_, fun b m' e => ?_, S.st.ns, ?_, hnone _ S.st.nsM, fun y c hc => ?_, S.st.apart⟩, S.keep, S.frB, S.frF₀, S.loc, S.cel, fun b m' e => ?_, S.fsub.trans hsub, fun b h1 h2 => ?_⟩, hsub, fun v hv => ?_⟩
  · unfold FM.add at e; split at e
    · cases e; subst_vars; exact hg
    · exact S.st.sub b o e
  · obtain ⟨d, hd, hf⟩ := hΔ y d' hy
    obtain ⟨v, hv, rv⟩ := S.st.vars y d hd
    exact ⟨v, hv, hf _ v hnew (rv.mono hsub)⟩
  · obtain ⟨hba, m, e2, hf⟩ := hμ b m' e
    obtain ⟨h1, h2⟩ := S.st.mu b m e2
    exact ⟨by rw [hne b hba]; exact h1, hf _ _ _ hnew (h2.keeps hsub (fun _ _ e => e))⟩
  · rw [hne _ (Ne.symm hL)]; exact S.st.nsF
  · obtain ⟨h1, h2, h3, h4⟩ := S.st.cellF y c hc
    have hca : c ≠ a := fun e => hC y (by rw [← e]; exact hc)
    exact ⟨by rw [hne c hca]; exact h1, hnone c h2, h3, h4⟩
  · obtain ⟨_, m, e2, _⟩ := hμ b m' e; exact S.own b m e2
  · by_cases hb : b = a
    · subst hb; exact S.own b _ hm
    · exact S.fnew b (by rw [← hne b hb]; exact h1) h2
  · rw [RelV] at hv; subst hv; rw [RelV]; obtain ⟨vs', n', q1, q2⟩ := hnew; exact ⟨a, vs', n', rfl, q1, q2⟩

end
end Mine

open PySem PySem.W PyProof.Rows
set_option Elab.async false
set_option linter.unusedVariables false
namespace Mine

/-- the built-ins that the texts use -/
structure Bi (W : Wd) : Prop where
  ok : W.Ok
  range : GlobVal W "range" (.type "range")
  len : GlobVal W "len" (.builtin "len")
  sum : GlobVal W "sum" (.builtin "sum")
  hex : GlobVal W "hex" (.builtin "hex")
  isinstance : GlobVal W "isinstance" (.builtin "isinstance")
  int : GlobVal W "int" (.type "int")
  bool : GlobVal W "bool" (.type "bool")

def hexS (i : Int) : Str := baseText "0x" 16 i

noncomputable def Φb (μ : MM) (f : Str) (ds : List D) : Option D :=
  if f = "len" then
    (match ds with
    | [.str x] => @ite _ (x.length ≤ sizeLine) (Classical.propDecidable _) (some (.int x.length)) none
    | [d] => (match asList μ d with
      | some es => @ite _ (es.length ≤ sizeLine) (Classical.propDecidable _) (some (.int es.length)) none
      | none => none)
    | _ => none)
  else if f = "sum" then
    (match ds with
    | [d] => ((asList μ d).bind intsOf?).map fun ns => .int ns.sum
    | _ => none)
  else if f = "hex" then
    (match ds with
    | [.int i] => @ite _ (i.natAbs < 16 ^ 100) (Classical.propDecidable _) (some (.str (hexS i))) none
    | _ => none)
  else if f = "isinstance" then
    (match ds with
    | [.int i, .ty T] => if T = "int" then some (.bool true) else if T = "bool" then some (.bool false) else none
    | _ => none)
  else none

theorem hexS_len {i : Int} (h : i.natAbs < 16 ^ 100) : (hexS i).length ≤ 103 := by
  have h1 := toDigits_len_pow (b := 16) (k := 100) (by decide) (by decide) h
  have h0 : ((Str.ofString (if i < 0 then "-" else "")) : Str).length ≤ 1 := by split <;> decide
  have h2 : (Str.ofString "0x").length = 2 := by decide
  have h3 : (Str.ofString (String.ofList (Nat.toDigits 16 i.natAbs))).length ≤ 100 := by
    rw [PySem.ofString_length, String.length_ofList]; exact h1
  unfold hexS baseText
  simp only [PySem.Str.length_append]
  omega

section
variable {W : Wd}
theorem tabB (T : Bi W) (k : Nat) (μ : MM) : TabOk W k μ (Φb μ) (fun _ _ => none) := by
  refine ⟨fun f ds d h => ?_, fun _ _ _ h => (by cases h), T.range⟩
  unfold Φb at h
  split at h
  · rename_i hf; subst hf
    split at h
    · split at h
      · cases h; exact ok_len_str T.len (by assumption)
      · cases h
    · split at h
      · rename_i es he
        split at h
        · cases h; exact ok_len_list T.len he (by assumption)
        · cases h
      · cases h
    · cases h
  · split at h
    · rename_i hf; subst hf
      split at h
      · obtain ⟨ns, h1, rfl⟩ := Option.map_eq_some_iff.mp h
        obtain ⟨es, h2, h3⟩ := Option.bind_eq_some_iff.mp h1
        exact ok_sum T.sum h2 h3
      · cases h
    · split at h
      · rename_i hf; subst hf
        split at h
        · split at h
          · rename_i hlt
            cases h
            exact ok_hex T.hex (Nat.le_trans (hexS_len hlt) (by decide))
          · cases h
        · cases h
      · split at h
        · rename_i hf; subst hf
          split at h
          · split at h
            · rename_i hT; subst hT; cases h; exact ok_isi_int T.isinstance
            · split at h
              · rename_i hT; subst hT; cases h; exact ok_isi_bool T.isinstance
              · cases h
          · cases h
        · cases h

theorem TabOk.fn' {k : Nat} {μ : MM} {Φ Ψ : Str → List D → Option D} (h : TabOk W k μ Φ Ψ) {f : Str} {g : List D → Option D} (hg : ∀ ds d, g ds = some d → FnOk W k μ f ds d) : TabOk W k μ (fun x ds => if x = f then g ds else Φ x ds) Ψ := by
  refine ⟨fun x ds d e => ?_, h.get, h.range⟩
  split at e
  · subst_vars; exact hg ds d e
  · exact h.fn x ds d e
theorem TabOk.get' {k : Nat} {μ : MM} {Φ Ψ : Str → List D → Option D} (h : TabOk W k μ Φ Ψ) {t : Str} {g : List D → Option D} (hg : ∀ ds d, g ds = some d → GetOk W k μ t ds d) : TabOk W k μ Φ (fun x ds => if x = t then g ds else Ψ x ds) := by
  refine ⟨h.fn, fun x ds d e => ?_, h.range⟩
  split at e
  · subst_vars; exact hg ds d e
  · exact h.get x ds d e
end

theorem str_eq (a b : String) : (Str.ofString a = Str.ofString b) = (a = b) := by
  rw [eq_iff_iff]; exact str_inj

theorem Φb_len_list {μ : MM} {ds : List D} (h : ds.length ≤ sizeLine) : Φb μ "len" [.list ds] = some (.int ds.length) := by simp [Φb, asList, h]
theorem Φb_sum {μ : MM} {ns : List Int} : Φb μ "sum" [.list (ns.map .int)] = some (.int ns.sum) := by simp [Φb, asList, intsOf_map, str_eq]
theorem Φb_hex {μ : MM} {i : Int} (h : i.natAbs < 16 ^ 100) : Φb μ "hex" [.int i] = some (.str (hexS i)) := by
  unfold Φb; simp only [str_eq, reduceCtorEq, if_false, if_true, String.reduceEq]; rw [if_pos h]
theorem Φb_int {μ : MM} {i : Int} : Φb μ "isinstance" [.int i, .ty "int"] = some (.bool true) := by simp [Φb, str_eq]
theorem Φb_bool {μ : MM} {i : Int} : Φb μ "isinstance" [.int i, .ty "bool"] = some (.bool false) := by simp [Φb, str_eq]

theorem collect_flat {α : Type} {f : D → Option (List D)} {g : α → D} {h : α → List D} : ∀ {l : List α}, (∀ x ∈ l, f (g x) = some (h x)) → collect f (l.map g) = some (l.flatMap h)
  | [], _ => rfl
  | x :: l, e => by
    rw [List.map_cons, collect, e x List.mem_cons_self, collect_flat fun y hy => e y (List.mem_cons_of_mem _ hy)]
    rfl
theorem collect_map {α : Type} {f : D → Option (List D)} {g : α → D} {h : α → D} {l : List α} (e : ∀ x ∈ l, f (g x) = some [h x]) : collect f (l.map g) = some (l.map h) := by
  rw [collect_flat (h := fun x => [h x]) e, List.map_eq_flatMap]
theorem collect_filter {α : Type} {f : D → Option (List D)} {g : α → D} {h : α → D} {p : α → Bool} {l : List α} (e : ∀ x ∈ l, f (g x) = some (if p x then [h x] else [])) : collect f (l.map g) = some ((l.filter p).map h) := by
  rw [collect_flat (h := fun x => if p x then [h x] else []) e]
  congr 1
  clear e
  induction l with
  | nil => rfl
  | cons x l ih => rw [List.flatMap_cons, ih]; cases hp : p x <;> simp [hp]
theorem sized_of {ds : List D} (h : ds.length ≤ sizeLine) : sized ds = some (.list ds) := by simp [sized, h]

theorem rangeL_up (n : Nat) : rangeL 0 n 1 = (List.range n).map fun (i : Nat) => (i : Int) := by
  unfold rangeL Builtin.Range.rangeSize
  simp only [show (1 : Int) > 0 by decide, if_true, Int.ediv_one]
  by_cases h : (n : Int) > 0
  · simp only [h, if_true]
    have e : ((n : Int) - 0 - 1 + 1).toNat = n := by omega
    simp [e]
  · have : n = 0 := by omega
    subst this; simp
theorem rangeL_from (a n : Nat) : rangeL a n 1 = (List.range (n - a)).map fun (i : Nat) => ((a + i : Nat) : Int) := by
  unfold rangeL Builtin.Range.rangeSize
  simp only [show (1 : Int) > 0 by decide, if_true, Int.ediv_one]
  by_cases h : (n : Int) > a
  · simp only [h, if_true]
    have e : ((n : Int) - a - 1 + 1).toNat = n - a := by omega
    simp [e]
  · have : n - a = 0 := by omega
    simp [this, h]
end Mine

open PySem PySem.W PyProof.Rows
set_option Elab.async false
set_option linter.unusedVariables false
namespace Mine

/-- e has just been raised: it is a new StopIteration, and but for the iterator all stands -/
def Raised (h h' : Heap) (it e : Addr) : Prop :=
  (∀ b o, b ≠ it → h.get? b = some o → h'.get? b = some o) ∧ h.get? e = none ∧ ∃ oe vs a0, h'.get? e = some oe ∧ oe.cls = .type "StopIteration" ∧ oe.data = .fields vs ∧ vs[1]? = some .none ∧ vs[0]? = some a0

section
variable {W : Wd} {A : Around} {E : Value → Shared → Prop} {s : Shared}

theorem special_item {it l : Addr} {i : Nat} {items} {x : Value} {Q : Option Value → Shared → Prop} (hit : s.heap.IsListIter it l i)
    (hl : s.heap.IsList l items) (hx : items[i]? = some x)
    (hQ : ∀ h', h'.IsListIter it l (i + 1) → Heap.SameBut it s.heap h' → Q (some x) { s with heap := h' }) :
    wpAny W.M A (callSpecial? (.ref it) (Str.ofString "__next__")) Q E s := by
  obtain ⟨o, ho, hc, hd⟩ := id hit
  obtain ⟨ol, hol, _, nl, hdl⟩ := hl
  refine wpAny_callSpecial?_slot (name := Str.ofString "__next__") hit.typeIs slot_listiter_next
    (wpAny_call_entry slot_listiter_next hit.typeIs entry_listiter_next ?_ (args_listiter_next _))
  show wpAny _ _ (field (.ref it) 0 >>= _) _ _ s
  refine wpAny_bind (wpAny_field ho hd (x := .ref l) rfl ?_)
  show wpAny _ _ (if (Value.ref l == Value.none) = true then _ else _) _ _ s
  rw [if_neg (show ¬ ((Value.ref l == Value.none) = true) from Bool.false_ne_true)]
  show wpAny _ _ (field (.ref it) 1 >>= _) _ _ s
  refine wpAny_bind (wpAny_field ho hd (x := .int i 0) rfl ?_)
  show wpAny _ _ (seqItems? (.ref l) >>= _) _ _ s
  refine wpAny_bind (wpAny_seqItems hol hdl ?_)
  simp only [Int.toNat_natCast, hx]
  refine wpAny_bind (wpAny_setField ho hd (by simp) (wpAny_pure ⟨x, rfl, hQ _ ?_ (Heap.SameBut.update ..)⟩))
  exact ⟨_, Heap.get?_update_self _ ho (Obj.isFreed_of_fields (Obj.data_mapFields hd _)), (Obj.cls_mapFields ..).trans hc, by
    rw [Obj.data_mapFields hd]; simp [rawInt]⟩

theorem special_end {it l : Addr} {i : Nat} {items} {Q : Option Value → Shared → Prop} (hh : A.handled = none)
    (hit : s.heap.IsListIter it l i) (hl : s.heap.IsList l items) (hx : items[i]? = none)
    (hE : ∀ h' e, Raised s.heap h' it e → E (.ref e) { s with heap := h' }) : wpAny W.M A (callSpecial? (.ref it) (Str.ofString "__next__")) Q E s := by
  obtain ⟨o, ho, hc, hd⟩ := id hit
  obtain ⟨ol, hol, _, nl, hdl⟩ := hl
  refine wpAny_callSpecial?_slot (name := Str.ofString "__next__") hit.typeIs slot_listiter_next
    (wpAny_call_entry slot_listiter_next hit.typeIs entry_listiter_next ?_ (args_listiter_next _))
  show wpAny _ _ (field (.ref it) 0 >>= _) _ _ s
  refine wpAny_bind (wpAny_field ho hd (x := .ref l) rfl ?_)
  show wpAny _ _ (if (Value.ref l == Value.none) = true then _ else _) _ _ s
  rw [if_neg (show ¬ ((Value.ref l == Value.none) = true) from Bool.false_ne_true)]
  show wpAny _ _ (field (.ref it) 1 >>= _) _ _ s
  refine wpAny_bind (wpAny_field ho hd (x := .int i 0) rfl ?_)
  show wpAny _ _ (seqItems? (.ref l) >>= _) _ _ s
  refine wpAny_bind (wpAny_seqItems hol hdl ?_)
  simp only [Int.toNat_natCast, hx]
  refine wpAny_bind (wpAny_rule (wpAny_bind (wpAny_setField ho hd (by simp) ?_)))
  show wpAny _ _ (newExc (.type "StopIteration") [] >>= _) _ _ _
  refine wpAny_bind ?_
  simp only [newExc, newTuple]
  refine wpAny_bind (wpAny_newObj_type ?_ (by size_fits))
  refine wpAny_bind (m := firstArgMember _ _) (wpAny_of_eq (a := Value.none) (by first | rfl | (simp only [firstArgMember]; rfl)) ?_)
  refine wpAny_newObj_type ?_ (by size_fits)
  simp only [raiseNew]
  refine wpAny_bind (wpAny_handled ?_)
  first | rw [show A.in1.handled = none from hh] | rw [hh]
  refine wpAny_bind (wpAny_pure (wpAny_throw ?_))
  refine hE _ _ ⟨fun b ob hb e => ?_, ?_, _, _, _, Heap.get?_push_size _ rfl, rfl, rfl, rfl, rfl⟩
  · exact Heap.get?_push_of_some _ (Heap.get?_push_of_some _ ((Heap.get?_update_other _ _ (Ne.symm hb)).trans e))
  · refine Heap.get?_none_of_le ?_
    simp

theorem next_item {it l : Addr} {i : Nat} {items} {x : Value} {Q : Value → Shared → Prop} (hit : s.heap.IsListIter it l i)
    (hl : s.heap.IsList l items) (hx : items[i]? = some x)
    (hQ : ∀ h', h'.IsListIter it l (i + 1) → Heap.SameBut it s.heap h' → Q x { s with heap := h' }) :
    wpAny W.M A (call (.builtin "next") [.ref it]) Q E s := by
  refine Calls.call_function_entry (by decide +kernel) (by decide +kernel) PySem.W.kdk_entry_next (PySem.W.kdk_args_next _) ?_
  unfold Builtin.«next»
  refine wpAny_bind (m := someArgs "next" 1 2 _) (wpAny_of_eq (a := [Value.ref it]) (by first | rfl | kernel_rfl!) ?_)
  dsimp only
  refine wpAny_bind (wpAny_specialOf (name := Str.ofString "__next__") hit.typeIs slot_listiter_next.lookup ?_)
  refine wpAny_ite_split (fun hab => absurd hab (by decide)) (fun _ => ?_)
  refine wpAny_bind (special_item hit hl hx fun h' h1 h2 => ?_)
  exact wpAny_pure ⟨_, rfl, hQ h' h1 h2⟩

theorem next_end {it l : Addr} {i : Nat} {items} {Q : Value → Shared → Prop} (hh : A.handled = none) (hit : s.heap.IsListIter it l i)
    (hl : s.heap.IsList l items) (hx : items[i]? = none) (hE : ∀ h' e, Raised s.heap h' it e → E (.ref e) { s with heap := h' }) :
    wpAny W.M A (call (.builtin "next") [.ref it]) Q E s := by
  refine Calls.call_function_entry (by decide +kernel) (by decide +kernel) PySem.W.kdk_entry_next (PySem.W.kdk_args_next _) ?_
  unfold Builtin.«next»
  refine wpAny_bind (m := someArgs "next" 1 2 _) (wpAny_of_eq (a := [Value.ref it]) (by first | rfl | kernel_rfl!) ?_)
  dsimp only
  refine wpAny_bind (wpAny_specialOf (name := Str.ofString "__next__") hit.typeIs slot_listiter_next.lookup ?_)
  refine wpAny_ite_split (fun hab => absurd hab (by decide)) (fun _ => ?_)
  refine wpAny_bind (special_end hh hit hl hx fun h' e hr => ?_)
  exact hE h' e hr
end
end Mine

open PySem PySem.W PyProof.Rows
set_option Elab.async false
set_option linter.unusedVariables false
namespace Mine

/-- the statements end as K says, or the iterator it is at its end (and then PX) -/
def WpX (W : Wd) (A : Around) (fr : List Addr) (env : Env) (it : Addr) (PX : Prop) (ss : List Stmt) (Δ : Ctx) (μ : MM) (K : Out → Ctx → MM → Prop) : Prop :=
  ∀ B F₀ F s (Q : Flow → Shared → Prop) (E : Value → Shared → Prop), PassesOwn W.M A env E → Sf W fr B F₀ env Δ μ F s →
    (∀ o Δ' μ' F' s', K o Δ' μ' → Sf W fr B F₀ env Δ' μ' F' s' → Fin' Q F' s' o) →
    (PX → ∀ F₁ s₁ h' e, Sf W fr B F₀ env [] (fun _ => none) F₁ s₁ → Raised s₁.heap h' it e → E (.ref e) { s₁ with heap := h' }) → wpAny W.M A (execs ss env) Q E s
def Wp1X (W : Wd) (A : Around) (fr : List Addr) (env : Env) (it : Addr) (PX : Prop) (st : Stmt) (Δ : Ctx) (μ : MM) (K : Out → Ctx → MM → Prop) : Prop :=
  ∀ B F₀ F s (Q : Flow → Shared → Prop) (E : Value → Shared → Prop), PassesOwn W.M A env E → Sf W fr B F₀ env Δ μ F s →
    (∀ o Δ' μ' F' s', K o Δ' μ' → Sf W fr B F₀ env Δ' μ' F' s' → Fin' Q F' s' o) →
    (PX → ∀ F₁ s₁ h' e, Sf W fr B F₀ env [] (fun _ => none) F₁ s₁ → Raised s₁.heap h' it e → E (.ref e) { s₁ with heap := h' }) → wpAny W.M A (exec st env) Q E s

section
variable {W : Wd} {A : Around} {fr : List Addr} {env : Env} {Δ : Ctx} {μ : MM} {K : Out → Ctx → MM → Prop} {it : Addr} {PX : Prop}

theorem WpX.nil (h : K .next Δ μ) : WpX W A fr env it PX [] Δ μ K := fun B F₀ F s Q E hE S k x => wpAny_execs_nil (k _ _ _ F s h S)
theorem WpX.cons {st : Stmt} {rest : List Stmt} (h : Wp1X W A fr env it PX st Δ μ (fun o Δ' μ' => match o with | .next => WpX W A fr env it PX rest Δ' μ' K | o => K o Δ' μ')) : WpX W A fr env it PX (st :: rest) Δ μ K := fun B F₀ F s Q E hE S k x => by
  refine wpAny_execs_cons (h B F₀ F s _ E hE S (fun o Δ' μ' F' s' hk S' => ?_) x)
  cases o with
  | next => exact hk B F₀ F' s' Q E hE S' k x
  | brk => exact k _ _ _ F' s' hk S'
  | cont => exact k _ _ _ F' s' hk S'
  | ret d => exact fun v hv => k _ _ _ F' s' hk S' v hv
theorem Wp1.x {st : Stmt} (h : Wp1 W A fr env st Δ μ K) : Wp1X W A fr env it PX st Δ μ K := fun B F₀ F s Q E hE S k x => h B F₀ F s Q E S k

theorem Wp1X.assignNext {x src : Str} {px pn ps cp pos : Pos} {l : Addr} {i : Nat} {ds : List D} (hW : W.Ok) (hh : A.handled = none) (hn : GlobVal W "next" (.builtin "next")) (hkn : env.kindOf "next" = some .globalImplicit)
    (hk : env.kindOf x = some .local ∨ env.kindOf x = some .cell) (hs : Ev W A env Δ μ (.Name src ps) (.ref it)) (hm : μ it = some (.itr l i ds))
    (hend : ds[i]? = none → PX) (hnext : ∀ d, ds[i]? = some d → K .next ((x, d) :: Δ) (μ.set it (.itr l (i + 1) ds))) :
    Wp1X W A fr env it PX (.Assign [.Name x px] (.Call (.Name "next" pn) [.Name src ps] [] cp) pos) Δ μ K := fun B F₀ F s Q E hE S k hx => by
  refine wpAny_Assign_Name ?_ rfl
  refine Call_ (wpAny_Name (loadGlob hW S.st hn hkn ?_) (by decide)) rfl
  refine callWith_any (.inl ⟨_, rfl⟩) (.cons rfl hs .nil) (by simp) S.st fun F₁ s₁ vs x₁ r => ?_
  rw [RelVs] at r; obtain ⟨v, r', rfl, h1, h2⟩ := r
  rw [RelVs] at h2; subst h2
  rw [RelV] at h1; subst h1
  have S₁ := S.ext x₁
  obtain ⟨hF, hit, us, n, hl, hr⟩ := S₁.st.mu it _ hm
  have hlist := lobj_isList (S₁.st.sub _ _ hl)
  cases hd : ds[i]? with
  | some d =>
    obtain ⟨v, hv, rv⟩ := hr.get hd
    refine next_item hit hlist (by simpa using hv) fun h' hit' hs' => ?_
    refine store_sf (same_sf (tk := s₁.toks) S₁ hm hs' (m' := .itr l (i + 1) ds) ⟨hit', us, n, hl, hr⟩) hk rv fun s' S' => k _ _ _ F₁ s' (hnext d hd) S'
  | none =>
    refine next_end hh hit hlist (by
      have := List.getElem?_eq_none_iff.mp hd
      simp [hr.length]; exact this) fun h' e hr' => ?_
    exact hx (hend hd) F₁ s₁ h' e ((S₁.weakenV fun _ _ e => by cases e).weakenM fun _ _ e => by cases e) hr'

theorem Wp1X.while_ {t : Expr} {body : List Stmt} {pos : Pos} (I : Nat → Ctx → MM → Prop) (n₀ : Nat) (h0 : I n₀ Δ μ)
    (hturn : ∀ n Δ' μ', I n Δ' μ' → ∃ b, Tst W A env Δ' μ' t b ∧ (b = false → K .next Δ' μ') ∧ (b = true → WpX W A fr env it PX body Δ' μ' (fun o Δ'' μ'' => o = .next ∧ ∃ m, m < n ∧ I m Δ'' μ''))) :
    Wp1X W A fr env it PX (.While t body [] pos) Δ μ K := fun B F₀ F s Q E hE S k hx => by
  refine wpAny_While (codeAny_whileLoop (fun n s' => ∃ Δ' μ' F', I n Δ' μ' ∧ Sf W fr B F₀ env Δ' μ' F' s') ?_ n₀ ⟨Δ, μ, F, h0, S⟩)
  rintro n s' ⟨Δ', μ', F', hI, S'⟩
  obtain ⟨b, ht, hf, htr⟩ := hturn n Δ' μ' hI
  refine wpAny_mono (ht F' s' _ S'.st) (fun v s₁ h₁ => ?_) fun _ _ e => e
  obtain ⟨F₁, x₁, rfl⟩ := h₁
  have S₁ := S'.ext x₁
  cases v with
  | false => simp only [Bool.false_eq_true, if_false]; exact wpAny_execs_nil (k .next _ _ _ _ (hf rfl) S₁)
  | true =>
    simp only [if_true]
    refine wpAny_passesOwn hE (htr rfl B F₀ F₁ s₁ _ E hE S₁ (fun o Δ'' μ'' F'' s'' hK S'' => ?_) hx)
    obtain ⟨rfl, m, hm, hIm⟩ := hK
    exact ⟨m, hm, Δ'', μ'', F'', hIm, S''⟩

theorem St.extBut {F F' : FM} {s s' : Shared} {X : List Addr} (S : St W env Δ μ F s) (x : ExtBut X F s F' s') (inn : ∀ a o, F' a = some o → s'.heap.get? a = some o)
    (hX : ∀ b ∈ X, F' b = none ∧ μ b = none ∧ b ≠ env.locals ∧ ∀ y, (y, b) ∉ env.cells) : St W env Δ μ F' s' := by
  have hFX : ∀ b ∈ X, F b = none := fun b hb => by
    cases e : F b with
    | none => rfl
    | some o => have := x.sub b o e; rw [(hX b hb).1] at this; cases this
  have S' : St W env Δ μ F s' := S.frame x.keeps fun b hb => ⟨hFX b hb, (hX b hb).2⟩
  have hnone : ∀ a, F a = none → (∃ o, s.heap.get? a = some o) → F' a = none := fun a h1 ⟨o, h2⟩ => by
    by_cases ha : a ∈ X
    · exact (hX a ha).1
    · cases h3 : F' a with
      | none => rfl
      | some o' =>
        rcases x.new a (by rw [h3]; simp) h1 with h4 | h4
        · rw [h2] at h4; cases h4
        · exact absurd h4 ha
  refine ⟨S'.eok, S'.same, fun b o e => x.sub _ _ (S.base b o e), inn, fun y d e => ?_, fun a m e => ?_, S'.ns, ?_, S'.nsM, fun y c hc => ?_, S'.apart⟩
  · obtain ⟨v, h1, h2⟩ := S'.vars y d e; exact ⟨v, h1, h2.mono x.sub⟩
  · obtain ⟨h1, h2⟩ := S'.mu a m e
    obtain ⟨_, h3⟩ := S.mu a m e
    exact ⟨hnone a h1 h3.some, h2.keeps x.sub fun _ _ e => e⟩
  · obtain ⟨m, o, es, ep, e, _⟩ := S.ns
    exact hnone _ S.nsF ⟨_, e⟩
  · obtain ⟨h1, h2, h3, h4⟩ := S'.cellF y c hc
    obtain ⟨_, _, _, v, o, e, _⟩ := S.cellF y c hc
    exact ⟨hnone _ h1 ⟨_, e⟩, h2, h3, h4⟩
end
end Mine

open PySem PySem.W PyProof.Rows
set_option Elab.async false
set_option linter.unusedVariables false
namespace Mine

def oneM (a : Addr) (m : MObj) : MM := fun b => if b = a then some m else none
def framesOf (l : List Env) : List Addr := l.filterMap (·.frame)

section
variable {W : Wd}

theorem back_sf {fr : List Addr} {B F₀ F F' : FM} {env fenv : Env} {Δ Δ' : Ctx} {μ μ' : MM} {s s' : Shared} {it l : Addr} {i n : Nat} {ds : List D} (S : Sf W fr B F₀ env Δ μ F s) (hit : μ it = some (.itr l i ds))
    (S' : Sf W [] (fun b => if b = it then none else s.heap.get? b) F fenv Δ' μ' F' s') (hmu : μ' it = some (.itr l (i + n) ds)) : Sf W fr B F₀ env Δ (μ.set it (.itr l (i + n) ds)) F' s' := by
  have hBne : ∀ b ob, b ≠ it → s.heap.get? b = some ob → (if b = it then none else s.heap.get? b) = some ob := fun b ob hb e => by rw [if_neg hb]; exact e
  obtain ⟨hF'it, hM'it⟩ := S'.st.mu it _ hmu
  have xb : ExtBut [it] F s F' s' := by
    refine ⟨?_, S'.fsub, fun b h1 h2 => ?_⟩
    · obtain ⟨h₀, tk, e0⟩ := S.st.same
      obtain ⟨h', tk', e1⟩ := S'.st.same
      refine ⟨h', tk', by rw [e1, e0], fun b ob hb e => ?_⟩
      have := S'.exact (hBne b ob (by simpa using hb) e) (by simp); rw [e1] at this; exact this
    · have := S'.fnew b h1 h2
      by_cases hb : b = it
      · exact .inr (by simp [hb])
      · rw [if_neg hb] at this; exact .inl this
  have hL : it ≠ env.locals := fun e => by rw [e, S.st.nsM] at hit; cases hit
  have hC : ∀ y, (y, it) ∉ env.cells := fun y hc => by rw [(S.st.cellF y it hc).2.1] at hit; cases hit
  have S0 : St W env Δ (fun b => if b = it then none else μ b) F' s' :=
    (S.st.weakenM (μ' := fun b => if b = it then none else μ b) (fun b m e => by split at e; cases e; exact e)).extBut xb S'.st.sub (fun b hb => by
      simp at hb; subst hb; exact ⟨hF'it, by simp, hL, hC⟩)
  have e : (MM.set (fun b => if b = it then none else μ b) it (.itr l (i + n) ds)) = μ.set it (.itr l (i + n) ds) := by
    funext b; unfold MM.set; by_cases hb : b = it <;> simp [hb]
  have S1 := S0.addM (by simp) hF'it hL hC hM'it
  rw [e] at S1
  refine ⟨S1, fun b ob hB => ?_, S.frB, S.frF₀, S.loc, S.cel, fun b m e => ?_, S.fsub.trans S'.fsub, fun b h1 h2 => ?_⟩
  · obtain ⟨sl, g1, g2⟩ := S.keep b ob hB
    have hb : b ≠ it := fun e => by rw [e, S.own it _ hit] at hB; cases hB
    exact ⟨sl, S'.exact (hBne b _ hb g1) (by simp), g2⟩
  · unfold MM.set at e; split at e
    · subst_vars; exact S.own _ _ hit
    · exact S.own b m e
  · cases e3 : F b with
    | some ob => exact S.fnew b (by rw [e3]; simp) h2
    | none =>
      have := S'.fnew b h1 e3
      by_cases hb : b = it
      · subst hb; exact S.own _ _ hit
      · rw [if_neg hb] at this
        cases e4 : B b with
        | none => rfl
        | some o4 => obtain ⟨o', h6⟩ := S.there e4; rw [this] at h6; cases h6

theorem callX {k : Nat} {f p : Str} {params : Arguments} {body : List Stmt} {scope : Scope} {it l : Addr} {i : Nat} {ds : List D} {PX : Prop} {R : Int → Nat → Prop} (hW : W.Ok) (hfn : FnAt W f params body scope) (hs : FnScope scope [p])
    (hbind : ∀ pm code doc v, bindArgs (Calls.docDef f params body scope pm code doc) ⟨[v], []⟩ = pure [(p, v)])
    (hbody : ∀ A env, GoodA A k → EnvOk env → env.scope = scope → WpX W A [] env it PX body [(p, .ref it)] (oneM it (.itr l i ds)) (fun o Δ' μ' => ∃ v n, R v n ∧ o = .ret (.int v) ∧ μ' it = some (.itr l (i + n) ds))) :
    ∃ fv, GlobVal W f fv ∧ Keeper W fv ∧ ∀ (A : Around) (env : Env) (outer : List Env) (fr : List Addr) (B F₀ F : FM) (Δ : Ctx) (μ : MM) (s : Shared) (Q : Value → Shared → Prop) (E : Value → Shared → Prop),
      GoodA A (k + 1) → A.frames = some (env :: outer) → env.frame = some env.locals → (∀ e ∈ outer, e.scope.kind ≠ .module ∧ ∃ L ∈ fr, e.frame = some L) → Sf W fr B F₀ env Δ μ F s → μ it = some (.itr l i ds) →
      (∀ v n t F' s', R v n → Sf W fr B F₀ env Δ (μ.set it (.itr l (i + n) ds)) F' s' → Q (.int v t) s') →
      (PX → ∀ s' e base a0, (∃ h tk, s' = { W.s₁ with heap := h, toks := tk }) → Heap.FlyingW base (env :: outer) e (.type "StopIteration") a0 s'.heap → s.heap.UpToSlots s'.heap →
        (∀ b o, b ≠ it → b ∉ framesOf (env :: outer) → s.heap.get? b = some o → base.get? b = some o) → E (.ref e) s') → wpAny W.M A (call fv [.ref it]) Q E s := by
  obtain ⟨a, o, pm, code, doc, hm, ho, hd, hcode⟩ := hfn
  refine ⟨.ref a, .inl hm, .inr (.inr ⟨a, o, _, rfl, ho, hd⟩), fun A env outer fr B F₀ F Δ μ s Q E hA hfr henv hout S hit hq hx => ?_⟩
  obtain ⟨hFit, hMit⟩ := S.st.mu it _ hit
  obtain ⟨oit, hoit⟩ := hMit.some
  refine enterF hW ho hd hcode hs (ds := [.ref it]) rfl (fun vs hv => by obtain ⟨v, rfl⟩ : ∃ v, vs = [v] := ⟨vs.head (by rintro rfl; cases hv), by cases vs with | nil => cases hv | cons v r => cases r with | nil => rfl | cons => cases hv⟩; exact hbind pm code doc v) (fr := []) (B := fun b => if b = it then none else s.heap.get? b) (μ₀ := oneM it (.itr l i ds)) hA S.st.same S.st.base S.st.sub (RelVs.one (by rw [RelV])) (fun b m e => ?_) (fun b ob e => ?_) (fun b hb => by cases hb) fun fenv s₁ hA' eok hsc hframe hfl Sfn => ?_
  · unfold oneM at e; split at e
    · cases e; subst_vars; exact ⟨hFit, if_pos rfl, hMit⟩
    · cases e
  · split at e
    · cases e
    · exact e
  have hBne : ∀ b ob, b ≠ it → s.heap.get? b = some ob → (if b = it then none else s.heap.get? b) = some ob := fun b ob hb e => by rw [if_neg hb]; exact e
  refine hbody (A.deeper fenv) fenv hA' eok hsc _ F F s₁ _ _ PassesOwn.leaving Sfn (fun o' Δ' μ' F' s' hK S' => ?_) fun px F₁ s₂ h' e S₂ hr => ?_
  · obtain ⟨v, n, hR, rfl, hmu⟩ := hK
    intro w hv
    rw [RelV] at hv; obtain ⟨t, rfl⟩ := hv
    show Q (.int v t) s'
    refine hq v n t F' s' hR ?_
    exact back_sf S hit S' hmu
  · obtain ⟨hr1, hr2, oe, vs, a0, he, hcls, hdat, hv1, hv0⟩ := hr
    obtain ⟨hd', tk', e1⟩ := S₂.st.same
    have keep2 : ∀ b ob, b ≠ it → s.heap.get? b = some ob → h'.get? b = some ob := fun b ob hb e => hr1 b ob hb (S₂.exact (hBne b ob hb e) (by simp))
    have hbs : ∀ b ob, (hideAll s.heap (it :: framesOf (env :: outer))).get? b = some ob → b ≠ it ∧ s.heap.get? b = some ob := fun b ob e => by
      refine ⟨fun hb => ?_, of_hideAll _ e⟩
      rw [hideAll_none _ (by simp [hb])] at e; cases e
    have hstay : (hideAll s.heap (it :: framesOf (env :: outer))).StaysIn h' := fun b ob e => by
      obtain ⟨g1, g2⟩ := hbs b ob e; exact keep2 b ob g1 g2
    have hen : (hideAll s.heap (it :: framesOf (env :: outer))).get? e = none := by
      cases e3 : (hideAll s.heap (it :: framesOf (env :: outer))).get? e with
      | none => rfl
      | some ob =>
        obtain ⟨g1, g2⟩ := hbs e ob e3
        have := S₂.exact (hBne e ob g1 g2) (by simp); rw [hr2] at this; cases this
    have hLenv : it ≠ env.locals := fun e => by rw [e, S.st.nsM] at hit; cases hit
    have hcons : h'.FunFrames (hideAll s.heap (it :: framesOf (env :: outer))) (fenv :: env :: outer) := by
      refine ⟨by rw [hsc, hs.kind]; decide, ?_, ⟨by rw [S.st.eok.kind]; decide, ?_, ?_⟩⟩
      · obtain ⟨m, oo, es, ep, q1, q2, _⟩ := S₂.st.ns
        refine ⟨fenv.locals, oo, hframe, ?_, hr1 _ _ (fun e9 => by rw [e9, hoit] at hfl; cases hfl) q1, fun vs' e => by rw [q2] at e; cases e⟩
        cases e3 : (hideAll s.heap (it :: framesOf (env :: outer))).get? fenv.locals with
        | none => rfl
        | some ob => have := (hbs _ _ e3).2; rw [hfl] at this; cases this
      · obtain ⟨m, oo, es, ep, q1, q2, _⟩ := S.st.ns
        exact ⟨env.locals, oo, henv, hideAll_none _ (by simp [framesOf, henv]), keep2 _ _ (Ne.symm hLenv) q1, fun vs' e => by rw [q2] at e; cases e⟩
      · have hall : ∀ l' : List Env, (∀ x ∈ l', x ∈ outer) → h'.FunFrames (hideAll s.heap (it :: framesOf (env :: outer))) l' := by
          intro l'
          induction l' with
          | nil => intro _; trivial
          | cons x l' ih =>
            intro hx'
            obtain ⟨g1, L, g2, g3⟩ := hout x (hx' x List.mem_cons_self)
            obtain ⟨oo, g4, g5⟩ := S.frB L g2
            obtain ⟨sl, g6, _⟩ := S.keep L oo g4
            have hLit : L ≠ it := fun e => by rw [e, S.own it _ hit] at g4; cases g4
            refine ⟨g1, ⟨L, _, g3, hideAll_none _ ?_, keep2 L _ hLit g6, g5⟩, ih fun y hy => hx' y (List.mem_cons_of_mem _ hy)⟩
            refine List.mem_cons_of_mem _ ?_
            unfold framesOf
            exact List.mem_filterMap.mpr ⟨x, List.mem_cons_of_mem _ (hx' x List.mem_cons_self), g3⟩
        exact hall outer fun _ h => h
    refine wpAny_leaving_firstW (s := { s₂ with heap := h' }) (base := hideAll s.heap (it :: framesOf (env :: outer))) (Around.frames_deeper hfr) hcons hframe he hstay hen hdat hv1 hv0 fun h'' hL => ?_
    obtain ⟨k1, ⟨_, _, k2⟩, k3, k4⟩ := hL
    rw [hcls] at k3
    refine hx px _ e (hideAll s.heap (it :: framesOf (env :: outer))) a0 ?_ ⟨k1, hen, k2, k3⟩ (fun b ob e3 hnf => ?_) fun b ob g1 g2 g3 => ?_
    · exact ⟨h'', s₂.toks, by rw [e1]⟩
    · have hb : b ≠ it := fun hb => by
        subst hb
        obtain ⟨⟨oo, q1, q2, q3⟩, _⟩ := hMit
        rw [q1] at e3; cases e3; exact hnf _ q3
      exact k4 b ob (keep2 b ob hb e3) hnf
    · exact hideAll_get _ g3 (by simp; exact ⟨g1, g2⟩)
end
end Mine

open PySem PySem.W PyProof.Rows
set_option Elab.async false
set_option linter.unusedVariables false
namespace Mine

def dropM (μ : MM) (a : Addr) : MM := fun b => if b = a then none else μ b

section
variable {W : Wd} {A : Around} {fr : List Addr} {env : Env} {Δ : Ctx} {μ : MM} {K : Out → Ctx → MM → Prop} {B F₀ F : FM} {s s' : Shared}

theorem IsCell_of {h h' : Heap} {c : Addr} {v : Option Value} (k : ∀ o, h.get? c = some o → h'.get? c = some o) (x : h.IsCell c v) : h'.IsCell c v := by
  obtain ⟨o, ho, hd⟩ := x; exact ⟨o, k o ho, hd⟩

/-- an exception has passed: but for the iterator and the frames' slots all stands -/
theorem Sf.land (S : Sf W fr B F₀ env Δ μ F s) {it : Addr} {m₀ : MObj} {outer : List Env} (hit : μ it = some m₀) (henv : env.frame = some env.locals) (hout : ∀ e ∈ outer, e.scope.kind ≠ .module ∧ ∃ L ∈ fr, e.frame = some L)
    (hsame : ∃ h tk, s' = { W.s₁ with heap := h, toks := tk }) (hk : ∀ b o, b ≠ it → b ∉ framesOf (env :: outer) → s.heap.get? b = some o → s'.heap.get? b = some o) (hup : s.heap.UpToSlots s'.heap) :
    Sf W fr B F₀ env Δ (dropM μ it) F s' := by
  have hfrm : ∀ b ∈ framesOf (env :: outer), b = env.locals ∨ b ∈ fr := fun b hb => by
    unfold framesOf at hb
    obtain ⟨x, hx, hb'⟩ := List.mem_filterMap.mp hb
    rcases List.mem_cons.mp hx with rfl | hx
    · rw [henv] at hb'; cases hb'; exact .inl rfl
    · obtain ⟨_, L, h1, h2⟩ := hout x hx
      rw [h2] at hb'; cases hb'; exact .inr h1
  have hFit : F it = none := (S.st.mu it _ hit).1
  have hFfr : ∀ b ∈ framesOf (env :: outer), F b = none := fun b hb => by
    rcases hfrm b hb with rfl | h
    · exact S.st.nsF
    · exact S.frF h
  have hMfr : ∀ b ∈ framesOf (env :: outer), μ b = none := fun b hb => by
    rcases hfrm b hb with rfl | h
    · exact S.st.nsM
    · obtain ⟨o, h1, _⟩ := S.frB b h
      cases e : μ b with
      | none => rfl
      | some m => rw [S.own b m e] at h1; cases h1
  have hCfr : ∀ y c, (y, c) ∈ env.cells → c ∉ framesOf (env :: outer) := fun y c hc hm => by
    rcases hfrm c hm with h | h
    · exact (S.st.cellF y c hc).2.2.1 h
    · obtain ⟨o, h1, _⟩ := S.frB c h
      rw [S.cel y c hc] at h1; cases h1
  have hCit : ∀ y c, (y, c) ∈ env.cells → c ≠ it := fun y c hc e => by
    have := (S.st.cellF y c hc).2.1; rw [e, hit] at this; cases this
  have keepF : ∀ a o, F a = some o → s'.heap.get? a = some o := fun a o e => hk a o (fun h => by rw [h, hFit] at e; cases e) (fun h => by rw [hFfr a h] at e; cases e) (S.st.sub a o e)
  have keepC : ∀ y c, (y, c) ∈ env.cells → ∀ o, s.heap.get? c = some o → s'.heap.get? c = some o := fun y c hc o e => hk c o (hCit y c hc) (hCfr y c hc) e
  refine ⟨⟨S.st.eok, hsame, S.st.base, keepF, fun x d hx => ?_, fun a m e => ?_, ?_, S.st.nsF, ?_, fun y c hc => ?_, S.st.apart⟩, fun b o hB => ?_, S.frB, S.frF₀, S.loc, S.cel, fun a m e => ?_, S.fsub, S.fnew⟩
  · obtain ⟨v, hv, rv⟩ := S.st.vars x d hx
    refine ⟨v, ?_, rv⟩
    rcases hv with ⟨h1, m', hm', hmy⟩ | ⟨h1, c, hc, hv'⟩ | h1
    · exact .inl ⟨h1, m', hup.ns hm', hmy⟩
    · exact .inr (.inl ⟨h1, c, hc, IsCell_of (keepC x c (mem_of_lookup hc)) hv'⟩)
    · exact .inr (.inr h1)
  · unfold dropM at e; split at e
    · cases e
    · rename_i ha
      obtain ⟨h1, h2⟩ := S.st.mu a m e
      exact ⟨h1, h2.same fun o e' => hk a o ha (fun h => by rw [hMfr a h] at e; cases e) e'⟩
  · obtain ⟨m, hn⟩ := S.st.ns; exact ⟨m, hup.ns hn⟩
  · unfold dropM; split
    · rfl
    · exact S.st.nsM
  · obtain ⟨h1, h2, h3, v, h4⟩ := S.st.cellF y c hc
    exact ⟨h1, by unfold dropM; split; rfl; exact h2, h3, v, IsCell_of (keepC y c hc) h4⟩
  · obtain ⟨sl, g1, g2⟩ := S.keep b o hB
    have hb : b ≠ it := fun e => by rw [e, S.own it _ hit] at hB; cases hB
    by_cases hf : b ∈ framesOf (env :: outer)
    · rcases hfrm b hf with h | h
      · rw [h, S.loc] at hB; cases hB
      · obtain ⟨o', h1, h2⟩ := S.frB b h
        rw [hB] at h1; cases h1
        obtain ⟨sl', q⟩ := hup b _ g1 h2
        exact ⟨sl', q, fun hn => absurd h hn⟩
    · exact ⟨sl, hk b _ hb hf g1, g2⟩
  · unfold dropM at e; split at e
    · cases e
    · exact S.own a m e

theorem exc_stop : isSubtype (.type "StopIteration") (.type "BaseException") = pure true := by rw [isSubtype_type]; kernel_rfl
theorem nt_stop : isSubtype (.type ((Manifest.find? "StopIteration").elim "type" fun x => x.metatype)) (.type "tuple") = pure false := by
  rw [show ((Manifest.find? "StopIteration").elim "type" fun x => x.metatype) = "type" by decide +kernel, isSubtype_type]; kernel_rfl

def FnX (W : Wd) (k : Nat) (f : Str) (it l : Addr) (i : Nat) (ds : List D) (PX : Prop) (R : Int → Nat → Prop) : Prop :=
    ∃ fv, GlobVal W f fv ∧ Keeper W fv ∧ ∀ (A : Around) (env : Env) (outer : List Env) (fr : List Addr) (B F₀ F : FM) (Δ : Ctx) (μ : MM) (s : Shared) (Q : Value → Shared → Prop) (E : Value → Shared → Prop),
      GoodA A (k + 1) → A.frames = some (env :: outer) → env.frame = some env.locals → (∀ e ∈ outer, e.scope.kind ≠ .module ∧ ∃ L ∈ fr, e.frame = some L) → Sf W fr B F₀ env Δ μ F s → μ it = some (.itr l i ds) →
      (∀ v n t F' s', R v n → Sf W fr B F₀ env Δ (μ.set it (.itr l (i + n) ds)) F' s' → Q (.int v t) s') →
      (PX → ∀ s' e base a0, (∃ h tk, s' = { W.s₁ with heap := h, toks := tk }) → Heap.FlyingW base (env :: outer) e (.type "StopIteration") a0 s'.heap → s.heap.UpToSlots s'.heap →
        (∀ b o, b ≠ it → b ∉ framesOf (env :: outer) → s.heap.get? b = some o → base.get? b = some o) → E (.ref e) s') → wpAny W.M A (call fv [.ref it]) Q E s

theorem Wp1.tryRead {told src f : Str} {pt ps pf apos cp cp2 ep hp np rp rp2 pos : Pos} {k : Nat} {it l a : Addr} {i : Nat} {ds ys : List D} {PX : Prop} {R : Int → Nat → Prop} {outer : List Env}
    (hW : W.Ok) (hA : GoodA A (k + 1)) (hfr : A.frames = some (env :: outer)) (henv : env.frame = some env.locals) (hout : ∀ e ∈ outer, e.scope.kind ≠ .module ∧ ∃ L ∈ fr, e.frame = some L)
    (hf : FnX W k f it l i ds PX R) (hkf : env.kindOf f = some .globalImplicit) (hdf : (f == ("__debug__" : Str)) = false) (hst : GlobVal W "StopIteration" (.type "StopIteration")) (hks : env.kindOf "StopIteration" = some .globalImplicit)
    (ht : Δ.lookup told = some (.ref a)) (hkt : (told == ("__debug__" : Str)) = false ∧ (told == ("__classdict__" : Str)) = false) (ha : μ a = some (.lst ys)) (hsrc : Δ.lookup src = some (.ref it)) (hksrc : (src == ("__debug__" : Str)) = false ∧ (src == ("__classdict__" : Str)) = false)
    (hit : μ it = some (.itr l i ds)) (hsz : ys.length ≤ sizeLine) (hline : (apos.endLine == cp.line) = true)
    (hnext : ∀ v n, R v n → K .next Δ ((μ.set it (.itr l (i + n) ds)).set a (.lst (ys ++ [.int v])))) (hstop : PX → K (.ret (.list ys)) [] (fun _ => none)) :
    Wp1 W A fr env (.Try [.Expr (.Call (.Attribute (.Name told pt) "append" apos) [.Call (.Name f pf) [.Name src ps] [] cp2] [] cp) ep]
      [.ExceptHandler (some (.Name "StopIteration" np)) none [.Return (some (.Name told rp)) rp2] hp] [] [] pos) Δ μ K := fun B F₀ F s Q E S kk => by
  obtain ⟨fv, hg, hkp, hcall⟩ := hf
  have hait : a ≠ it := fun e => by rw [e, hit] at ha; cases ha
  refine wpAny_Try_except ?_
  refine wpAny_execs_cons (wpAny_Expr ?_ (interactive_fn S.st.eok.kind) rfl)
  have ho : Ev W A env Δ μ (.Name told pt) (.ref a) := Ev.name hW ht hkt.1 hkt.2
  refine Call_method1 (base_eq rfl _) (starEach_cons rfl) hline (wpAny_mono (ho F s _ S.st) (fun v s₁ h₁ => ?_) fun _ _ e => e)
  obtain ⟨F₁, x₁, r₁⟩ := h₁
  rw [RelV] at r₁; subst r₁
  have S₁ := S.ext x₁
  obtain ⟨hF, vs, n, hg1, hr⟩ := S₁.st.mu a _ ha
  refine ⟨"list", "list.append", PySem.F.plainAttrs_list, PySem.F.slot_list_append, PySem.F.type_list_append, ⟨_, hg1, rfl⟩, (fun b e => by cases e; exact ⟨_, hg1, rfl⟩), ?_⟩
  refine Calls.callWith_builtin rfl (Calls.evalArgs_plain (Calls.spliced_cons ?_))
  refine Call_ (wpAny_Name (loadGlob hW S₁.st hg hkf ?_) hdf) rfl
  refine callWith_any hkp (.cons rfl (Ev.name hW hsrc hksrc.1 hksrc.2) .nil) (by simp) S₁.st fun F₂ s₂ vs₂ x₂ r₂ => ?_
  rw [RelVs] at r₂; obtain ⟨v₂, r', rfl, q1, q2⟩ := r₂
  rw [RelVs] at q2; subst q2
  rw [RelV] at q1; subst q1
  have S₂ := S₁.ext x₂
  refine hcall A env outer fr B F₀ F₂ Δ μ s₂ _ _ hA hfr henv hout S₂ hit (fun v n t F' s' hR S' => ?_) (fun px s' e base a0 hsame hfl hup hk => ?_)
  · refine Calls.spliced_nil ?_
    refine append_sf (d := .int v) S' (ys := ys) (by rw [MM.set_ne hait]; exact ha) (by rw [RelV]; exact ⟨_, rfl⟩) hsz fun s'' S'' => ?_
    exact wpAny_execs_nil (wpAny_execs_nil (kk .next _ _ _ _ (hnext v n hR) S''))
  · refine wpAny_looks_onW hfr henv hfl fun h₄ hheld₄ hsm₄ => ?_
    refine wpAny_landsW (s := { s' with heap := h₄ }) hheld₄ fun h₅ hfl₅ hsm₅ => ?_
    have S₅ : Sf W fr B F₀ env Δ (dropM μ it) F₂ { s' with heap := h₅ } := S₂.land hit henv hout (by obtain ⟨h, tk, e⟩ := hsame; exact ⟨h₅, s'.toks, by rw [e]⟩)
      (fun b o g1 g2 g3 => hfl₅.1 b o (hk b o g1 g2 g3)) ((hup.trans hsm₄).trans hsm₅)
    refine wpAny_handleBy_builtin (X := "StopIteration") (T := "StopIteration") (b := true) exc_stop nt_stop isSubtype_stop (wpAny_Name (loadGlob hW S₅.st hst hks ?_) (by decide))
    obtain ⟨ob, hob, hobc⟩ := hfl₅.there
    refine ⟨rfl, ⟨ob, hob, hobc⟩, ?_⟩
    simp only [if_true]
    refine lands_againW (s := { s' with heap := h₅ }) hfl₅ fun h₆ hfl₆ hsm₆ => ?_
    have S₆ : Sf W fr B F₀ env Δ (dropM μ it) F₂ { s' with heap := h₆ } := S₂.land hit henv hout (by obtain ⟨h, tk, e⟩ := hsame; exact ⟨h₆, s'.toks, by rw [e]⟩)
      (fun b o g1 g2 g3 => hfl₆.1 b o (hk b o g1 g2 g3)) (((hup.trans hsm₄).trans hsm₅).trans hsm₆)
    obtain ⟨v, hv, rv⟩ := S₆.st.vars told _ ht
    rw [RelV] at rv; subst rv
    refine wpAny_execs_cons (wpAny_Return_some (wpAny_Name (loadVar hW S₆.st hv ?_ hkt.2) hkt.1))
    obtain ⟨F₇, S₇, _, hrel⟩ := S₆.freeze (a := a) (ds := ys) (Δ' := []) (μ' := fun _ => none) (by unfold dropM; rw [if_neg hait]; exact ha) (fun _ _ e => by cases e) (fun _ _ e => by cases e)
    exact kk (.ret (.list ys)) _ _ F₇ _ (hstop px) S₇ (.ref a) (hrel _ (by rw [RelV]))

/-- iter(xs) of a frozen list -/
theorem EvA.iter {p pos : Pos} {e : Expr} {ds : List D} {P : D → MM → Prop} (hW : W.Ok) (hi : GlobVal W "iter" (.builtin "iter")) (hk : env.kindOf "iter" = some .globalImplicit) (hn : notStar e = true) (he : Ev W A env Δ μ e (.list ds))
    (hp : ∀ a l, μ a = none → P (.ref a) (μ.set a (.itr l 0 ds))) : EvA W A fr env Δ μ (.Call (.Name "iter" p) [e] [] pos) P := fun B F₀ F s E S => by
  refine Call_ (wpAny_Name (loadGlob hW S.st hi hk ?_) (by decide)) rfl
  refine callWith_any (.inl ⟨_, rfl⟩) (.cons hn he .nil) (by simp) S.st fun F₁ s₁ vs x r => ?_
  rw [RelVs] at r; obtain ⟨v, r', rfl, h1, h2⟩ := r
  rw [RelVs] at h2; subst h2
  rw [RelV] at h1; obtain ⟨l, us, n, rfl, hl, hr⟩ := h1
  have S₁ := S.ext x
  refine Calls.call_function_entry (by decide +kernel) (by decide +kernel) PySem.W.kdk_entry_iter (PySem.W.kdk_args_iter _) ?_
  unfold Builtin.«iter»
  refine wpAny_bind (m := someArgs "iter" 1 2 _) (wpAny_of_eq (a := [Value.ref l]) (by first | rfl | kernel_rfl!) ?_)
  show wpAny _ _ (pyIter (.ref l) >>= _) _ _ _
  refine wpAny_bind (wpAny_pyIter_list (lobj_isList (S₁.st.sub _ _ hl)) ?_)
  refine wpAny_pure ⟨_, rfl, ?_⟩
  have x' := Ext.ofKeeps (F := F₁) S₁.st.sub (Keeps.push s₁ { cls := .type "list_iterator", data := .fields #[.ref l, .int 0 0] })
  obtain ⟨S₂, hμ⟩ := S₁.addM (a := s₁.heap.objs.size) x' (noneF S₁.st) fresh_get (m := .itr l 0 ds) ⟨⟨_, Heap.get?_push_size _ rfl, rfl, rfl⟩, us, n, hl, hr⟩
  exact ⟨.ref s₁.heap.objs.size, _, F₁, hp _ l hμ, S₂, x.sub, by rw [RelV]⟩
end
end Mine

open PySem PySem.W PyProof.Rows
set_option Elab.async false
set_option linter.unusedVariables false
namespace Mine

section
variable {W : Wd} {A : Around} {fr : List Addr} {env : Env} {Δ : Ctx} {μ : MM} {K : Out → Ctx → MM → Prop} {B F₀ F F' : FM} {s s' : Shared}

/-- a call that may have touched the frames' slots is over -/
theorem Sf.over (S : Sf W fr B F₀ env Δ μ F s) {outer : List Env} (henv : env.frame = some env.locals) (hout : ∀ e ∈ outer, e.scope.kind ≠ .module ∧ ∃ L ∈ fr, e.frame = some L)
    (hsame : ∃ h tk, s' = { W.s₁ with heap := h, toks := tk }) (hk : ∀ b o, s.heap.get? b = some o → ∃ sl, s'.heap.get? b = some { o with slots := sl } ∧ (b ∉ framesOf (env :: outer) → sl = o.slots))
    (hsub : FSub F F') (hinn : ∀ a o, F' a = some o → s'.heap.get? a = some o) (hnew : ∀ a, F' a ≠ none → F a = none → s.heap.get? a = none) :
    Sf W fr B F₀ env Δ μ F' s' := by
  have hfrm : ∀ b ∈ framesOf (env :: outer), b = env.locals ∨ b ∈ fr := fun b hb => by
    unfold framesOf at hb
    obtain ⟨x, hx, hb'⟩ := List.mem_filterMap.mp hb
    rcases List.mem_cons.mp hx with rfl | hx
    · rw [henv] at hb'; cases hb'; exact .inl rfl
    · obtain ⟨_, L, h1, h2⟩ := hout x hx
      rw [h2] at hb'; cases hb'; exact .inr h1
  have exact' : ∀ b o, b ∉ framesOf (env :: outer) → s.heap.get? b = some o → s'.heap.get? b = some o := fun b o hb e => by
    obtain ⟨sl, g1, g2⟩ := hk b o e; rw [g1, g2 hb]
  have hMfr : ∀ b ∈ framesOf (env :: outer), μ b = none := fun b hb => by
    rcases hfrm b hb with rfl | h
    · exact S.st.nsM
    · obtain ⟨o, h1, _⟩ := S.frB b h
      cases e : μ b with
      | none => rfl
      | some m => rw [S.own b m e] at h1; cases h1
  have hCfr : ∀ y c, (y, c) ∈ env.cells → c ∉ framesOf (env :: outer) := fun y c hc hm => by
    rcases hfrm c hm with h | h
    · exact (S.st.cellF y c hc).2.2.1 h
    · obtain ⟨o, h1, _⟩ := S.frB c h
      rw [S.cel y c hc] at h1; cases h1
  have keepC : ∀ y c, (y, c) ∈ env.cells → ∀ o, s.heap.get? c = some o → s'.heap.get? c = some o := fun y c hc o e => exact' c o (hCfr y c hc) e
  have nsUp : ∀ {a : Addr} {m : Str → Option Value}, s.heap.Ns a m → s'.heap.Ns a m := fun {a m} hn => by
    obtain ⟨o, es, ep, ho, hd, r⟩ := hn
    obtain ⟨sl, g1, _⟩ := hk a o ho
    exact ⟨_, es, ep, g1, hd, r⟩
  have hnone : ∀ a, F a = none → (∃ o, s.heap.get? a = some o) → F' a = none := fun a h1 ⟨o, h2⟩ => by
    cases h3 : F' a with
    | none => rfl
    | some o' => have := hnew a (by rw [h3]; simp) h1; rw [h2] at this; cases this
  refine ⟨⟨S.st.eok, hsame, fun b o e => hsub _ _ (S.st.base b o e), hinn, fun x d hx => ?_, fun a m e => ?_, ?_, ?_, S.st.nsM, fun y c hc => ?_, S.st.apart⟩, fun b o hB => ?_, S.frB, S.frF₀, S.loc, S.cel, S.own, S.fsub.trans hsub, fun a h1 h2 => ?_⟩
  · obtain ⟨v, hv, rv⟩ := S.st.vars x d hx
    refine ⟨v, ?_, rv.mono hsub⟩
    rcases hv with ⟨h1, m', hm', hmy⟩ | ⟨h1, c, hc, hv'⟩ | h1
    · exact .inl ⟨h1, m', nsUp hm', hmy⟩
    · exact .inr (.inl ⟨h1, c, hc, IsCell_of (keepC x c (mem_of_lookup hc)) hv'⟩)
    · exact .inr (.inr h1)
  · obtain ⟨h1, h2⟩ := S.st.mu a m e
    have ha : a ∉ framesOf (env :: outer) := fun h => by rw [hMfr a h] at e; cases e
    exact ⟨hnone a h1 h2.some, (h2.same fun o e' => exact' a o ha e').keeps hsub fun _ _ e => e⟩
  · obtain ⟨m, hn⟩ := S.st.ns; exact ⟨m, nsUp hn⟩
  · obtain ⟨m, o, es, ep, e, _⟩ := S.st.ns
    exact hnone _ S.st.nsF ⟨_, e⟩
  · obtain ⟨h1, h2, h3, v, h4⟩ := S.st.cellF y c hc
    obtain ⟨o, e, _⟩ := id h4
    exact ⟨hnone _ h1 ⟨_, e⟩, h2, h3, v, IsCell_of (keepC y c hc) h4⟩
  · obtain ⟨sl, g1, g2⟩ := S.keep b o hB
    obtain ⟨sl', g3, g4⟩ := hk b _ g1
    refine ⟨sl', g3, fun hn => ?_⟩
    have hb : b ∉ framesOf (env :: outer) := fun hm => by
      rcases hfrm b hm with h | h
      · rw [h, S.loc] at hB; cases hB
      · exact hn h
    rw [g4 hb, ← g2 hn]
  · cases h3 : F a with
    | some o => exact S.fnew a (by rw [h3]; simp) h2
    | none =>
      have h4 := hnew a h1 h3
      cases h5 : B a with
      | none => rfl
      | some o => obtain ⟨o', h6⟩ := S.there h5; rw [h6] at h4; cases h4

/-- a call that catches within -/
def FnOkS (W : Wd) (k : Nat) (f : Str) (ds : List D) (d : D) : Prop :=
  ∃ fv, GlobVal W f fv ∧ Keeper W fv ∧ ∀ (A : Around) (env : Env) (outer : List Env) (fr : List Addr) (B F₀ F : FM) (Δ : Ctx) (μ : MM) (s : Shared) (E : Value → Shared → Prop) (vs : List Value),
    GoodA A k → A.frames = some (env :: outer) → env.frame = some env.locals → (∀ e ∈ outer, e.scope.kind ≠ .module ∧ ∃ L ∈ fr, e.frame = some L) → Sf W fr B F₀ env Δ μ F s → RelVs F ds vs →
      wpAny W.M A (call fv vs) (fun v s' => ∃ F', Sf W fr B F₀ env Δ μ F' s' ∧ FSub F F' ∧ RelV F' d v) E s

theorem fnOkS {k : Nat} {f : Str} {params : Arguments} {body : List Stmt} {scope : Scope} {ps : List Str} {ds : List D} {d : D} (hW : W.Ok) (hfn : FnAt W f params body scope) (hs : FnScope scope ps) (hlen : ps.length = ds.length)
    (hbind : ∀ pm code doc vs, vs.length = ds.length → bindArgs (Calls.docDef f params body scope pm code doc) ⟨vs, []⟩ = pure (ps.zip vs))
    (hbody : ∀ A env outer, GoodA A k → EnvOk env → env.scope = scope → A.frames = some (env :: outer) → env.frame = some env.locals → (∀ e ∈ outer, e.scope.kind ≠ .module ∧ ∃ L ∈ framesOf outer, e.frame = some L) →
      Wp W A (framesOf outer) env body (ps.zip ds) (fun _ => none) (fun o _ _ => o = .ret d)) : FnOkS W (k + 1) f ds d := by
  obtain ⟨a, o, pm, code, doc, hm, ho, hd, hcode⟩ := hfn
  refine ⟨.ref a, .inl hm, .inr (.inr ⟨a, o, _, rfl, ho, hd⟩), fun A env outer fr B F₀ F Δ μ s E vs hA hfr henv hout S r => ?_⟩
  have hframes : ∀ b ∈ framesOf (env :: outer), F b = none ∧ ∃ o, s.heap.get? b = some o ∧ ∀ vs, o.data ≠ .fields vs := fun b hb => by
    unfold framesOf at hb
    obtain ⟨x, hx, hb'⟩ := List.mem_filterMap.mp hb
    rcases List.mem_cons.mp hx with rfl | hx
    · rw [henv] at hb'; cases hb'
      obtain ⟨m, oo, es, ep, q1, q2, _⟩ := S.st.ns
      exact ⟨S.st.nsF, oo, q1, fun vs' e => by rw [q2] at e; cases e⟩
    · obtain ⟨_, L, h1, h2⟩ := hout x hx
      rw [h2] at hb'; cases hb'
      obtain ⟨oo, g4, g5⟩ := S.frB b h1
      obtain ⟨sl, g6, _⟩ := S.keep b oo g4
      exact ⟨S.frF h1, _, g6, g5⟩
  have hout' : ∀ e ∈ env :: outer, e.scope.kind ≠ .module ∧ ∃ L ∈ framesOf (env :: outer), e.frame = some L := fun e he => by
    have hL : ∃ L, e.frame = some L ∧ e.scope.kind ≠ .module := by
      rcases List.mem_cons.mp he with rfl | he
      · exact ⟨_, henv, by rw [S.st.eok.kind]; decide⟩
      · obtain ⟨h1, L, _, h3⟩ := hout e he; exact ⟨L, h3, h1⟩
    obtain ⟨L, h1, h2⟩ := hL
    exact ⟨h2, L, by unfold framesOf; exact List.mem_filterMap.mpr ⟨e, he, h1⟩, h1⟩
  refine enterF hW ho hd hcode hs hlen (hbind pm code doc) (fr := framesOf (env :: outer)) (B := fun b => s.heap.get? b) (μ₀ := fun _ => none) hA S.st.same S.st.base S.st.sub r (fun b m e => by cases e) (fun _ _ e => e) (fun b hb => ⟨(hframes b hb).2, (hframes b hb).1⟩) fun fenv s₁ hA' eok hsc hframe _ Sfn => ?_
  refine hbody (A.deeper fenv) fenv (env :: outer) hA' eok hsc (Around.frames_deeper hfr) hframe hout' _ F F s₁ _ _ Sfn fun o' Δ' μ' F' s' hK S' => ?_
  subst hK
  intro v hv
  exact ⟨F', S.over henv hout S'.st.same (fun b ob e => S'.keep b ob e) S'.fsub S'.st.sub S'.fnew, S'.fsub, hv⟩

theorem Wp1.assignCallS {x f : Str} {px pf pos p : Pos} {es : List Expr} {ds : List D} {d : D} {k : Nat} {outer : List Env} (hW : W.Ok) (hA : GoodA A k) (hfr : A.frames = some (env :: outer)) (henv : env.frame = some env.locals)
    (hout : ∀ e ∈ outer, e.scope.kind ≠ .module ∧ ∃ L ∈ fr, e.frame = some L) (hf : FnOkS W k f ds d) (hkf : env.kindOf f = some .globalImplicit) (hdf : (f == ("__debug__" : Str)) = false)
    (hk : env.kindOf x = some .local ∨ env.kindOf x = some .cell) (hl : EvL W A env Δ μ es ds) (hne : es ≠ []) (h : K .next ((x, d) :: Δ) μ) : Wp1 W A fr env (.Assign [.Name x px] (.Call (.Name f pf) es [] p) pos) Δ μ K := fun B F₀ F s Q E S kk => by
  obtain ⟨fv, hg, hkp, hcall⟩ := hf
  refine wpAny_Assign_Name ?_ rfl
  refine Call_ (wpAny_Name (loadGlob hW S.st hg hkf ?_) hdf) rfl
  refine callWith_any hkp hl hne S.st fun F₁ s₁ vs x₁ r => ?_
  refine wpAny_mono (hcall A env outer fr B F₀ F₁ Δ μ s₁ E vs hA hfr henv hout (S.ext x₁) r) (fun v s₂ h₂ => ?_) fun _ _ e => e
  obtain ⟨F₂, S₂, x₂, r₂⟩ := h₂
  exact store_sf S₂ hk r₂ fun s' S' => kk .next _ _ F₂ s' h S'

end
end Mine

open PySem PySem.W PyProof.Rows
set_option Elab.async false
set_option linter.unusedVariables false
namespace Mine

theorem toPys_ints (ns : List Int) : toPys (ns.map .int) = some (ns.map .int) := by induction ns with | nil => rfl | cons n r ih => simp [toPys, toPy, ih]
theorem toPys_strs (ns : List Str) : toPys (ns.map .str) = some (ns.map .str) := by induction ns with | nil => rfl | cons n r ih => simp [toPys, toPy, ih]
theorem canLay_ints (ns : List Int) : PyData.canLayAll0 (ns.map .int) = true := by induction ns with | nil => rfl | cons n r ih => simp [PyData.canLayAll0, PyData.canLay0, ih]
theorem canLay_strs (ns : List Str) : PyData.canLayAll0 (ns.map .str) = ns.all PyData.strOk := by induction ns with | nil => rfl | cons n r ih => simp [PyData.canLayAll0, PyData.canLay0, ih]
theorem depth_ints (ns : List Int) : PyData.depthAll (ns.map .int) = 0 := by induction ns with | nil => rfl | cons n r ih => simp [PyData.depthAll, PyData.depth, ih]
theorem depth_strs (ns : List Str) : PyData.depthAll (ns.map .str) = 0 := by induction ns with | nil => rfl | cons n r ih => simp [PyData.depthAll, PyData.depth, ih]
theorem shaped_ints (ns : List Int) : SeqAt.shaped (.list (ns.map .int)) = true := by simp [SeqAt.shaped, PyData.canLay0, canLay_ints, PyData.depth, depth_ints]
theorem shaped_strs {ns : List Str} (h : ∀ x ∈ ns, PyData.strOk x = true) : SeqAt.shaped (.list (ns.map .str)) = true := by
  simp [SeqAt.shaped, PyData.canLay0, canLay_strs, PyData.depth, depth_strs]; exact h
theorem eqvAll_ints : ∀ (a b : List Int), PyData.eqvAll (a.map .int) (b.map .int) = decide (a = b)
  | [], [] => rfl
  | [], _ :: _ => rfl
  | _ :: _, [] => rfl
  | x :: a, y :: b => by
    simp only [List.map_cons, PyData.eqvAll, PyData.eqv, eqvAll_ints a b]
    by_cases h : x = y <;> simp [h]
theorem eqvAll_strs : ∀ (a b : List Str), PyData.eqvAll (a.map .str) (b.map .str) = decide (a = b)
  | [], [] => rfl
  | [], _ :: _ => rfl
  | _ :: _, [] => rfl
  | x :: a, y :: b => by
    simp only [List.map_cons, PyData.eqvAll, PyData.eqv, eqvAll_strs a b]
    by_cases h : x = y <;> simp [h]
theorem eqD_ints (a b : List Int) : eqD (.list (a.map .int)) (.list (b.map .int)) = some (decide (a = b)) := by
  simp [eqD, toPy, toPys_ints, shaped_ints, PyData.eqv, eqvAll_ints]
theorem eqD_strs {a b : List Str} (ha : ∀ x ∈ a, PyData.strOk x = true) (hb : ∀ x ∈ b, PyData.strOk x = true) : eqD (.list (a.map .str)) (.list (b.map .str)) = some (decide (a = b)) := by
  simp [eqD, toPy, toPys_strs, shaped_strs ha, shaped_strs hb, PyData.eqv, eqvAll_strs]
theorem eqD_refl {d : D} {x : PyData} (h : toPy d = some x) (hs : SeqAt.shaped x = true) : eqD d d = some true := by
  simp [eqD, h, hs, SeqAt.eqv_refl x (SeqAt.canLay_of_shaped hs)]

theorem strOk_append {a b : Str} (ha : PyData.strOk a = true) (hb : PyData.strOk b = true) : PyData.strOk (a ++ b) = true := by
  unfold PyData.strOk at *
  rw [show (a ++ b).cps = a.cps ++ b.cps from rfl, Array.all_append, ha, hb]; rfl
theorem strOk_join {sep : Str} (hs : PyData.strOk sep = true) {xs : List Str} (h : ∀ x ∈ xs, PyData.strOk x = true) : PyData.strOk (Txt.join sep xs) = true := by
  have key : ∀ (l : List Str) (acc : Array Nat), (∀ x ∈ l, PyData.strOk x = true) → PyData.strOk ⟨acc⟩ = true → PyData.strOk ⟨l.foldl (fun acc p => acc ++ sep.cps ++ p.cps) acc⟩ = true := by
    intro l
    induction l with
    | nil => intro acc _ h; exact h
    | cons x r ih =>
      intro acc hl ha
      rw [List.foldl_cons]
      refine ih _ (fun z hz => hl z (List.mem_cons_of_mem _ hz)) ?_
      exact strOk_append (a := ⟨acc ++ sep.cps⟩) (b := x) (strOk_append (a := ⟨acc⟩) (b := sep) ha hs) (hl x List.mem_cons_self)
  show PyData.strOk ⟨(xs.drop 1).foldl (fun acc p => acc ++ sep.cps ++ p.cps) (xs.headD Str.empty).cps⟩ = true
  refine key _ _ (fun x hx => h x (List.mem_of_mem_drop hx)) ?_
  cases xs with
  | nil => decide +kernel
  | cons x r => exact h x List.mem_cons_self
end Mine
namespace Mine
theorem binD_int {μ : MM} {op : Operator} {x y : Int} : binD μ op (.int x) (.int y) = (arith op x y).map .int := rfl
theorem binD_str {μ : MM} {x y : Str} : binD μ .Add (.str x) (.str y) = if x.length + y.length ≤ sizeLine then some (.str (x ++ y)) else none := by simp [binD]
theorem binD_strmul {μ : MM} {x : Str} {n : Int} : binD μ .Mult (.str x) (.int n) = if 0 ≤ n ∧ n ≤ 1000 ∧ x.length ≤ 1000 then some (.str (Txt.mul x n)) else none := by simp [binD]
theorem binD_addl {μ : MM} {xs ys : List D} : binD μ .Add (.list xs) (.list ys) = if xs.length + ys.length ≤ sizeLine then some (.list (xs ++ ys)) else none := by simp [binD, asList]
theorem asList_ref {μ : MM} {a : Addr} {xs : List D} (h : μ a = some (.lst xs)) : asList μ (.ref a) = some xs := by simp [asList, h]
theorem idxD_list {μ : MM} {xs : List D} {i : Nat} {x : D} (h : xs[i]? = some x) (hi : i < 2 ^ 63) : idxD μ (.list xs) i = some x := by
  unfold idxD; rw [if_pos ⟨by omega, by omega⟩]; simp only [asList]; simp [idxL, h]
theorem idxD_ref {μ : MM} {a : Addr} {xs : List D} {i : Nat} {x : D} (hm : μ a = some (.lst xs)) (h : xs[i]? = some x) (hi : i < 2 ^ 63) : idxD μ (.ref a) i = some x := by
  unfold idxD; rw [if_pos ⟨by omega, by omega⟩]; simp only [asList_ref hm]; simp [idxL, h]
theorem idxD_str {μ : MM} {x : Str} {i : Nat} (h : i < x.length) (hi : x.length < 2 ^ 62) : idxD μ (.str x) i = some (.str (Txt.item x i)) := by
  unfold idxD; rw [if_pos ⟨by omega, by omega⟩]; simp only []; rw [if_pos ⟨by omega, by omega⟩]
end Mine
namespace Mine
section
variable {Φ Ψ : Str → List D → Option D} {μ : MM} {Δ : Ctx} {n : Nat}
theorem evD_comp {α : Type} {elt iter : Expr} {x : Str} {p q : Pos} {as : Int} {scope : Scope} {l : List α} {g h : α → D} (hi : itD Φ Ψ μ n iter Δ = some (l.map g)) (he : ∀ y ∈ l, evD Φ Ψ μ n elt ((x, g y) :: freeCtx scope Δ) = some (h y)) (hs : l.length ≤ sizeLine) :
    evD Φ Ψ μ (n + 1) (.ListComp elt [⟨.Name x p, iter, [], as⟩] scope q) Δ = some (.list (l.map h)) := by
  rw [eC1, hi, optS_s]
  refine (congrArg (optS · sized) (collect_map (h := h) fun y hy => ?_)).trans (sized_of (by simpa using hs))
  show Option.map _ (evD Φ Ψ μ n elt _) = _
  rw [he y hy]; rfl
theorem evD_compIf {α : Type} {elt iter c : Expr} {x : Str} {p q : Pos} {as : Int} {scope : Scope} {l : List α} {g h : α → D} {f : α → Bool} (hi : itD Φ Ψ μ n iter Δ = some (l.map g)) (hc : ∀ y ∈ l, tstD Φ Ψ μ n c ((x, g y) :: freeCtx scope Δ) = some (f y))
    (he : ∀ y ∈ l, f y = true → evD Φ Ψ μ n elt ((x, g y) :: freeCtx scope Δ) = some (h y)) (hs : l.length ≤ sizeLine) :
    evD Φ Ψ μ (n + 1) (.ListComp elt [⟨.Name x p, iter, [c], as⟩] scope q) Δ = some (.list ((l.filter f).map h)) := by
  rw [eC1, hi, optS_s]
  refine (congrArg (optS · sized) (collect_filter (h := h) (p := f) fun y hy => ?_)).trans (sized_of (by rw [List.length_map]; exact Nat.le_trans (List.length_filter_le ..) hs))
  simp only []
  rw [hc y hy]
  cases e : f y with
  | true => simp only [he y hy e]; rfl
  | false => rfl
theorem evD_comp2 {α β : Type} {elt iter iter' : Expr} {x x' : Str} {p p' q : Pos} {as as' : Int} {scope : Scope} {l : List α} {g : α → D} {l' : α → List β} {g' : α → β → D} {h : α → β → D} (hi : itD Φ Ψ μ n iter Δ = some (l.map g))
    (hi' : ∀ y ∈ l, itD Φ Ψ μ n iter' ((x, g y) :: freeCtx scope Δ) = some ((l' y).map (g' y))) (he : ∀ y ∈ l, ∀ z ∈ l' y, evD Φ Ψ μ n elt ((x', g' y z) :: (x, g y) :: freeCtx scope Δ) = some (h y z)) (hs : (l.flatMap fun y => (l' y).map (h y)).length ≤ sizeLine) :
    evD Φ Ψ μ (n + 1) (.ListComp elt [⟨.Name x p, iter, [], as⟩, ⟨.Name x' p', iter', [], as'⟩] scope q) Δ = some (.list (l.flatMap fun y => (l' y).map (h y))) := by
  rw [eC2, hi, optS_s]
  refine (congrArg (optS · sized) (collect_flat (h := fun y => (l' y).map (h y)) fun y hy => ?_)).trans (sized_of hs)
  rw [hi' y hy]
  exact collect_map (h := h y) fun z hz => by rw [he y hy z hz]; rfl
theorem itD_of {e : Expr} {d : D} {xs : List D} (h : evD Φ Ψ μ n e Δ = some d) (hl : asList μ d = some xs) (hn : ∀ f p as q, e ≠ .Call (.Name f p) as [] q) : itD Φ Ψ μ (n + 1) e Δ = some xs := by
  have key : itD Φ Ψ μ (n + 1) e Δ = (evD Φ Ψ μ n e Δ).bind (asList μ) := by
    cases e with
    | Call f as ks q => cases f with
      | Name f p => cases ks with
        | nil => exact absurd rfl (hn f p as q)
        | cons => rfl
      | _ => rfl
    | _ => rfl
  rw [key, h]; exact hl
end
end Mine

open PySem PySem.W PyProof.Rows
set_option Elab.async false
set_option linter.unusedVariables false
namespace Mine

theorem pick_run' {α : Type} (xs : List α) (a b : Nat) (hb : b ≤ xs.length) : ((List.range (b - a)).map (a + ·)).filterMap (xs[·]?) = (xs.drop a).take (b - a) := by
  apply List.ext_getElem?
  intro i
  rw [List.filterMap_map]
  have key : ∀ n, a + n ≤ xs.length → (List.range n).filterMap ((xs[·]?) ∘ (a + ·)) = (xs.drop a).take n := by
    intro n
    induction n with
    | zero => intro _; simp
    | succ n ih =>
      intro h
      rw [List.range_succ, List.filterMap_append, ih (by omega)]
      have h1 : a + n < xs.length := by omega
      have h2 : n < (xs.drop a).length := by simp; omega
      rw [List.take_succ_eq_append_getElem h2]
      simp [h1]
  by_cases hab : a ≤ b
  · rw [key (b - a) (by omega)]
  · have : b - a = 0 := by omega
    simp [this]

theorem pickL_plain {α : Type} (xs : List α) (lo hi : Option Int) : pickL xs lo hi none = (xs.drop (lo.elim 0 (clipAt xs.length))).take (hi.elim xs.length (clipAt xs.length) - lo.elim 0 (clipAt xs.length)) := by
  unfold pickL
  rw [sliceBounds_plain]
  simp only [sliceRange_one]
  refine pick_run' xs _ _ ?_
  cases hi with
  | none => exact Nat.le_refl _
  | some h => have := clipAt_cast xs.length h; simp only [Option.elim_some]; omega
theorem pickL_from {α : Type} (xs : List α) (n : Nat) : pickL xs (some (n : Int)) none none = xs.drop n := by
  rw [pickL_plain]
  simp only [Option.elim_some, Option.elim_none, clipAt_nat]
  rw [List.take_of_length_le (by simp)]
  by_cases h : n ≤ xs.length
  · rw [Nat.min_eq_left h]
  · rw [Nat.min_eq_right (by omega), List.drop_length, List.drop_eq_nil_of_le (by omega)]
theorem pickL_mid {α : Type} (xs : List α) (a b : Nat) : pickL xs (some (a : Int)) (some (b : Int)) none = (xs.drop a).take (b - a) := by
  rw [pickL_plain]
  simp only [Option.elim_some, clipAt_nat]
  by_cases h : a ≤ xs.length
  · rw [Nat.min_eq_left h]
    by_cases h2 : b ≤ xs.length
    · rw [Nat.min_eq_left h2]
    · rw [Nat.min_eq_right (by omega), List.take_of_length_le (by simp), List.take_of_length_le (by simp; omega)]
  · rw [Nat.min_eq_right (by omega : xs.length ≤ a), List.drop_length, List.drop_eq_nil_of_le (by omega)]; simp

section
variable {W : Wd} {A : Around} {fr : List Addr} {env : Env} {Δ : Ctx} {μ : MM} {K : Out → Ctx → MM → Prop}



end
end Mine

open PySem PySem.W PyProof.Rows
set_option Elab.async false
set_option linter.unusedVariables false
namespace Mine


section
variable {W : Wd} {A : Around} {fr : List Addr} {env : Env} {Δ : Ctx} {μ : MM} {K : Out → Ctx → MM → Prop} {B F₀ F : FM} {s : Shared}


end
end Mine

open PySem PySem.W PyProof.Rows
set_option Elab.async false
set_option linter.unusedVariables false
namespace Mine

/-- the loop of a comprehension over pairs -/
def CompRunT (W : Wd) (A : Around) (env : Env) (Δ : Ctx) (μ : MM) (e : Expr) (scope : Scope) (names : List Str) (xs : List (D × D)) (out : List D) : Prop :=
  ∀ (cenv : Env) (F : FM) (s₀ s : Shared) (it : Value) (Acc : Addr) (R : Result → Shared → Prop) fp wr P Stw Mid I, In W env scope cenv → it = .ref I → St W cenv (freeCtx scope Δ) (μ.set Acc (.lst [])) F s → μ Acc = none →
    WalksT W.prog W.w A I fp wr xs.length P Stw Mid → Stw 0 s.heap → (∀ i vals, P i vals → ∃ d v₁ v₂, xs[i]? = some d ∧ vals = #[v₁, v₂] ∧ RelV F d.1 v₁ ∧ RelV F d.2 v₂) → (∀ i h, Stw i h → ∀ b ∈ wr, h.get? b ≠ none) →
    (∀ b ∈ fp, b ∉ xaOf cenv names ∧ b ≠ Acc) → (∀ b ∈ wr, F b = none ∧ μ b = none ∧ b ≠ cenv.locals ∧ (∀ y, (y, b) ∉ cenv.cells) ∧ b ≠ Acc) →
    (∀ F' s', St W cenv (freeCtx scope Δ) (μ.set Acc (.lst out)) F' s' → ExtBut (Acc :: xaOf cenv names ++ wr) F s F' s' → R (.ok .next) s') →
    codeAny W.M A (.compLoop e 0 it (.ref Acc) cenv) R s

structure ItrT where
  I : Addr
  fp : List Addr
  wr : List Addr
  P : Nat → Array Value → Prop
  Stw : Nat → Heap → Prop
  Mid : Nat → Addr → Heap → Prop
structure SrcTAt (W : Wd) (A : Around) (F₂ : FM) (s s₂ : Shared) (xs : List (D × D)) (i : ItrT) : Prop where
  hW : WalksT W.prog W.w A i.I i.fp i.wr xs.length i.P i.Stw i.Mid
  now : i.Stw 0 s₂.heap
  hP : ∀ j vals, i.P j vals → ∃ d v₁ v₂, xs[j]? = some d ∧ vals = #[v₁, v₂] ∧ RelV F₂ d.1 v₁ ∧ RelV F₂ d.2 v₂
  hfd : ∀ b ∈ i.fp, s₂.heap.get? b ≠ none
  hwr : ∀ b ∈ i.wr, F₂ b = none ∧ s.heap.get? b = none
  hex : ∀ j h, i.Stw j h → ∀ b ∈ i.wr, h.get? b ≠ none
def SrcT (W : Wd) (A : Around) (F₂ : FM) (s s₂ : Shared) (it : Value) (xs : List (D × D)) : Prop := ∃ i : ItrT, it = .ref i.I ∧ SrcTAt W A F₂ s s₂ xs i
def IterEvT (W : Wd) (A : Around) (env : Env) (Δ : Ctx) (μ : MM) (iter : Expr) (xs : List (D × D)) : Prop :=
  ∀ F s (E : Value → Shared → Prop), St W env Δ μ F s → wpAny W.M A (eval iter env) (fun x s₁ => wpAny W.M A (pyIter x) (fun it s₂ => ∃ F₂, Ext F s F₂ s₂ ∧ SrcT W A F₂ s s₂ it xs) E s₁) E s

section
variable {W : Wd} {A : Around} {env : Env} {Δ : Ctx} {μ : MM}

theorem comp_allT {elt : Expr} {g : Comprehension} {gs : List Comprehension} {scope : Scope} {pos p : Pos} {use : Option (Value → Sem Unit)} {names : List Str} {xs : List (D × D)} {out : List D} {Q : Value → Shared → Prop} {E : Value → Shared → Prop} {F : FM} {s : Shared}
    (ok : ScopeOk scope env) (hown : ∀ x ∈ names, OwnName scope x) (hset : notSet g.iter = true) (hasync : g.is_async = 0) (hit : IterEvT W A env Δ μ g.iter xs)
    (run : CompRunT W A env Δ μ (.ListComp elt (g :: gs) scope p) scope names xs out) (S : St W env Δ μ F s)
    (fin : ∀ F' s' Acc C, Made W F s out F' s' Acc C → compPost W.M A E use Q (.ref Acc) C (.ok .next) s') :
    wpAny W.M A (comprehension (.ListComp elt (g :: gs) scope p) scope env pos (newList []) false (eval g.iter env) use) Q E s := by
  refine comp_gen ok hown hset hasync (wpAny_mono (hit F s E S) (fun x s₁ h₁ => wpAny_mono h₁ (fun it s₂ h₂ => ?_) fun _ _ e => e) fun _ _ e => e) S fin
  obtain ⟨F₂, x₂, i, rfl, q⟩ := h₂
  exact ⟨F₂, i.I, i.fp, i.wr, i.Stw 0, rfl, x₂, q.hW.sub, q.now, q.hW.frame 0, q.hW.self 0, q.hfd, q.hwr, fun cenv s₄ Acc R hin S₅ hA st₄ hfp hwr' hR => run cenv F₂ s s₄ _ Acc R i.fp i.wr i.P i.Stw i.Mid i.I hin rfl S₅ hA q.hW st₄ q.hP q.hex hfp hwr' hR⟩

/-- the turn of a comprehension over pairs -/
def LoopCodeT (W : Wd) (A : Around) (env : Env) (c : Code) (it : Value) (target : Expr) (B : (Unit → Shared → Prop) → (Value → Shared → Prop) → Shared → Prop) : Prop :=
  ∀ (R : Result → Shared → Prop) (I : Nat → Shared → Prop),
    (∀ n s, I n s → wpAny W.M A (pyNext it) (fun r s₁ => match r with
      | none => R (.ok .next) s₁
      | some v => wpAny W.M A (letOwnedTupleGo target it v) (fun _ s₁' => wpAny W.M A (assign target env v) (fun _ s₂ =>
          B (fun _ s₅ => ∃ m, m < n ∧ I m s₅) (notedBy W.M A env fun e s' => R (.error e) s') s₂) (notedBy W.M A env fun e s' => R (.error e) s') s₁') (notedBy W.M A env fun e s' => R (.error e) s') s₁) (notedBy W.M A env fun e s' => R (.error e) s') s) →
    ∀ n s, I n s → codeAny W.M A c R s

theorem loop1T {elt iter target : Expr} {scope : Scope} {pos : Pos} {it acc : Value} :
    LoopCodeT W A env (.compLoop (.ListComp elt [⟨target, iter, [], 0⟩] scope pos) 0 it acc env) it target (emitB W A elt acc env) := by
  intro R I turn n s h
  refine codeAny_loop rfl I (fun n s hI => ?_) n h
  rw [Around.under_of_weight rfl]
  show wpAny W.M A ((compTurn (.ListComp elt [⟨target, iter, [], 0⟩] scope pos) 0 it acc env).onRaise (fun x => do noteFrame x env; theTreesLotGoes x)) _ _ s
  rw [compTurn_list]
  refine wpAny_noted ?_
  refine wpAny_bind (wpAny_standAt (wpAny_bind (wpAny_mono (turn n s hI) (fun r s₁ h₁ => ?_) fun _ _ h' => h')))
  cases r with
  | none => exact wpAny_pure h₁
  | some v =>
    refine wpAny_bind (wpAny_mono h₁ (fun _ s₁' h₁' => ?_) fun _ _ h' => h')
    refine wpAny_bind (wpAny_mono h₁' (fun _ s₂ h₂ => ?_) fun _ _ h' => h')
    refine wpAny_bind (wpAny_tests_nil ?_)
    simp only [if_true]
    exact wpAny_bind (wpAny_bind (wpAny_mono h₂ (fun v s₁ h₁ => wpAny_bind (wpAny_mono h₁ (fun _ s₂ h₂ => wpAny_pure (wpAny_pure ⟨rfl, h₂⟩)) fun _ _ e => e)) fun _ _ e => e))
end
end Mine

open PySem PySem.W PyProof.Rows
set_option Elab.async false
set_option linter.unusedVariables false
namespace Mine
section
variable {W : Wd} {A : Around} {env : Env} {Δ : Ctx} {μ : MM}

theorem SrcT.after {F F' : FM} {s s' s₂ : Shared} {it : Value} {xs : List (D × D)} (x : Ext F s F' s') (h : ∃ F₂, Ext F' s' F₂ s₂ ∧ SrcT W A F₂ s' s₂ it xs) : ∃ F₂, Ext F s F₂ s₂ ∧ SrcT W A F₂ s s₂ it xs := by
  obtain ⟨F₂, x₂, i, e1, q⟩ := h
  refine ⟨F₂, x.trans x₂, i, e1, q.hW, q.now, q.hP, q.hfd, fun b hb => ⟨(q.hwr b hb).1, ?_⟩, q.hex⟩
  cases e : s.heap.get? b with
  | none => rfl
  | some o => have := (q.hwr b hb).2; rw [Keeps.get x.keeps e] at this; cases this

/-- enumerate(list) -/
def enumL (ds : List D) : List (D × D) := (List.range ds.length).map fun (i : Nat) => (D.int ((i : Nat) : Int), ds[i]?.getD .none)

theorem IterEvT.enumerate (hW : W.Ok) {p pos : Pos} {e : Expr} {ds : List D} (hh : A.handled = none) (hg : GlobVal W "enumerate" (.type "enumerate")) (hk : env.kindOf "enumerate" = some .globalImplicit) (hn : notStar e = true) (he : Ev W A env Δ μ e (.list ds)) :
    IterEvT W A env Δ μ (.Call (.Name "enumerate" p) [e] [] pos) (enumL ds) := fun F s E S => by
  refine Call_ (wpAny_Name (loadGlob hW S hg hk ?_) (by decide)) rfl
  refine callWith_any (.inr (.inl ⟨_, rfl⟩)) (.cons hn he .nil) (by simp) S fun F' s' vs x r => ?_
  have S' := S.ext x
  rw [RelVs] at r; obtain ⟨v, r', rfl, h1, h2⟩ := r
  rw [RelVs] at h2; subst h2
  rw [RelV] at h1; obtain ⟨l, vs, n, rfl, hFl, hrel⟩ := h1
  have hget := S'.sub _ _ hFl
  have hL := lobj_isList hget
  have hlt : l < s'.heap.objs.size := Heap.lt_size hget
  refine call_enumerate_list hL fun h' hE hI hsz hkp => ?_
  refine wpAny_pyIter_enum hE ?_
  have kp : Keeps s' { s' with heap := h' } := ⟨h', s'.toks, rfl, hkp⟩
  refine SrcT.after x ⟨F', Ext.ofKeeps S'.sub kp, ?_⟩
  have hw := WalksT.enumerate (prog := W.prog) (w := W.w) (A := A) hh (s'.heap.objs.size + 1) s'.heap.objs.size l (Nat.succ_ne_self _) (Nat.ne_of_lt (Nat.lt_succ_of_lt hlt)) (Nat.ne_of_lt hlt) vs.toArray
  have hlen : vs.toArray.size = (enumL ds).length := by simp [enumL, hrel.length]
  rw [hlen] at hw
  have fresh : ∀ k, s'.heap.get? (s'.heap.objs.size + k) = none := fun k => by
    cases e : s'.heap.get? (s'.heap.objs.size + k) with
    | none => rfl
    | some o => exact absurd (Heap.lt_size e) (Nat.not_lt.mpr (Nat.le_add_right _ _))
  have freshF : ∀ k, F' (s'.heap.objs.size + k) = none := fun k => by
    cases e : F' (s'.heap.objs.size + k) with
    | none => rfl
    | some o => have := S'.sub _ _ e; rw [fresh k] at this; cases this
  refine ⟨⟨_, _, _, _, _, _⟩, rfl, hw, ⟨⟨_, hE⟩, hI, hL.at fun o e => hkp _ o e⟩, fun i vals hv => ?_, fun b hb => ?_, fun b hb => ?_, fun i h st b hb => ?_⟩
  · obtain ⟨t, y, hy, rfl⟩ := hv
    have h' : vs[i]? = some y := by simpa using hy
    have hi : i < ds.length := by rw [← hrel.length]; exact (List.getElem?_eq_some_iff.mp h').1
    obtain ⟨v', h1, h2⟩ := hrel.get (i := i) (d := ds[i]) (by simp [hi])
    rw [h1] at h'; cases h'
    exact ⟨(.int (i : Int), ds[i]), _, _, by simp [enumL, hi], rfl, by rw [RelV]; exact ⟨t, rfl⟩, h2⟩
  · simp at hb
    have hE' : h'.get? _ = some _ := hE
    obtain ⟨oI, eI, _⟩ := hI
    rcases hb with rfl | rfl | rfl
    · show h'.get? _ ≠ none
      rw [hE']; simp
    · show h'.get? _ ≠ none
      rw [eI]; simp
    · show h'.get? _ ≠ none
      rw [hkp _ _ hget]; simp
  · simp at hb
    rcases hb with rfl | rfl
    · exact ⟨freshF 1, fresh 1⟩
    · exact ⟨freshF 0, fresh 0⟩
  · obtain ⟨⟨old, hE'⟩, ⟨oI, eI, _⟩, _⟩ := st
    have hE'' : h.get? _ = some _ := hE'
    simp at hb
    rcases hb with rfl | rfl
    · rw [hE'']; simp
    · rw [eI]; simp

theorem comp_coreT {c : Code} {x x' : Str} {px px' tp : Pos} {tk : Nat} {B : (Unit → Shared → Prop) → (Value → Shared → Prop) → Shared → Prop} {I : Addr} {fp wr : List Addr} {P : Nat → Array Value → Prop} {Stw : Nat → Heap → Prop} {Mid : Nat → Addr → Heap → Prop}
    {xs : List (D × D)} {Acc : Addr} {xa : List Addr} {o : Nat → D} {F : FM} {s : Shared} {R : Result → Shared → Prop} (hh : A.handled = none)
    (LC : LoopCodeT W A env c (.ref I) (.Tuple [.Name x px, .Name x' px'] tk tp) B)
    (hW : WalksT W.prog W.w A I fp wr xs.length P Stw Mid) (hst : Stw 0 s.heap) (hP : ∀ i vals, P i vals → ∃ d v₁ v₂, xs[i]? = some d ∧ vals = #[v₁, v₂] ∧ RelV F d.1 v₁ ∧ RelV F d.2 v₂)
    (hex : ∀ i h, Stw i h → ∀ b ∈ wr, h.get? b ≠ none)
    (hxk : env.kindOf x = some .local ∨ env.kindOf x = some .cell) (hxk' : env.kindOf x' = some .local ∨ env.kindOf x' = some .cell)
    (hxa : ∀ b, (b = env.locals ∧ env.kindOf x = some .local ∨ env.cells.lookup x = some b ∧ env.kindOf x = some .cell) → b ∈ xa)
    (hxa' : ∀ b, (b = env.locals ∧ env.kindOf x' = some .local ∨ env.cells.lookup x' = some b ∧ env.kindOf x' = some .cell) → b ∈ xa)
    (hfp : ∀ b ∈ fp, b ∉ xa ∧ b ≠ Acc)
    (hwr : ∀ b ∈ wr, F b = none ∧ μ b = none ∧ b ≠ env.locals ∧ (∀ y, (y, b) ∉ env.cells) ∧ b ≠ Acc)
    (hΔ : ∀ y d, Δ.lookup y = some d → y ≠ x) (hΔ' : ∀ y d, Δ.lookup y = some d → y ≠ x') (hAcc : μ Acc = none)
    (hsz : xs.length ≤ sizeLine)
    (body : ∀ i d, xs[i]? = some d → ∀ ys F s (Q : Unit → Shared → Prop) (E : Value → Shared → Prop), St W env ((x', d.2) :: (x, d.1) :: Δ) (μ.set Acc (.lst ys)) F s → ys.length + 1 ≤ sizeLine →
        (∀ F' s', St W env ((x', d.2) :: (x, d.1) :: Δ) (μ.set Acc (.lst (ys ++ [o i]))) F' s' → ExtBut (Acc :: xa) F s F' s' → Q () s') → B Q E s)
    (S : St W env Δ (μ.set Acc (.lst [])) F s)
    (hR : ∀ F' s', St W env Δ (μ.set Acc (.lst ((List.range xs.length).map o))) F' s' → ExtBut (Acc :: xa ++ wr) F s F' s' → R (.ok .next) s') :
    codeAny W.M A c R s := by
  refine LC R (fun k s' => ∃ i F', k = xs.length + 1 - i ∧ i ≤ xs.length ∧ St W env Δ (μ.set Acc (.lst ((List.range i).map o))) F' s' ∧ ExtBut (Acc :: xa ++ wr) F s F' s' ∧ Stw i s'.heap ∧ ∀ b ∈ wr, F' b = none) ?_ (xs.length + 1) s
    ⟨0, F, rfl, Nat.zero_le _, by simpa using S, .rfl', hst, fun b hb => (hwr b hb).1⟩
  rintro k s' ⟨i, F', rfl, hi, S', x1, st', hF'⟩
  have wrOk : ∀ (F' : FM) (ys : List D), (∀ b ∈ wr, F' b = none) → ∀ b ∈ wr, F' b = none ∧ (μ.set Acc (.lst ys)) b = none ∧ b ≠ env.locals ∧ ∀ y, (y, b) ∉ env.cells := fun F' ys hF b hb =>
    ⟨hF b hb, by rw [MM.set_ne (hwr b hb).2.2.2.2]; exact (hwr b hb).2.1, (hwr b hb).2.2.1, (hwr b hb).2.2.2.1⟩
  by_cases hlt : i < xs.length
  · refine hW.item i s' _ _ hlt st' fun T vals h₁ tk₁ hPv hTs hT hMid hk₁ => ?_
    obtain ⟨d, v₁, v₂, hd, rfl, rv₁, rv₂⟩ := hP i vals hPv
    have kb : KeepsBut wr s' { s' with heap := h₁, toks := tk₁ } := ⟨h₁, tk₁, rfl, fun b ob hb e => hk₁ b ob hb e⟩
    have S₁ := S'.frame kb (wrOk F' _ hF')
    have hTw : T ∉ wr := hW.apart _ _ _ hMid
    refine hW.go _ _ _ i T _ _ _ hMid fun h₂ st₂ hk₂ => ?_
    have kb₂ : KeepsBut wr { s' with heap := h₁, toks := tk₁ } { s' with heap := h₂, toks := tk₁ } := ⟨h₂, tk₁, rfl, fun b ob hb e => hk₂ b ob hb e⟩
    have S₂ := S₁.frame kb₂ (wrOk F' _ hF')
    have hT₂ : h₂.IsTuple T #[v₁, v₂] := hT.at fun ob e => hk₂ T ob hTw e
    refine wpAny_assign_Tuple hh (s := { s' with heap := h₂, toks := tk₁ }) hT₂ rfl rfl fun h₃ hx₃ => ?_
    have kp₃ : Keeps { s' with heap := h₂, toks := tk₁ } { s' with heap := h₃, toks := tk₁ } := ⟨h₃, tk₁, rfl, fun b ob e => hx₃ b ob (Nat.ne_of_lt (Heap.lt_size e)) e⟩
    have S₃ := S₂.ext (Ext.ofKeeps S₂.sub kp₃)
    have st₃ : Stw (i + 1) h₃ := hW.frame _ _ _ st₂ fun c _ oc e => Keeps.get kp₃ e
    have x₃ : ExtBut (Acc :: xa ++ wr) F s F' { s' with heap := h₃, toks := tk₁ } := x1.trans ((ExtBut.same ((kb.trans kb₂).trans (KeepsBut.ofKeeps kp₃))).mono fun b hb => by simp [hb])
    refine assignInOrder_cons (wpAny_assign_Name (S₃.store hxk (rv₁.mono x1.sub) fun s₄ b hb S₄ x₄ => ?_))
    refine assignInOrder_cons (wpAny_assign_Name (S₄.store hxk' (rv₂.mono x1.sub) fun s₅ b' hb' S₅ x₅ => ?_))
    refine assignInOrder_nil ?_
    have hm := hxa b hb
    have hm' := hxa' b' hb'
    have x₅' : ExtBut (Acc :: xa ++ wr) F s F' s₅ := (x₃.trans (x₄.mono fun c hc => by simp at hc; subst hc; simp [hm])).trans (x₅.mono fun c hc => by simp at hc; subst hc; simp [hm'])
    have st₅ : Stw (i + 1) s₅.heap := hW.frame _ _ _ st₃ fun c hc oc e => x₅.keeps.get (by simp; rintro rfl; exact (hfp c hc).1 hm') (x₄.keeps.get (by simp; rintro rfl; exact (hfp c hc).1 hm) e)
    refine body i d hd _ F' s₅ _ _ S₅ (by simp; omega) fun F₆ s₆ S₆ x₆ => ?_
    have hkeep : ∀ c ∈ fp, ∀ oc, s₅.heap.get? c = some oc → s₆.heap.get? c = some oc := fun c hc oc e => x₆.keeps.get (by simp; exact ⟨(hfp c hc).2, (hfp c hc).1⟩) e
    refine ⟨xs.length + 1 - (i + 1), by omega, i + 1, F₆, rfl, by omega, ?_, x₅'.trans (x₆.mono fun c hc => by simp at hc ⊢; rcases hc with h | h <;> simp [h]), hW.frame _ _ _ st₅ hkeep, fun b hb => ?_⟩
    · have hstep : (List.range (i + 1)).map o = (List.range i).map o ++ [o i] := by rw [List.range_succ, List.map_append]; rfl
      rw [hstep]
      exact S₆.weakenV fun y e h => by
        refine lookup_cons_ne (lookup_cons_ne h (hΔ y e h)) (hΔ' y e h)
    · cases e : F₆ b with
      | none => rfl
      | some ob =>
        rcases x₆.new b (by rw [e]; simp) (hF' b hb) with h1 | h1
        · exact absurd h1 (hex _ _ st₅ b hb)
        · have hbf := hfp b (hW.sub b hb)
          simp at h1
          rcases h1 with h1 | h1
          · exact absurd h1 hbf.2
          · exact absurd h1 hbf.1
  · have hin : i = xs.length := by omega
    subst hin
    refine hW.done s' _ _ st' fun h₁ tk₁ hk₁ => ?_
    have kb : KeepsBut wr s' { s' with heap := h₁, toks := tk₁ } := ⟨h₁, tk₁, rfl, fun b ob hb e => hk₁ b ob hb e⟩
    exact hR F' _ (S'.frame kb (wrOk F' _ hF')) (x1.trans ((ExtBut.same kb).mono fun b hb => by simp [hb]))

theorem run1T {elt iter : Expr} {x x' : Str} {px px' tp : Pos} {tk : Nat} {scope : Scope} {p : Pos} {xs : List (D × D)} {o : Nat → D} (hh : A.handled = none) (ok : ScopeOk scope env) (hx : OwnName scope x) (hx' : OwnName scope x')
    (hsz : xs.length ≤ sizeLine)
    (body : ∀ cenv, In W env scope cenv → ∀ i d, xs[i]? = some d → Ev W A cenv ((x', d.2) :: (x, d.1) :: freeCtx scope Δ) μ elt (o i)) :
    CompRunT W A env Δ μ (.ListComp elt [⟨.Tuple [.Name x px, .Name x' px'] tk tp, iter, [], 0⟩] scope p) scope [x, x'] xs ((List.range xs.length).map o) := by
  intro cenv F s₀ s it Acc R fp wr P Stw Mid I hin hit S hAcc hW hst hP hex hfp hwr hR
  subst hit
  have kx : cenv.kindOf x = some .local ∨ cenv.kindOf x = some .cell := by
    rcases own_kind ok hin.sc hx with h | h
    · exact .inl h.1
    · exact .inr h.1
  have kx' : cenv.kindOf x' = some .local ∨ cenv.kindOf x' = some .cell := by
    rcases own_kind ok hin.sc hx' with h | h
    · exact .inl h.1
    · exact .inr h.1
  refine comp_coreT (B := emitB W A elt (.ref Acc) cenv) (o := o) (xa := xaOf cenv [x, x']) hh loop1T hW hst hP hex kx kx' (fun b hb => own_xa ok hin.sc (by simp) hb) (fun b hb => own_xa ok hin.sc (by simp) hb) hfp hwr
    (fun y d h => own_ne ok hx h) (fun y d h => own_ne ok hx' h) hAcc hsz (fun i d hd ys F s Q E S hsz h => ?_) S hR
  exact emit_ok hAcc (body cenv hin i d hd) S hsz h

variable {fr : List Addr} {K : Out → Ctx → MM → Prop}

end
end Mine

open PySem PySem.W PyProof.Rows
set_option Elab.async false
set_option linter.unusedVariables false
namespace Mine
section
variable {W : Wd}
/-- the law's own call -/
theorem lawRun {k : Nat} {f : Str} {params : Arguments} {body : List Stmt} {scope : Scope} {ps : List Str} {ds : List D} {d : D} (hW : W.Ok) (hfn : FnAt W f params body scope) (hs : FnScope scope ps) (hlen : ps.length = ds.length)
    (hbind : ∀ pm code doc vs, vs.length = ds.length → bindArgs (Calls.docDef f params body scope pm code doc) ⟨vs, []⟩ = pure (ps.zip vs))
    (hbody : ∀ A env, GoodA A k → EnvOk env → env.scope = scope → A.frames = some [env] → env.frame = some env.locals → Wp W A [] env body (ps.zip ds) (fun _ => none) (fun o _ _ => o = .ret d)) :
    ∃ a, W.mg f = some (.ref a) ∧ ∀ (A : Around) (F : FM) (s : Shared) (Q : Value → Shared → Prop) (E : Value → Shared → Prop) (vs : List Value), GoodA A (k + 1) → A.frames = some [] → (∃ h tk, s = { W.s₁ with heap := h, toks := tk }) →
      (∀ b o, W.s₁.heap.get? b = some o → F b = some o) → (∀ a o, F a = some o → s.heap.get? a = some o) → RelVs F ds vs →
      (∀ v F' s', RelV F' d v → (∃ h tk, s' = { W.s₁ with heap := h, toks := tk }) → (∀ a o, F' a = some o → s'.heap.get? a = some o) → FSub F F' → (∀ b o, s.heap.get? b = some o → ∃ sl, s'.heap.get? b = some { o with slots := sl }) → Q v s') →
      wpAny W.M A (call (.ref a) vs) Q E s := by
  obtain ⟨a, o, pm, code, doc, hm, ho, hd, hcode⟩ := hfn
  refine ⟨a, hm, fun A F s Q E vs hA hfr hsame hbase hsub r hQ => ?_⟩
  refine enterF hW ho hd hcode hs hlen (hbind pm code doc) (fr := []) (B := fun b => s.heap.get? b) (μ₀ := fun _ => none) hA hsame hbase hsub r (fun b m e => by cases e) (fun _ _ e => e) (fun b hb => by cases hb) fun fenv s₁ hA' eok hsc hframe _ Sfn => ?_
  refine hbody (A.deeper fenv) fenv hA' eok hsc (Around.frames_deeper hfr) hframe _ F F s₁ _ _ Sfn fun o' Δ' μ' F' s' hK S' => ?_
  subst hK
  intro v hv
  exact hQ v F' s' hv S'.st.same S'.st.sub S'.fsub fun b ob e => by
    obtain ⟨sl, h1, _⟩ := S'.keep b ob e
    exact ⟨sl, h1⟩
end
end Mine

set_option linter.unusedSimpArgs false
open PySem PySem.W PyProof.Rows
set_option Elab.async false
set_option linter.unusedVariables false
namespace Mine

set_option maxRecDepth 100000
section
variable {W : Wd} {A : Around} {env : Env} {Δ : Ctx} {μ : MM} {K : Out → Ctx → MM → Prop} {Φ Ψ : Str → List D → Option D} {k : Nat} {sc : Scope}

theorem Cx.swap (C : Cx W A env μ Φ Ψ k sc) {value : Expr} {x : Str} {px : Pos} {line : Nat} {b : Bool} (h : swapB sc.names value x px = some b) : swapsWith value (some (.Name x px)) line env = pure b :=
  swap_of C.eok (by rw [C.sc]; exact h)
theorem Cx.evs (C : Cx W A env μ Φ Ψ k sc) (n : Nat) {es : List Expr} {ds : List D} (ok : (es.all fun e => okE n sc.names e && notStar e) = true) (h : evs (fun e => evD Φ Ψ μ n e Δ) es = some ds) : EvL W A env Δ μ es ds :=
  evs_sound (fun e d h1 h2 => (sound C.ok C.good C.tab n).1 e Δ d env C.eok h1 h2) (by rw [C.sc]; exact ok) h
theorem Cx.rangeF (C : Cx W A env μ Φ Ψ k sc) (n : Nat) {p pos : Pos} {es : List Expr} {ds : List D} {a b c : Int} (hk : sc.names.lookup (Str.ofString "range") = some .globalImplicit) (ok : (es.all fun e => okE n sc.names e && notStar e) = true) (h : Mine.evs (fun e => evD Φ Ψ μ n e Δ) es = some ds)
    (hr : rangeArgs ds = some (a, b, c)) (hsm : Builtin.Range.small a b c = true) : IterEvF W A env Δ μ (.Call (.Name "range" p) es [] pos) ((rangeL a b c).map .int) :=
  IterEvF.range C.ok C.good.handled C.tab.range (C.kind hk) (C.evs n ok h) hr hsm
theorem Cx.listF (C : Cx W A env μ Φ Ψ k sc) (n : Nat) {e : Expr} {xs : List D} (ok : okE n sc.names e = true) (h : evD Φ Ψ μ n e Δ = some (.list xs)) : IterEvF W A env Δ μ e xs := IterEvF.list C.good.handled (C.ev n ok h)
theorem Cx.iterE (C : Cx W A env μ Φ Ψ k sc) (n : Nat) {e : Expr} {xs : List D} (ok : okE n sc.names e = true) (h : evD Φ Ψ μ n e Δ = some (.list xs)) : IterEvF W A env Δ μ e xs := IterEvF.list C.good.handled (C.ev n ok h)
end
theorem Cx.comp {W : Wd} {A : Around} {env : Env} {Δ : Ctx} {μ : MM} {Φ Ψ : Str → List D → Option D} {k : Nat} {sc : Scope} (C : Cx W A env μ Φ Ψ k sc) (n : Nat) {elt : Expr} {gens : List Comprehension} {scope : Scope} {p : Pos} {d : D}
    (ok : okE (n + 1) sc.names (.ListComp elt gens scope p) = true) (h : evD Φ Ψ μ (n + 1) (.ListComp elt gens scope p) Δ = some d) : CompOk W A env Δ μ elt gens scope p d :=
  comp_sound C.ok C.good C.tab n C.eok (by rw [C.sc]; exact ok) h

/-- one function's frame, all in one -/
structure Fr (Φ Ψ : MM → Str → List D → Option D) (sc : Scope) where
  W : Wd
  A : Around
  fr : List Addr
  env : Env
  k : Nat
  cx : ∀ μ, Cx W A env μ (Φ μ) (Ψ μ) k sc

def R {Φ Ψ : MM → Str → List D → Option D} {sc : Scope} (F : Fr Φ Ψ sc) (ss : List Stmt) (Δ : Ctx) (μ : MM) (K : Out → Ctx → MM → Prop) : Prop := Wp F.W F.A F.fr F.env ss Δ μ K

abbrev Kg (P R : Ctx → MM → Prop) (T : D → Ctx → MM → Prop) : Out → Ctx → MM → Prop := fun o Δ μ => match o with
  | .next => P Δ μ
  | .cont => P Δ μ
  | .brk => R Δ μ
  | .ret d => T d Δ μ
abbrev Ko (P : Ctx → MM → Prop) : Out → Ctx → MM → Prop := fun o Δ μ => match o with
  | .next => P Δ μ
  | .cont => False
  | .brk => False
  | .ret _ => False
abbrev Kn (P : Ctx → MM → Prop) : Out → Ctx → MM → Prop := fun o Δ μ => match o with
  | .next => P Δ μ
  | .cont => P Δ μ
  | .brk => False
  | .ret _ => False

def nmB (sc : Scope) (x : Str) : Bool := sc.names.lookup x == some .local || sc.names.lookup x == some .cell
def asgB (n : Nat) (sc : Scope) (x : Str) (px : Pos) (e : Expr) : Bool := nmB sc x && swapB sc.names e x px == some false && okE n sc.names e
def appB (n : Nat) (sc : Scope) (o e : Expr) (apos cpos : Pos) : Bool := plainBase o && notStar e && (apos.endLine == cpos.line) && okE n sc.names o && okE n sc.names e
def rngB (n : Nat) (sc : Scope) (x : Str) (es : List Expr) : Bool := nmB sc x && sc.names.lookup (Str.ofString "range") == some .globalImplicit && es.all fun e => okE n sc.names e && notStar e

theorem mem_mapD {α : Type} {l : List α} {g : α → D} {i : Nat} {d : D} (h : (l.map g)[i]? = some d) : ∃ hi : i < l.length, d = g l[i] := by
  rw [List.getElem?_map] at h
  obtain ⟨x, hx, rfl⟩ := Option.map_eq_some_iff.mp h
  obtain ⟨hi, rfl⟩ := List.getElem?_eq_some_iff.mp hx
  exact ⟨hi, rfl⟩
theorem look_ne {x y : Str} {d : D} {Δ : Ctx} (h : (y == x) = false) : ((x, d) :: Δ).lookup y = Δ.lookup y := by rw [List.lookup_cons, h]
theorem look_eq {x : Str} {d : D} {Δ : Ctx} : ((x, d) :: Δ).lookup x = some d := by rw [List.lookup_cons, beq_self_eq_true]
theorem look_tl {x y : Str} {d e : D} {Δ : Ctx} (h : (y == x) = false) (h' : Δ.lookup y = some e) : ((x, d) :: Δ).lookup y = some e := (look_ne h).trans h'


/-- names that x is not among -/
def offN (N : List Str) (x : Str) : Bool := N.all fun y => !(y == x)
theorem offN_of {N : List Str} {x y : Str} (h : offN N x = true) (hy : N.elem y = true) : (y == x) = false := by
  have := List.all_eq_true.mp h y (List.elem_iff.mp hy)
  simpa using this
theorem look_off {N : List Str} {x y : Str} {d e : D} {Δ : Ctx} (h : offN N x = true) (hy : N.elem y = true) (h' : Δ.lookup y = some e) : ((x, d) :: Δ).lookup y = some e := look_tl (offN_of h hy) h'
theorem offN_sub {N N' : List Str} {x : Str} (hs : (N'.all fun y => N.elem y) = true) (h : offN N x = true) : offN N' x = true :=
  List.all_eq_true.mpr fun y hy => List.all_eq_true.mp h y (List.elem_iff.mp (List.all_eq_true.mp hs y hy))
theorem free_look {scope : Scope} {Δ : Ctx} {x : Str} {d : D} (h : (scope.names.lookup x == some .free) = true) (hd : Δ.lookup x = some d) : (freeCtx scope Δ).lookup x = some d := by
  have key : ∀ l : List (Str × NameKind), l.lookup x = some .free → (l.filterMap fun p => if p.2 == .free then (Δ.lookup p.1).map (p.1, ·) else none).lookup x = some d := by
    intro l
    induction l with
    | nil => intro h; cases h
    | cons p l ih =>
      obtain ⟨y, k⟩ := p
      intro h
      rw [List.lookup_cons] at h
      cases e : x == y with
      | true =>
        rw [e] at h; cases h
        obtain rfl := beq_iff_eq.mp e
        rw [List.filterMap_cons_some (b := (x, d)) (by show (Δ.lookup x).map (x, ·) = _; rw [hd]; rfl), List.lookup_cons, beq_self_eq_true]
      | false =>
        rw [e] at h
        have ih := ih h
        rw [List.filterMap_cons]
        split
        · exact ih
        · rename_i q hq
          split at hq
          · obtain ⟨z, _, rfl⟩ := Option.map_eq_some_iff.mp hq
            rw [List.lookup_cons, e]; exact ih
          · cases hq
  exact key _ (beq_iff_eq.mp h)
def eltE : Expr → Expr
  | .ListComp e _ _ _ => e
  | e => e
def whileB : Stmt → List Stmt
  | .While _ b _ _ => b
  | _ => []
theorem evN {Φ Ψ : Str → List D → Option D} {μ : MM} {Δ : Ctx} {n : Nat} {x : Str} {p : Pos} {d : D} (h : Δ.lookup x = some d) : evD Φ Ψ μ (n + 1) (.Name x p) Δ = some d := h
def forB : Stmt → List Stmt
  | .For _ _ b _ _ => b
  | _ => []
def valE : Stmt → Expr
  | .Assign _ e _ => e
  | _ => .Constant .none 0 ⟨0, 0, 0, 0⟩
theorem line_big : sizeLine = 16777216 := by decide
theorem sized_le {ds : List D} (h : ds.length ≤ 1000000) : sized ds = some (.list ds) := if_pos (by have := line_big; omega)
theorem len1 {α : Type} {l : List α} (h : l.length = 1) : ∃ a, l = [a] := by
  match l, h with
  | [a], _ => exact ⟨a, rfl⟩
theorem lenS {α : Type} {l : List α} {n : Nat} (h : l.length = n + 1) : ∃ a r, l = a :: r ∧ r.length = n := by
  cases l with
  | nil => cases h
  | cons a r => exact ⟨a, r, rfl, by simpa using h⟩
theorem len2 {α : Type} {l : List α} (h : l.length = 2) : ∃ a b, l = [a, b] := by
  obtain ⟨a, r, rfl, h'⟩ := lenS h; obtain ⟨b, rfl⟩ := len1 h'; exact ⟨a, b, rfl⟩
theorem len3 {α : Type} {l : List α} (h : l.length = 3) : ∃ a b c, l = [a, b, c] := by
  obtain ⟨a, r, rfl, h'⟩ := lenS h; obtain ⟨b, c, rfl⟩ := len2 h'; exact ⟨a, b, c, rfl⟩

section
variable {Φ Ψ : MM → Str → List D → Option D} {sc : Scope} {F : Fr Φ Ψ sc} {rest : List Stmt} {Δ : Ctx} {μ : MM} {K : Out → Ctx → MM → Prop}

theorem and3 {a b c : Bool} (h : (a && b && c) = true) : a = true ∧ b = true ∧ c = true := by cases a <;> cases b <;> cases c <;> first | exact ⟨rfl, rfl, rfl⟩ | cases h
theorem Fr.nm {x : Str} (h : nmB sc x = true) : F.env.kindOf x = some .local ∨ F.env.kindOf x = some .cell := by
  unfold nmB at h
  rcases Bool.or_eq_true _ _ ▸ h with h | h
  · exact .inl ((F.cx fun _ => none).kind (beq_iff_eq.mp h))
  · exact .inr ((F.cx fun _ => none).kind (beq_iff_eq.mp h))
theorem Fr.ev (n : Nat) {e : Expr} {d : D} (ok : okE n sc.names e = true) (h : evD (Φ μ) (Ψ μ) μ n e Δ = some d) : Ev F.W F.A F.env Δ μ e d := (F.cx μ).ev n ok h
theorem Fr.swap {e : Expr} {x : Str} {px : Pos} {line : Nat} {b : Bool} (h : (swapB sc.names e x px == some b) = true) : swapsWith e (some (.Name x px)) line F.env = pure b := (F.cx fun _ => none).swap (beq_iff_eq.mp h)

theorem R.mono {ss : List Stmt} {K' : Out → Ctx → MM → Prop} (h : R F ss Δ μ K') (hk : ∀ o Δ' μ', K' o Δ' μ' → K o Δ' μ') : R F ss Δ μ K := Wp.mono h hk
theorem R.nil (h : K .next Δ μ) : R F [] Δ μ K := Wp.nil h
theorem R.assign (n : Nat) {x : Str} {px pos : Pos} {e : Expr} {d : D} (ok : asgB n sc x px e = true) (h : evD (Φ μ) (Ψ μ) μ n e Δ = some d) (hr : R F rest ((x, d) :: Δ) μ K) :
    R F (.Assign [.Name x px] e pos :: rest) Δ μ K := by
  obtain ⟨h1, h2, h3⟩ := and3 ok
  exact Wp.cons (Wp1.assign (Fr.swap h2) (Fr.nm h1) (Fr.ev n h3 h) hr)
theorem R.new (n : Nat) {x : Str} {px pos : Pos} {e : Expr} {ds : List D} (ok : asgB n sc x px e = true) (he : EvNew F.W F.A F.env Δ μ e ds) (hr : ∀ a, μ a = none → R F rest ((x, .ref a) :: Δ) (μ.set a (.lst ds)) K) :
    R F (.Assign [.Name x px] e pos :: rest) Δ μ K := by
  obtain ⟨h1, h2, h3⟩ := and3 ok
  exact Wp.cons (Wp1.assignNew (Fr.swap h2) (Fr.nm h1) he hr)
theorem R.made {x : Str} {px pos : Pos} {e : Expr} {P : D → MM → Prop} (ok : (nmB sc x && swapB sc.names e x px == some false) = true) (he : EvA F.W F.A F.fr F.env Δ μ e P) (hr : ∀ d μ', P d μ' → R F rest ((x, d) :: Δ) μ' K) :
    R F (.Assign [.Name x px] e pos :: rest) Δ μ K := by
  obtain ⟨h1, h2⟩ := Bool.and_eq_true_iff.mp ok
  exact Wp.cons (Wp1.assignA (Fr.swap h2) (Fr.nm h1) he hr)
theorem R.used (n : Nat) {x : Str} {px pos p : Pos} {elt : Expr} {gens : List Comprehension} {scope : Scope} {d : D} (ok : (sc.names.lookup x == some .local && swapB sc.names (.ListComp elt gens scope p) x px == some true && okE (n + 1) sc.names (.ListComp elt gens scope p)) = true)
    (h : evD (Φ μ) (Ψ μ) μ (n + 1) (.ListComp elt gens scope p) Δ = some d) (hr : R F rest ((x, d) :: Δ) μ K) : R F (.Assign [.Name x px] (.ListComp elt gens scope p) pos :: rest) Δ μ K := by
  obtain ⟨h1, h2, h3⟩ := and3 ok
  exact Wp.cons (Wp1.assignUsed (Fr.swap h2) ((F.cx fun _ => none).kind (beq_iff_eq.mp h1)) ((F.cx μ).comp n h3 h) hr)
theorem R.aug (n : Nat) {x : Str} {px pos : Pos} {op : Operator} {e : Expr} {a b c : Int} (ok : (nmB sc x && !(x == ("__classdict__" : Str)) && okE n sc.names e) = true) (hx : Δ.lookup x = some (.int a)) (h : evD (Φ μ) (Ψ μ) μ n e Δ = some (.int b)) (ho : iarith op a b = some c)
    (hr : R F rest ((x, .int c) :: Δ) μ K) : R F (.AugAssign (.Name x px) op e pos :: rest) Δ μ K := by
  obtain ⟨h1, h2, h3⟩ := and3 ok
  exact Wp.cons (Wp1.augName (F.cx μ).ok (Fr.nm h1) hx (by simpa using h2) (Fr.ev n h3 h) ho hr)
theorem R.ret (n : Nat) {e : Expr} {pos : Pos} {d : D} (ok : okE n sc.names e = true) (h : evD (Φ μ) (Ψ μ) μ n e Δ = some d) (hk : K (.ret d) Δ μ) : R F (.Return (some e) pos :: rest) Δ μ K := Wp.cons (Wp1.ret (Fr.ev n ok h) hk)
theorem R.brk {pos : Pos} (hk : K .brk Δ μ) : R F (.Break pos :: rest) Δ μ K := Wp.cons (Wp1.break_ hk)
theorem R.append (n : Nat) {o e : Expr} {apos cpos pos : Pos} {a : Addr} {ys : List D} {d : D} (ok : appB n sc o e apos cpos = true) (ho : evD (Φ μ) (Ψ μ) μ n o Δ = some (.ref a)) (hm : μ a = some (.lst ys)) (he : evD (Φ μ) (Ψ μ) μ n e Δ = some d)
    (hsz : ys.length ≤ sizeLine) (hr : R F rest Δ (μ.set a (.lst (ys ++ [d]))) K) : R F (.Expr (.Call (.Attribute o "append" apos) [e] [] cpos) pos :: rest) Δ μ K := by
  obtain ⟨h1, h5⟩ := Bool.and_eq_true_iff.mp ok
  obtain ⟨h1, h4⟩ := Bool.and_eq_true_iff.mp h1
  obtain ⟨h1, h2, h3⟩ := and3 h1
  exact Wp.cons (Wp1.append h1 h2 h3 (Fr.ev n h4 ho) hm (Fr.ev n h5 he) hsz hr)
theorem R.extend (n : Nat) {o e : Expr} {apos cpos pos : Pos} {a : Addr} {ys zs : List D} {d : D} (ok : appB n sc o e apos cpos = true) (ho : evD (Φ μ) (Ψ μ) μ n o Δ = some (.ref a)) (hm : μ a = some (.lst ys)) (he : evD (Φ μ) (Ψ μ) μ n e Δ = some d)
    (hz : asList μ d = some zs) (hsz : ys.length + zs.length ≤ sizeLine) (hr : R F rest Δ (μ.set a (.lst (ys ++ zs))) K) : R F (.Expr (.Call (.Attribute o "extend" apos) [e] [] cpos) pos :: rest) Δ μ K := by
  obtain ⟨h1, h5⟩ := Bool.and_eq_true_iff.mp ok
  obtain ⟨h1, h4⟩ := Bool.and_eq_true_iff.mp h1
  obtain ⟨h1, h2, h3⟩ := and3 h1
  exact Wp.cons (Wp1.extend h1 h2 h3 (Fr.ev n h4 ho) hm (Fr.ev n h5 he) hz hsz hr)
theorem R.if_ (n : Nat) {t : Expr} {body orelse : List Stmt} {pos : Pos} {b : Bool} (ok : okT n sc.names t = true) (ht : tstD (Φ μ) (Ψ μ) μ n t Δ = some b) (h1 : b = true → R F body Δ μ K) (h2 : b = false → R F orelse Δ μ K) : R F [.If t body orelse pos] Δ μ K :=
  Wp.cons (Wp1.mono (Wp1.if_ ((F.cx μ).tst n ok ht) h1 h2) fun o Δ' μ' h => by cases o <;> first | exact Wp.nil h | exact h)
theorem R.forB {x : Str} {px pos : Pos} {iter : Expr} {body : List Stmt} {xs : List D} (Inv : Nat → Ctx → MM → Prop) (ok : (nmB sc x && notSet iter) = true) (hit : IterEvF F.W F.A F.env Δ μ iter xs) (h0 : Inv 0 Δ μ)
    (hbody : ∀ i d Δ μ (P R' : Ctx → MM → Prop) (T : D → Ctx → MM → Prop), xs[i]? = some d → Inv i Δ μ → (∀ Δ μ, Inv (i + 1) Δ μ → P Δ μ) → (∀ Δ μ, R F rest Δ μ K → R' Δ μ) → (∀ d Δ μ, K (.ret d) Δ μ → T d Δ μ) → R F body ((x, d) :: Δ) μ (Kg P R' T))
    (hrest : ∀ Δ μ, Inv xs.length Δ μ → R F rest Δ μ K) : R F (.For (.Name x px) iter body [] pos :: rest) Δ μ K := by
  obtain ⟨h1, h2⟩ := Bool.and_eq_true_iff.mp ok
  refine Wp.cons (Wp1.for_ Inv h2 (Fr.nm h1) hit h0 (fun i d Δ μ hd hi => Wp.mono (hbody i d Δ μ (Inv (i + 1)) (fun Δ μ => R F rest Δ μ K) (fun d => K (.ret d)) hd hi (fun _ _ h => h) (fun _ _ h => h) (fun _ _ _ h => h)) fun o Δ' μ' h => ?_) fun Δ μ h => Wp.nil (hrest Δ μ h))
  cases o <;> exact h
theorem R.for_ {x : Str} {px pos : Pos} {iter : Expr} {body : List Stmt} {xs : List D} (Inv : Nat → Ctx → MM → Prop) (ok : (nmB sc x && notSet iter) = true) (hit : IterEvF F.W F.A F.env Δ μ iter xs) (h0 : Inv 0 Δ μ)
    (hbody : ∀ i d Δ μ (P : Ctx → MM → Prop), xs[i]? = some d → Inv i Δ μ → (∀ Δ μ, Inv (i + 1) Δ μ → P Δ μ) → R F body ((x, d) :: Δ) μ (Kn P))
    (hrest : ∀ Δ μ, Inv xs.length Δ μ → R F rest Δ μ K) : R F (.For (.Name x px) iter body [] pos :: rest) Δ μ K :=
  R.forB Inv ok hit h0 (fun i d Δ μ P R' T hd hi hp _ _ => R.mono (hbody i d Δ μ P hd hi hp) fun o Δ' μ' h => by cases o <;> first | exact h | exact False.elim h) hrest
theorem R.forE {x : Str} {px pos : Pos} {iter : Expr} {body orelse : List Stmt} {xs : List D} (Inv : Nat → Ctx → MM → Prop) (ok : (nmB sc x && notSet iter) = true) (hit : IterEvF F.W F.A F.env Δ μ iter xs) (h0 : Inv 0 Δ μ)
    (hbody : ∀ i d Δ μ (P R' : Ctx → MM → Prop), xs[i]? = some d → Inv i Δ μ → (∀ Δ μ, Inv (i + 1) Δ μ → P Δ μ) → (∀ Δ μ, R F rest Δ μ K → R' Δ μ) → R F body ((x, d) :: Δ) μ (Kg P R' fun d Δ μ => False))
    (hend : ∀ Δ μ (P : Ctx → MM → Prop), Inv xs.length Δ μ → (∀ Δ μ, R F rest Δ μ K → P Δ μ) → R F orelse Δ μ (Ko P)) : R F (.For (.Name x px) iter body orelse pos :: rest) Δ μ K := by
  obtain ⟨h1, h2⟩ := Bool.and_eq_true_iff.mp ok
  refine Wp.cons (Wp1.for_ Inv h2 (Fr.nm h1) hit h0 (fun i d Δ μ hd hi => Wp.mono (hbody i d Δ μ (Inv (i + 1)) (fun Δ μ => R F rest Δ μ K) hd hi (fun _ _ h => h) (fun _ _ h => h)) fun o Δ' μ' h => ?_) fun Δ μ h => Wp.mono (hend Δ μ (fun Δ μ => R F rest Δ μ K) h (fun _ _ h => h)) fun o Δ' μ' h => ?_)
  · cases o <;> first | exact h | exact False.elim h
  · cases o <;> first | exact h | exact False.elim h
theorem Fr.rangeF (n : Nat) {p pos : Pos} {es : List Expr} {ds : List D} {a b c : Int} (ok : (sc.names.lookup (Str.ofString "range") == some .globalImplicit && es.all fun e => okE n sc.names e && notStar e) = true) (h : evs (fun e => evD (Φ μ) (Ψ μ) μ n e Δ) es = some ds)
    (hr : rangeArgs ds = some (a, b, c)) (hsm : Builtin.Range.small a b c = true) : IterEvF F.W F.A F.env Δ μ (.Call (.Name "range" p) es [] pos) ((rangeL a b c).map .int) := by
  obtain ⟨h1, h2⟩ := Bool.and_eq_true_iff.mp ok
  exact (F.cx μ).rangeF n (beq_iff_eq.mp h1) h2 h hr hsm
theorem small_of {a b c : Int} (h1 : a.natAbs ≤ 1000000) (h2 : b.natAbs ≤ 1000000) (h3 : c = 1 ∨ c = -1) : Builtin.Range.small a b c = true := by
  have hf : ∀ x : Int, x.natAbs ≤ 3000000 → Builtin.Range.rangeFitsLong x = true := fun x hx => by
    unfold Builtin.Range.rangeFitsLong; simp; omega
  have hs : (Builtin.Range.rangeSize a b c).natAbs ≤ 3000000 := by
    unfold Builtin.Range.rangeSize
    rcases h3 with rfl | rfl
    · simp only [show (1 : Int) > 0 by decide, if_true, Int.ediv_one]; split <;> omega
    · simp only [show ¬ (-1 : Int) > 0 by decide, if_false, Int.neg_neg, Int.ediv_one]; split <;> omega
  have hb : (Builtin.Range.rangeFitsLong b) = true := hf b (by omega)
  unfold Builtin.Range.small
  rcases h3 with rfl | rfl
  · simp [hf a (by omega), hb, hf 1 (by decide), hf _ hs]
  · simp [hf a (by omega), hb, hf (-1) (by decide), hf _ hs]
theorem small_up {a m : Nat} (ha : a ≤ 1000000) (hm : m ≤ 1000000) : Builtin.Range.small (a : Int) (m : Int) 1 = true := small_of (by omega) (by omega) (.inl rfl)
/-- for x in range(e) -/
theorem R.forN (n m : Nat) {x : Str} {px pos p cp : Pos} {e : Expr} {body : List Stmt} (Inv : Nat → Ctx → MM → Prop) (ok : rngB n sc x [e] = true) (he : evD (Φ μ) (Ψ μ) μ n e Δ = some (.int (m : Nat))) (hm : m ≤ 1000000) (h0 : Inv 0 Δ μ)
    (hbody : ∀ i Δ μ (P : Ctx → MM → Prop), i < m → Inv i Δ μ → (∀ Δ μ, Inv (i + 1) Δ μ → P Δ μ) → R F body ((x, .int (i : Nat)) :: Δ) μ (Kn P))
    (hrest : ∀ Δ μ, Inv m Δ μ → R F rest Δ μ K) : R F (.For (.Name x px) (.Call (.Name "range" p) [e] [] cp) body [] pos :: rest) Δ μ K := by
  obtain ⟨h1, h2, h3⟩ := and3 ok
  have e1 : (rangeL 0 (m : Nat) 1).map D.int = (List.range m).map fun (p : Nat) => D.int p := by rw [rangeL_up, List.map_map]; rfl
  have hit := Fr.rangeF (F := F) (μ := μ) (Δ := Δ) n (p := p) (pos := cp) (ds := [.int (m : Nat)]) (Bool.and_eq_true_iff.mpr ⟨h2, h3⟩) (by simp only [evs, he]) rfl (small_up (a := 0) (by decide) hm)
  rw [e1] at hit
  refine R.for_ Inv (Bool.and_eq_true_iff.mpr ⟨h1, rfl⟩) hit h0 (fun i d Δ μ P hd hi hp => ?_) fun Δ μ h => hrest Δ μ (by simpa using h)
  obtain ⟨hlt, rfl⟩ := mem_mapD hd
  simp only [List.length_range] at hlt
  simp only [List.getElem_range]
  exact hbody i Δ μ P hlt hi hp
/-- for x in range(e, e') -/
theorem R.forR (n a m : Nat) {x : Str} {px pos p cp : Pos} {e e' : Expr} {body : List Stmt} (Inv : Nat → Ctx → MM → Prop) (ok : rngB n sc x [e, e'] = true) (he : evD (Φ μ) (Ψ μ) μ n e Δ = some (.int (a : Nat))) (he' : evD (Φ μ) (Ψ μ) μ n e' Δ = some (.int (m : Nat))) (ha : a ≤ 1000000) (hm : m ≤ 1000000) (h0 : Inv 0 Δ μ)
    (hbody : ∀ i Δ μ (P : Ctx → MM → Prop), a + i < m → Inv i Δ μ → (∀ Δ μ, Inv (i + 1) Δ μ → P Δ μ) → R F body ((x, .int ((a + i : Nat) : Int)) :: Δ) μ (Kn P))
    (hrest : ∀ Δ μ, Inv (m - a) Δ μ → R F rest Δ μ K) : R F (.For (.Name x px) (.Call (.Name "range" p) [e, e'] [] cp) body [] pos :: rest) Δ μ K := by
  obtain ⟨h1, h2, h3⟩ := and3 ok
  have e1 : (rangeL a (m : Nat) 1).map D.int = (List.range (m - a)).map fun (p : Nat) => D.int ((a + p : Nat) : Int) := by rw [rangeL_from, List.map_map]; rfl
  have hit := Fr.rangeF (F := F) (μ := μ) (Δ := Δ) n (p := p) (pos := cp) (ds := [.int (a : Nat), .int (m : Nat)]) (Bool.and_eq_true_iff.mpr ⟨h2, h3⟩) (by simp only [evs, he, he']) rfl (small_up ha hm)
  rw [e1] at hit
  refine R.for_ Inv (Bool.and_eq_true_iff.mpr ⟨h1, rfl⟩) hit h0 (fun i d Δ μ P hd hi hp => ?_) fun Δ μ h => hrest Δ μ (by simpa using h)
  obtain ⟨hlt, rfl⟩ := mem_mapD hd
  simp only [List.length_range] at hlt
  simp only [List.getElem_range]
  exact hbody i Δ μ P (by omega) hi hp
end
section
variable {Φ Ψ : Str → List D → Option D} {μ : MM} {Δ : Ctx} {n : Nat}
theorem evD_bin {l r : Expr} {op : Operator} {p : Pos} {a b : D} (hl : evD Φ Ψ μ n l Δ = some a) (hr : evD Φ Ψ μ n r Δ = some b) : evD Φ Ψ μ (n + 1) (.BinOp l op r p) Δ = binD μ op a b := by simp only [eI, eS, eN, eBin, eNeg, eCmp, eIf, eL, eSl, eXn, eXb, eXc, eXu, eXs, eCall, eM1, eM2, eB, opt2_ss, optS_s, idxV_int, hl, hr]
theorem evD_call1 {f : Str} {e : Expr} {p q : Pos} {a : D} (h : evD Φ Ψ μ n e Δ = some a) : evD Φ Ψ μ (n + 1) (.Call (.Name f p) [e] [] q) Δ = Φ f [a] := by simp only [eI, eS, eN, eBin, eNeg, eCmp, eIf, eL, eSl, eXn, eXb, eXc, eXu, eXs, eCall, eM1, eM2, eB, opt2_ss, optS_s, idxV_int, evs, h]
theorem evD_meth {o e : Expr} {m : Str} {p q : Pos} {a b : D} (ho : evD Φ Ψ μ n o Δ = some a) (h : evD Φ Ψ μ n e Δ = some b) : evD Φ Ψ μ (n + 1) (.Call (.Attribute o m p) [e] [] q) Δ = methD μ m a [b] := by simp only [eI, eS, eN, eBin, eNeg, eCmp, eIf, eL, eSl, eXn, eXb, eXc, eXu, eXs, eCall, eM1, eM2, eB, opt2_ss, optS_s, idxV_int, ho, h]
theorem evD_slice {v : Expr} {lo hi st : Option Expr} {p q : Pos} {d : D} {l h s : Option Int} (hv : evD Φ Ψ μ n v Δ = some d) (h1 : partI (fun e => evD Φ Ψ μ n e Δ) lo = some l) (h2 : partI (fun e => evD Φ Ψ μ n e Δ) hi = some h) (h3 : partI (fun e => evD Φ Ψ μ n e Δ) st = some s) :
    evD Φ Ψ μ (n + 1) (.Subscript v (.Slice lo hi st p) q) Δ = sliceD μ d l h s := by simp only [eI, eS, eN, eBin, eNeg, eCmp, eIf, eL, eSl, eXn, eXb, eXc, eXu, eXs, eCall, eM1, eM2, eB, opt2_ss, optS_s, idxV_int, hv, h1, h2, h3]
theorem itD_range1 {e : Expr} {p q : Pos} {m : Nat} (h : evD Φ Ψ μ n e Δ = some (.int (m : Nat))) (hm : m ≤ 1000000) : itD Φ Ψ μ (n + 1) (.Call (.Name "range" p) [e] [] q) Δ = some ((List.range m).map fun (k : Nat) => .int k) := by
  have e1 : (rangeL 0 (m : Nat) 1).map D.int = (List.range m).map fun (p : Nat) => D.int p := by rw [rangeL_up, List.map_map]; rfl
  simp only [iRange, evs, h, nmRange, if_true, rangeArgs]
  rw [if_pos (small_of (by decide) (by omega) (.inl rfl)), e1]
theorem evD_list1 {e : Expr} {p : Pos} {d : D} (h : evD Φ Ψ μ n e Δ = some d) : evD Φ Ψ μ (n + 1) (.List [e] p) Δ = some (.list [d]) := by
  have hle : sizeLine = 16777216 := by decide
  simp only [eI, eS, eN, eBin, eNeg, eCmp, eIf, eL, eSl, eXn, eXb, eXc, eXu, eXs, eCall, eM1, eM2, eB, opt2_ss, optS_s, idxV_int, evs, h]; exact sized_of (by simp; omega)
end
section
variable {μ : MM} {x y : Int} {e : Nat}
theorem b_add : binD μ .Add (.int x) (.int y) = some (.int (x + y)) := rfl
theorem b_sub : binD μ .Sub (.int x) (.int y) = some (.int (x - y)) := rfl
theorem b_mod (h : 0 < y) : binD μ .Mod (.int x) (.int y) = some (.int (x % y)) := by rw [binD_int]; simp only [aAdd, aSub, aMul, aDiv, aMod, aPow, aShl, aShr, aAnd, aOr, aXor]; rw [if_pos h]; rfl
theorem b_div (h : 0 < y) (h' : y < 1073741824) : binD μ .FloorDiv (.int x) (.int y) = some (.int (x / y)) := by rw [binD_int]; simp only [aAdd, aSub, aMul, aDiv, aMod, aPow, aShl, aShr, aAnd, aOr, aXor]; rw [if_pos ⟨h, h'⟩]; rfl
theorem b_pow (h : x.natAbs < 2 ^ 64) (he : e ≤ 1000000) : binD μ .Pow (.int x) (.int (e : Nat)) = some (.int (x ^ e)) := by rw [binD_int]; simp only [aAdd, aSub, aMul, aDiv, aMod, aPow, aShl, aShr, aAnd, aOr, aXor]; rw [if_pos ⟨by omega, by omega, h⟩]; rfl
end
theorem evD_ifInt {Φ Ψ : Str → List D → Option D} {μ : MM} {Δ : Ctx} {n : Nat} {t : Expr} {x y : Int} {a b : Nat} {p q r : Pos} {c : Bool} (h : tstD Φ Ψ μ (n + 1) t Δ = some c) :
    evD Φ Ψ μ (n + 2) (.IfExp t (.Constant (.int x) a p) (.Constant (.int y) b q) r) Δ = some (.int (if c = true then x else y)) := by
  rw [eIf, h]; cases c <;> rfl
theorem ite_iff {p q : Prop} [Decidable p] [Decidable q] (h : p ↔ q) (x y : Int) : (if p then x else y) = if q then x else y := by
  by_cases hp : p
  · rw [if_pos hp, if_pos (h.mp hp)]
  · rw [if_neg hp, if_neg fun hq => hp (h.mpr hq)]
section
variable {Φ Ψ : Str → List D → Option D} {μ : MM} {Δ : Ctx} {n : Nat}
theorem tstD_cmp {l r : Expr} {op : CmpOp} {p : Pos} {a b : D} (hl : evD Φ Ψ μ n l Δ = some a) (hr : evD Φ Ψ μ n r Δ = some b) : tstD Φ Ψ μ (n + 1) (.Compare l [op] [r] p) Δ = cmpD μ op a b := by simp only [tNot, tBool, tCmp, tN, tBin, tCall, opt2_ss, hl, hr]
theorem evD_if {t a b : Expr} {p : Pos} {c : Bool} (h : tstD Φ Ψ μ n t Δ = some c) : evD Φ Ψ μ (n + 1) (.IfExp t a b p) Δ = if c = true then evD Φ Ψ μ n a Δ else evD Φ Ψ μ n b Δ := by
  simp only [eI, eS, eN, eBin, eNeg, eCmp, eIf, eL, eSl, eXn, eXb, eXc, eXu, eXs, eCall, eM1, eM2, eB, opt2_ss, optS_s, idxV_int, h]; cases c <;> rfl
theorem evD_idx {v i : Expr} {p : Pos} {d : D} {j : Int} (hs : ∀ lo hi st q, i ≠ .Slice lo hi st q) (hv : evD Φ Ψ μ n v Δ = some d) (hi : evD Φ Ψ μ n i Δ = some (.int j)) : evD Φ Ψ μ (n + 1) (.Subscript v i p) Δ = idxD μ d j := by
  rw [eX hs, hv, hi, opt2_ss, idxV_int]
end
/-- what all values of a table have, has what is found -/
theorem lookP {P : PyData → Prop} : ∀ (D : List (PyData × PyData)), (∀ p ∈ D, P p.2) → ∀ x d, PySem.Spec.lookup x D = some d → P d
  | [], _, _, _, h => nomatch h
  | p :: D, hp, x, d, h => by
    unfold PySem.Spec.lookup at h
    split at h
    · cases h; exact hp p List.mem_cons_self
    · exact lookP D (fun q hq => hp q (List.mem_cons_of_mem _ hq)) x d h
end Mine

open PySem PySem.W PyProof.Rows
set_option Elab.async false
set_option linter.unusedVariables false
namespace Mine
/-! small facts on numbers, once -/
theorem le_line {n : Nat} (h : n ≤ 1000000) : n ≤ sizeLine := Nat.le_trans h (by decide)
theorem mod_nat {m b : Int} (hb : b ≠ 0) : m % b = ((m % b).toNat : Int) := (Int.toNat_of_nonneg (Int.emod_nonneg m hb)).symm
theorem mod_natlt {m : Int} {b : Nat} (hb : 0 < b) : (m % (b : Int)).toNat < b := (Int.toNat_lt (Int.emod_nonneg m (Int.ne_of_gt (Int.natCast_pos.mpr hb)))).mpr (Int.emod_lt_of_pos m (Int.natCast_pos.mpr hb))
theorem abs_lt {a : Int} {B : Nat} (h0 : 0 ≤ a) (h1 : a < B) : a.natAbs < B := by omega
end Mine

set_option linter.unusedVariables false
set_option linter.unusedSectionVars false
set_option linter.unusedSimpArgs false
namespace Mine
/-! breadth first, numbered as they come -/
section
variable {α β : Type} [DecidableEq α] [DecidableEq β]

def add1 (l : List α) (x : α) : List α := if x ∈ l then l else l ++ [x]
def dedF (l0 l : List α) : List α := l.foldl add1 l0
def ded (l : List α) : List α := dedF [] l
theorem add1_mem {l : List α} {x y : α} : y ∈ add1 l x ↔ y ∈ l ∨ y = x := by
  unfold add1; split
  · constructor
    · exact .inl
    · rintro (h | rfl) <;> assumption
  · simp
theorem add1_old {l : List α} {x : α} (h : x ∈ l) : add1 l x = l := if_pos h
theorem dedF_mem : ∀ {l l0 : List α} {y : α}, y ∈ dedF l0 l ↔ y ∈ l0 ∨ y ∈ l
  | [], l0, y => by simp [dedF]
  | x :: l, l0, y => by
    show y ∈ dedF (add1 l0 x) l ↔ _
    rw [dedF_mem, add1_mem, List.mem_cons, or_assoc]
theorem ded_mem {l : List α} {y : α} : y ∈ ded l ↔ y ∈ l := by unfold ded; rw [dedF_mem]; simp
theorem dedF_app {l0 l r : List α} : dedF l0 (l ++ r) = dedF (dedF l0 l) r := List.foldl_append
theorem ded_app {l r : List α} : ded (l ++ r) = dedF (ded l) r := dedF_app
theorem ded_snoc {l : List α} {x : α} : ded (l ++ [x]) = add1 (ded l) x := ded_app
theorem dedF_pre : ∀ (l l0 : List α), ∃ s, dedF l0 l = l0 ++ s
  | [], l0 => ⟨[], (List.append_nil _).symm⟩
  | x :: l, l0 => by
    obtain ⟨s, e⟩ := dedF_pre l (add1 l0 x)
    show ∃ s, dedF (add1 l0 x) l = _
    rw [e]; unfold add1; split
    · exact ⟨s, rfl⟩
    · exact ⟨[x] ++ s, List.append_assoc ..⟩
theorem dedF_old : ∀ {l l0 : List α}, (∀ x ∈ l, x ∈ l0) → dedF l0 l = l0
  | [], _, _ => rfl
  | x :: l, l0, h => by
    show dedF (add1 l0 x) l = l0
    rw [add1_old (h x List.mem_cons_self)]
    exact dedF_old fun y hy => h y (List.mem_cons_of_mem _ hy)
theorem add1_nodup {l : List α} {x : α} (h : l.Nodup) : (add1 l x).Nodup := by
  unfold add1; split
  · exact h
  · rename_i hx
    rw [List.nodup_append]
    exact ⟨h, by simp, fun a ha b hb e => by rw [List.mem_singleton] at hb; subst hb; subst e; exact hx ha⟩
theorem dedF_nodup : ∀ {l l0 : List α}, l0.Nodup → (dedF l0 l).Nodup
  | [], _, h => h
  | x :: l, l0, h => dedF_nodup (l := l) (add1_nodup h)
theorem ded_nodup (l : List α) : (ded l).Nodup := dedF_nodup .nil

theorem ded_flat (f : α → List β) (p : List β) : ∀ n (l : List α), l.length = n → ded (p ++ (ded l).flatMap f) = ded (p ++ l.flatMap f) := by
  intro n
  induction n with
  | zero => intro l h; rw [List.eq_nil_of_length_eq_zero h]; rfl
  | succ n ih =>
    intro l h
    obtain ⟨l', x, rfl⟩ : ∃ l' x, l = l' ++ [x] := ⟨l.dropLast, l.getLast (by rintro rfl; cases h), (List.dropLast_concat_getLast _).symm⟩
    have hl : l'.length = n := by simpa using h
    rw [ded_snoc, List.flatMap_append, ← List.append_assoc, ded_app (l := p ++ l'.flatMap f), ← ih l' hl]
    unfold add1; split
    · rename_i hx
      refine (dedF_old fun y hy => ded_mem.mpr (List.mem_append_right _ ?_)).symm
      have hy : y ∈ f x := by simpa using hy
      exact List.mem_flatMap.mpr ⟨x, hx, hy⟩
    · rw [List.flatMap_append, ← List.append_assoc, ded_app]
theorem ded_map (f : α → β) (l : List α) : ded ((ded l).map f) = ded (l.map f) := by
  have h := ded_flat (fun x => [f x]) [] _ l rfl
  have e : ∀ l : List α, l.flatMap (fun x => [f x]) = l.map f := fun l => by
    induction l with
    | nil => rfl
    | cons x l ih => rw [List.flatMap_cons, ih]; rfl
  rw [List.nil_append, List.nil_append, e, e] at h; exact h

/-- pigeons -/
theorem nodup_le : ∀ {l u : List α}, l.Nodup → (∀ x ∈ l, x ∈ u) → l.length ≤ u.length
  | [], _, _, _ => Nat.zero_le _
  | x :: l, u, hn, hs => by
    have hx := hs x List.mem_cons_self
    rw [List.nodup_cons] at hn
    have h := nodup_le (u := u.erase x) hn.2 fun y hy => (List.mem_erase_of_ne (fun e => hn.1 (by rw [← e]; exact hy))).mpr (hs y (List.mem_cons_of_mem _ hy))
    rw [List.length_erase_of_mem hx] at h
    have := List.length_pos_of_mem hx
    rw [List.length_cons]; omega
theorem idxOf_app {l r : List α} {x : α} (h : x ∈ l) : (l ++ r).idxOf x = l.idxOf x := by
  rw [List.idxOf_append, if_pos h]

def seqL (step : α → Nat → α) (L : List α) : List α := L.flatMap fun x => [step x 0, step x 1]
theorem seqL_app {step : α → Nat → α} {L M : List α} : seqL step (L ++ M) = seqL step L ++ seqL step M := List.flatMap_append
theorem seqL_len {step : α → Nat → α} : ∀ {L : List α}, (seqL step L).length = 2 * L.length
  | [] => rfl
  | x :: L => by
    show (step x 0 :: step x 1 :: seqL step L).length = _
    simp only [List.length_cons, seqL_len]; omega
theorem seqL_get {step : α → Nat → α} : ∀ {L : List α} {j : Nat}, (seqL step L)[j]? = L[j / 2]?.map fun x => step x (j % 2)
  | [], j => by simp [seqL]
  | x :: L, 0 => rfl
  | x :: L, 1 => rfl
  | x :: L, j + 2 => by
    show (step x 0 :: step x 1 :: seqL step L)[j + 2]? = _
    rw [List.getElem?_cons_succ, List.getElem?_cons_succ, seqL_get]
    have e1 : (j + 2) / 2 = j / 2 + 1 := by omega
    have e2 : (j + 2) % 2 = j % 2 := by omega
    rw [e1, e2, List.getElem?_cons_succ]
theorem seqL_take {step : α → Nat → α} : ∀ {L : List α} {n : Nat}, (seqL step L).take (2 * n) = seqL step (L.take n)
  | [], n => by simp [seqL]
  | x :: L, 0 => rfl
  | x :: L, n + 1 => by
    show (step x 0 :: step x 1 :: seqL step L).take (2 * (n + 1)) = step x 0 :: step x 1 :: seqL step (L.take n)
    rw [Nat.mul_succ, ← seqL_take]; rfl

def bfsTurn (step : α → Nat → α) (x : List α × List Nat) (t : Nat) : List α × List Nat :=
  match x.1[t / 2]? with
  | none => x
  | some a => (add1 x.1 (step a (t % 2)), x.2 ++ [(add1 x.1 (step a (t % 2))).idxOf (step a (t % 2))])
def bfs (step : α → Nat → α) (a : α) : List α × List Nat := (List.range 16).foldl (bfsTurn step) ([a], [])

structure BI (step : α → Nat → α) (a : α) (u : List α) (t : Nat) (x : List α × List Nat) : Prop where
  nd : x.1.Nodup
  sub : ∀ y ∈ x.1, y ∈ u
  len : x.2.length = min t (2 * x.1.length)
  eq : x.1 = ded (a :: (seqL step x.1).take x.2.length)
  tab : x.2 = ((seqL step x.1).take x.2.length).map x.1.idxOf
  reach : ∀ k, 1 ≤ k → k < x.1.length → ∃ j, j < 2 * k ∧ (seqL step x.1)[j]? = x.1[k]?

theorem BI.turn {step : α → Nat → α} {a : α} {u : List α} {t : Nat} {x : List α × List Nat} (hc : ∀ y ∈ u, ∀ k < 2, step y k ∈ u) (h : BI step a u t x) : BI step a u (t + 1) (bfsTurn step x t) := by
  obtain ⟨L, T⟩ := x
  have hlen : T.length = min t (2 * L.length) := h.len
  unfold bfsTurn
  cases e : L[t / 2]? with
  | none =>
    have h1 := List.getElem?_eq_none_iff.mp e
    refine ⟨h.nd, h.sub, ?_, h.eq, h.tab, h.reach⟩
    show T.length = min (t + 1) (2 * L.length)
    rw [hlen]; omega
  | some y =>
    obtain ⟨h1, hy⟩ := List.getElem?_eq_some_iff.mp e
    have ht : T.length = t := by rw [hlen]; omega
    have hyL : y ∈ L := List.mem_of_getElem? e
    have hb : (seqL step L)[t]? = some (step y (t % 2)) := by rw [seqL_get, e]; rfl
    simp only
    generalize step y (t % 2) = b at *
    have hbu : b ∈ u → b ∈ u := id
    have hsl : (seqL step L).length = 2 * L.length := seqL_len
    obtain ⟨s, hs⟩ : ∃ s, add1 L b = L ++ s := by
      unfold add1; split
      · exact ⟨[], (List.append_nil _).symm⟩
      · exact ⟨_, rfl⟩
    have htk : (seqL step (L ++ s)).take (t + 1) = (seqL step L).take t ++ [b] := by
      rw [seqL_app, List.take_append_of_le_length (by omega), List.take_add_one, hb]; rfl
    have hLe : L = ded (a :: (seqL step L).take t) := by have := h.eq; simp only [ht] at this; exact this
    have hmem : ∀ z ∈ (seqL step L).take t, z ∈ L := fun z hz => by rw [hLe]; exact ded_mem.mpr (List.mem_cons_of_mem _ hz)
    have htab : T = ((seqL step L).take t).map L.idxOf := by have := h.tab; simp only [ht] at this; exact this
    have hlT : (T ++ [(add1 L b).idxOf b]).length = t + 1 := by simp [ht]
    refine ⟨add1_nodup h.nd, fun z hz => ?_, ?_, ?_, ?_, ?_⟩
    · rcases add1_mem.mp hz with hz | rfl
      · exact h.sub z hz
      · have := hc y (h.sub y hyL) (t % 2) (Nat.mod_lt _ (by decide))
        rw [seqL_get, e] at hb
        simp only [Option.map_some, Option.some.injEq] at hb
        rw [← hb]; exact this
    · simp only; rw [hlT, hs]; simp only [List.length_append]; omega
    · simp only; rw [hlT, hs, htk, ← List.cons_append, ded_snoc, ← hLe, hs]
    · simp only; rw [hlT, hs, htk, List.map_append]
      congr 1
      conv => lhs; rw [htab]
      exact List.map_congr_left fun z hz => (idxOf_app (hmem z hz)).symm
    · intro k hk hkl
      simp only at hkl ⊢
      rw [hs] at hkl ⊢
      by_cases hk2 : k < L.length
      · obtain ⟨j, hj, ej⟩ := h.reach k hk hk2
        refine ⟨j, hj, ?_⟩
        simp only at ej
        rw [seqL_app, List.getElem?_append_left (by omega), List.getElem?_append_left hk2]; exact ej
      · have hnb : b ∉ L := fun hb' => by
          rw [add1_old hb'] at hs
          have : s = [] := List.append_cancel_left (hs.symm.trans (List.append_nil L).symm)
          subst this; simp at hkl; omega
        have : s = [b] := List.append_cancel_left (hs.symm.trans (if_neg hnb))
        subst this
        have hk3 : k = L.length := by simp at hkl; omega
        refine ⟨t, by omega, ?_⟩
        rw [seqL_app, List.getElem?_append_left (by omega), hb, hk3]; simp

/-- what breadth first makes -/
structure Bf (step : α → Nat → α) (a : α) (L : List α) : Prop where
  nd : L.Nodup
  eq : L = ded (a :: seqL step L)
  reach : ∀ k, 1 ≤ k → k < L.length → ∃ j, j < 2 * k ∧ (seqL step L)[j]? = L[k]?

theorem bfs_all {step : α → Nat → α} {a : α} {u : List α} (hu : u.length ≤ 8) (ha : a ∈ u) (hc : ∀ y ∈ u, ∀ k < 2, step y k ∈ u) :
    Bf step a (bfs step a).1 ∧ (bfs step a).2 = (seqL step (bfs step a).1).map (bfs step a).1.idxOf ∧ ∀ y ∈ (bfs step a).1, y ∈ u := by
  have key : ∀ n, BI step a u n ((List.range n).foldl (bfsTurn step) ([a], [])) := by
    intro n
    induction n with
    | zero => exact ⟨by simp, fun y hy => by rw [List.mem_singleton.mp hy]; exact ha, by simp, rfl, rfl, fun k h1 h2 => by simp at h2; omega⟩
    | succ n ih => rw [List.range_succ, List.foldl_append]; exact ih.turn hc
  have h := key 16
  show Bf step a (bfs step a).1 ∧ _
  have h : BI step a u 16 (bfs step a) := h
  generalize bfs step a = x at h
  have hl := nodup_le h.nd h.sub
  have h2 : x.2.length = (seqL step x.1).length := by rw [h.len, seqL_len]; omega
  refine ⟨⟨h.nd, ?_, h.reach⟩, ?_, h.sub⟩
  · have := h.eq; rw [h2, List.take_length] at this; exact this
  · have := h.tab; rw [h2, List.take_length] at this; exact this

theorem take_ne {L : List α} (hn : L.Nodup) {n : Nat} {x : α} (h : L[n]? = some x) : x ∉ L.take n := fun hx => by
  obtain ⟨i, hi, e⟩ := List.mem_take_iff_getElem.mp hx
  obtain ⟨h1, h2⟩ := List.getElem?_eq_some_iff.mp h
  have := (List.getElem_inj hn).mp (e.trans h2.symm)
  omega
theorem Bf.next {step : α → Nat → α} {a : α} {L : List α} (h : Bf step a L) (n : Nat) : L.take (n + 1) = (ded (a :: seqL step (L.take n))).take (n + 1) := by
  obtain ⟨s, hs⟩ : ∃ s, L = ded (a :: seqL step (L.take n)) ++ s := by
    have e : seqL step L = seqL step (L.take n) ++ seqL step (L.drop n) := by rw [← seqL_app, List.take_append_drop]
    obtain ⟨s, hs⟩ := dedF_pre (seqL step (L.drop n)) (ded (a :: seqL step (L.take n)))
    exact ⟨s, h.eq.trans (by rw [e, ← List.cons_append, ded_app]; exact hs)⟩
  generalize hD : ded (a :: seqL step (L.take n)) = D at *
  by_cases hl : n < L.length
  · have hd : n < D.length := by
      refine Nat.lt_of_not_le fun hdn => ?_
      have hx : L[n]? = some L[n] := List.getElem?_eq_getElem hl
      refine take_ne h.nd hx ?_
      have hin : L[n] ∈ D := by
        rw [← hD, ded_mem]
        by_cases h0 : n = 0
        · subst h0
          have e := h.eq
          obtain ⟨s', hs'⟩ := dedF_pre (seqL step L) [a]
          have e2 : L = [a] ++ s' := e.trans hs'
          have : L[0]? = some a := by rw [e2]; rfl
          rw [hx] at this; cases this; exact List.mem_cons_self
        · obtain ⟨j, hj, ej⟩ := h.reach n (Nat.pos_of_ne_zero h0) hl
          rw [hx] at ej
          refine List.mem_cons_of_mem _ ?_
          rw [← seqL_take]
          refine List.mem_of_getElem? (i := j) ?_
          rw [List.getElem?_take, if_pos hj]; exact ej
      have e3 : L.take n = D ++ s.take (n - D.length) := by rw [hs, List.take_append, List.take_of_length_le hdn]
      rw [e3]; exact List.mem_append_left _ hin
    rw [hs, List.take_append_of_le_length hd]
  · have e1 : L.take n = L := List.take_of_length_le (by omega)
    rw [e1] at hD
    rw [← hD, ← h.eq]
theorem Bf.uniq {step : α → Nat → α} {a : α} {L M : List α} (h : Bf step a L) (h' : Bf step a M) : L = M := by
  have key : ∀ n, L.take n = M.take n := by
    intro n
    induction n with
    | zero => rfl
    | succ n ih => rw [h.next, h'.next, ih]
  have := key (L.length + M.length)
  rwa [List.take_of_length_le (Nat.le_add_right ..), List.take_of_length_le (Nat.le_add_left ..)] at this

theorem Bf.zero {step : α → Nat → α} {a : α} {L : List α} (h : Bf step a L) : L[0]? = some a := by
  obtain ⟨s, hs⟩ := dedF_pre (seqL step L) [a]
  rw [h.eq.trans hs]; rfl
theorem Bf.closed {step : α → Nat → α} {a : α} {L : List α} (h : Bf step a L) {x : α} (hx : x ∈ L) {k : Nat} (hk : k < 2) : step x k ∈ L := by
  rw [h.eq, ded_mem]
  refine List.mem_cons_of_mem _ (List.mem_flatMap.mpr ⟨x, hx, ?_⟩)
  match k, hk with
  | 0, _ => exact List.mem_cons_self
  | 1, _ => exact List.mem_cons_of_mem _ List.mem_cons_self

/-- the image of what breadth first makes -/
theorem Bf.image {step : α → Nat → α} {stepQ : β → Nat → β} {phi : α → β} {a : α} {M : List α} (h : Bf step a M) (hp : ∀ x ∈ M, ∀ k < 2, phi (step x k) = stepQ (phi x) k) : Bf stepQ (phi a) (ded (M.map phi)) := by
  have hseq : (seqL step M).map phi = seqL stepQ (M.map phi) := by
    have : ∀ l : List α, (∀ x ∈ l, x ∈ M) → (seqL step l).map phi = seqL stepQ (l.map phi) := by
      intro l
      induction l with
      | nil => intro _; rfl
      | cons x l ih =>
        intro hl
        have hx := hl x List.mem_cons_self
        show phi (step x 0) :: phi (step x 1) :: (seqL step l).map phi = _
        rw [hp x hx 0 (by decide), hp x hx 1 (by decide), ih fun y hy => hl y (List.mem_cons_of_mem _ hy)]; rfl
    exact this M fun _ h => h
  refine ⟨ded_nodup _, ?_, fun i hi hil => ?_⟩
  · conv => lhs; rw [h.eq, ded_map, List.map_cons, hseq]
    exact (ded_flat (fun x => [stepQ x 0, stepQ x 1]) [phi a] _ (M.map phi) rfl).symm
  · generalize hP : ded (M.map phi) = P at *
    have hx : P[i]? = some P[i] := List.getElem?_eq_getElem hil
    generalize P[i] = x at hx
    have hxm : x ∈ M.map phi := ded_mem.mp (hP ▸ List.mem_of_getElem? hx)
    obtain ⟨k, hkl, hk⟩ : ∃ k, (M.map phi)[k]? = some x ∧ x ∉ (M.map phi).take k := by
      obtain ⟨_, a2, a3⟩ := idxOf_facts hxm
      refine ⟨(M.map phi).idxOf x, a2, fun hm => ?_⟩
      obtain ⟨j, hj, e⟩ := List.mem_take_iff_getElem.mp hm
      exact a3 j (by omega) x (List.getElem?_eq_some_iff.mpr ⟨by omega, e⟩) rfl
    have hPk : ∃ s, P = ded ((M.map phi).take k) ++ s := by
      obtain ⟨s, hs⟩ := dedF_pre ((M.map phi).drop k) (ded ((M.map phi).take k))
      refine ⟨s, ?_⟩
      rw [← hs, ← ded_app, List.take_append_drop, hP]
    obtain ⟨s, hs⟩ := hPk
    have hi1 : (ded ((M.map phi).take k)).length ≤ i := by
      refine Nat.le_of_not_lt fun hlt => ?_
      rw [hs, List.getElem?_append_left hlt] at hx
      exact hk (ded_mem.mp (List.mem_of_getElem? hx))
    have hk1 : 1 ≤ k := by
      refine Nat.pos_of_ne_zero fun h0 => ?_
      subst h0
      -- then x is the first
      have e0 : (M.map phi)[0]? = some (phi a) := by rw [List.getElem?_map, h.zero]; rfl
      rw [e0] at hkl; cases hkl
      have eP : P[0]? = some (phi a) := by
        obtain ⟨r, hr⟩ : ∃ r, M.map phi = phi a :: r := by
          cases hM : M.map phi with
          | nil => rw [hM] at e0; cases e0
          | cons y r => rw [hM] at e0; cases e0; exact ⟨r, rfl⟩
        rw [hr] at hP
        obtain ⟨s', hs'⟩ := dedF_pre r [phi a]
        rw [← hP]
        show (dedF [phi a] r)[0]? = _
        rw [hs']; rfl
      obtain ⟨q1, q2⟩ := List.getElem?_eq_some_iff.mp eP
      obtain ⟨q3, q4⟩ := List.getElem?_eq_some_iff.mp hx
      have hPn : P.Nodup := hP ▸ ded_nodup _
      have := (List.getElem_inj hPn).mp (q2.trans q4.symm)
      omega
    rw [List.getElem?_map] at hkl
    obtain ⟨y, hy, hyx⟩ := Option.map_eq_some_iff.mp hkl
    obtain ⟨hkl', _⟩ := List.getElem?_eq_some_iff.mp hy
    obtain ⟨j, hj, ej⟩ := h.reach k hk1 hkl'
    rw [hy, seqL_get] at ej
    obtain ⟨z, hz, ez⟩ := Option.map_eq_some_iff.mp ej
    have hzM := List.mem_of_getElem? hz
    have hzk : phi z ∈ ded ((M.map phi).take k) := by
      rw [ded_mem]
      refine List.mem_of_getElem? (i := j / 2) ?_
      rw [List.getElem?_take, if_pos (by omega), List.getElem?_map, hz]; rfl
    obtain ⟨i', hi', e'⟩ := List.getElem_of_mem hzk
    have ei' : P[i']? = some (phi z) := by rw [hs, List.getElem?_append_left hi', List.getElem?_eq_getElem hi', e']
    refine ⟨2 * i' + j % 2, by omega, ?_⟩
    rw [seqL_get, hx]
    have e1 : (2 * i' + j % 2) / 2 = i' := by omega
    have e2 : (2 * i' + j % 2) % 2 = j % 2 := by omega
    rw [e1, e2, ei', ← hyx, ← ez, hp z hzM _ (Nat.mod_lt _ (by decide))]; rfl
end
end Mine

set_option linter.unusedVariables false
set_option linter.unusedSectionVars false
set_option linter.unusedSimpArgs false
namespace Mine
section
variable {α β : Type} [DecidableEq α] [DecidableEq β]

theorem getD_of {l : List α} {k : Nat} {d : α} (h : k < l.length) : l[k]? = some (l.getD k d) := by
  rw [List.getD_eq_getElem?_getD, List.getElem?_eq_getElem h]; rfl
theorem getD_mem {l : List α} {k : Nat} {d : α} (h : k < l.length) : l.getD k d ∈ l := List.mem_of_getElem? (getD_of h)
/-- the first of its kind -/
def firstB (X : List α) (d : α) (k : Nat) : Bool := decide (X.idxOf (X.getD k d) = k)
def firstsL (X : List α) (d : α) : List Nat := (List.range X.length).filter (firstB X d)
theorem ded_firsts (d : α) : ∀ n (X : List α), X.length = n → ded X = (firstsL X d).map (X.getD · d) := by
  intro n
  induction n with
  | zero => intro X h; rw [List.eq_nil_of_length_eq_zero h]; rfl
  | succ n ih =>
    intro X h
    obtain ⟨l, x, rfl⟩ : ∃ l x, X = l ++ [x] := ⟨X.dropLast, X.getLast (by rintro rfl; cases h), (List.dropLast_concat_getLast _).symm⟩
    have hl : l.length = n := by simpa using h
    have hget : ∀ k, k < n → (l ++ [x]).getD k d = l.getD k d := fun k hk => by
      rw [List.getD_eq_getElem?_getD, List.getD_eq_getElem?_getD, List.getElem?_append_left (by omega)]
    have hlast : (l ++ [x]).getD n d = x := by
      rw [List.getD_eq_getElem?_getD, List.getElem?_append_right (by omega), hl]; simp
    have e1 : (List.range n).filter (firstB (l ++ [x]) d) = firstsL l d := by
      unfold firstsL
      rw [hl]
      refine List.filter_congr fun k hk => ?_
      have hk := List.mem_range.mp hk
      unfold firstB
      rw [hget k hk, idxOf_app (getD_mem (by omega))]
    have e2 : firstB (l ++ [x]) d n = decide (x ∉ l) := by
      unfold firstB
      rw [hlast]
      by_cases hx : x ∈ l
      · have := (idxOf_facts hx).1
        rw [idxOf_app hx]; simp [hx]; omega
      · rw [List.idxOf_append, if_neg hx]; simp [hx, hl]
    rw [ded_snoc, ih l hl]
    conv => rhs; unfold firstsL
    rw [h, List.range_succ, List.filter_append, e1, List.map_append]
    have e3 : (firstsL l d).map (fun k => (l ++ [x]).getD k d) = (firstsL l d).map (fun k => l.getD k d) := by
      refine List.map_congr_left fun k hk => hget k ?_
      have := List.mem_range.mp (List.mem_filter.mp hk).1
      omega
    rw [e3, ← ih l hl]
    unfold add1
    have hm : x ∈ ded l ↔ x ∈ l := ded_mem
    by_cases hx : x ∈ l
    · rw [if_pos (hm.mpr hx)]; simp [e2, hx]
    · rw [if_neg (fun h => hx (hm.mp h))]
      have e4 : [n].filter (firstB (l ++ [x]) d) = [n] := by simp [e2, hx]
      rw [e4, List.map_singleton, hlast]

/-- like at the same places: first at the same places -/
theorem idx_same {A : List α} {B : List β} (hl : A.length = B.length) (h : ∀ i < A.length, ∀ j < A.length, A[i]? = A[j]? ↔ B[i]? = B[j]?) {k : Nat} (hk : k < A.length) {d : α} {d' : β} : A.idxOf (A.getD k d) = B.idxOf (B.getD k d') := by
  have hA := getD_of (d := d) hk
  have hB := getD_of (d := d') (hl ▸ hk)
  obtain ⟨a1, a2, a3⟩ := idxOf_facts (List.mem_of_getElem? hA)
  obtain ⟨b1, b2, b3⟩ := idxOf_facts (List.mem_of_getElem? hB)
  generalize A.getD k d = a at *
  generalize B.getD k d' = b at *
  rcases Nat.lt_trichotomy (A.idxOf a) (B.idxOf b) with hlt | he | hlt
  · have := (h _ a1 k hk).mp (a2.trans hA.symm)
    exact absurd rfl (b3 _ hlt b (this.trans hB))
  · exact he
  · have := (h _ (hl ▸ b1) k hk).mpr (b2.trans hB.symm)
    exact absurd rfl (a3 _ hlt a (this.trans hA))
theorem idxOf_map {g : Nat → β} {F : List Nat} (hg : ∀ x ∈ F, ∀ y ∈ F, g x = g y → x = y) : ∀ {f : Nat}, f ∈ F → (F.map g).idxOf (g f) = F.idxOf f := by
  induction F with
  | nil => intro f h; cases h
  | cons x F ih =>
    intro f hf
    rw [List.map_cons, List.idxOf_cons, List.idxOf_cons]
    by_cases e : x = f
    · subst e; simp
    · have e2 : g x ≠ g f := fun e' => e (hg x List.mem_cons_self f hf e')
      have hf' : f ∈ F := by
        rcases List.mem_cons.mp hf with rfl | h
        · exact absurd rfl e
        · exact h
      have h1 : (g x == g f) = false := by simpa using e2
      have h2 : (x == f) = false := by simpa using e
      rw [h1, h2]
      simp only [cond_false]
      rw [ih (fun a ha b hb => hg a (List.mem_cons_of_mem _ ha) b (List.mem_cons_of_mem _ hb)) hf']

/-- the table of the image -/
theorem Bf.table {step : α → Nat → α} {stepQ : β → Nat → β} {phi : α → β} {a : α} {M : List α} (h : Bf step a M) (hp : ∀ x ∈ M, ∀ k < 2, phi (step x k) = stepQ (phi x) k)
    {X : List β} (hX : X = M.map phi) {T : List Nat} (hT : T = (seqL step M).map M.idxOf) {F : List Nat} {d : β} (hF : F = firstsL X d) {a0 : α} :
    ded X = (F.map (M.getD · a0)).map phi ∧ (seqL stepQ (ded X)).map (ded X).idxOf = F.flatMap fun k => [F.idxOf (X.idxOf (X.getD (T.getD (2 * k) 0) d)), F.idxOf (X.idxOf (X.getD (T.getD (2 * k + 1) 0) d))] := by
  have hn : X.length = M.length := by rw [hX, List.length_map]
  have hD : ded X = F.map (X.getD · d) := by rw [hF]; exact ded_firsts d _ X rfl
  have hFm : ∀ k ∈ F, k < M.length ∧ X.idxOf (X.getD k d) = k := fun k hk => by
    rw [hF] at hk
    obtain ⟨h1, h2⟩ := List.mem_filter.mp hk
    exact ⟨by have := List.mem_range.mp h1; omega, of_decide_eq_true h2⟩
  have hXg : ∀ k < M.length, X.getD k d = phi (M.getD k a0) := fun k hk => by
    rw [List.getD_eq_getElem?_getD, hX, List.getElem?_map, getD_of (d := a0) hk]; rfl
  refine ⟨?_, ?_⟩
  · rw [hD, List.map_map]
    exact List.map_congr_left fun k hk => hXg k (hFm k hk).1
  · have hTl : T.length = 2 * M.length := by rw [hT, List.length_map, seqL_len]
    have hTg : ∀ k < M.length, ∀ e < 2, T.getD (2 * k + e) 0 < M.length ∧ stepQ (X.getD k d) e = X.getD (T.getD (2 * k + e) 0) d := fun k hk e he => by
      have hm : M.getD k a0 ∈ M := getD_mem hk
      have hc := h.closed hm he
      obtain ⟨c1, c2, _⟩ := idxOf_facts hc
      have e1 : T.getD (2 * k + e) 0 = M.idxOf (step (M.getD k a0) e) := by
        rw [List.getD_eq_getElem?_getD, hT, List.getElem?_map, seqL_get]
        have e1 : (2 * k + e) / 2 = k := by omega
        have e2 : (2 * k + e) % 2 = e := by omega
        rw [e1, e2, getD_of (d := a0) hk]; rfl
      rw [e1]
      refine ⟨c1, ?_⟩
      have e3 : M.getD (M.idxOf (step (M.getD k a0) e)) a0 = step (M.getD k a0) e := by
        rw [List.getD_eq_getElem?_getD, c2]; rfl
      rw [hXg k hk, ← hp _ hm e he, hXg _ c1, e3]
    have hidx : ∀ x, x < M.length → (ded X).idxOf (X.getD x d) = F.idxOf (X.idxOf (X.getD x d)) := fun x hx => by
      have hxm : X.getD x d ∈ X := getD_mem (by omega)
      obtain ⟨c1, c2, c3⟩ := idxOf_facts hxm
      have hg : X.getD (X.idxOf (X.getD x d)) d = X.getD x d := by rw [List.getD_eq_getElem?_getD, c2]; rfl
      have hfF : X.idxOf (X.getD x d) ∈ F := by
        rw [hF]
        exact List.mem_filter.mpr ⟨List.mem_range.mpr c1, decide_eq_true (by rw [hg])⟩
      have := idxOf_map (g := (X.getD · d)) (F := F) (fun u hu v hv e => by rw [← (hFm u hu).2, ← (hFm v hv).2]; exact congrArg X.idxOf e) hfF
      rw [hD]
      conv => lhs; rw [← hg]
      exact this
    conv => lhs; rw [show seqL stepQ (ded X) = F.flatMap fun k => [stepQ (X.getD k d) 0, stepQ (X.getD k d) 1] by
      rw [hD]; unfold seqL; rw [List.flatMap_map]]
    rw [List.map_flatMap]
    have hcg : ∀ (l : List Nat) (f g : Nat → List Nat), (∀ k ∈ l, f k = g k) → l.flatMap f = l.flatMap g := fun l f g => by
      induction l with
      | nil => intro _; rfl
      | cons x l ih => intro hfg; rw [List.flatMap_cons, List.flatMap_cons, hfg x List.mem_cons_self, ih fun k hk => hfg k (List.mem_cons_of_mem _ hk)]
    refine hcg _ _ _ fun k hk => ?_
    have hk1 := (hFm k hk).1
    obtain ⟨p1, p2⟩ := hTg k hk1 0 (by decide)
    obtain ⟨q1, q2⟩ := hTg k hk1 1 (by decide)
    rw [List.map_cons, List.map_cons, List.map_nil, p2, q2, hidx _ p1, hidx _ q1]; rfl
end

/-! rounds of parting -/
def mooreKeys (n : Nat) (T al : List Nat) : List (List Nat) := (List.range n).map fun k => [al.getD k 0, al.getD (T.getD (2 * k) 0) 0, al.getD (T.getD (2 * k + 1) 0) 0]
def posL {α : Type} [DecidableEq α] (l : List α) (x : α) : Nat := l.idxOf x
def mooreStep (n : Nat) (T al : List Nat) : List Nat := (mooreKeys n T al).map (posL (mooreKeys n T al))
def moore (n : Nat) (T : List Nat) (r : Nat) (al : List Nat) : List Nat := (List.range r).foldl (fun al _ => mooreStep n T al) al
theorem moore_succ {n : Nat} {T al : List Nat} {r : Nat} : moore n T (r + 1) al = mooreStep n T (moore n T r al) := by
  unfold moore; rw [List.range_succ, List.foldl_append]; rfl
theorem moore_len {n : Nat} {T al : List Nat} (h : al.length = n) : ∀ r, (moore n T r al).length = n
  | 0 => h
  | r + 1 => by rw [moore_succ]; simp [mooreStep, mooreKeys]

def rel (T al : List Nat) : Nat → Nat → Nat → Prop
  | 0, k, k' => al.getD k 0 = al.getD k' 0
  | r + 1, k, k' => rel T al r k k' ∧ ∀ e < 2, rel T al r (T.getD (2 * k + e) 0) (T.getD (2 * k' + e) 0)
theorem keys_get {n : Nat} {T al : List Nat} {k : Nat} (hk : k < n) : (mooreKeys n T al)[k]? = some [al.getD k 0, al.getD (T.getD (2 * k) 0) 0, al.getD (T.getD (2 * k + 1) 0) 0] := by
  unfold mooreKeys; rw [List.getElem?_map, List.getElem?_range hk]; rfl
theorem moore_rel {n : Nat} {T al : List Nat} (hT : ∀ k < n, ∀ e < 2, T.getD (2 * k + e) 0 < n) : ∀ r k k', k < n → k' < n → ((moore n T r al).getD k 0 = (moore n T r al).getD k' 0 ↔ rel T al r k k')
  | 0, k, k', _, _ => Iff.rfl
  | r + 1, k, k', hk, hk' => by
    have ih := moore_rel (al := al) hT r
    rw [moore_succ]
    generalize hal : moore n T r al = al' at *
    have hkl : (mooreKeys n T al').length = n := by simp [mooreKeys]
    have hg : ∀ j < n, (mooreStep n T al').getD j 0 = posL (mooreKeys n T al') ((mooreKeys n T al').getD j []) := fun j hj => by
      rw [List.getD_eq_getElem?_getD]; unfold mooreStep; rw [List.getElem?_map, getD_of (d := []) (by omega)]; rfl
    rw [hg k hk, hg k' hk']
    have hkk := keys_get (T := T) (al := al') hk
    have hkk' := keys_get (T := T) (al := al') hk'
    have e1 : posL (mooreKeys n T al') ((mooreKeys n T al').getD k []) = posL (mooreKeys n T al') ((mooreKeys n T al').getD k' []) ↔ (mooreKeys n T al')[k]? = (mooreKeys n T al')[k']? := by
      have g1 := getD_of (l := mooreKeys n T al') (d := []) (k := k) (by omega)
      have g2 := getD_of (l := mooreKeys n T al') (d := []) (k := k') (by omega)
      rw [g1, g2]
      constructor
      · intro e
        have h1 := (idxOf_facts (List.mem_of_getElem? g1)).2.1
        have h2 := (idxOf_facts (List.mem_of_getElem? g2)).2.1
        unfold posL at e
        rw [e] at h1; exact h1.symm.trans h2
      · intro e; rw [Option.some.inj e]
    rw [e1, hkk, hkk']
    constructor
    · intro e
      simp only [Option.some.injEq, List.cons.injEq, and_true] at e
      refine ⟨(ih k k' hk hk').mp e.1, fun e' he' => ?_⟩
      match e', he' with
      | 0, _ => exact (ih _ _ (hT k hk 0 (by decide)) (hT k' hk' 0 (by decide))).mp e.2.1
      | 1, _ => exact (ih _ _ (hT k hk 1 (by decide)) (hT k' hk' 1 (by decide))).mp e.2.2
    · rintro ⟨h1, h2⟩
      have g0 := (ih _ _ (hT k hk 0 (by decide)) (hT k' hk' 0 (by decide))).mpr (h2 0 (by decide))
      have g1 := (ih _ _ (hT k hk 1 (by decide)) (hT k' hk' 1 (by decide))).mpr (h2 1 (by decide))
      rw [(ih k k' hk hk').mpr h1]
      simp only [Nat.add_zero] at g0
      rw [g0, g1]
theorem moore_first {β : Type} [DecidableEq β] {n : Nat} {T al : List Nat} {X : List β} {d : β} {r : Nat} (hX : X.length = n) (hT : ∀ k < n, ∀ e < 2, T.getD (2 * k + e) 0 < n) (h : ∀ k < n, ∀ k' < n, rel T al (r + 1) k k' ↔ X[k]? = X[k']?) {k : Nat} (hk : k < n) :
    (moore n T (r + 1) al).getD k 0 = X.idxOf (X.getD k d) := by
  have hkl : (mooreKeys n T (moore n T r al)).length = n := by simp [mooreKeys]
  have hrel := moore_rel (al := al) hT (r + 1)
  rw [moore_succ] at hrel ⊢
  generalize moore n T r al = al' at *
  have hg : ∀ j < n, (mooreStep n T al').getD j 0 = posL (mooreKeys n T al') ((mooreKeys n T al').getD j []) := fun j hj => by
    rw [List.getD_eq_getElem?_getD]; unfold mooreStep; rw [List.getElem?_map, getD_of (d := []) (by omega)]; rfl
  rw [hg k hk]
  refine idx_same (hkl.trans hX.symm) (fun i hi j hj => ?_) (by rw [hkl]; exact hk)
  rw [hkl] at hi hj
  rw [← h i hi j hj, ← hrel i j hi hj, hg i hi, hg j hj]
  have g1 := getD_of (l := mooreKeys n T al') (d := []) (k := i) (by omega)
  have g2 := getD_of (l := mooreKeys n T al') (d := []) (k := j) (by omega)
  rw [g1, g2]
  constructor
  · intro e; rw [Option.some.inj e]
  · intro e
    have h1 := (idxOf_facts (List.mem_of_getElem? g1)).2.1
    have h2 := (idxOf_facts (List.mem_of_getElem? g2)).2.1
    unfold posL at e
    rw [e] at h1; exact h1.symm.trans h2
end Mine

open PySem PySem.W PyProof.Rows
set_option Elab.async false
set_option linter.unusedVariables false
namespace Mine
section
variable {W : Wd} {A : Around} {fr : List Addr} {env : Env} {Δ : Ctx} {μ : MM} {K : Out → Ctx → MM → Prop}

/-- table[text] of a table of the top -/
theorem Ev.tabItem (hW : W.Ok) {t : Str} {p pos : Pos} {e : Expr} {x : Str} {i : Int} {a : Addr} {T : List (PyData × PyData)} (hg : W.mg t = some (.ref a)) (hT : StrTab W.prog W.w W.s₁.heap a T) (hl : PySem.Spec.lookup (.str x) T = some (.int i)) (he : Ev W A env Δ μ e (.str x))
    (hk : env.kindOf t = some .globalImplicit) (hd : (t == ("__debug__" : Str)) = false) (hs : ∀ a b c p, e ≠ .Slice a b c p) : Ev W A env Δ μ (.Subscript (.Name t p) e pos) (.int i) := fun F s E S => by
  refine Subscript_ (wpAny_Name (loadGlob hW S (.inl hg) hk ?_) hd)
  refine wpAny_mono (he F s E S) (fun u s₁ h₁ => ?_) fun _ _ e => e
  obtain ⟨F₁, x₁, r₁⟩ := h₁
  rw [RelV] at r₁; obtain ⟨t', rfl⟩ := r₁
  have S₁ := S.ext x₁
  refine item_strTab (hT.keep fun b ob e => S₁.sub _ _ (S₁.base b ob e)) hl (fun v hv => ?_) (sub_plain hs _ _) (fun _ => rfl)
  cases hv s₁.heap
  exact ⟨F₁, x₁.trans (Ext.ofKeeps S₁.sub (Keeps.tok s₁ _)), by rw [RelV]; exact ⟨_, rfl⟩⟩

theorem relInts_are {F : FM} : ∀ {ns : List Int} {vs : List Value}, RelVs F (ns.map .int) vs → IntsAre vs ns
  | [], vs, r => by rw [List.map_nil, RelVs] at r; subst r; exact .nil
  | n :: ns, vs, r => by
    rw [List.map_cons, RelVs] at r
    obtain ⟨v, r', rfl, h1, h2⟩ := r
    rw [RelV] at h1; obtain ⟨t, rfl⟩ := h1
    exact .cons _ _ (relInts_are h2)
theorem ints_uniq : ∀ {vs : List Value} {ns ms : List Int}, IntsAre vs ns → IntsAre vs ms → ns = ms
  | _, _, _, .nil, .nil => rfl
  | _, _, _, .cons _ _ h, .cons _ _ h' => by rw [ints_uniq h h']

def listOfInts (ns : List Int) : D := .list (ns.map .int)
/-- xs.index(v), v and all of xs lists of ints -/
theorem Ev.indexL {o e : Expr} {apos pos : Pos} {d : D} {nss : List (List Int)} {ms : List Int} (hb : plainBase o = true) (hn : notStar e = true) (hline : (apos.endLine == pos.line) = true) (hu : A.units + 64 < 9000)
    (ho : Ev W A env Δ μ o d) (he : Ev W A env Δ μ e (listOfInts ms)) (hl : asList μ d = some (nss.map listOfInts)) (hj : ms ∈ nss) (hsz : nss.length ≤ sizeLine) :
    Ev W A env Δ μ (.Call (.Attribute o "index" apos) [e] [] pos) (.int (posL nss ms : Nat)) := fun F s E S => by
  refine Call_method1 (base_eq hb _) (starEach_cons hn) hline (wpAny_mono (ho F s E S) (fun v s₁ h₁ => ?_) fun _ _ e => e)
  obtain ⟨F₁, x₁, r₁⟩ := h₁
  have S₁ := S.ext x₁
  obtain ⟨l, vs, n, rfl, hget, hr⟩ := asList_rel S₁ r₁ hl
  refine ⟨"list", _, PySem.F.plainAttrs_list, PySem.F.slot_list_index, PySem.F.type_list_index, ⟨_, hget, rfl⟩, (fun a e => ⟨_, by cases e; exact hget, rfl⟩), ?_⟩
  refine seqMethod1_meets PySem.F.slot_list_index PySem.F.entry_list_index (wpAny_mono (he F₁ s₁ E S₁) (fun v s₂ h₂ => ?_) fun _ _ e => e)
  obtain ⟨F₂, x₂, r₂⟩ := h₂
  have S₂ := S₁.ext x₂
  have hget₂ := Keeps.get x₂.keeps hget
  have hr₂ := hr.mono x₂.sub
  have hlen := hr₂.length
  rw [List.length_map] at hlen
  unfold listOfInts at r₂
  rw [RelV] at r₂
  obtain ⟨b, us, n', rfl, hb, hbr⟩ := r₂
  have hbI := relInts_are hbr
  have hbL := lobj_isList (S₂.sub _ _ hb)
  obtain ⟨a1, a2, a3⟩ : posL nss ms < nss.length ∧ nss[posL nss ms]? = some ms ∧ ∀ m, m < posL nss ms → ∀ y, nss[m]? = some y → y ≠ ms := idxOf_facts hj
  have hfit : (sizeLine : Int) < 2 ^ 63 - 1 := by decide
  have hel : ∀ m ns, nss[m]? = some ns → ∃ (c : Addr) (ws : List Value) (k : Nat), vs[m]? = some (Value.ref c) ∧ s₂.heap.get? c = some (lobj ws k) ∧ IntsAre ws ns := fun m ns hm => by
    obtain ⟨v, hv, rv⟩ := hr₂.get (i := m) (d := listOfInts ns) (by rw [List.getElem?_map, hm]; rfl)
    unfold listOfInts at rv
    rw [RelV] at rv
    obtain ⟨c, ws, k, rfl, hc, hcr⟩ := rv
    exact ⟨c, ws, k, hv, S₂.sub _ _ hc, relInts_are hcr⟩
  let e : Value → Bool := fun y => @decide (∃ c ws k, y = .ref c ∧ s₂.heap.get? c = some (lobj ws k) ∧ IntsAre ws ms) (Classical.propDecidable _)
  have he : ∀ (m : Nat) (ns : List Int) (c : Addr) (ws : List Value) (k : Nat), s₂.heap.get? c = some (lobj ws k) → IntsAre ws ns → e (.ref c) = decide (ns = ms) := fun m ns c ws k hc hi => by
    by_cases h : ns = ms
    · subst h; rw [decide_eq_true rfl]; exact @decide_eq_true _ (Classical.propDecidable _) ⟨c, ws, k, rfl, hc, hi⟩
    · rw [decide_eq_false h]
      refine @decide_eq_false _ (Classical.propDecidable _) ?_
      rintro ⟨c', ws', k', e1, hc', hi'⟩
      cases e1
      rw [hc] at hc'; cases hc'
      exact h (ints_uniq hi hi')
  have hsize : vs.toArray.size = nss.length := by simpa using hlen
  have hitem : ∀ m (hm : m < vs.toArray.size), ∃ (c : Addr) (ws : List Value) (k : Nat), vs.toArray[m] = Value.ref c ∧ s₂.heap.get? c = some (lobj ws k) ∧ IntsAre ws (nss[m]'(by omega)) := fun m hm => by
    obtain ⟨c, ws, k, h1, h2, h3⟩ := hel m (nss[m]'(by omega)) (List.getElem?_eq_getElem _)
    refine ⟨c, ws, k, ?_, h2, h3⟩
    simp
    exact (List.getElem?_eq_some_iff.mp h1).2
  refine ⟨⟨_, hget₂, rfl⟩, PySem.F.args_list_index_2 _ _, _, SeqAt.list_indexAt l vs.toArray n none #[] _ e (posL nss ms) (by rw [hsize]; exact a1) (by omega) ?_ (fun m hm hmj => ?_), hget₂, fun y hy => ?_, ?_⟩
  · obtain ⟨c, ws, k, h1, h2, h3⟩ := hitem (posL nss ms) (by rw [hsize]; exact a1)
    rw [h1, he 0 _ c ws k h2 h3]
    exact decide_eq_true (Option.some.inj ((List.getElem?_eq_getElem a1).symm.trans a2))
  · obtain ⟨c, ws, k, h1, h2, h3⟩ := hitem m hm
    rw [h1, he 0 _ c ws k h2 h3]
    exact decide_eq_false (a3 m hmj _ (List.getElem?_eq_getElem _))
  · obtain ⟨m, hm, rfl⟩ := Array.getElem_of_mem hy
    obtain ⟨c, ws, k, h1, h2, h3⟩ := hitem m hm
    rw [h1, he 0 _ c ws k h2 h3]
    refine keq_ints (lobj_isList h2) h3 hbL hbI ?_
    show A.units + 1 + 64 < 9900
    omega
  · exact Gv.after (x₁.trans x₂) (gv_int S₂ _ _ _)

/-- x = [.. for ..], a list that is then changed -/
theorem Wp1.assignUsedNew {x : Str} {px pos p : Pos} {elt : Expr} {gens : List Comprehension} {scope : Scope} {ds : List D} (hs : swapsWith (.ListComp elt gens scope p) (some (.Name x px)) pos.line env = pure true)
    (hk : env.kindOf x = some .local) (he : CompOk W A env Δ μ elt gens scope p (.list ds)) (h : ∀ a, μ a = none → K .next ((x, .ref a) :: Δ) (μ.set a (.lst ds))) : Wp1 W A fr env (.Assign [.Name x px] (.ListComp elt gens scope p) pos) Δ μ K := fun B F₀ F s Q E S k => by
  obtain ⟨g, gs, names, xs, out, rfl, hout, ok, hown, hset, hasync, hit, run⟩ := he
  cases hout
  obtain ⟨target, iter, ifs, as⟩ := g
  simp only at hasync; subst hasync
  rw [exec_Assign_Name_used _ _ _ _ hs]
  refine wpAny_bind (wpAny_standAt (wpAny_bind ?_))
  show wpAny _ A (do let _ ← comprehension (.ListComp elt (⟨target, iter, ifs, 0⟩ :: gs) scope p) scope env _ (newList []) false (eval iter env) (some (PySem.assign (.Name x px) env))) _ _ s
  refine wpAny_bind (wpAny_mono (comp_all (use := some (PySem.assign (.Name x px) env)) (Q := fun _ s' => Q .next s') ok hown hset rfl hit run S.st fun F' s' Acc C M => ?_) (fun _ s' hq => wpAny_pure (wpAny_pure hq)) fun _ _ e => e)
  show wpAny _ A (PySem.assign (.Name x px) env (.ref Acc)) _ _ _
  obtain ⟨vs, n, hget, hrel⟩ := M.rel
  obtain ⟨S₂, hμ⟩ := S.addM M.ext M.accF M.accN (m := .lst ds) ⟨vs, n, hget, hrel⟩
  have hLC : env.locals ≠ C := by
    rintro h0; obtain ⟨m, o, _, _, ho, _⟩ := S.st.ns; rw [h0, M.locN] at ho; cases ho
  refine wpAny_assign_Name (S₂.st.store (.inl hk) (d := .ref Acc) (by rw [RelV]) fun s₃ b hb S₃ x₃ => ?_)
  have hbL : b = env.locals := by
    rcases hb with ⟨h1, _⟩ | ⟨_, h1⟩
    · exact h1
    · rw [hk] at h1; cases h1
  have Sf₃ : Sf W fr B F₀ env ((x, .ref Acc) :: Δ) (μ.set Acc (.lst ds)) F' s₃ := S₂.own' S₃ x₃ (fun c hc => by simp at hc; subst hc; rw [hbL]; exact S.loc) S₂.own
  obtain ⟨m, hn⟩ := M.ns
  have hCF : F' C = none := M.locF
  have hCμ : (μ.set Acc (.lst ds)) C = none := by
    rw [MM.set_ne (fun e => M.ne e.symm)]
    cases e : μ C with
    | none => rfl
    | some m' => obtain ⟨_, hr⟩ := S.st.mu C m' e; obtain ⟨o, ho⟩ := hr.some; rw [M.locN] at ho; cases ho
  have hCB : B C = none := by
    cases e : B C with
    | none => rfl
    | some o => obtain ⟨o', h6⟩ := S.there e; rw [M.locN] at h6; cases h6
  refine ⟨m, hn.at' fun o e => x₃.keeps.get (by simp; rw [hbL]; exact fun e => hLC e.symm) e, fun h' hs' => ?_⟩
  have kb : KeepsBut [C] s₃ { s₃ with heap := h' } := ⟨h', s₃.toks, rfl, fun b o hb e => (hs'.2 b (by simpa using hb)).trans e⟩
  refine k .next _ _ _ _ (h Acc hμ) (Sf₃.own' (Sf₃.st.frame kb fun b hb => ?_) (.same kb) (fun b hb => by simp at hb; subst hb; exact hCB) Sf₃.own)
  simp at hb; subst hb
  refine ⟨hCF, hCμ, fun e => hLC e.symm, fun y hy => ?_⟩
  obtain ⟨_, _, _, v, o, ho, _⟩ := S.st.cellF y b hy
  rw [M.locN] at ho; cases ho
end
section
variable {Φ Ψ : MM → Str → List D → Option D} {sc : Scope} {F : Fr Φ Ψ sc} {rest : List Stmt} {Δ : Ctx} {μ : MM} {K : Out → Ctx → MM → Prop}
theorem R.usedNew (n : Nat) {x : Str} {px pos p : Pos} {elt : Expr} {gens : List Comprehension} {scope : Scope} {ds : List D} (ok : (sc.names.lookup x == some .local && swapB sc.names (.ListComp elt gens scope p) x px == some true && okE (n + 1) sc.names (.ListComp elt gens scope p)) = true)
    (h : evD (Φ μ) (Ψ μ) μ (n + 1) (.ListComp elt gens scope p) Δ = some (.list ds)) (hr : ∀ a, μ a = none → R F rest ((x, .ref a) :: Δ) (μ.set a (.lst ds)) K) : R F (.Assign [.Name x px] (.ListComp elt gens scope p) pos :: rest) Δ μ K := by
  obtain ⟨h1, h2, h3⟩ := and3 ok
  exact Wp.cons (Wp1.assignUsedNew (Fr.swap h2) ((F.cx fun _ => none).kind (beq_iff_eq.mp h1)) ((F.cx μ).comp n h3 h) hr)
/-- a value that only its steps tell -/
theorem R.assignEv {x : Str} {px pos : Pos} {e : Expr} {d : D} (ok : (nmB sc x && swapB sc.names e x px == some false) = true) (h : Ev F.W F.A F.env Δ μ e d) (hr : R F rest ((x, d) :: Δ) μ K) : R F (.Assign [.Name x px] e pos :: rest) Δ μ K := by
  obtain ⟨h1, h2⟩ := Bool.and_eq_true_iff.mp ok
  exact Wp.cons (Wp1.assign (Fr.swap h2) (Fr.nm h1) h hr)
end
end Mine

open PySem PySem.W PyProof.Rows
set_option Elab.async false
set_option linter.unusedVariables false
set_option linter.unusedSimpArgs false
set_option maxRecDepth 100000
namespace Mine
abbrev top : List Stmt := PySem.Challenge.pw_ph0109_02.main.body

def flagD : List (PyData × PyData) := [(.int 1, .str "OPTIMIZED"), (.int 2, .str "NEWLOCALS"), (.int 4, .str "VARARGS"), (.int 8, .str "VARKEYWORDS"), (.int 16, .str "NESTED"), (.int 32, .str "GENERATOR"), (.int 64, .str "NOFREE"), (.int 128, .str "COROUTINE"), (.int 256, .str "ITERABLE_COROUTINE"), (.int 512, .str "ASYNC_GENERATOR")]

/-- what the top gives, in both laws -/
structure Tp (W : Wd) : Prop where
  b : Bi W
  fpretty : FnAt W "pretty_flags" (dArgs (sAt top 2)) (dBody (sAt top 2)) (dScope (sAt top 2))
  fvar : FnAt W "_parse_varint" (dArgs (sAt top 3)) (dBody (sAt top 3)) (dScope (sAt top 3))
  fT : FnAt W "ISTERMINAL" (dArgs (sAt top 56)) (dBody (sAt top 56)) (dScope (sAt top 56))
  fN : FnAt W "ISNONTERMINAL" (dArgs (sAt top 57)) (dBody (sAt top 57)) (dScope (sAt top 57))
  fE : FnAt W "ISEOF" (dArgs (sAt top 58)) (dBody (sAt top 58)) (dScope (sAt top 58))
  cNT : ∃ t, W.mg "NT_OFFSET" = some (.int 256 t)
  cEM : ∃ t, W.mg "ENDMARKER" = some (.int 0 t)
  flags : ∃ a, W.mg "COMPILER_FLAG_NAMES" = some (.ref a) ∧ IntTab W.prog W.w W.s₁.heap a flagD


def nmFlag (i : Int) (dflt : Str) : Str := match PySem.Spec.lookup (.int i) flagD with
  | some (.str x) => x
  | _ => dflt

theorem flag_str (p) (hp : p ∈ flagD) : ∃ y, p.2 = PyData.str y := by
  have : (flagD.all fun p => match p.2 with | .str _ => true | _ => false) = true := by decide +kernel
  have := List.all_eq_true.mp this p hp
  split at this
  · exact ⟨_, by assumption⟩
  · cases this
theorem get_flags {W : Wd} (T : Tp W) (k : Nat) (μ : MM) (i : Int) (x : Str) : GetOk W k μ "COMPILER_FLAG_NAMES" [.int i, .str x] (.str (nmFlag i x)) := by
  obtain ⟨a, hm, hT⟩ := T.flags
  obtain ⟨lo, kvs, ⟨o, es, ep, ho, hx, hd, _⟩, hf⟩ := id hT
  refine ⟨a, o, hm, ho, hx.1, hx.2.1, fun A env Δ F s E vs hA S r => ?_⟩
  rw [RelVs] at r; obtain ⟨v, r', rfl, h1, h2⟩ := r
  rw [RelVs] at h2; obtain ⟨v', r2, rfl, h3, h4⟩ := h2
  rw [RelVs] at h4; subst h4
  rw [RelV] at h1; obtain ⟨t, rfl⟩ := h1
  rw [RelV] at h3; obtain ⟨t', rfl⟩ := h3
  refine call_get2_intTab (hT.keep fun b ob e => S.sub _ _ (S.base b ob e)) (PyProof.V.Flat.str x t') fun v hv => ?_
  have key : ∃ t, v = .str (nmFlag i x) t := by
    unfold nmFlag
    cases e : PySem.Spec.lookup (.int i) flagD with
    | none => rw [e] at hv; simp only [Option.getD_none] at hv; cases hv s.heap; exact ⟨_, rfl⟩
    | some d =>
      obtain ⟨y, rfl⟩ := lookP (P := fun d => ∃ y, d = .str y) flagD flag_str _ d e
      rw [e] at hv; simp only [Option.getD_some] at hv; cases hv s.heap; exact ⟨_, rfl⟩
  obtain ⟨t'', rfl⟩ := key
  exact ⟨F, Ext.ofKeeps S.sub (Keeps.tok s _), by rw [RelV]; exact ⟨_, rfl⟩⟩

section
variable {W : Wd}
theorem ok_ISTERMINAL (T : Tp W) (k : Nat) (μ : MM) (i : Int) : FnOk W (k + 1) μ "ISTERMINAL" [.int i] (.bool (decide (i < 256))) := by
  refine fnOk (ps := ["x"]) T.b.ok T.fT (fnScope_of (by kernel_rfl)) rfl (fun pm code doc vs h => ?_) fun A env hA hE hsc => ?_
  · obtain ⟨v, rfl⟩ := len1 h; rfl
  · have C : Cx W A env (fun _ => none) (Φb fun _ => none) (fun _ _ => none) k (dScope (sAt top 56)) := ⟨T.b.ok, hA, tabB T.b k _, hE, hsc⟩
    obtain ⟨t, ht⟩ := T.cNT
    refine Wp.addGlobal (x := "NT_OFFSET") (d := .int 256) (C.kind (by kernel_rfl)) (.inl ht) (fun F => by rw [RelV]; exact ⟨t, rfl⟩) ?_
    refine Wp.cons (Wp1.ret (C.ev 10 (by kernel_rfl) ?_) rfl)
    simp [eI, eS, eN, eBin, eNeg, eCmp, eIf, eL, eSl, eXn, eXb, eXc, eXu, eXs, eCall, eM1, eM2, eB, opt2_ss, optS_s, idxV_int, List.lookup_cons, str_beq, cmpD]

theorem ok_ISNONTERMINAL (T : Tp W) (k : Nat) (μ : MM) (i : Int) : FnOk W (k + 1) μ "ISNONTERMINAL" [.int i] (.bool (decide (256 ≤ i))) := by
  refine fnOk (ps := ["x"]) T.b.ok T.fN (fnScope_of (by kernel_rfl)) rfl (fun pm code doc vs h => ?_) fun A env hA hE hsc => ?_
  · obtain ⟨v, rfl⟩ := len1 h; rfl
  · have C : Cx W A env (fun _ => none) (Φb fun _ => none) (fun _ _ => none) k (dScope (sAt top 57)) := ⟨T.b.ok, hA, tabB T.b k _, hE, hsc⟩
    obtain ⟨t, ht⟩ := T.cNT
    refine Wp.addGlobal (x := "NT_OFFSET") (d := .int 256) (C.kind (by kernel_rfl)) (.inl ht) (fun F => by rw [RelV]; exact ⟨t, rfl⟩) ?_
    refine Wp.cons (Wp1.ret (C.ev 10 (by kernel_rfl) ?_) rfl)
    simp [eI, eS, eN, eBin, eNeg, eCmp, eIf, eL, eSl, eXn, eXb, eXc, eXu, eXs, eCall, eM1, eM2, eB, opt2_ss, optS_s, idxV_int, List.lookup_cons, str_beq, cmpD]

theorem ok_ISEOF (T : Tp W) (k : Nat) (μ : MM) (i : Int) : FnOk W (k + 1) μ "ISEOF" [.int i] (.bool (i == 0)) := by
  refine fnOk (ps := ["x"]) T.b.ok T.fE (fnScope_of (by kernel_rfl)) rfl (fun pm code doc vs h => ?_) fun A env hA hE hsc => ?_
  · obtain ⟨v, rfl⟩ := len1 h; rfl
  · have C : Cx W A env (fun _ => none) (Φb fun _ => none) (fun _ _ => none) k (dScope (sAt top 58)) := ⟨T.b.ok, hA, tabB T.b k _, hE, hsc⟩
    obtain ⟨t, ht⟩ := T.cEM
    refine Wp.addGlobal (x := "ENDMARKER") (d := .int 0) (C.kind (by kernel_rfl)) (.inl ht) (fun F => by rw [RelV]; exact ⟨t, rfl⟩) ?_
    refine Wp.cons (Wp1.ret (C.ev 10 (by kernel_rfl) ?_) rfl)
    simp [eI, eS, eN, eBin, eNeg, eCmp, eIf, eL, eSl, eXn, eXb, eXc, eXu, eXs, eCall, eM1, eM2, eB, opt2_ss, optS_s, idxV_int, List.lookup_cons, str_beq, cmpD]
end
end Mine

open PySem PySem.W PyProof.Rows
set_option Elab.async false
set_option linter.unusedVariables false
set_option linter.unusedSimpArgs false
set_option maxRecDepth 100000
namespace Mine

def nm (k : Nat) : Str := nmFlag (2 ^ k) (hexS (2 ^ k))
def bitsTo (i : Nat) (n : Int) : List Nat := (List.range i).filter fun k => n / 2 ^ k % 2 == 1
def clr (i : Nat) (n : Int) : Int := n / 2 ^ i * 2 ^ i
def wordsL (ks : List Nat) (above : Int) : List Str := ks.map nm ++ if above ≠ 0 ∨ ks = [] then [hexS above] else []
def prettyS (n : Int) : Str := Txt.join ", " (wordsL (bitsTo 32 n) (clr 32 n))

theorem pow_pos' (i : Nat) : (0 : Int) < 2 ^ i := Int.pow_pos (by decide)
theorem half (n : Int) (i : Nat) : n / 2 ^ i = 2 * (n / 2 ^ (i + 1)) + n / 2 ^ i % 2 := by
  have e : n / 2 ^ (i + 1) = n / 2 ^ i / 2 := by rw [Int.pow_succ, ← Int.ediv_ediv_of_nonneg (Int.le_of_lt (pow_pos' i))]
  rw [e]; omega
theorem bitsTo_succ (i : Nat) (n : Int) : bitsTo (i + 1) n = bitsTo i n ++ if n / 2 ^ i % 2 == 1 then [i] else [] := by
  unfold bitsTo
  rw [List.range_succ, List.filter_append]
  cases h : n / 2 ^ i % 2 == 1 <;> simp [h]
theorem clr_div (i : Nat) (n : Int) : clr i n / 2 ^ i = n / 2 ^ i := Int.mul_ediv_cancel _ (Int.ne_of_gt (pow_pos' i))
theorem clr_same (i : Nat) (n : Int) (h : ¬ n / 2 ^ i % 2 = 1) : clr (i + 1) n = clr i n := by
  unfold clr
  have h1 := half n i
  have h2 : n / 2 ^ i % 2 = 0 := by omega
  rw [h2] at h1
  rw [h1, Int.pow_succ]
  rw [Int.add_zero, Int.mul_comm 2, Int.mul_assoc, Int.mul_comm 2]
theorem clr_xor (i : Nat) (n : Int) (h : n / 2 ^ i % 2 = 1) : Builtin.bitXor (clr i n) (2 ^ i) = clr (i + 1) n := by
  rw [bitXor_and, kbt_bit, clr_div, h]
  unfold clr
  have h1 := half n i
  rw [h] at h1
  rw [h1, Int.pow_succ]
  generalize n / (2 ^ i * 2) = q
  generalize (2 : Int) ^ i = p
  have : (2 * q + 1) * p = 2 * (q * p) + p := by rw [Int.add_mul, Int.mul_assoc, Int.one_mul]
  have h2 : q * (p * 2) = 2 * (q * p) := by rw [← Int.mul_assoc, Int.mul_comm]
  omega
theorem clr_zero_bits {i j : Nat} {n : Int} (h : clr i n = 0) (hij : i ≤ j) : n / 2 ^ j = 0 := by
  have h0 : n / 2 ^ i = 0 := by
    unfold clr at h
    rcases Int.mul_eq_zero.mp h with h | h
    · exact h
    · have := pow_pos' i; omega
  have e : (2 : Int) ^ j = 2 ^ i * 2 ^ (j - i) := by rw [← Int.pow_add]; congr 1; omega
  rw [e, ← Int.ediv_ediv_of_nonneg (Int.le_of_lt (pow_pos' i)), h0, Int.zero_ediv]
theorem bitsTo_stable {i j : Nat} {n : Int} (h : clr i n = 0) (hij : i ≤ j) : bitsTo j n = bitsTo i n := by
  obtain ⟨d, rfl⟩ := Nat.exists_eq_add_of_le hij
  induction d with
  | zero => rfl
  | succ d ih =>
    rw [show i + (d + 1) = (i + d) + 1 from rfl, bitsTo_succ, ih (by omega), clr_zero_bits h (by omega)]
    simp
theorem clr_stable {i j : Nat} {n : Int} (h : clr i n = 0) (hij : i ≤ j) : clr j n = 0 := by unfold clr; rw [clr_zero_bits h hij]; simp

theorem mem_rangeD {n i : Nat} {d : D} (h : ((rangeL 0 n 1).map D.int)[i]? = some d) : d = .int i ∧ i < n := by
  rw [rangeL_up, List.map_map, List.getElem?_map] at h
  obtain ⟨j, hj, rfl⟩ := Option.map_eq_some_iff.mp h
  have hi : i < n := by have := (List.getElem?_eq_some_iff.mp hj).1; simpa using this
  rw [List.getElem?_range hi] at hj
  cases hj
  exact ⟨rfl, hi⟩

def Ψf (t : Str) (ds : List D) : Option D := if t = "COMPILER_FLAG_NAMES" then (match ds with
  | [.int i, .str x] => some (.str (nmFlag i x))
  | _ => none) else none

theorem tabP {W : Wd} (T : Tp W) (k : Nat) (μ : MM) : TabOk W k μ (Φb μ) Ψf := by
  have := (tabB T.b k μ).get' (t := "COMPILER_FLAG_NAMES") (g := fun ds => match ds with
    | [.int i, .str x] => some (.str (nmFlag i x))
    | _ => none) (fun ds d h => by
      split at h
      · cases h; exact get_flags T k μ _ _
      · cases h)
  exact this
end Mine

open PySem PySem.W PyProof.Rows
set_option Elab.async false
set_option linter.unusedVariables false
set_option linter.unusedSimpArgs false
set_option maxRecDepth 100000
namespace Mine
theorem joinOk_of {sep : Str} {texts : List Str} {m n : Nat} (hs : sep.length ≤ 8) (h : ∀ x ∈ texts, x.length ≤ m) (hl : texts.length ≤ n) (hz : n * (m + 8) ≤ 1000000) : JoinOk sep texts = true := by
  have key : ∀ (l : List Str) (acc : Nat), (∀ x ∈ l, x.length ≤ m) → l.foldl (fun a (x : Str) => a + x.length + sep.length) acc ≤ acc + l.length * (m + 8) := by
    intro l
    induction l with
    | nil => intro acc _; simp
    | cons x l ih =>
      intro acc hx
      rw [List.foldl_cons]
      refine Nat.le_trans (ih _ fun y hy => hx y (List.mem_cons_of_mem _ hy)) ?_
      have := hx x List.mem_cons_self
      rw [List.length_cons, Nat.succ_mul]
      omega
  have h1 := key texts 0 h
  have h2 : texts.length * (m + 8) ≤ n * (m + 8) := Nat.mul_le_mul_right _ hl
  unfold JoinOk Builtin.Str.tooLong
  rw [List.foldl_toArray]
  simp only [Bool.not_eq_true', decide_eq_false_iff_not]
  have h3 : sizeLine = 16777216 := by decide
  omega
theorem flag_small (p) (hp : p ∈ flagD) : ∃ y : Str, p.2 = PyData.str y ∧ y.length ≤ 18 := by
  have : (flagD.all fun p => match p.2 with | .str y => decide (y.length ≤ 18) | _ => false) = true := by decide +kernel
  have := List.all_eq_true.mp this p hp
  split at this
  · exact ⟨_, by assumption, of_decide_eq_true this⟩
  · cases this
theorem nmFlag_len {i : Int} {x : Str} {m : Nat} (hm : 18 ≤ m) (h : x.length ≤ m) : (nmFlag i x).length ≤ m := by
  unfold nmFlag
  cases e : PySem.Spec.lookup (.int i) flagD with
  | none => exact h
  | some d => obtain ⟨y, rfl, hy⟩ := lookP (P := fun d => ∃ y : Str, d = .str y ∧ y.length ≤ 18) flagD flag_small _ d e; exact Nat.le_trans hy hm
theorem nm_len {k : Nat} (h : k < 32) : (nm k).length ≤ 103 := by
  refine nmFlag_len (by decide) (hexS_len ?_)
  have : (2 : Int) ^ k < 2 ^ 32 := by
    have : (2 : Nat) ^ k < 2 ^ 32 := Nat.pow_lt_pow_right (by decide) h
    exact_mod_cast this
  have := pow_pos' k
  omega
theorem wordsL_join {ks : List Nat} {above : Int} (h : ∀ k ∈ ks, k < 32) (hl : ks.length ≤ 32) (ha : above.natAbs < 16 ^ 100) : JoinOk ", " (wordsL ks above) = true := by
  refine joinOk_of (m := 103) (n := 33) (by decide) (fun x hx => ?_) ?_ (by decide)
  · unfold wordsL at hx
    rcases List.mem_append.mp hx with hx | hx
    · obtain ⟨k, hk, rfl⟩ := List.mem_map.mp hx; exact nm_len (h k hk)
    · split at hx
      · simp at hx; subst hx; exact hexS_len ha
      · cases hx
  · unfold wordsL
    rw [List.length_append, List.length_map]
    split <;> simp <;> omega

theorem clr_small (n : Int) (hn : n.natAbs < 2 ^ 90) : (clr 32 n).natAbs < 16 ^ 100 := by
  unfold clr
  rw [Int.natAbs_mul]
  exact Nat.lt_of_le_of_lt (Nat.mul_le_mul_right _ (Int.natAbs_ediv_le_natAbs ..)) (Nat.lt_of_lt_of_le (Nat.mul_lt_mul_of_pos_right hn (by decide)) (by decide +kernel))
theorem bits_len (i : Nat) (n : Int) : (bitsTo i n).length ≤ i := Nat.le_trans (List.length_filter_le ..) (by simp)
theorem pow32 {i : Nat} (hi : i < 32) : (2 : Int) ^ i < 2 ^ 32 := by
  have : (2 : Nat) ^ i < 2 ^ 32 := Nat.pow_lt_pow_right (by decide) hi
  exact_mod_cast this

abbrev fPretty : Stmt := sAt top 2
abbrev bPretty : List Stmt := forB (sAt (dBody fPretty) 1)
/-- while the flags are told -/
structure PF (n : Int) (a : Addr) (i : Nat) (c : Int) (l : List Str) (Δ : Ctx) (μ : MM) : Prop where
  names : Δ.lookup ("names" : Str) = some (.ref a)
  flags : Δ.lookup ("flags" : Str) = some (.int c)
  cell : μ a = some (.lst (l.map .str))

section
variable {F : Fr Φb (fun _ => Ψf) (dScope fPretty)} {n : Int} {a : Addr} {i : Nat} {c : Int} {l : List Str} {Δ : Ctx} {μ : MM} {K : Out → Ctx → MM → Prop}
theorem PF.cons (S : PF n a i c l Δ μ) {x : Str} {d : D} (h : offN ["names", "flags"] x = true) : PF n a i c l ((x, d) :: Δ) μ := ⟨look_off h (by decide +kernel) S.names, look_off h (by decide +kernel) S.flags, S.cell⟩

theorem pretty_one (hi : i < 32) (S : PF n a i (clr i n) ((bitsTo i n).map nm) Δ μ) (h4 : bitsTo i n = [] ∨ clr i n ≠ 0) (hb : ∀ Δ μ, Δ.lookup ("names" : Str) = some (.ref a) → μ a = some (.lst ((wordsL (bitsTo 32 n) (clr 32 n)).map .str)) → K .brk Δ μ)
    (hk : ∀ Δ μ, PF n a (i + 1) (clr (i + 1) n) ((bitsTo (i + 1) n).map nm) Δ μ → (bitsTo (i + 1) n = [] ∨ clr (i + 1) n ≠ 0) → K .next Δ μ) : R F bPretty (("i", .int i) :: Δ) μ K := by
  have hle := line_big
  have S := S.cons (x := "i") (d := .int i) (by decide +kernel)
  have hii : ((("i" : Str), D.int i) :: Δ).lookup ("i" : Str) = some (.int i) := look_eq
  generalize ((("i" : Str), D.int i) :: Δ) = Δ at *
  have hp := pow32 hi
  have hp0 := pow_pos' i
  have hsh : binD μ .LShift (.int 1) (.int i) = some (.int (2 ^ i)) := by rw [binD_int]; simp only [aAdd, aSub, aMul, aDiv, aMod, aPow, aShl, aShr, aAnd, aOr, aXor]; rw [if_pos ⟨by omega, by omega, by decide⟩]; simp
  refine R.assign 10 (d := .int (2 ^ i)) (by kernel_rfl) ((evD_bin eI (by rw [eN, hii])).trans hsh) ?_
  have S := S.cons (x := "flag") (d := .int (2 ^ i)) (by decide +kernel)
  have hfl : ((("flag" : Str), D.int (2 ^ i)) :: Δ).lookup ("flag" : Str) = some (.int (2 ^ i)) := look_eq
  generalize ((("flag" : Str), D.int (2 ^ i)) :: Δ) = Δ at *
  have hand : binD μ .BitAnd (.int (clr i n)) (.int (2 ^ i)) = some (.int (if n / 2 ^ i % 2 = 1 then 2 ^ i else 0)) := by
    rw [binD_int]; simp only [aAdd, aSub, aMul, aDiv, aMod, aPow, aShl, aShr, aAnd, aOr, aXor]; rw [kbt_bit, clr_div]
    by_cases h : n / 2 ^ i % 2 = 1
    · rw [if_pos h, h]; simp
    · rw [if_neg h, show n / 2 ^ i % 2 = 0 by omega]; simp
  refine R.if_ 10 (b := n / 2 ^ i % 2 == 1) (by kernel_rfl) ?_ (fun hbt => ?_) (fun hbt => ?_)
  · rw [tBin, evD_bin (a := .int (clr i n)) (b := .int (2 ^ i)) (by rw [eN, S.flags]) (by rw [eN, hfl]), hand]
    by_cases h : n / 2 ^ i % 2 = 1
    · rw [if_pos h]; simp [truthD, h]; omega
    · rw [if_neg h]; simp [truthD, h]
  · have hbit : n / 2 ^ i % 2 = 1 := beq_iff_eq.mp hbt
    have hlen := bits_len i n
    have e1 : ((bitsTo i n).map nm).map D.str ++ [D.str (nm i)] = ((bitsTo (i + 1) n).map nm).map D.str := by rw [bitsTo_succ]; simp [hbit]
    have hne : bitsTo (i + 1) n ≠ [] := by rw [bitsTo_succ]; simp [hbit]
    have hhex : Φb μ "hex" [.int (2 ^ i)] = some (.str (hexS (2 ^ i))) := Φb_hex (by omega)
    refine R.append 10 (a := a) (d := .str (nm i)) (by kernel_rfl) (by rw [eN, S.names]) S.cell ?_ (by simp; omega) ?_
    · rw [eM2]
      simp only [eN, eCall, evs, hfl, optS_s, hhex, opt2_ss, Ψf, nmGet]
      simp [nm]
    rw [e1]
    have S : PF n a i (clr i n) ((bitsTo (i + 1) n).map nm) Δ (μ.set a (.lst (((bitsTo (i + 1) n).map nm).map .str))) := ⟨S.names, S.flags, MM.set_self ..⟩
    generalize μ.set a (.lst (((bitsTo (i + 1) n).map nm).map .str)) = μ at *
    clear hand hsh
    refine R.aug 10 (a := clr i n) (b := 2 ^ i) (c := clr (i + 1) n) (by kernel_rfl) S.flags (by rw [eN, hfl]) (by simp only [iShl, iOr, iXor]; rw [clr_xor i n hbit]) ?_
    have S : PF n a (i + 1) (clr (i + 1) n) ((bitsTo (i + 1) n).map nm) ((("flags" : Str), .int (clr (i + 1) n)) :: Δ) μ := ⟨look_tl (by decide +kernel) S.names, look_eq, S.cell⟩
    generalize ((("flags" : Str), D.int (clr (i + 1) n)) :: Δ) = Δ at *
    refine R.if_ 10 (b := clr (i + 1) n == 0) (by kernel_rfl) ?_ (fun hz => ?_) (fun hz => R.nil (hk _ _ S (.inr fun e => by rw [e] at hz; cases hz)))
    · rw [tNot, tN, eN, S.flags]
      simp only [Option.bind_some, truthD, Option.map_some, bne, Bool.not_not]
    · have hz := beq_iff_eq.mp hz
      refine R.brk (hb _ _ S.names ?_)
      rw [S.cell]
      unfold wordsL
      rw [bitsTo_stable hz (by omega : i + 1 ≤ 32), clr_stable hz (by omega : i + 1 ≤ 32)]
      simp [hne]
  · have hbit : ¬ n / 2 ^ i % 2 = 1 := fun e => by rw [e] at hbt; cases hbt
    have e1 : bitsTo (i + 1) n = bitsTo i n := by rw [bitsTo_succ]; simp [hbit]
    rw [e1, clr_same i n hbit] at hk
    exact R.nil (hk _ _ ⟨S.names, S.flags, S.cell⟩ h4)
end

section
variable {W : Wd}
theorem ok_pretty (T : Tp W) (k : Nat) (μ : MM) (n : Int) (hn : n.natAbs < 2 ^ 90) : FnOk W (k + 1) μ "pretty_flags" [.int n] (.str (prettyS n)) := by
  refine fnOk (ps := ["flags"]) T.b.ok T.fpretty (fnScope_of (by kernel_rfl)) rfl (fun pm code doc vs h => ?_) fun A env hA hE hsc => ?_
  · obtain ⟨v, rfl⟩ := len1 h; rfl
  generalize hF : (⟨W, A, [], env, k, fun μ => ⟨T.b.ok, hA, tabP T k _, hE, hsc⟩⟩ : Fr Φb (fun _ => Ψf) (dScope fPretty)) = F
  have hR : ∀ {ss Δ μ K}, R F ss Δ μ K → Wp W A [] env ss Δ μ K := by subst hF; exact fun h => h
  refine hR ?_
  clear hR hF hA hE hsc
  have hle := line_big
  have hc := clr_small n hn
  have hlen := bits_len 32 n
  have hj : JoinOk ", " (wordsL (bitsTo 32 n) (clr 32 n)) = true := wordsL_join (fun k hk => by have := (List.mem_filter.mp hk).1; simpa using this) hlen hc
  have fin : ∀ (a : Addr) Δ μ, Δ.lookup ("names" : Str) = some (.ref a) → μ a = some (.lst ((wordsL (bitsTo 32 n) (clr 32 n)).map .str)) → R F ((dBody fPretty).drop 2) Δ μ (fun o _ _ => o = .ret (.str (prettyS n))) := fun a Δ μ h1 h2 => by
    refine R.ret 10 (by kernel_rfl) ((evD_meth (a := .str ", ") (b := .ref a) eS (by rw [eN, h1])).trans ?_) rfl
    simp only [methD, nmJoin, if_true, asList_ref h2, Option.bind_some, strsOf_map, if_pos hj, prettyS]
  refine R.new 5 (by kernel_rfl) (EvNew.display .nil (by decide)) fun a ha => ?_
  refine R.forE (xs := (rangeL 0 32 1).map .int) (fun i Δ μ => PF n a i (clr i n) ((bitsTo i n).map nm) Δ μ ∧ (bitsTo i n = [] ∨ clr i n ≠ 0)) (by kernel_rfl) (Fr.rangeF 10 (by kernel_rfl) (ds := [.int 32]) (by simp only [evs, eI]) rfl (by decide))
    ⟨⟨look_eq, look_tl (by decide +kernel) (by rw [show clr 0 n = n by simp [clr]]; exact look_eq), MM.set_self ..⟩, .inl rfl⟩ (fun i d Δ μ P R' hd S hP hR => ?_) (fun Δ μ P S hP => ?_)
  · obtain ⟨rfl, hi⟩ := mem_rangeD (n := 32) hd
    exact pretty_one hi S.1 S.2 (fun Δ μ h1 h2 => hR Δ μ (fin a Δ μ h1 h2)) fun Δ μ S h4 => hP Δ μ ⟨S, h4⟩
  · obtain ⟨S, h4⟩ := S
    have e32 : ((rangeL 0 32 1).map D.int).length = 32 := by decide
    rw [e32] at S h4
    refine R.append 10 (a := a) (d := .str (hexS (clr 32 n))) (by kernel_rfl) (by rw [eN, S.names]) S.cell ?_ (by simp; omega) (R.nil (hP _ _ (fin a _ _ S.names ?_)))
    · have := Φb_hex (μ := μ) hc
      simp only [eCall, evs, eN, S.flags, optS_s, this]
    · rw [MM.set_self]
      unfold wordsL
      rw [if_pos h4.symm]; simp
end
end Mine

open PySem PySem.W PyProof.Rows
set_option Elab.async false
set_option linter.unusedVariables false
set_option linter.unusedSimpArgs false
set_option maxRecDepth 100000
namespace Mine

def octSize (m : Int) : Nat := if m < 64 then 1 else if m < 4096 then 2 else 3
def octet (k : Nat) (m : Int) (j : Nat) : Int := m / 64 ^ j % 64 + (if j > 0 then 64 else 0) + (if (k + j) % 3 = 0 then 128 else 0)
/-- the octets of the k-th number, the highest first -/
def octs (k : Nat) (m : Int) : List Int := (List.range (octSize m + k % 2)).map fun i => octet k m (octSize m + k % 2 - 1 - i)
def octsTo (n : Nat) (ns : List Int) : List Int := (List.range n).flatMap fun k => octs k (ns.getD k 0)

theorem octs_len (k : Nat) (m : Int) : (octs k m).length ≤ 4 := by
  unfold octs octSize; simp; split <;> (try split) <;> omega
theorem octsTo_len (n : Nat) (ns : List Int) : (octsTo n ns).length ≤ 4 * n := by
  unfold octsTo
  induction n with
  | zero => simp
  | succ n ih =>
    rw [List.range_succ, List.flatMap_append, List.length_append]
    have := octs_len n (ns.getD n 0)
    simp at ih ⊢
    simp at this
    omega
theorem octsTo_succ (n : Nat) (ns : List Int) : octsTo (n + 1) ns = octsTo n ns ++ octs n (ns.getD n 0) := by
  unfold octsTo; rw [List.range_succ, List.flatMap_append]; simp

theorem rangeL_down (a : Nat) : rangeL ((a : Int) - 1) (-1) (-1) = (List.range a).map fun i => ((a - 1 - i : Nat) : Int) := by
  unfold rangeL Builtin.Range.rangeSize
  simp only [show ¬ (-1 : Int) > 0 by decide, if_false, Int.neg_neg, Int.ediv_one]
  by_cases h : (a : Int) - 1 > -1
  · have e : ((a : Int) - 1 - -1 - 1 + 1).toNat = a := by omega
    rw [if_pos h, e]
    refine List.map_congr_left fun i hi => ?_
    have := List.mem_range.mp hi
    omega
  · have : a = 0 := by omega
    subst this; simp

theorem mem_rangeDown {a i : Nat} {d : D} (h : ((rangeL ((a : Int) - 1) (-1) (-1)).map D.int)[i]? = some d) : d = .int ((a - 1 - i : Nat) : Int) ∧ i < a := by
  rw [rangeL_down, List.map_map, List.getElem?_map] at h
  obtain ⟨j, hj, rfl⟩ := Option.map_eq_some_iff.mp h
  have hi : i < a := by have := (List.getElem?_eq_some_iff.mp hj).1; simpa using this
  rw [List.getElem?_range hi] at hj
  cases hj
  exact ⟨rfl, hi⟩

end Mine

open PySem PySem.W PyProof.Rows
set_option Elab.async false
set_option linter.unusedVariables false
set_option linter.unusedSimpArgs false
set_option maxRecDepth 100000
namespace Mine
abbrev fOct : Stmt := sAt top 60
abbrev bOct : List Stmt := forB (sAt (dBody fOct) 1)
abbrev bOctIn : List Stmt := forB (sAt bOct 1)


/-- while the octets are laid -/
structure OC (ns : List Int) (a : Addr) (acc : List Int) (Δ : Ctx) (μ : MM) : Prop where
  tape : Δ.lookup ("tape" : Str) = some (.ref a)
  numbers : Δ.lookup ("numbers" : Str) = some (.list (ns.map .int))
  cell : μ a = some (.lst (acc.map .int))

theorem pow64_lt : ∀ {e : Nat}, e ≤ 3 → 0 < (64 : Int) ^ e ∧ (64 : Int) ^ e < 1073741824
  | 0, _ => by decide
  | 1, _ => by decide
  | 2, _ => by decide
  | 3, _ => by decide
theorem octet_eq (i : Nat) (m : Int) (e : Nat) : m / 64 ^ e % 64 + (if decide ((0 : Int) < (e : Nat)) = true then 64 else 0) + (if (((i : Nat) : Int) + (e : Nat)) % 3 == 0 then 128 else 0) = octet i m e := by
  unfold octet
  rw [ite_iff (by rw [decide_eq_true_eq]; omega : decide ((0 : Int) < (e : Nat)) = true ↔ e > 0), ite_iff (by rw [beq_iff_eq]; omega : ((((i : Nat) : Int) + (e : Nat)) % 3 == 0) = true ↔ (i + e) % 3 = 0)]

section
variable {F : Fr Φb (fun _ _ _ => none) (dScope fOct)} {ns : List Int} {a : Addr} {i : Nat} {m : Int} {acc : List Int} {Δ : Ctx} {μ : MM} {K : Out → Ctx → MM → Prop}

theorem OC.cons (S : OC ns a acc Δ μ) {x : Str} {d : D} (h : offN ["tape", "numbers"] x = true) : OC ns a acc ((x, d) :: Δ) μ := ⟨look_off h (by decide +kernel) S.tape, look_off h (by decide +kernel) S.numbers, S.cell⟩

theorem oct_in {e : Nat} (hx : idxD μ (.list (ns.map .int)) i = some (.int m)) (he : e ≤ 3) (hlen : acc.length ≤ 5000) (S : OC ns a acc Δ μ) (hki : Δ.lookup ("k" : Str) = some (.int i)) (hk : OC ns a (acc ++ [octet i m e]) (("j", .int e) :: Δ) (μ.set a (.lst ((acc ++ [octet i m e]).map .int))) → K .next (("j", .int e) :: Δ) (μ.set a (.lst ((acc ++ [octet i m e]).map .int)))) :
    R F bOctIn (("j", .int e) :: Δ) μ K := by
  have S := S.cons (x := "j") (d := .int e) (by decide +kernel)
  have hj : ((("j" : Str), D.int e) :: Δ).lookup ("j" : Str) = some (.int e) := look_eq
  have hki : ((("j" : Str), D.int e) :: Δ).lookup ("k" : Str) = some (.int i) := look_tl (by decide +kernel) hki
  generalize ((("j" : Str), D.int e) :: Δ) = Δ at *
  have hp := pow64_lt he
  have e1 : acc.map D.int ++ [.int (octet i m e)] = (acc ++ [octet i m e]).map .int := by rw [List.map_append]; rfl
  refine R.append 12 (a := a) (d := .int (octet i m e)) (by kernel_rfl) (by simp only [eN]; exact S.tape) S.cell ?_ (by have := line_big; rw [List.length_map]; omega) (R.nil (by rw [e1]; exact hk ⟨S.tape, S.numbers, MM.set_self ..⟩))
  rw [← octet_eq]
  rw [eBin, eBin, evD_ifInt (c := decide ((0 : Int) < (e : Nat))) (by simp only [tCmp, eN, eI, hj, opt2_ss, cmpD]), evD_ifInt (c := (((i : Nat) : Int) + (e : Nat)) % 3 == 0) (by simp only [tCmp, eBin, eN, eI, hj, hki, opt2_ss, cmpD, b_add, b_mod (show (0 : Int) < 3 by decide)])]
  simp only [eBin, eXn, eN, eI, hj, hki, S.numbers, opt2_ss, idxV_int, hx, b_pow (x := 64) (by decide) (Nat.le_trans he (by decide)), b_div hp.1 hp.2, b_mod (show (0 : Int) < 64 by decide), b_add]

theorem octSize_le (m : Int) : octSize m ≤ 3 := by unfold octSize; split <;> (try split) <;> omega

theorem oct_one (hx : (ns.map D.int)[i]? = some (.int m)) (hi : i < 1000) (hlen : acc.length ≤ 4000) (S : OC ns a acc Δ μ) (hk : ∀ Δ μ, OC ns a (acc ++ octs i m) Δ μ → K .next Δ μ) : R F bOct (("k", .int i) :: Δ) μ K := by
  have S := S.cons (x := "k") (d := .int i) (by decide +kernel)
  have hki : ((("k" : Str), D.int i) :: Δ).lookup ("k" : Str) = some (.int i) := look_eq
  generalize ((("k" : Str), D.int i) :: Δ) = Δ at *
  have hidx : ∀ μ, idxD μ (.list (ns.map .int)) i = some (.int m) := fun μ => idxD_list hx (by omega)
  refine R.assign 10 (d := .int (octSize m)) (by kernel_rfl) ?_ ?_
  · simp only [eIf, eI, eXn, eN, hki, S.numbers, opt2_ss, idxV_int, hidx, tCmp, cmpD]
    unfold octSize
    by_cases q1 : m < 64
    · simp only [decide_eq_true q1, if_pos q1]; rfl
    · by_cases q2 : m < 4096
      · simp only [decide_eq_false q1, if_neg q1, decide_eq_true q2, if_pos q2]; rfl
      · simp only [decide_eq_false q1, if_neg q1, decide_eq_false q2, if_neg q2]; rfl
  have hsz := octSize_le m
  have S := S.cons (x := "size") (d := .int (octSize m)) (by decide +kernel)
  have hki : ((("size" : Str), D.int (octSize m)) :: Δ).lookup ("k" : Str) = some (.int i) := look_tl (by decide +kernel) hki
  have hsi : ((("size" : Str), D.int (octSize m)) :: Δ).lookup ("size" : Str) = some (.int (octSize m)) := look_eq
  generalize ((("size" : Str), D.int (octSize m)) :: Δ) = Δ at *
  refine R.for_ (xs := (rangeL ((octSize m + i % 2 : Nat) - 1 : Int) (-1) (-1)).map .int) (fun j Δ μ => OC ns a (acc ++ (octs i m).take j) Δ μ ∧ Δ.lookup ("k" : Str) = some (.int i)) (by kernel_rfl)
    (Fr.rangeF 10 (by kernel_rfl) (ds := [.int ((octSize m + i % 2 : Nat) - 1 : Int), .int (-1), .int (-1)]) ?_ rfl (small_of (by omega) (by decide) (.inr rfl))) ⟨by rw [List.take_zero, List.append_nil]; exact S, hki⟩ (fun j d Δ μ P hd S hP => ?_) fun Δ μ S => ?_
  · simp only [evs, eBin, eNeg, eN, eI, hsi, hki, opt2_ss, b_add, b_sub, b_mod (show (0 : Int) < 2 by decide)]
    rfl
  · obtain ⟨S, hki⟩ := S
    obtain ⟨rfl, hj⟩ := mem_rangeDown hd
    have hjl : j < (octs i m).length := by unfold octs; simpa using hj
    have hoct : (octs i m)[j] = octet i m (octSize m + i % 2 - 1 - j) := by simp [octs]
    refine oct_in (hidx μ) (by omega) (by rw [List.length_append, List.length_take]; have := octs_len i m; omega) S hki fun S => hP _ _ ⟨?_, look_tl (by decide +kernel) hki⟩
    rw [List.take_succ_eq_append_getElem hjl, hoct, ← List.append_assoc]
    exact S
  · have e : ((rangeL ((octSize m + i % 2 : Nat) - 1 : Int) (-1) (-1)).map D.int).length = (octs i m).length := by rw [rangeL_down]; unfold octs; simp
    rw [e, List.take_length] at S
    exact R.nil (hk _ _ S.1)

theorem oct_all {rest : List Stmt} (hn : ns.length ≤ 1000) (S : OC ns a [] Δ μ) (hk : ∀ Δ μ, OC ns a (octsTo ns.length ns) Δ μ → R F rest Δ μ K) : R F (sAt (dBody fOct) 1 :: rest) Δ μ K := by
  refine R.forN 10 ns.length (fun i Δ μ => OC ns a (octsTo i ns) Δ μ) (by kernel_rfl) ?_ (by omega) S (fun i Δ μ P hi S hP => ?_) hk
  · have := Φb_len_list (μ := μ) (ds := ns.map D.int) (by have := line_big; rw [List.length_map]; omega)
    rw [List.length_map] at this
    simp only [eCall, evs, eN, S.numbers, optS_s, this]
  · have hx : (ns.map D.int)[i]? = some (.int (ns.getD i 0)) := by simp [List.getD, hi]
    exact oct_one hx (by omega) (Nat.le_trans (octsTo_len i ns) (by omega)) S fun Δ μ S => hP Δ μ (by rw [octsTo_succ]; exact S)
end


end Mine

open PySem PySem.W PyProof.Rows
set_option Elab.async false
set_option linter.unusedVariables false
set_option linter.unusedSimpArgs false
set_option maxRecDepth 100000
namespace Mine

inductive PV where
  | val (v : Int) (n : Nat)
  | stop | big
def pvGo : Nat → Int → Int → List Int → Nat → PV
  | 0, _, _, _, _ => .big
  | f + 1, val, b, r, n => if b / 64 % 2 = 1 then (match r with
    | [] => .stop
    | c :: r' => pvGo f (val * 64 + c % 64) c r' (n + 1)) else .val val n
/-- what _parse_varint reads off the front -/
def pv : List Int → PV
  | [] => .stop
  | b :: r => pvGo 5 (b % 64) b r 1

theorem bitAnd_shift (k : Nat) (x y : Int) (h0 : 0 ≤ y) (h1 : y < 2 ^ k) : Builtin.bitAnd (x * 2 ^ k) y = 0 := by
  induction k generalizing y with
  | zero =>
    have : y = 0 := by simp at h1; omega
    subst this; exact bitAnd_zero _
  | succ k ih =>
    rw [kbt_halves]
    have e1 : x * 2 ^ (k + 1) / 2 = x * 2 ^ k := by rw [Int.pow_succ, ← Int.mul_assoc, Int.mul_ediv_cancel _ (by decide)]
    have e2 : x * 2 ^ (k + 1) % 2 = 0 := by rw [Int.pow_succ, ← Int.mul_assoc, Int.mul_emod_left]
    rw [e1, e2, ih (y / 2) (by omega) (by rw [Int.pow_succ] at h1; omega)]
    simp
theorem bitOr_shift6 (x y : Int) (h0 : 0 ≤ y) (h1 : y < 64) : Builtin.bitOr (x * 64) y = x * 64 + y := by
  rw [bitOr_and]
  have := bitAnd_shift 6 x y h0 (by simpa using h1)
  have e : x * 2 ^ 6 = x * 64 := rfl
  rw [e] at this
  omega

/-- the words of a frame whose statements may end at an iterator's end -/
def RX {Φ Ψ : MM → Str → List D → Option D} {sc : Scope} (F : Fr Φ Ψ sc) (it : Addr) (PX : Prop) (ss : List Stmt) (Δ : Ctx) (μ : MM) (K : Out → Ctx → MM → Prop) : Prop := WpX F.W F.A F.fr F.env it PX ss Δ μ K
section
variable {Φ Ψ : MM → Str → List D → Option D} {sc : Scope} {F : Fr Φ Ψ sc} {it : Addr} {PX : Prop} {rest : List Stmt} {Δ : Ctx} {μ : MM} {K : Out → Ctx → MM → Prop}
theorem RX.assign (n : Nat) {x : Str} {px pos : Pos} {e : Expr} {d : D} (ok : asgB n sc x px e = true) (h : evD (Φ μ) (Ψ μ) μ n e Δ = some d) (hr : RX F it PX rest ((x, d) :: Δ) μ K) : RX F it PX (.Assign [.Name x px] e pos :: rest) Δ μ K := by
  obtain ⟨h1, h2, h3⟩ := and3 ok
  exact WpX.cons (Wp1.x (Wp1.assign (Fr.swap h2) (Fr.nm h1) (Fr.ev n h3 h) hr))
theorem RX.aug (n : Nat) {x : Str} {px pos : Pos} {op : Operator} {e : Expr} {a b c : Int} (ok : (nmB sc x && !(x == ("__classdict__" : Str)) && okE n sc.names e) = true) (hx : Δ.lookup x = some (.int a)) (h : evD (Φ μ) (Ψ μ) μ n e Δ = some (.int b)) (ho : iarith op a b = some c)
    (hr : RX F it PX rest ((x, .int c) :: Δ) μ K) : RX F it PX (.AugAssign (.Name x px) op e pos :: rest) Δ μ K := by
  obtain ⟨h1, h2, h3⟩ := and3 ok
  exact WpX.cons (Wp1.x (Wp1.augName (F.cx μ).ok (Fr.nm h1) hx (by simpa using h2) (Fr.ev n h3 h) ho hr))
theorem RX.ret (n : Nat) {e : Expr} {pos : Pos} {d : D} (ok : okE n sc.names e = true) (h : evD (Φ μ) (Ψ μ) μ n e Δ = some d) (hk : K (.ret d) Δ μ) : RX F it PX (.Return (some e) pos :: rest) Δ μ K := WpX.cons (Wp1.x (Wp1.ret (Fr.ev n ok h) hk))
theorem RX.next {x src : Str} {px pn ps cp pos : Pos} {l : Addr} {i : Nat} {ds : List D} (ok : (nmB sc x && sc.names.lookup (Str.ofString "next") == some .globalImplicit && okE 5 sc.names (.Name src ps)) = true) (hn : GlobVal F.W "next" (.builtin "next")) (hs : Δ.lookup src = some (.ref it)) (hm : μ it = some (.itr l i ds))
    (hend : ds[i]? = none → PX) (hr : ∀ d, ds[i]? = some d → RX F it PX rest ((x, d) :: Δ) (μ.set it (.itr l (i + 1) ds)) K) : RX F it PX (.Assign [.Name x px] (.Call (.Name "next" pn) [.Name src ps] [] cp) pos :: rest) Δ μ K := by
  obtain ⟨h1, h2, h3⟩ := and3 ok
  exact WpX.cons (Wp1X.assignNext (F.cx μ).ok (F.cx μ).good.handled hn ((F.cx μ).kind (beq_iff_eq.mp h2)) (Fr.nm h1) (Fr.ev 5 h3 hs) hm hend hr)
end

abbrev fVar : Stmt := sAt top 3
abbrev bVar : List Stmt := whileB (sAt (dBody fVar) 2)
/-- while a number is read -/
structure PS (xs : List Int) (it l : Addr) (i m j : Nat) (val b : Int) (Δ : Ctx) (μ : MM) : Prop where
  hv : Δ.lookup ("val" : Str) = some (.int val)
  hb : Δ.lookup ("b" : Str) = some (.int b)
  hi : Δ.lookup ("iterator" : Str) = some (.ref it)
  hm : μ it = some (.itr l (i + j) (xs.map .int))
  go : pvGo m val b (xs.drop (i + j)) j = pv (xs.drop i)
  v0 : 0 ≤ val
  v1 : val < 64 ^ (6 - m)
  m5 : m ≤ 5

theorem b_and63 {μ : MM} {b : Int} : binD μ .BitAnd (.int b) (.int 63) = some (.int (b % 64)) := by rw [binD_int]; simp only [aAdd, aSub, aMul, aDiv, aMod, aPow, aShl, aShr, aAnd, aOr, aXor]; rw [bitAnd_m6]; rfl
theorem b_and64 {μ : MM} {b : Int} : binD μ .BitAnd (.int b) (.int 64) = some (.int (b / 64 % 2 * 64)) := by
  rw [binD_int]; simp only [aAdd, aSub, aMul, aDiv, aMod, aPow, aShl, aShr, aAnd, aOr, aXor]
  rw [show (64 : Int) = 2 ^ 6 from rfl, kbt_bit]; rfl
theorem at_some {xs : List Int} {j : Nat} {d : D} (h : (xs.map D.int)[j]? = some d) : ∃ c, d = .int c ∧ xs.drop j = c :: xs.drop (j + 1) := by
  rw [List.getElem?_map] at h
  obtain ⟨c, hc, rfl⟩ := Option.map_eq_some_iff.mp h
  obtain ⟨hj, rfl⟩ := List.getElem?_eq_some_iff.mp hc
  exact ⟨_, rfl, List.drop_eq_getElem_cons hj⟩
theorem at_none {xs : List Int} {j : Nat} (h : (xs.map D.int)[j]? = none) : xs.drop j = [] := by
  rw [List.getElem?_eq_none_iff] at h
  exact List.drop_eq_nil_of_le (by simpa using h)
theorem pow64_le : ∀ m ≤ 4, (64 : Int) ^ (5 - m) ≤ 1073741824 := by decide
theorem pow64_up' : ∀ m ≤ 4, (64 : Int) ^ (6 - m) = 64 ^ (5 - m) * 64 := by decide
theorem pow64_up {m : Nat} (h : m ≤ 4) : (64 : Int) ^ (6 - m) = 64 ^ (5 - m) * 64 := pow64_up' m h

section
variable {F : Fr Φb (fun _ _ _ => none) (dScope fVar)} {xs : List Int} {it l : Addr} {i m j : Nat} {val b : Int} {Δ : Ctx} {μ : MM} {K : Out → Ctx → MM → Prop}

theorem pv_turn (hn : GlobVal F.W "next" (.builtin "next")) (hb : b / 64 % 2 = 1) (S : PS xs it l i (m + 1) j val b Δ μ) (hk : ∀ j val b Δ μ, PS xs it l i m j val b Δ μ → K .next Δ μ) : RX F it (pv (xs.drop i) = .stop) bVar Δ μ K := by
  have h5 := S.m5
  have hlt := pow64_le m (by omega)
  have hup := pow64_up (m := m) (by omega)
  have h7 := S.v1
  have h6 := S.v0
  rw [Nat.succ_sub_succ] at h7
  refine RX.aug 5 (a := val) (b := 6) (c := val * 64) (by kernel_rfl) S.hv eI (by simp only [iShl, iOr, iXor]; rw [if_pos ⟨by omega, by omega, by omega⟩]; rfl) ?_
  have hi2 : ((("val" : Str), D.int (val * 64)) :: Δ).lookup ("iterator" : Str) = some (.ref it) := look_tl (by decide +kernel) S.hi
  have hv2 : ((("val" : Str), D.int (val * 64)) :: Δ).lookup ("val" : Str) = some (.int (val * 64)) := look_eq
  generalize ((("val" : Str), D.int (val * 64)) :: Δ) = Δ' at *
  have hgo : pvGo (m + 1) val b (xs.drop (i + j)) j = (match xs.drop (i + j) with | [] => .stop | c :: r' => pvGo m (val * 64 + c % 64) c r' (j + 1)) := if_pos hb
  rw [S.go] at hgo
  refine RX.next (i := i + j) (by kernel_rfl) hn hi2 S.hm (fun h => by rw [hgo, at_none h]) fun d h => ?_
  obtain ⟨c, rfl, hc⟩ := at_some h
  rw [hc] at hgo
  refine RX.aug 10 (a := val * 64) (b := c % 64) (c := val * 64 + c % 64) (by kernel_rfl) (look_tl (by decide +kernel) hv2) ((evD_bin (evN look_eq) eI).trans b_and63) (by simp only [iShl, iOr, iXor]; rw [bitOr_shift6 _ _ (by omega) (by omega)]) ?_
  exact WpX.nil (hk (j + 1) _ c _ _ ⟨look_eq, look_tl (by decide +kernel) look_eq, look_tl (by decide +kernel) (look_tl (by decide +kernel) hi2), MM.set_self .., hgo.symm, by omega, by omega, by omega⟩)
end

section
variable {W : Wd}
theorem parseX (T : Tp W) (hn : GlobVal W "next" (.builtin "next")) (k : Nat) (it l : Addr) (i : Nat) (xs : List Int) (hbig : pv (xs.drop i) ≠ .big) :
    FnX W k "_parse_varint" it l i (xs.map .int) (pv (xs.drop i) = .stop) (fun v n => pv (xs.drop i) = .val v n) := by
  refine callX (p := "iterator") T.b.ok T.fvar (fnScope_of (by kernel_rfl)) (fun pm code doc v => rfl) fun A env hA hE hsc => ?_
  generalize hF : (⟨W, A, [], env, k, fun μ => ⟨T.b.ok, hA, tabB T.b k _, hE, hsc⟩⟩ : Fr Φb (fun _ _ _ => none) (dScope fVar)) = F
  have hn : GlobVal F.W "next" (.builtin "next") := by subst hF; exact hn
  have hR : ∀ {PX ss Δ μ K}, RX F it PX ss Δ μ K → WpX W A [] env it PX ss Δ μ K := by subst hF; exact fun h => h
  refine hR ?_
  clear hR hF hA hE hsc
  refine RX.next (i := i) (l := l) (ds := xs.map .int) (by kernel_rfl) hn look_eq (if_pos rfl) (fun h => by rw [at_none h]; rfl) fun d h => ?_
  obtain ⟨b, rfl, hb⟩ := at_some h
  have hpv : pv (xs.drop i) = pvGo 5 (b % 64) b (xs.drop (i + 1)) 1 := by rw [hb]; rfl
  refine RX.assign 10 (d := .int (b % 64)) (by kernel_rfl) ((evD_bin (evN look_eq) eI).trans b_and63) ?_
  refine WpX.cons (Wp1X.while_ (fun m Δ μ => ∃ j val b, PS xs it l i m j val b Δ μ) 5 ⟨1, b % 64, b, look_eq, look_tl (by decide +kernel) look_eq, look_tl (by decide +kernel) (look_tl (by decide +kernel) look_eq), MM.set_self .., hpv.symm, by omega, by simp; omega, by decide⟩ fun m Δ μ hI => ?_)
  obtain ⟨j, val, b, S⟩ := hI
  refine ⟨b / 64 % 2 == 1, (F.cx μ).tst 10 (by kernel_rfl) ?_, fun hb => ?_, fun hb => ?_⟩
  · rw [tBin, evD_bin (evN S.hb) eI, b_and64]
    by_cases h : b / 64 % 2 = 1
    · rw [h]; rfl
    · rw [show b / 64 % 2 = 0 by omega]; rfl
  · have hb' : ¬ b / 64 % 2 = 1 := fun e => by rw [e] at hb; cases hb
    refine RX.ret (F := F) 5 (by kernel_rfl) (evN S.hv) ⟨val, j, ?_, rfl, S.hm⟩
    cases m with
    | zero => rw [← S.go] at hbig; exact absurd rfl hbig
    | succ m => rw [← S.go]; exact if_neg hb'
  · cases m with
    | zero => rw [← S.go] at hbig; exact absurd rfl hbig
    | succ m => exact pv_turn hn (beq_iff_eq.mp hb) S fun j val b Δ μ S => ⟨rfl, m, Nat.lt_succ_self m, j, val, b, S⟩
end
end Mine

open PySem PySem.W PyProof.Rows
set_option Elab.async false
set_option linter.unusedVariables false
set_option linter.unusedSimpArgs false
set_option maxRecDepth 100000
namespace Mine
theorem pvGo_bounds : ∀ {f : Nat} {val b : Int} {r : List Int} {m : Nat} {v : Int} {n : Nat}, pvGo f val b r m = .val v n → m ≤ n ∧ n ≤ m + r.length
  | 0, _, _, _, _, _, _, h => by cases h
  | f + 1, val, b, r, m, v, n, h => by
    unfold pvGo at h
    split at h
    · split at h
      · cases h
      · have := pvGo_bounds h
        simp; omega
    · cases h; omega
theorem pv_bounds {l : List Int} {v : Int} {n : Nat} (h : pv l = .val v n) : 1 ≤ n ∧ n ≤ l.length := by
  cases l with
  | nil => cases h
  | cons b r => have := pvGo_bounds h; simp; omega

/-- from xs the numbers vs are read, and then no more -/
def readsTo : List Int → List Int → Prop
  | xs, [] => pv xs = .stop
  | xs, v :: vs => ∃ n, pv xs = .val v n ∧ readsTo (xs.drop n) vs

theorem reads_big {xs vs : List Int} (h : readsTo xs vs) : pv xs ≠ .big := fun e => by
  cases vs with
  | nil => unfold readsTo at h; rw [e] at h; cases h
  | cons v r => obtain ⟨n, h, _⟩ := h; rw [e] at h; cases h
theorem reads_val {xs vs : List Int} {v : Int} {n : Nat} (h : readsTo xs vs) (hv : pv xs = .val v n) : ∃ r, vs = v :: r ∧ readsTo (xs.drop n) r := by
  cases vs with
  | nil => unfold readsTo at h; rw [hv] at h; cases h
  | cons v' r => obtain ⟨n', h, h9⟩ := h; rw [hv] at h; cases h; exact ⟨r, rfl, h9⟩
theorem reads_stop {xs vs : List Int} (h : readsTo xs vs) (hv : pv xs = .stop) : vs = [] := by
  cases vs with
  | nil => rfl
  | cons v r => obtain ⟨n, h, _⟩ := h; rw [hv] at h; cases h

/-- while the numbers are read -/
structure RD (xs vs : List Int) (a it l : Addr) (t i : Nat) (Δ : Ctx) (μ : MM) : Prop where
  told : Δ.lookup ("told" : Str) = some (.ref a)
  source : Δ.lookup ("source" : Str) = some (.ref it)
  cell : μ a = some (.lst ((vs.take t).map .int))
  at_ : μ it = some (.itr l i (xs.map .int))
  ti : t ≤ i
  ix : i ≤ xs.length
  tv : t ≤ vs.length
  rest : readsTo (xs.drop i) (vs.drop t)

theorem RD.next {xs vs : List Int} {a it l : Addr} {t i n : Nat} {v : Int} {Δ : Ctx} {μ : MM} {x : Str} {d : D} (S : RD xs vs a it l t i Δ μ) (hne : it ≠ a) (hx : offN ["told", "source"] x = true) (hR : pv (xs.drop i) = .val v n) :
    RD xs vs a it l (t + 1) (i + n) ((x, d) :: Δ) ((μ.set it (.itr l (i + n) (xs.map .int))).set a (.lst ((vs.take t).map .int ++ [.int v]))) := by
  obtain ⟨r, hv, h9⟩ := reads_val S.rest hR
  obtain ⟨b1, b2⟩ := pv_bounds hR
  rw [List.length_drop] at b2
  have h5 := S.ti
  have htl : t < vs.length := by
    rcases Nat.lt_or_ge t vs.length with h | h
    · exact h
    · rw [List.drop_eq_nil_of_le h] at hv; cases hv
  rw [List.drop_eq_getElem_cons htl] at hv
  injection hv with hv1 hv2
  refine ⟨look_off hx (by decide +kernel) S.told, look_off hx (by decide +kernel) S.source, ?_, by rw [MM.set_ne hne, MM.set_self], by omega, by omega, htl, by rw [hv2, ← List.drop_drop]; exact h9⟩
  rw [MM.set_self, List.take_succ_eq_append_getElem htl, hv1, List.map_append]; rfl
theorem RD.stop {xs vs : List Int} {a it l : Addr} {t i : Nat} {Δ : Ctx} {μ : MM} (S : RD xs vs a it l t i Δ μ) (h : pv (xs.drop i) = .stop) : vs.take t = vs :=
  List.take_of_length_le (by
    have := reads_stop S.rest h
    rcases Nat.lt_or_ge t vs.length with h | h
    · rw [List.drop_eq_getElem_cons h] at this; cases this
    · exact h)


end Mine

open PySem PySem.W PyProof.Rows
set_option Elab.async false
set_option linter.unusedVariables false
set_option linter.unusedSimpArgs false
set_option maxRecDepth 100000
namespace Mine

theorem octet_form (k : Nat) (m : Int) (j : Nat) : ∃ y : Int, octet k m j = m / 64 ^ j % 64 + y * 64 ∧ y % 2 = if j > 0 then 1 else 0 := by
  unfold octet; split <;> split
  · exact ⟨3, Int.add_assoc .., rfl⟩
  · exact ⟨1, Int.add_assoc .., rfl⟩
  · exact ⟨2, Int.add_assoc .., rfl⟩
  · exact ⟨0, Int.add_assoc .., rfl⟩
theorem octet_low (k : Nat) (m : Int) (j : Nat) : octet k m j % 64 = m / 64 ^ j % 64 := by
  obtain ⟨y, e, _⟩ := octet_form k m j
  rw [e, Int.add_mul_emod_self_right]; exact Int.emod_emod_of_dvd _ (by decide)
theorem octet_high (k : Nat) (m : Int) (j : Nat) : octet k m j / 64 % 2 = if j > 0 then 1 else 0 := by
  obtain ⟨y, e, h⟩ := octet_form k m j
  rw [e, Int.add_mul_ediv_right _ _ (by decide), Int.ediv_eq_zero_of_lt (Int.emod_nonneg _ (by decide)) (Int.emod_lt_of_pos _ (by decide)), Int.zero_add]; exact h
theorem octet_go (k : Nat) (m : Int) (j : Nat) (h : 0 < j) : octet k m j / 64 % 2 = 1 := (octet_high k m j).trans (if_pos h)
theorem octet_end (k : Nat) (m : Int) : octet k m 0 / 64 % 2 = 0 := octet_high k m 0

theorem octs_cases (k : Nat) (m : Int) (h0 : 0 ≤ m) (h1 : m < 262144) : (octs k m = [octet k m 0] ∧ m < 64) ∨ (octs k m = [octet k m 1, octet k m 0] ∧ m < 4096) ∨ (octs k m = [octet k m 2, octet k m 1, octet k m 0] ∧ m < 262144) ∨
    (octs k m = [octet k m 3, octet k m 2, octet k m 1, octet k m 0] ∧ m < 262144) := by
  unfold octs
  have hk : k % 2 = 0 ∨ k % 2 = 1 := by omega
  unfold octSize
  split
  · rcases hk with hk | hk <;> rw [hk]
    · left; exact ⟨rfl, by assumption⟩
    · right; left; exact ⟨rfl, by omega⟩
  · split
    · rcases hk with hk | hk <;> rw [hk]
      · right; left; exact ⟨rfl, by assumption⟩
      · right; right; left; exact ⟨rfl, by omega⟩
    · rcases hk with hk | hk <;> rw [hk]
      · right; right; left; exact ⟨rfl, by omega⟩
      · right; right; right; exact ⟨rfl, by omega⟩

theorem pvGo_go {f : Nat} {val b c : Int} {r : List Int} {n : Nat} (h : b / 64 % 2 = 1) : pvGo (f + 1) val b (c :: r) n = pvGo f (val * 64 + c % 64) c r (n + 1) := if_pos h
theorem pvGo_end {f : Nat} {val b : Int} {r : List Int} {n : Nat} (h : b / 64 % 2 = 0) : pvGo (f + 1) val b r n = .val val n := if_neg (by omega)
theorem low0 (k : Nat) (m : Int) : octet k m 0 % 64 = m % 64 := (octet_low k m 0).trans (by simp)
theorem low1 (k : Nat) (m : Int) : octet k m 1 % 64 = m / 64 % 64 := (octet_low k m 1).trans (by simp)
theorem low2 (k : Nat) (m : Int) : octet k m 2 % 64 = m / 4096 % 64 := (octet_low k m 2).trans rfl
theorem low3 (k : Nat) (m : Int) : octet k m 3 % 64 = m / 262144 % 64 := (octet_low k m 3).trans rfl
theorem m_one {m : Int} (h0 : 0 ≤ m) (h1 : m < 64) : m % 64 = m := Int.emod_eq_of_lt h0 h1
theorem dm64 (m : Int) : m / 64 * 64 + m % 64 = m := Int.ediv_mul_add_emod m 64
theorem div_ge {m : Int} (h0 : 0 ≤ m) : 0 ≤ m / 64 := Int.ediv_nonneg h0 (by decide)
theorem m_two {m : Int} (h0 : 0 ≤ m) (h1 : m < 4096) : m / 64 % 64 * 64 + m % 64 = m := by
  rw [Int.emod_eq_of_lt (div_ge h0) (Int.ediv_lt_of_lt_mul (by decide) h1)]; exact dm64 m
theorem d4096 (m : Int) : m / 4096 = m / 64 / 64 := (Int.ediv_ediv_of_nonneg (by decide) : m / 64 / 64 = m / (64 * 64)).symm
theorem m_three {m : Int} (h0 : 0 ≤ m) (h1 : m < 262144) : (m / 4096 % 64 * 64 + m / 64 % 64) * 64 + m % 64 = m := by
  rw [d4096, m_two (div_ge h0) (Int.ediv_lt_of_lt_mul (by decide) h1)]; exact dm64 m
theorem m_four {m : Int} (h0 : 0 ≤ m) (h1 : m < 262144) : ((m / 262144 % 64 * 64 + m / 4096 % 64) * 64 + m / 64 % 64) * 64 + m % 64 = m := by
  rw [Int.ediv_eq_zero_of_lt h0 h1]; exact (congrArg (fun x => (x * 64 + m / 64 % 64) * 64 + m % 64) (Int.zero_add _)).trans (m_three h0 h1)

theorem pv_octs (k : Nat) (m : Int) (h0 : 0 ≤ m) (h1 : m < 262144) (rest : List Int) : pv (octs k m ++ rest) = .val m (octs k m).length := by
  have g1 := octet_go k m 1 (by decide); have g2 := octet_go k m 2 (by decide); have g3 := octet_go k m 3 (by decide)
  have g0 := octet_end k m
  rcases octs_cases k m h0 h1 with ⟨e, hm⟩ | ⟨e, hm⟩ | ⟨e, hm⟩ | ⟨e, hm⟩ <;> rw [e]
  · exact (pvGo_end g0).trans (congrArg (PV.val · 1) (by rw [low0]; exact m_one h0 hm))
  · exact (pvGo_go g1).trans ((pvGo_end g0).trans (congrArg (PV.val · 2) (by rw [low0, low1]; exact m_two h0 hm)))
  · exact (pvGo_go g2).trans ((pvGo_go g1).trans ((pvGo_end g0).trans (congrArg (PV.val · 3) (by rw [low0, low1, low2]; exact m_three h0 hm))))
  · exact (pvGo_go g3).trans ((pvGo_go g2).trans ((pvGo_go g1).trans ((pvGo_end g0).trans (congrArg (PV.val · 4) (by rw [low0, low1, low2, low3]; exact m_four h0 hm)))))

def octsFrom (k : Nat) : List Int → List Int
  | [] => []
  | m :: r => octs k m ++ octsFrom (k + 1) r
theorem octsFrom_eq : ∀ (ns : List Int) (k : Nat), (List.range ns.length).flatMap (fun i => octs (k + i) (ns.getD i 0)) = octsFrom k ns
  | [], k => rfl
  | m :: r, k => by
    rw [List.length_cons, List.range_succ_eq_map, List.flatMap_cons, octsFrom, ← octsFrom_eq r (k + 1)]
    congr 1
    rw [List.flatMap_map]
    congr 1; funext i
    show octs (k + (i + 1)) ((m :: r).getD (i + 1) 0) = _
    rw [List.getD_cons_succ]
    congr 1; omega
theorem octsTo_from (ns : List Int) : octsTo ns.length ns = octsFrom 0 ns := by
  rw [← octsFrom_eq]; unfold octsTo; congr 1; funext i; rw [Nat.zero_add]
theorem reads_from : ∀ (ns : List Int) (k : Nat) (rest : List Int), (∀ m ∈ ns, 0 ≤ m ∧ m < 262144) → pv rest = .stop → readsTo (octsFrom k ns ++ rest) ns
  | [], k, rest, _, h => by
    show readsTo rest []
    unfold readsTo; exact h
  | m :: r, k, rest, hb, h => by
    have hm := hb m List.mem_cons_self
    unfold readsTo
    refine ⟨(octs k m).length, ?_, ?_⟩
    · rw [octsFrom, List.append_assoc]; exact pv_octs k m hm.1 hm.2 _
    · rw [octsFrom, List.append_assoc, List.drop_left]
      exact reads_from r (k + 1) rest (fun x hx => hb x (List.mem_cons_of_mem _ hx)) h
/-- what was written is read -/
theorem reads_octs (ns : List Int) (hb : ∀ m ∈ ns, 0 ≤ m ∧ m < 262144) : readsTo (octsTo ns.length ns) ns := by
  have := reads_from ns 0 [] hb rfl
  rw [List.append_nil] at this
  rw [octsTo_from]; exact this
end Mine

open PySem PySem.W PyProof.Rows
set_option Elab.async false
set_option linter.unusedVariables false
set_option linter.unusedSimpArgs false
set_option maxRecDepth 100000
namespace Mine
/-- the number whose places are p's -/
def bits (p : Nat → Bool) : Nat → Int
  | 0 => 0
  | n + 1 => bits p n + if p n then 2 ^ n else 0

theorem bits_low (p : Nat → Bool) : ∀ n, bits p (n + 1) = 2 * bits (fun j => p (j + 1)) n + if p 0 then 1 else 0
  | 0 => by simp [bits]
  | n + 1 => by
    rw [bits, bits_low p n, bits]
    rw [Int.pow_succ]
    split <;> split <;> omega
theorem bits_range (p : Nat → Bool) (n : Nat) : 0 ≤ bits p n ∧ bits p n < 2 ^ n := by
  induction n with
  | zero => simp [bits]
  | succ n ih =>
    have := pow_pos' n
    rw [bits, Int.pow_succ]
    split <;> omega
theorem bits_and (n : Nat) : ∀ (p q : Nat → Bool), Builtin.bitAnd (bits p n) (bits q n) = bits (fun j => p j && q j) n := by
  induction n with
  | zero => intro p q; simp [bits, bitAnd_zero]
  | succ n ih =>
    intro p q
    rw [bits_low p, bits_low q, bits_low, kbt_halves]
    have e1 : ∀ (x : Int) (b : Bool), (2 * x + if b then 1 else 0) / 2 = x := by intro x b; cases b <;> simp <;> omega
    have e2 : ∀ (x : Int) (b : Bool), (2 * x + if b then 1 else 0) % 2 = if b then 1 else 0 := by intro x b; cases b <;> simp <;> omega
    rw [e1, e1, e2, e2, ih]
    cases p 0 <;> cases q 0 <;> simp
theorem bits_add (n : Nat) (p q : Nat → Bool) : bits p n + bits q n = bits (fun j => p j || q j) n + bits (fun j => p j && q j) n := by
  induction n with
  | zero => simp [bits]
  | succ n ih =>
    simp only [bits]
    by_cases h1 : p n = true <;> by_cases h2 : q n = true <;> simp [h1, h2] <;> omega
theorem bits_or (n : Nat) (p q : Nat → Bool) : Builtin.bitOr (bits p n) (bits q n) = bits (fun j => p j || q j) n := by
  rw [bitOr_and, bits_and]
  have := bits_add n p q
  omega
theorem bits_get (p : Nat → Bool) : ∀ (n j : Nat), bits p n / 2 ^ j % 2 = if (decide (j < n) && p j) then 1 else 0
  | 0, j => by simp [bits]
  | n + 1, 0 => by
    rw [bits_low]; cases p 0 <;> simp <;> omega
  | n + 1, j + 1 => by
    rw [bits_low, Int.pow_succ, Int.mul_comm (2 ^ j), ← Int.ediv_ediv_of_nonneg (by decide)]
    have e1 : (2 * bits (fun j => p (j + 1)) n + if p 0 then 1 else 0) / 2 = bits (fun j => p (j + 1)) n := by cases p 0 <;> simp <;> omega
    rw [e1, bits_get _ n j]
    simp
theorem bits_congr {p q : Nat → Bool} : ∀ {n : Nat}, (∀ j < n, p j = q j) → bits p n = bits q n
  | 0, _ => rfl
  | n + 1, h => by rw [bits, bits, bits_congr fun j hj => h j (by omega), h n (by omega)]
theorem bits_none (n : Nat) : bits (fun _ => false) n = 0 := by
  induction n with
  | zero => rfl
  | succ n ih => simp [bits, ih]
theorem bits_single {k n : Nat} (h : k < n) : bits (fun j => j == k) n = 2 ^ k := by
  induction n with
  | zero => omega
  | succ n ih =>
    rw [bits]
    by_cases e : n = k
    · subst e
      have : bits (fun j => j == n) n = bits (fun _ => false) n := bits_congr fun j hj => by simp; omega
      rw [this, bits_none]; simp
    · rw [ih (by omega)]; simp [e]


end Mine

open PySem PySem.W PyProof.Rows
set_option Elab.async false
set_option linter.unusedVariables false
set_option linter.unusedSimpArgs false
set_option maxRecDepth 100000
namespace Mine

def pow2s (l : List Nat) : Int := (l.map fun (k : Nat) => (2 : Int) ^ k).sum
theorem pow2s_app (a b : List Nat) : pow2s (a ++ b) = pow2s a + pow2s b := by simp [pow2s, List.sum_append]
theorem bits_sum (P : Nat → Bool) : ∀ n, pow2s ((List.range n).filter P) = bits P n
  | 0 => rfl
  | n + 1 => by
    rw [List.range_succ, List.filter_append, pow2s_app, bits_sum P n, bits]
    cases h : P n <;> simp [h, pow2s]
theorem bits_split (P : Nat → Bool) (a : Nat) : ∀ b, bits P (a + b) = bits P a + bits (fun j => P (a + j)) b * 2 ^ a
  | 0 => by simp [bits]
  | b + 1 => by
    rw [← Nat.add_assoc, bits, bits_split P a b, bits, Int.add_mul, Int.add_assoc]
    congr 2
    cases h : P (a + b)
    · simp
    · simp only [if_true]; rw [Int.pow_add, Int.mul_comm]
/-- numbers below 2^a do not reach above it -/
theorem bits_div (P : Nat → Bool) (a b : Nat) : bits P (a + b) / 2 ^ a = bits (fun j => P (a + j)) b := by
  obtain ⟨h1, h2⟩ := bits_range P a
  rw [bits_split, Int.add_mul_ediv_right _ _ (Int.ne_of_gt (pow_pos' a)), Int.ediv_eq_zero_of_lt h1 h2, Int.zero_add]
theorem filter_lt (P : Nat → Bool) (a : Nat) : ∀ b, ((List.range (a + b)).filter P).filter (· < a) = (List.range a).filter P
  | 0 => by
    rw [Nat.add_zero, List.filter_eq_self.mpr]
    intro k hk
    have := (List.mem_filter.mp hk).1
    simpa using this
  | b + 1 => by
    rw [← Nat.add_assoc, List.range_succ, List.filter_append, List.filter_append, filter_lt P a b]
    cases h : P (a + b) <;> simp [h]
theorem pow2s_gt (P : Nat → Bool) (a : Nat) : ∀ b, pow2s (((List.range (a + 1 + b)).filter P).filter (a < ·)) = bits (fun j => P (a + 1 + j)) b * 2 ^ (a + 1)
  | 0 => by
    have : ((List.range (a + 1 + 0)).filter P).filter (a < ·) = [] := by
      rw [List.filter_eq_nil_iff]
      intro k hk
      have := (List.mem_filter.mp hk).1
      simp at this ⊢; omega
    rw [this]; simp [pow2s, bits]
  | b + 1 => by
    rw [← Nat.add_assoc, List.range_succ, List.filter_append, List.filter_append, pow2s_app, pow2s_gt P a b, bits, Int.add_mul]
    congr 1
    cases h : P (a + 1 + b)
    · simp [h, pow2s]
    · have h' : a < a + 1 + b := Nat.lt_of_lt_of_le (Nat.lt_succ_self a) (Nat.le_add_right ..)
      simp [h, pow2s, h']
      rw [Int.pow_add, Int.mul_comm]

theorem bitsTo_bits (P : Nat → Bool) (N : Nat) (h : 32 ≤ N) : bitsTo 32 (bits P N) = (List.range 32).filter P := by
  unfold bitsTo
  refine List.filter_congr fun k hk => ?_
  have hk' : k < 32 := by simpa using hk
  rw [bits_get]
  have : k < N := Nat.lt_of_lt_of_le hk' h
  cases hp : P k <;> simp [this, hp]

/-- flags' words -/
theorem pretty_bits (P : Nat → Bool) (N : Nat) (h : 32 ≤ N) : prettyS (bits P N) = Txt.join ", " (wordsL (((List.range N).filter P).filter (· < 32)) (pow2s (((List.range N).filter P).filter (31 < ·)))) := by
  obtain ⟨b, rfl⟩ := Nat.exists_eq_add_of_le h
  unfold prettyS
  have e1 := bitsTo_bits P (32 + b) h
  have e2 : clr 32 (bits P (32 + b)) = pow2s (((List.range (32 + b)).filter P).filter (31 < ·)) := by
    have := pow2s_gt P 31 b
    unfold clr
    rw [bits_div]
    exact this.symm
  rw [e1, e2, filter_lt P 32 b]

/-- r, low places up -/
def upP (low size : Nat) (r : Nat → Bool) : Nat → Bool := fun k => decide (low ≤ k) && decide (k < low + size) && r (k - low)
theorem bits_none' {P : Nat → Bool} : ∀ {n : Nat}, (∀ j < n, P j = false) → bits P n = 0 := fun h => by
  rw [bits_congr (q := fun _ => false) h, bits_none]
theorem bits_up (low size N : Nat) (r : Nat → Bool) (h : low + size ≤ N) : bits (upP low size r) N = bits r size * 2 ^ low := by
  obtain ⟨b, rfl⟩ := Nat.exists_eq_add_of_le h
  rw [Nat.add_assoc low size b]
  rw [bits_split, bits_split]
  have e1 : bits (upP low size r) low = 0 := bits_none' fun j hj => by unfold upP; simp; omega
  have e2 : bits (fun j => upP low size r (low + j)) size = bits r size := bits_congr fun j hj => by
    unfold upP
    have : low + j < low + size := Nat.add_lt_add_left hj low
    simp [hj]
  have e3 : bits (fun j => upP low size r (low + (size + j))) b = 0 := bits_none' fun j hj => by unfold upP; simp; omega
  rw [e1, e2, e3]; simp
theorem ends_up (low size N : Nat) (r : Nat → Bool) (h : low + size ≤ N) : (List.range N).filter (upP low size r) = ((List.range size).filter r).map (low + ·) := by
  obtain ⟨b, rfl⟩ := Nat.exists_eq_add_of_le h
  rw [Nat.add_assoc low size b]
  rw [List.range_add, List.filter_append, List.range_add, List.map_append, List.filter_append]
  have e1 : (List.range low).filter (upP low size r) = [] := by
    rw [List.filter_eq_nil_iff]; intro k hk; have : k < low := by simpa using hk
    unfold upP; simp; omega
  have e3 : (((List.range b).map (size + ·)).map (low + ·)).filter (upP low size r) = [] := by
    rw [List.filter_eq_nil_iff]; intro k hk
    simp at hk
    obtain ⟨j, _, rfl⟩ := hk
    unfold upP; simp; omega
  rw [e1, e3, List.nil_append, List.append_nil, List.filter_map]
  congr 1
  refine List.filter_congr fun k hk => ?_
  have hk' : k < size := by simpa using hk
  unfold upP; simp [hk']
end Mine

open PySem PySem.W PyProof.Rows
set_option Elab.async false
set_option linter.unusedVariables false
set_option linter.unusedSimpArgs false
set_option maxRecDepth 100000
namespace Mine
abbrev fRead : Stmt := sAt top 60
section
variable {W : Wd}
theorem ok_read (T : Tp W) (hn : GlobVal W "next" (.builtin "next")) (hi : GlobVal W "iter" (.builtin "iter")) (hst : GlobVal W "StopIteration" (.type "StopIteration")) (hf : FnAt W "_law_read" (dArgs fRead) (dBody fRead) (dScope fRead))
    (k : Nat) (ns : List Int) (hl : ns.length ≤ 1000) (hb : ∀ m ∈ ns, 0 ≤ m ∧ m < 262144) : FnOkS W (k + 2) "_law_read" [.list (ns.map .int)] (.list (ns.map .int)) := by
  refine fnOkS (ps := ["numbers"]) T.b.ok hf (fnScope_of (by kernel_rfl)) rfl (fun pm code doc vs h => ?_) fun A env outer hA hE hsc hfr henv hout => ?_
  · obtain ⟨v, rfl⟩ := len1 h; rfl
  generalize hF : (⟨W, A, framesOf outer, env, k + 1, fun μ => ⟨T.b.ok, hA, tabB T.b (k + 1) _, hE, hsc⟩⟩ : Fr Φb (fun _ _ _ => none) (dScope fRead)) = F
  have hR : ∀ {ss Δ μ K}, R F ss Δ μ K → Wp W A (framesOf outer) env ss Δ μ K := by subst hF; exact fun h => h
  refine hR ?_
  have hX : ∀ (xs : List Int) it l i, pv (xs.drop i) ≠ .big → FnX F.W k "_parse_varint" it l i (xs.map .int) (pv (xs.drop i) = .stop) (fun v n => pv (xs.drop i) = .val v n) := by subst hF; exact fun xs it l i h => parseX T hn k it l i xs h
  have hA : GoodA F.A (k + 1) := by subst hF; exact hA
  have hfr : F.A.frames = some (F.env :: outer) := by subst hF; exact hfr
  have henv : F.env.frame = some F.env.locals := by subst hF; exact henv
  have hout : ∀ e ∈ outer, e.scope.kind ≠ .module ∧ ∃ L ∈ F.fr, e.frame = some L := by subst hF; exact hout
  have hst : GlobVal F.W "StopIteration" (.type "StopIteration") := by subst hF; exact hst
  have hi : GlobVal F.W "iter" (.builtin "iter") := by subst hF; exact hi
  clear hR hF hE hsc hf hn
  have hle := line_big
  have hr : readsTo (octsTo ns.length ns) ns := reads_octs ns hb
  have hxl : (octsTo ns.length ns).length ≤ 4000 := Nat.le_trans (octsTo_len _ _) (Nat.mul_le_mul_left 4 hl)
  refine R.new 5 (by kernel_rfl) (EvNew.display .nil (by decide)) fun a0 ha0 => oct_all hl ⟨look_eq, look_tl (by decide +kernel) look_eq, MM.set_self ..⟩ fun Δ μ S => ?_
  generalize octsTo ns.length ns = xs at *
  refine Wp.freeze S.tape S.cell ?_
  show R F _ _ _ _
  have htp : ((("tape" : Str), D.list (xs.map .int)) :: Δ).lookup ("tape" : Str) = some (.list (xs.map .int)) := look_eq
  clear S
  generalize ((("tape" : Str), D.list (xs.map .int)) :: Δ) = Δ at *
  refine R.new 5 (by kernel_rfl) (EvNew.display .nil (by decide)) fun a ha => ?_
  have htp : ((("told" : Str), D.ref a) :: Δ).lookup ("tape" : Str) = some (.list (xs.map .int)) := look_tl (by decide +kernel) htp
  have htl : ((("told" : Str), D.ref a) :: Δ).lookup ("told" : Str) = some (.ref a) := look_eq
  generalize ((("told" : Str), D.ref a) :: Δ) = Δ at *
  refine R.made (P := fun d μ' => ∃ it l, d = .ref it ∧ it ≠ a ∧ μ' a = some (.lst []) ∧ μ' it = some (.itr l 0 (xs.map .int))) (by kernel_rfl)
    (EvA.iter (ds := xs.map .int) (F.cx fun _ => none).ok hi ((F.cx fun _ => none).kind (by kernel_rfl)) rfl (Fr.ev 5 (by kernel_rfl) (evN htp)) fun it l hit => ?_) ?_
  · have hne : it ≠ a := fun e => by rw [e, MM.set_self] at hit; cases hit
    exact ⟨it, l, rfl, hne, by rw [MM.set_ne (Ne.symm hne), MM.set_self], MM.set_self ..⟩
  rintro d μ ⟨it, l, rfl, hne, hma, hmi⟩
  have S : RD xs ns a it l 0 0 ((("source" : Str), .ref it) :: Δ) μ := ⟨look_tl (by decide +kernel) htl, look_eq, hma, hmi, Nat.le_refl _, Nat.zero_le _, Nat.zero_le _, hr⟩
  have htp : ((("source" : Str), D.ref it) :: Δ).lookup ("tape" : Str) = some (.list (xs.map .int)) := look_tl (by decide +kernel) htp
  generalize ((("source" : Str), D.ref it) :: Δ) = Δ at *
  clear hma hmi
  refine R.forB (xs := (rangeL 0 (xs.length + 1 : Nat) 1).map .int) (fun t Δ μ => ∃ i, RD xs ns a it l t i Δ μ) (by kernel_rfl) (Fr.rangeF 10 (by kernel_rfl) (ds := [.int (xs.length + 1 : Nat)]) ?_ rfl (small_up (a := 0) (by decide) (by omega))) ⟨0, S⟩ (fun t d Δ μ P R' T' hd hI hP _ hT => ?_) fun Δ μ hI => ?_
  · have := Φb_len_list (μ := μ) (ds := xs.map D.int) (by rw [List.length_map]; omega)
    rw [List.length_map] at this
    simp only [evs]
    rw [evD_bin ((evD_call1 (evN htp)).trans this) eI, b_add]
    rfl
  · obtain ⟨i, S⟩ := hI
    obtain ⟨rfl, ht⟩ := mem_rangeD hd
    have hlen : (ns.take t).length ≤ t := List.length_take_le ..
    refine Wp.cons (Wp1.tryRead (F.cx μ).ok hA hfr henv hout (hX xs it l i (reads_big S.rest)) ((F.cx μ).kind (by kernel_rfl)) (by decide) hst ((F.cx μ).kind (by kernel_rfl)) (a := a) (ys := (ns.take t).map .int) (look_tl (by decide +kernel) S.told) (by decide) S.cell (look_tl (by decide +kernel) S.source) (by decide) S.at_ (by rw [List.length_map]; omega) rfl ?_ ?_)
    · intro v n hR'
      exact Wp.nil (hP _ _ ⟨i + n, S.next hne (by decide +kernel) hR'⟩)
    · intro hstop
      refine hT _ _ _ ?_
      rw [S.stop hstop]
  · obtain ⟨i, S⟩ := hI
    have h5 := S.ti
    have h6 := S.ix
    rw [rangeL_up] at h5
    simp at h5
    omega
end
end Mine

open PySem PySem.W PyProof.Rows
set_option Elab.async false
set_option linter.unusedVariables false
set_option linter.unusedSimpArgs false
set_option maxRecDepth 100000
namespace Mine
abbrev fWords : Stmt := sAt top 61

abbrev namesT : Str := "OPTIMIZED NEWLOCALS VARARGS VARKEYWORDS NESTED GENERATOR NOFREE COROUTINE ITERABLE_COROUTINE ASYNC_GENERATOR"
def namesL : List Str := Txt.split namesT " "
def wordV (k : Nat) : Str := if k < 10 then namesL.getD k "" else "0x" ++ Txt.item "1248" ((k % 4 : Nat) : Int) ++ Txt.mul "0" ((k / 4 : Nat) : Int)
theorem namesL_len : namesL.length = 10 := by decide +kernel
theorem wordV_nm : ∀ k < 32, wordV k = nm k := by decide +kernel
theorem nm_ok : ∀ k < 32, PyData.strOk (nm k) = true := by decide +kernel

theorem names_get {i : Nat} (h : i < 10) : (namesL.map D.str)[i]? = some (.str (wordV i)) := by
  have : i < namesL.length := by rw [namesL_len]; exact h
  simp [wordV, h, List.getD, this]

theorem namesT_len : namesT.length = 108 := by decide +kernel
theorem namesP_len : (Builtin.Str.partsBetween namesT (Builtin.Str.occurrences namesT " " 0 namesT.length (namesT.length + 1)) (" " : Str).length).length = 10 := by decide +kernel
theorem space_len : ((" " : Str).length == 0) = false := by decide +kernel
theorem namesF : ((" " : Str).length == 0) = false ∧ namesT.length ≤ sizeLine ∧ (Builtin.Str.partsBetween namesT (Builtin.Str.occurrences namesT " " 0 namesT.length (namesT.length + 1)) (" " : Str).length).length ≤ sizeLine := by
  have hle : sizeLine = 16777216 := by decide
  exact ⟨space_len, by rw [namesT_len]; omega, by rw [namesP_len]; omega⟩
theorem names_meth (μ : MM) : methD μ "split" (.str namesT) [.str " "] = some (.list (namesL.map .str)) := by
  have key : ∀ x : Str, (("" ++ " " : String).length = 1) → x.length ≤ sizeLine → (Builtin.Str.partsBetween x (Builtin.Str.occurrences x " " 0 x.length (x.length + 1)) (" " : Str).length).length ≤ sizeLine → methD μ "split" (.str x) [.str " "] = some (.list ((Txt.split x " ").map .str)) := fun x _ h2 h3 => by
    simp only [methD, nmSplit, nmJoin, str_eq, String.reduceEq, if_false, if_true]
    rw [if_pos ⟨space_len, h2, h3⟩]
  exact key namesT rfl namesF.2.1 namesF.2.2
theorem str1248 : (("1248" : Str)).length = 4 ∧ ("0x" : Str).length = 2 ∧ ("0" : Str).length = 1 := by decide +kernel
theorem item_len (x : Str) (i : Int) : (Txt.item x i).length = 1 := rfl
theorem mul0_len : ∀ n < 8, (Txt.mul "0" (n : Nat)).length ≤ 8 := by decide +kernel

abbrev wordE : Expr := eltE (valE (sAt (dBody fWords) 1))
theorem b_addstr {μ : MM} {x y : Str} (h : x.length + y.length ≤ 1000000) : binD μ .Add (.str x) (.str y) = some (.str (x ++ y)) := by rw [binD_str, if_pos (by have := line_big; omega)]
theorem word_val {Φ Ψ : Str → List D → Option D} {μ : MM} {Γ : Ctx} {i : Nat} (h32 : i < 32) (hk : Γ.lookup ("k" : Str) = some (.int i)) (hn : Γ.lookup ("names" : Str) = some (.list (namesL.map .str))) : evD Φ Ψ μ 12 wordE Γ = some (.str (nm i)) := by
  rw [← wordV_nm i h32]
  show evD Φ Ψ μ 12 (.IfExp (.Compare (.Name "k" _) [.Lt] [.Constant (.int 10) 0 _] _) _ _ _) Γ = _
  refine (evD_if (c := decide ((i : Int) < 10)) (by simp only [tCmp, eN, eI, hk, opt2_ss, cmpD])).trans ?_
  by_cases h10 : i < 10
  · rw [if_pos (decide_eq_true (by omega))]
    simp only [eXn, eN, hn, hk, opt2_ss, idxV_int]
    exact idxD_list (names_get h10) (by omega)
  · rw [if_neg (by rw [decide_eq_true_eq]; omega)]
    have h4 : i % 4 < (Str.ofString "1248").length := by rw [str1248.1]; omega
    have g0 := mul0_len (i / 4) (by omega)
    have hA : binD μ .Mod (.int i) (.int 4) = some (.int ((i % 4 : Nat) : Int)) := b_mod (by decide)
    have hB : binD μ .FloorDiv (.int i) (.int 4) = some (.int ((i / 4 : Nat) : Int)) := b_div (by decide) (by decide)
    have hC := idxD_str (μ := μ) h4 (by rw [str1248.1]; decide)
    have hD : binD μ .Add (.str "0x") (.str (Txt.item "1248" ((i % 4 : Nat) : Int))) = some (.str ("0x" ++ Txt.item "1248" ((i % 4 : Nat) : Int))) := b_addstr (by rw [str1248.2.1, item_len]; decide)
    have hE : binD μ .Mult (.str "0") (.int ((i / 4 : Nat) : Int)) = some (.str (Txt.mul "0" ((i / 4 : Nat) : Int))) := by rw [binD_strmul, if_pos ⟨by omega, by omega, by rw [str1248.2.2]; decide⟩]
    have hF : binD μ .Add (.str ("0x" ++ Txt.item "1248" ((i % 4 : Nat) : Int))) (.str (Txt.mul "0" ((i / 4 : Nat) : Int))) = some (.str ("0x" ++ Txt.item "1248" ((i % 4 : Nat) : Int) ++ Txt.mul "0" ((i / 4 : Nat) : Int))) := b_addstr (by rw [PySem.Str.length_append, str1248.2.1, item_len]; omega)
    simp only [eBin, eXb, eN, eI, eS, hk, opt2_ss, idxV_int, hA, hB, hC, hD, hE, hF, wordV, if_neg h10]

theorem join_val {Φ Ψ : Str → List D → Option D} {μ : MM} {ws : List Str} (h : JoinOk ", " ws = true) : methD μ "join" (.str ", ") [.list (ws.map .str)] = some (.str (Txt.join ", " ws)) := by
  simp only [methD, nmJoin, if_true, asList, Option.bind_some, strsOf_map, if_pos h]


end Mine

open PySem PySem.W PyProof.Rows
set_option Elab.async false
set_option linter.unusedVariables false
set_option linter.unusedSimpArgs false
set_option maxRecDepth 100000
namespace Mine
/-- the words of places -/
def wordsT (ks : List Nat) : Str := if ks = [] then "0x0" else Txt.join ", " (ks.map nm)
theorem wordsT_L (ks : List Nat) : Txt.join ", " (wordsL ks 0) = wordsT ks := by
  unfold wordsT wordsL
  by_cases h : ks = []
  · subst h
    rw [if_pos rfl, if_pos (.inr rfl)]
    decide +kernel
  · rw [if_neg h, if_neg (by rintro (h' | h'); exact h' rfl; exact h h'), List.append_nil]
section
variable {W : Wd}
theorem ok_words (T : Tp W) (hf : FnAt W "_law_words" (dArgs fWords) (dBody fWords) (dScope fWords)) (k : Nat) (μ : MM) (ks : List Nat) (hks : ∀ k ∈ ks, k < 32) (hl : ks.length ≤ 32) :
    FnOk W (k + 1) μ "_law_words" [.list (ks.map fun (k : Nat) => .int k)] (.str (wordsT ks)) := by
  refine fnOk (ps := ["places"]) T.b.ok hf (fnScope_of (by kernel_rfl)) rfl (fun pm code doc vs h => ?_) fun A env hA hE hsc => ?_
  · obtain ⟨v, rfl⟩ := len1 h; rfl
  generalize hF : (⟨W, A, [], env, k, fun μ => ⟨T.b.ok, hA, tabB T.b k _, hE, hsc⟩⟩ : Fr Φb (fun _ _ _ => none) (dScope fWords)) = F
  have hR : ∀ {ss Δ μ K}, R F ss Δ μ K → Wp W A [] env ss Δ μ K := by subst hF; exact fun h => h
  refine hR ?_
  clear hR hF hA hE hsc hf
  have hp : ([("places" : Str)].zip [D.list (ks.map fun (k : Nat) => .int k)]).lookup ("places" : Str) = some (.list (ks.map fun (k : Nat) => .int k)) := look_eq
  generalize [("places" : Str)].zip [D.list (ks.map fun (k : Nat) => .int k)] = Δ at *
  refine R.assign 10 (d := .list (namesL.map .str)) (by kernel_rfl) (by simp only [eM1, eS, opt2_ss]; exact names_meth _) ?_
  have hp : ((("names" : Str), D.list (namesL.map .str)) :: Δ).lookup ("places" : Str) = some (.list (ks.map fun (k : Nat) => .int k)) := look_tl (by decide +kernel) hp
  have hn : ((("names" : Str), D.list (namesL.map .str)) :: Δ).lookup ("names" : Str) = some (.list (namesL.map .str)) := look_eq
  generalize ((("names" : Str), D.list (namesL.map .str)) :: Δ) = Δ at *
  refine R.used 12 (d := .list ((ks.map nm).map .str)) (by kernel_rfl) ?_ ?_
  · rw [List.map_map]
    exact evD_comp (g := fun (k : Nat) => D.int k) (itD_of (d := .list (ks.map fun (k : Nat) => .int k)) (by simp only [eN]; exact hp) rfl (by intro _ _ _ _ h; cases h)) (fun i hi => word_val (hks i hi) look_eq (look_tl (by decide +kernel) (free_look (by kernel_rfl) hn))) (le_line (Nat.le_trans hl (by decide)))
  have hw : ((("words" : Str), D.list ((ks.map nm).map .str)) :: Δ).lookup ("words" : Str) = some (.list ((ks.map nm).map .str)) := look_eq
  generalize ((("words" : Str), D.list ((ks.map nm).map .str)) :: Δ) = Δ at *
  refine R.ret 10 (by kernel_rfl) ?_ rfl
  have he : eqD (.list ((ks.map nm).map .str)) (.list []) = some (decide (ks.map nm = [])) := eqD_strs (b := []) (fun x hx => by obtain ⟨j, hj, rfl⟩ := List.mem_map.mp hx; exact nm_ok j (hks j hj)) (fun x hx => by cases hx)
  refine (evD_if (c := !decide (ks.map nm = [])) ?_).trans ?_
  · simp only [tCmp, eN, eL, evs, hw, opt2_ss, optS_s, sized_le (ds := []) (by simp), cmpD, he, Option.map_some]
  · by_cases hc : ks = []
    · subst hc; rfl
    · have h1 : ks.map nm ≠ [] := fun e => hc (List.map_eq_nil_iff.mp e)
      have hj : JoinOk ", " (ks.map nm) = true := by
        have := wordsL_join (above := 0) hks hl (by decide)
        unfold wordsL at this
        rwa [if_neg (by rintro (h' | h'); exact h' rfl; exact hc h'), List.append_nil] at this
      rw [if_pos (by rw [decide_eq_false h1]; rfl), evD_meth (a := .str ", ") (b := .list ((ks.map nm).map .str)) eS (evN hw), join_val (Φ := fun _ _ => none) (Ψ := fun _ _ => none) hj]
      unfold wordsT
      rw [if_neg hc]
end

/-! a set of places told, and read back -/
theorem pretty_set (P : Nat → Bool) (N : Nat) (h : 32 ≤ N) (hP : ∀ k, 32 ≤ k → P k = false) : prettyS (bits P N) = wordsT ((List.range 32).filter P) := by
  obtain ⟨b, rfl⟩ := Nat.exists_eq_add_of_le h
  rw [pretty_bits P _ h, filter_lt]
  have e : ((List.range (32 + b)).filter P).filter (31 < ·) = [] := by
    rw [List.filter_eq_nil_iff]
    intro k hk hk2
    have := (List.mem_filter.mp hk).2
    rw [hP k (of_decide_eq_true hk2)] at this; cases this
  rw [e]
  exact wordsT_L _
end Mine

open PySem PySem.W PyProof.Rows
set_option Elab.async false
set_option linter.unusedVariables false
set_option linter.unusedSimpArgs false
set_option maxRecDepth 100000
namespace Mine
open PySem.StrLaws Builtin.Str

/-! what was joined is split -/
theorem chain_uniq {x y : Str} (hy : 1 ≤ y.length) : ∀ {cuts cuts' : List Nat} {a f f' : Nat}, ChainG x y x.length a cuts f → ChainG x y x.length a cuts' f' → (∀ k, f ≤ k → ¬ At x y x.length k) → (∀ k, f' ≤ k → ¬ At x y x.length k) → cuts = cuts'
  | [], [], _, _, _, _, _, _, _ => rfl
  | [], c :: r, a, f, f', h, h', n, n' => by
    have e : f = a := h
    subst e
    exact absurd h'.2.1 (n c h'.1)
  | c :: r, [], a, f, f', h, h', n, n' => by
    have e : f' = a := h'
    subst e
    exact absurd h.2.1 (n' c h.1)
  | c :: r, c' :: r', a, f, f', h, h', n, n' => by
    have e : c = c' := by
      rcases Nat.lt_trichotomy c c' with hlt | e | hlt
      · exact absurd h.2.1 (h'.2.2.1 c h.1 hlt)
      · exact e
      · exact absurd h'.2.1 (h.2.2.1 c' h'.1 hlt)
    subst e
    rw [chain_uniq hy h.2.2.2 h'.2.2.2 n n']

def joinC : List (List Nat) → List Nat
  | [] => []
  | [w] => w
  | w :: v :: r => w ++ 44 :: 32 :: joinC (v :: r)
abbrev sepS : Str := ", "
theorem sep_list : sepS.cps.toList = [44, 32] := by decide +kernel
theorem sep_len : sepS.length = 2 := by decide +kernel
theorem at_iff {x : Str} {k : Nat} : At x sepS x.length k ↔ (x.cps.toList.drop k).take 2 = [44, 32] := by
  unfold At
  rw [subAt_eq, sep_len, sep_list, beq_iff_eq]
  refine ⟨fun h => h.2, fun h => ⟨?_, h⟩⟩
  have := congrArg List.length h
  simp [Str.length] at this ⊢
  omega
theorem noAt {L : List Nat} {k : Nat} {c : Nat} (h : L[k]? = some c) (hc : c ≠ 44) : (L.drop k).take 2 ≠ [44, 32] := fun e => by
  have : ((L.drop k).take 2)[0]? = some 44 := by rw [e]; rfl
  rw [List.getElem?_take, if_pos (by decide), List.getElem?_drop, Nat.add_zero, h] at this
  exact hc (Option.some.inj this)
theorem split_core : ∀ (ws : List (List Nat)) (p : List Nat) (x : Str), ws ≠ [] → (∀ w ∈ ws, 44 ∉ w) → x.cps.toList = p ++ joinC ws →
    ∃ cuts f, ChainG x sepS x.length p.length cuts f ∧ (∀ k, f ≤ k → ¬ At x sepS x.length k) ∧ (partsFrom x 2 p.length cuts).map (fun s : Str => s.cps.toList) = ws ∧ (cuts = [] → ws.length = 1)
  | [], _, _, h, _, _ => absurd rfl h
  | [w], p, x, _, hw, hx => by
    refine ⟨[], p.length, rfl, fun k hk hA => ?_, ?_, fun _ => rfl⟩
    · rw [at_iff, hx] at hA
      have hlt : k < (p ++ joinC [w]).length := by
        have := congrArg List.length hA
        simp at this ⊢; omega
      have hg : (p ++ joinC [w])[k]? = some (w[k - p.length]'(by simp [joinC] at hlt; omega)) := by
        rw [List.getElem?_append_right hk]; exact List.getElem?_eq_getElem _
      refine noAt hg (fun e => hw w List.mem_cons_self ?_) hA
      rw [← e]; exact List.getElem_mem _
    · show [(strSub x p.length x.length).cps.toList] = [w]
      rw [strSub_toList, hx, List.drop_left, List.take_of_length_le]
      · rfl
      · have := congrArg List.length hx
        simp [Str.length, joinC] at this ⊢; omega
  | w :: v :: r, p, x, _, hw, hx => by
    have hx' : x.cps.toList = (p ++ w ++ [44, 32]) ++ joinC (v :: r) := by rw [hx]; simp [joinC]
    obtain ⟨cuts, f, h1, h2, h3, _⟩ := split_core (v :: r) (p ++ w ++ [44, 32]) x (by simp) (fun u hu => hw u (List.mem_cons_of_mem _ hu)) hx'
    have e : (p ++ w ++ [44, 32]).length = (p.length + w.length) + sepS.length := by rw [sep_len]; simp; omega
    rw [e] at h1 h3
    refine ⟨(p.length + w.length) :: cuts, f, ⟨Nat.le_add_right .., ?_, fun k hk hkl hA => ?_, h1⟩, h2, ?_, fun h => by cases h⟩
    · rw [at_iff, hx', List.append_assoc, ← List.length_append, List.drop_left]; rfl
    · rw [at_iff, hx', List.append_assoc, List.append_assoc] at hA
      have hg : (p ++ (w ++ ([44, 32] ++ joinC (v :: r))))[k]? = some (w[k - p.length]'(by omega)) := by
        rw [List.getElem?_append_right hk, List.getElem?_append_left (by omega)]; exact List.getElem?_eq_getElem _
      refine noAt hg (fun e => hw w List.mem_cons_self ?_) hA
      rw [← e]; exact List.getElem_mem _
    · show (strSub x p.length (p.length + w.length)).cps.toList :: (partsFrom x 2 (p.length + w.length + 2) cuts).map _ = _
      rw [sep_len] at h3
      rw [h3, strSub_toList, hx', List.append_assoc, List.append_assoc, List.drop_left, Nat.add_sub_cancel_left, List.take_left]
theorem join_list : ∀ (ws : List Str), (Str.join sepS ws).cps.toList = joinC (ws.map fun s => s.cps.toList)
  | [] => by decide +kernel
  | [w] => rfl
  | w :: v :: r => by
    show (w ++ sepS ++ Str.join sepS (v :: r)).cps.toList = _
    simp only [Str.cps_append, Array.toList_append, sep_list, join_list (v :: r)]
    simp [joinC]
theorem cps_inj {a b : Str} (h : a.cps.toList = b.cps.toList) : a = b := by
  cases a; cases b; simp only [Str.mk.injEq]; exact Array.toList_inj.mp h
theorem split_join (ws : List Str) (h0 : ws ≠ []) (hw : ∀ w ∈ ws, 44 ∉ w.cps.toList) : Txt.split (Txt.join sepS ws) sepS = ws := by
  have hx : (Txt.join sepS ws).cps.toList = [] ++ joinC (ws.map fun s => s.cps.toList) := by
    show (Builtin.Str.glued sepS ws).cps.toList = _
    rw [StrLaws.glued_eq_join]; exact join_list ws
  generalize Txt.join sepS ws = x at *
  obtain ⟨cuts, f, h1, h2, h3, h4⟩ := split_core (ws.map fun s => s.cps.toList) [] x (by simpa using h0) (fun w hm => by obtain ⟨s, hs, rfl⟩ := List.mem_map.mp hm; exact hw s hs) hx
  obtain ⟨f', g1, g2⟩ := occ_tight x sepS (by rw [sep_len]; decide)
  have e := chain_uniq (by rw [sep_len]; decide) g1 h1 g2 h2
  have hinj : ∀ (a b : List Str), a.map (fun s : Str => s.cps.toList) = b.map (fun s : Str => s.cps.toList) → a = b := fun a b h => List.map_inj_right (fun x y h => cps_inj h) |>.mp h
  have hws : partsFrom x 2 0 cuts = ws := hinj _ _ h3
  unfold Txt.split
  rw [e]
  cases cuts with
  | nil =>
    have : ws = [strSub x 0 x.length] := hws.symm
    rw [sub_whole] at this
    split
    · exact this.symm
    · exact this.symm
  | cons c r =>
    have hl : ¬ x.length < sepS.length := by
      have := h1.2.1.1; omega
    have hk : ¬ Builtin.Str.strKind x < Builtin.Str.strKind sepS := by
      have : Builtin.Str.strKind sepS = 1 := by decide +kernel
      rw [this]; unfold Builtin.Str.strKind; split
      · decide
      · split <;> decide
    rw [if_neg (by simp [hl, hk]), if_neg (by simp), partsBetween_eq, sep_len]
    exact hws
end Mine

open PySem PySem.W PyProof.Rows
set_option Elab.async false
set_option linter.unusedVariables false
set_option linter.unusedSimpArgs false
set_option maxRecDepth 100000
namespace Mine

/-- a table of a function's values, for a family of arguments -/
noncomputable def famG {ι : Type} (C : ι → Prop) (args : ι → List D) (res : ι → D) (ds : List D) : Option D :=
  @dite _ (∃ i, C i ∧ ds = args i) (Classical.propDecidable _) (fun h => some (res (Classical.choose h))) fun _ => none
noncomputable def Φfam {ι : Type} (f0 : Str) (C : ι → Prop) (args : ι → List D) (res : ι → D) (Φ : Str → List D → Option D) : Str → List D → Option D := fun f ds => if f = f0 then famG C args res ds else Φ f ds
section
variable {W : Wd} {k : Nat} {μ : MM} {Φ Ψ : Str → List D → Option D} {ι : Type} {f0 : Str} {C : ι → Prop} {args : ι → List D} {res : ι → D}
theorem tabFam (h : TabOk W k μ Φ Ψ) (hf : ∀ i, C i → FnOk W k μ f0 (args i) (res i)) : TabOk W k μ (Φfam f0 C args res Φ) Ψ :=
  h.fn' (f := f0) (g := famG C args res) fun ds d e => by
    unfold famG at e
    split at e
    · rename_i hx
      obtain ⟨h1, h2⟩ := Classical.choose_spec hx
      cases e
      generalize Classical.choose hx = i at h1 h2 ⊢
      rw [h2]; exact hf _ h1
    · cases e
theorem Φfam_at {i : ι} (hi : C i) (hu : ∀ j, C j → args j = args i → res j = res i) : Φfam f0 C args res Φ f0 (args i) = some (res i) := by
  unfold Φfam famG
  have hx : ∃ j, C j ∧ args i = args j := ⟨i, hi, rfl⟩
  rw [if_pos rfl, dif_pos hx]
  obtain ⟨h1, h2⟩ := Classical.choose_spec hx
  rw [hu _ h1 h2.symm]
theorem Φfam_ne {f : Str} {ds : List D} (h : f ≠ f0) : Φfam f0 C args res Φ f ds = Φ f ds := if_neg h
end

def natsD (ks : List Nat) : D := .list (ks.map fun (k : Nat) => .int k)
theorem natsD_inj {a b : List Nat} (h : natsD a = natsD b) : a = b := by
  unfold natsD at h
  injection h with h
  exact List.map_inj_right (fun x y e => by injection e with e; exact Int.ofNat.inj e) |>.mp h

/-! words -/
theorem nm_free : ∀ k < 32, 44 ∉ (nm k).cps.toList := by decide +kernel
theorem nm_inj : ∀ i < 32, ∀ j < 32, nm i = nm j → i = j := by decide +kernel
theorem nm_zero : ∀ k < 32, nm k ≠ "0x0" := by decide +kernel
def wordsW (ks : List Nat) : List Str := if ks = [] then ["0x0"] else ks.map nm
theorem words_split {ks : List Nat} (h : ∀ k ∈ ks, k < 32) : Txt.split (wordsT ks) ", " = wordsW ks := by
  unfold wordsT wordsW
  by_cases hc : ks = []
  · rw [if_pos hc, if_pos hc]; decide +kernel
  · rw [if_neg hc, if_neg hc]
    exact split_join _ (fun e => hc (List.map_eq_nil_iff.mp e)) fun w hw => by
      obtain ⟨j, hj, rfl⟩ := List.mem_map.mp hw
      exact nm_free j (h j hj)
theorem words_mem {ks : List Nat} (h : ∀ k ∈ ks, k < 32) {j : Nat} (hj : j < 32) : nm j ∈ wordsW ks ↔ j ∈ ks := by
  unfold wordsW
  by_cases hc : ks = []
  · rw [if_pos hc]; subst hc
    simp [nm_zero j hj]
  · rw [if_neg hc]
    constructor
    · intro hm
      obtain ⟨i, hi, e⟩ := List.mem_map.mp hm
      rw [← nm_inj i (h i hi) j hj e]; exact hi
    · exact fun hm => List.mem_map.mpr ⟨j, hm, rfl⟩
/-- the text of a set of places, from low on -/
def txt (low : Nat) (S : List Nat) : Str := wordsT (S.map (low + ·))
/-- a set, told in order -/
def setOf (P : Nat → Bool) : List Nat := (List.range 8).filter P
def isSet (S : List Nat) : Prop := ∃ P, S = setOf P
theorem setOf_lt {P : Nat → Bool} {k : Nat} (h : k ∈ setOf P) : k < 8 := List.mem_range.mp (List.mem_filter.mp h).1
theorem setOf_mem {P : Nat → Bool} {k : Nat} (h : k < 8) : k ∈ setOf P ↔ P k = true := by unfold setOf; rw [List.mem_filter, List.mem_range]; exact ⟨fun x => x.2, fun x => ⟨h, x⟩⟩
theorem setOf_ext {P Q : Nat → Bool} (h : ∀ k < 8, P k = Q k) : setOf P = setOf Q := List.filter_congr fun k hk => h k (List.mem_range.mp hk)
theorem isSet.lt {S : List Nat} (h : isSet S) {k : Nat} (hk : k ∈ S) : k < 8 := by obtain ⟨P, rfl⟩ := h; exact setOf_lt hk
theorem isSet.ext {S T : List Nat} (h : isSet S) (h' : isSet T) (e : ∀ k < 8, k ∈ S ↔ k ∈ T) : S = T := by
  obtain ⟨P, rfl⟩ := h; obtain ⟨Q, rfl⟩ := h'
  refine setOf_ext fun k hk => ?_
  have := e k hk
  rw [setOf_mem hk, setOf_mem hk] at this
  cases hp : P k <;> cases hq : Q k <;> simp [hp, hq] at this ⊢
theorem txt_lt {low : Nat} {S : List Nat} (hl : low ≤ 24) (h : isSet S) : ∀ k ∈ S.map (low + ·), k < 32 := fun k hk => by
  obtain ⟨j, hj, rfl⟩ := List.mem_map.mp hk
  have := h.lt hj
  exact Nat.lt_of_lt_of_le (Nat.add_lt_add_left this low) (Nat.add_le_add_right hl 8)
theorem txt_mem {low : Nat} {S : List Nat} (hl : low ≤ 24) (h : isSet S) {j : Nat} (hj : j < 8) : nm (low + j) ∈ wordsW (S.map (low + ·)) ↔ j ∈ S := by
  rw [words_mem (txt_lt hl h) (Nat.lt_of_lt_of_le (Nat.add_lt_add_left hj low) (Nat.add_le_add_right hl 8))]
  constructor
  · intro hm
    obtain ⟨i, hi, e⟩ := List.mem_map.mp hm
    rw [← Nat.add_left_cancel e]; exact hi
  · exact fun hm => List.mem_map.mpr ⟨j, hm, rfl⟩
theorem txt_inj {low : Nat} {S T : List Nat} (hl : low ≤ 24) (h : isSet S) (h' : isSet T) (e : txt low S = txt low T) : S = T := by
  refine h.ext h' fun k hk => ?_
  have e2 : wordsW (S.map (low + ·)) = wordsW (T.map (low + ·)) := by
    rw [← words_split (txt_lt hl h), ← words_split (txt_lt hl h')]; exact congrArg (Txt.split · ", ") e
  rw [← txt_mem hl h hk, ← txt_mem hl h' hk, e2]
/-- what pretty_flags tells of a set -/
theorem pretty_txt {low : Nat} (hl : low ≤ 24) (P : Nat → Bool) : prettyS (bits P 8 * 2 ^ low) = txt low (setOf P) := by
  rw [← bits_up low 8 64 P (Nat.add_le_add hl (by decide : 8 ≤ 40)), pretty_set _ 64 (by decide) (fun k hk => ?_), ends_up low 8 32 P (Nat.add_le_add_right hl 8)]
  · rfl
  · unfold upP
    have : ¬ k < low + 8 := Nat.not_lt.mpr (Nat.le_trans (Nat.add_le_add_right hl 8) hk)
    simp [this]
theorem sum_up (low : Nat) (P : Nat → Bool) : (((List.range 8).filter P).map fun k => (2 : Int) ^ (low + k)).sum = bits P 8 * 2 ^ low := by
  rw [← bits_sum]
  unfold pow2s
  generalize (List.range 8).filter P = l
  induction l with
  | nil => simp
  | cons k l ih => rw [List.map_cons, List.sum_cons, ih, List.map_cons, List.sum_cons, Int.add_mul, Int.pow_add, Int.mul_comm (2 ^ low)]
end Mine

open PySem PySem.W PyProof.Rows
set_option Elab.async false
set_option linter.unusedVariables false
set_option linter.unusedSimpArgs false
set_option maxRecDepth 100000
namespace Mine
abbrev fSets : Stmt := sAt top 63
abbrev Φ0 : Str → List D → Option D := fun _ _ => none

/-! the functions that the sets ask -/
abbrev Cw (ks : List Nat) : Prop := (∀ k ∈ ks, k < 32) ∧ ks.length ≤ 32
abbrev Cp (n : Int) : Prop := n.natAbs < 2 ^ 90
noncomputable def Φs (μ : MM) : Str → List D → Option D := Φfam "_law_words" Cw (fun ks => [natsD ks]) (fun ks => .str (wordsT ks)) (Φfam "pretty_flags" Cp (fun n => [.int n]) (fun n => .str (prettyS n)) (Φb μ))
theorem Φs_w {μ : MM} {ks : List Nat} (h : Cw ks) : Φs μ "_law_words" [natsD ks] = some (.str (wordsT ks)) := Φfam_at (args := fun ks => [natsD ks]) h fun j _ e => by rw [natsD_inj (List.cons.inj e).1]
theorem Φs_p {μ : MM} {n : Int} (h : Cp n) : Φs μ "pretty_flags" [.int n] = some (.str (prettyS n)) := (Φfam_ne (by decide +kernel)).trans (Φfam_at (args := fun n => [.int n]) h fun j _ e => by injection e with e _; injection e with e; rw [e])
theorem Φs_b {μ : MM} {f : Str} {ds : List D} (h1 : f ≠ "_law_words") (h2 : f ≠ "pretty_flags") : Φs μ f ds = Φb μ f ds := (Φfam_ne h1).trans (Φfam_ne h2)
theorem tabS {W : Wd} (T : Tp W) (hf : FnAt W "_law_words" (dArgs fWords) (dBody fWords) (dScope fWords)) (k : Nat) (μ : MM) : TabOk W (k + 1) μ (Φs μ) Φ0 :=
  tabFam (tabFam (tabB T.b (k + 1) μ) fun n h => ok_pretty T k μ n h) fun ks h => ok_words T hf k μ ks h.1 h.2

/-- an if with statements behind it, from which nothing jumps -/
theorem R.ifO {Φ Ψ : MM → Str → List D → Option D} {sc : Scope} {F : Fr Φ Ψ sc} {rest : List Stmt} {Δ : Ctx} {μ : MM} {K : Out → Ctx → MM → Prop} (n : Nat) (M : Ctx → MM → Prop) {t : Expr} {body orelse : List Stmt} {pos : Pos} {b : Bool} (ok : okT n sc.names t = true) (ht : tstD (Φ μ) (Ψ μ) μ n t Δ = some b)
    (h1 : ∀ P : Ctx → MM → Prop, (∀ Δ μ, M Δ μ → P Δ μ) → b = true → R F body Δ μ (Ko P)) (h2 : ∀ P : Ctx → MM → Prop, (∀ Δ μ, M Δ μ → P Δ μ) → b = false → R F orelse Δ μ (Ko P)) (hr : ∀ Δ μ, M Δ μ → R F rest Δ μ K) : R F (.If t body orelse pos :: rest) Δ μ K :=
  Wp.cons (Wp1.mono (Wp1.if_ ((F.cx μ).tst n ok ht) (h1 M fun _ _ h => h) (h2 M fun _ _ h => h)) fun o Δ' μ' h => by
    cases o with
    | next => exact hr _ _ h
    | brk => exact False.elim h
    | cont => exact False.elim h
    | ret => exact False.elim h)

theorem b_one_shl {μ : MM} {n : Nat} (h : n ≤ 1000000) : binD μ .LShift (.int 1) (.int (n : Nat)) = some (.int (2 ^ n)) := by
  rw [binD_int]; simp only [aShl]; rw [if_pos ⟨Int.natCast_nonneg n, Int.ofNat_le.mpr h, by decide⟩]; simp

/-- steps back by a sign -/
abbrev Row := Nat × Nat × Nat
def rowD (r : Row) : D := natsD [r.1, r.2.1, r.2.2]
def stepS (rows : List Row) (S : List Nat) (e : Nat) : List Nat := setOf fun p => rows.any fun r => decide (r.1 ∈ S) && r.2.1 == e && r.2.2 == p
theorem stepS_isSet (rows : List Row) (S : List Nat) (e : Nat) : isSet (stepS rows S e) := ⟨_, rfl⟩
theorem stepS_mem {rows : List Row} {S : List Nat} {e p : Nat} (h : p < 8) : p ∈ stepS rows S e ↔ ∃ t, t ∈ S ∧ (t, e, p) ∈ rows := by
  unfold stepS
  rw [setOf_mem h]
  simp only [List.any_eq_true, Bool.and_eq_true, decide_eq_true_eq, beq_iff_eq]
  constructor
  · rintro ⟨⟨t, e', p'⟩, hr, ⟨h1, rfl⟩, rfl⟩; exact ⟨t, h1, hr⟩
  · rintro ⟨t, h1, hr⟩; exact ⟨_, hr, ⟨h1, rfl⟩, rfl⟩

theorem idxOf_inj {α β : Type} [DecidableEq α] [DecidableEq β] {g : α → β} {F : List α} {f : α} (hf : f ∈ F) (hg : ∀ x ∈ F, g x = g f → x = f) : (F.map g).idxOf (g f) = F.idxOf f := by
  induction F with
  | nil => cases hf
  | cons x F ih =>
    rw [List.map_cons, List.idxOf_cons, List.idxOf_cons]
    by_cases e : x = f
    · subst e; simp
    · have h1 : (g x == g f) = false := by simpa using fun e' => e (hg x List.mem_cons_self e')
      have h2 : (x == f) = false := by simpa using e
      have hf' : f ∈ F := by
        rcases List.mem_cons.mp hf with rfl | h
        · exact absurd rfl e
        · exact h
      rw [h1, h2]
      simp only [cond_false]
      rw [ih hf' fun a ha => hg a (List.mem_cons_of_mem _ ha)]

/-! lengths of texts -/
theorem wordsT_len {ks : List Nat} (h : Cw ks) : (wordsT ks).length ≤ 10000 := by
  unfold wordsT
  split
  · decide +kernel
  · have hs : ∀ (l : List Nat), (∀ k ∈ l, k < 32) → ((l.map nm).map (·.length)).sum ≤ l.length * 103 := by
      intro l
      induction l with
      | nil => intro _; exact Nat.zero_le _
      | cons x l ih =>
        intro hl
        have h1 := nm_len (hl x List.mem_cons_self)
        have h2 := ih fun y hy => hl y (List.mem_cons_of_mem _ hy)
        simp only [List.map_cons, List.sum_cons, List.length_cons]; omega
    have h1 := hs ks h.1
    have h2 := StrLaws.join_length_le (", " : Str) (ks.map nm)
    rw [show (", " : Str).length = 2 from sep_len, List.length_map] at h2
    have h3 := h.2
    show (Builtin.Str.glued _ _).length ≤ _
    rw [StrLaws.glued_eq_join]
    omega
theorem parts_len (x : Str) (w : Nat) : ∀ (cuts : List Nat) (a : Nat), (StrLaws.partsFrom x w a cuts).length = cuts.length + 1
  | [], _ => rfl
  | c :: r, a => by
    show (StrLaws.partsFrom x w (c + w) r).length + 1 = _
    rw [parts_len x w r]; rfl
theorem split_val {μ : MM} {ks : List Nat} (h : Cw ks) : methD μ "split" (.str (wordsT ks)) [.str ", "] = some (.list ((wordsW ks).map .str)) := by
  have h1 := wordsT_len h
  have h2 : (Builtin.Str.partsBetween (wordsT ks) (Builtin.Str.occurrences (wordsT ks) ", " 0 (wordsT ks).length ((wordsT ks).length + 1)) (", " : Str).length).length ≤ sizeLine := by
    rw [StrLaws.partsBetween_eq, parts_len]
    have := StrLaws.occ_length_le (wordsT ks) ", " 0 (wordsT ks).length ((wordsT ks).length + 1)
    exact le_line (by omega)
  have hs := words_split h.1
  generalize wordsT ks = x at *
  simp only [methD]
  rw [if_neg (by decide +kernel), if_pos (by decide +kernel), if_pos ⟨by decide +kernel, le_line (Nat.le_trans h1 (by decide)), h2⟩, hs]

/-! the turns -/
theorem bfsTurn_len1 {α : Type} [DecidableEq α] (step : α → Nat → α) (x : List α × List Nat) (t : Nat) : (bfsTurn step x t).1.length ≤ x.1.length + 1 ∧ (bfsTurn step x t).2.length ≤ x.2.length + 1 := by
  unfold bfsTurn
  split
  · exact ⟨Nat.le_succ _, Nat.le_succ _⟩
  · refine ⟨?_, by simp⟩
    simp only; unfold add1; split
    · exact Nat.le_succ _
    · simp
theorem bfsTurn_len {α : Type} [DecidableEq α] (step : α → Nat → α) (a : α) : ∀ t, ((List.range t).foldl (bfsTurn step) ([a], [])).1.length ≤ t + 1 ∧ ((List.range t).foldl (bfsTurn step) ([a], [])).2.length ≤ t
  | 0 => ⟨Nat.le_refl _, Nat.le_refl _⟩
  | t + 1 => by
    obtain ⟨h1, h2⟩ := bfsTurn_len step a t
    rw [List.range_succ, List.foldl_append]
    obtain ⟨h3, h4⟩ := bfsTurn_len1 step ((List.range t).foldl (bfsTurn step) ([a], [])) t
    exact ⟨Nat.le_trans h3 (Nat.succ_le_succ h1), Nat.le_trans h4 (Nat.succ_le_succ h2)⟩
theorem bfsTurn_set {rows : List Row} {S : List Nat} (h : isSet S) : ∀ t, ∀ X ∈ ((List.range t).foldl (bfsTurn (stepS rows)) ([S], [])).1, isSet X
  | 0, X, hX => by rw [List.mem_singleton.mp hX]; exact h
  | t + 1, X, hX => by
    have ih := bfsTurn_set (rows := rows) h t
    rw [List.range_succ, List.foldl_append] at hX
    generalize (List.range t).foldl (bfsTurn (stepS rows)) ([S], []) = x at *
    have hX : X ∈ (bfsTurn (stepS rows) x t).1 := hX
    unfold bfsTurn at hX
    split at hX
    · exact ih X hX
    · rcases add1_mem.mp hX with hX | rfl
      · exact ih X hX
      · exact stepS_isSet ..
end Mine

open PySem PySem.W PyProof.Rows
set_option Elab.async false
set_option linter.unusedVariables false
set_option linter.unusedSimpArgs false
set_option maxRecDepth 100000
namespace Mine
abbrev bTurn : List Stmt := forB (sAt (dBody fSets) 3)
abbrev bText : List Stmt := forB (sAt bTurn 0)

/-- while the sets are numbered -/
structure SE (low : Nat) (rows : List Row) (a b : Addr) (x : List (List Nat) × List Nat) (Δ : Ctx) (μ : MM) : Prop where
  steps : Δ.lookup ("steps" : Str) = some (.list (rows.map rowD))
  lowL : Δ.lookup ("low" : Str) = some (.int low)
  words : Δ.lookup ("words" : Str) = some (.list ((List.range 8).map fun p => .str (nm (low + p))))
  texts : Δ.lookup ("texts" : Str) = some (.ref a)
  table : Δ.lookup ("table" : Str) = some (.ref b)
  ne : a ≠ b
  ca : μ a = some (.lst (x.1.map fun S => .str (txt low S)))
  cb : μ b = some (.lst (x.2.map fun (k : Nat) => .int k))
abbrev nSE : List Str := ["steps", "low", "words", "texts", "table"]

section
variable {low : Nat} {rows : List Row} {a b : Addr} {x : List (List Nat) × List Nat} {Δ : Ctx} {μ : MM}
theorem SE.cons (S : SE low rows a b x Δ μ) {y : Str} {d : D} (h : offN nSE y = true) : SE low rows a b x ((y, d) :: Δ) μ :=
  ⟨look_off h (by decide +kernel) S.steps, look_off h (by decide +kernel) S.lowL, look_off h (by decide +kernel) S.words, look_off h (by decide +kernel) S.texts, look_off h (by decide +kernel) S.table, S.ne, S.ca, S.cb⟩

theorem mem_nats {p : Nat} {A : List Nat} {μ : MM} : cmpD μ .In (.int (p : Nat)) (natsD A) = some (decide (p ∈ A)) := by
  have e : (A.map fun (k : Nat) => D.int k) = (A.map fun (k : Nat) => (k : Int)).map .int := by rw [List.map_map]; rfl
  unfold natsD
  simp only [cmpD, asList, memD]
  rw [e, intsOf_map]
  simp only [Option.map_some, Option.some.injEq, decide_eq_decide]
  constructor
  · intro h; obtain ⟨k, hk, e⟩ := List.mem_map.mp h; rw [← Int.ofNat.inj e]; exact hk
  · exact fun h => List.mem_map.mpr ⟨p, h, rfl⟩
theorem idx_nats {A : List Nat} {i : Nat} {k : Nat} {μ : MM} (h : A[i]? = some k) (hi : i < 2 ^ 63) : idxD μ (natsD A) (i : Int) = some (.int k) := idxD_list (by rw [List.getElem?_map, h]; rfl) hi

/-- the sum of the places' flags, told -/
theorem flags_val {Γ : Ctx} {n : Nat} {elt iter : Expr} {ifs : List Expr} {scope : Scope} {y : Str} {p1 p2 p3 p4 p5 p6 : Pos} {as : Int} (P : Nat → Bool) (hlow : low ≤ 24) (h : evD (Φs μ) Φ0 μ n (.ListComp elt [⟨.Name y p1, iter, ifs, as⟩] scope p2) Γ = some (.list ((setOf P).map fun k => .int (2 ^ (low + k))))) :
    evD (Φs μ) Φ0 μ (n + 2) (.Call (.Name "pretty_flags" p3) [.Call (.Name "sum" p4) [.ListComp elt [⟨.Name y p1, iter, ifs, as⟩] scope p2] [] p5] [] p6) Γ = some (.str (txt low (setOf P))) := by
  have hs : Φs μ "sum" [.list ((setOf P).map fun k => .int (2 ^ (low + k)))] = some (.int (bits P 8 * 2 ^ low)) := by
    rw [Φs_b (by decide +kernel) (by decide +kernel), ← sum_up low P]
    have e : ((setOf P).map fun k => D.int (2 ^ (low + k))) = ((setOf P).map fun k => (2 : Int) ^ (low + k)).map .int := by rw [List.map_map]; rfl
    rw [e]; exact Φb_sum
  refine (evD_call1 ((evD_call1 h).trans hs)).trans ?_
  rw [Φs_p ?_, pretty_txt hlow]
  show (bits P 8 * 2 ^ low).natAbs < 2 ^ 90
  have hb := bits_range P 8
  rw [Int.natAbs_mul]
  have h1 : (bits P 8).natAbs < 2 ^ 8 := abs_lt hb.1 hb.2
  have h2 : ((2 : Int) ^ low).natAbs ≤ 2 ^ 24 := by
    rw [Int.natAbs_pow]; exact Nat.pow_le_pow_right (by decide) hlow
  exact Nat.lt_of_lt_of_le (Nat.mul_lt_mul_of_lt_of_le h1 h2 (by decide)) (by decide +kernel)

theorem one_flag {Γ : Ctx} {n : Nat} {k : Nat} (hlow : low ≤ 24) (hk : k < 8) (h1 : Γ.lookup ("low" : Str) = some (.int low)) (h2 : Γ.lookup ("place" : Str) = some (.int k)) {p1 p2 p3 p4 p5 : Pos} {z : Nat} :
    evD (Φs μ) Φ0 μ (n + 3) (.BinOp (.Constant (.int 1) z p1) .LShift (.BinOp (.Name "low" p2) .Add (.Name "place" p3) p4) p5) Γ = some (.int (2 ^ (low + k))) :=
  (evD_bin eI ((evD_bin (evN h1) (evN h2)).trans b_add)).trans (b_one_shl (Nat.le_trans (Nat.add_le_add hlow (Nat.le_of_lt hk)) (by decide)))

def passB (S : List Nat) (t : Nat) (r : Row) : Bool := r.2.1 == t % 2 && decide (r.1 ∈ S)
theorem pass_val {S : List Nat} {t : Nat} {r : Row} {Γ : Ctx} {n : Nat} (hlow : low ≤ 24) (hr : r.1 < 8) (hS : isSet S) (h1 : Γ.lookup ("step" : Str) = some (rowD r)) (h2 : Γ.lookup ("turn" : Str) = some (.int (t : Nat)))
    (h3 : Γ.lookup ("words" : Str) = some (.list ((List.range 8).map fun p => .str (nm (low + p))))) (h4 : Γ.lookup ("there" : Str) = some (.list ((wordsW (S.map (low + ·))).map .str))) {p1 p2 p3 p4 p5 p6 p7 p8 p9 p10 p11 p12 p13 p14 p15 : Pos} {z1 z2 z3 : Nat} :
    tstD (Φs μ) Φ0 μ (n + 5) (.BoolOp .And [.Compare (.Subscript (.Name "step" p1) (.Constant (.int 1) z1 p2) p3) [.Eq] [.BinOp (.Name "turn" p4) .Mod (.Constant (.int 2) z2 p5) p6] p7,
      .Compare (.Subscript (.Name "words" p8) (.Subscript (.Name "step" p9) (.Constant (.int 0) z3 p10) p11) p12) [.In] [.Name "there" p13] p14] p15) Γ = some (passB S t r) := by
  have e0 : idxD μ (rowD r) 0 = some (.int r.1) := idx_nats (i := 0) rfl (by decide)
  have e1 : idxD μ (rowD r) 1 = some (.int r.2.1) := idx_nats (i := 1) rfl (by decide)
  have hw : idxD μ (.list ((List.range 8).map fun p => .str (nm (low + p)))) (r.1 : Int) = some (.str (nm (low + r.1))) := idxD_list (by simp [hr]) (Nat.lt_trans hr (by decide))
  have hin : cmpD μ .In (.str (nm (low + r.1))) (.list ((wordsW (S.map (low + ·))).map .str)) = some (decide (r.1 ∈ S)) := by
    simp only [cmpD, asList, memD, strsOf_map, Option.map_some]
    exact congrArg some (decide_eq_decide.mpr (txt_mem hlow hS hr))
  have hq : cmpD μ .Eq (.int (r.2.1 : Nat)) (.int ((t : Int) % 2)) = some (r.2.1 == t % 2) := by
    refine congrArg some ?_
    have : ((t : Int) % 2) = ((t % 2 : Nat) : Int) := rfl
    rw [this]
    cases h : (r.2.1 == t % 2)
    · rw [beq_eq_false_iff_ne] at h ⊢; exact fun e => h (Int.ofNat.inj e)
    · rw [beq_iff_eq] at h ⊢; rw [h]
  rw [tBool]
  simp only [tstAll, tCmp, eXc, eXs, eN, eI, eBin, h1, h2, h3, h4, opt2_ss, idxV_int, e0, e1, hw, hin, b_mod (show (0 : Int) < 2 by decide), hq]
  unfold passB
  cases r.2.1 == t % 2 <;> cases decide (r.1 ∈ S) <;> rfl
theorem after_val {S : List Nat} {t : Nat} (hlow : low ≤ 24) (hr : ∀ r ∈ rows, r.1 < 8) (hrl : rows.length ≤ 1000) (hS : isSet S) (Q : SE low rows a b x Δ μ) (ht : Δ.lookup ("turn" : Str) = some (.int (t : Nat))) (hth : Δ.lookup ("there" : Str) = some (.list ((wordsW (S.map (low + ·))).map .str))) :
    evD (Φs μ) Φ0 μ 16 (valE (sAt bText 1)) Δ = some (natsD ((rows.filter (passB S t)).map fun r => r.2.2)) := by
  unfold natsD
  rw [List.map_map]
  refine evD_compIf (g := rowD) (f := passB S t) (itD_of (d := .list (rows.map rowD)) (evN Q.steps) rfl (by intro _ _ _ _ h; cases h)) (fun r hm => ?_) (fun r hm _ => ?_) (le_line (Nat.le_trans hrl (by decide)))
  · exact pass_val hlow (hr r hm) hS look_eq (look_tl (by decide +kernel) (free_look (by kernel_rfl) ht)) (look_tl (by decide +kernel) (free_look (by kernel_rfl) Q.words)) (look_tl (by decide +kernel) (free_look (by kernel_rfl) hth))
  · exact (evD_idx (by intro _ _ _ _ h; cases h) (evN look_eq) eI).trans (idx_nats (i := 2) rfl (by decide))
theorem pass_set {S : List Nat} {t : Nat} : setOf (fun p => decide (p ∈ (rows.filter (passB S t)).map fun r => r.2.2)) = stepS rows S (t % 2) := by
  refine setOf_ext fun p hp => ?_
  rw [Bool.eq_iff_iff, decide_eq_true_eq, List.any_eq_true]
  simp only [List.mem_map, List.mem_filter, passB, Bool.and_eq_true, beq_iff_eq, decide_eq_true_eq]
  constructor
  · rintro ⟨r, ⟨h1, h2, h3⟩, h4⟩; exact ⟨r, h1, ⟨h3, h2⟩, h4⟩
  · rintro ⟨r, h1, ⟨h3, h2⟩, h4⟩; exact ⟨r, ⟨h1, h2, h3⟩, h4⟩
theorem new_val {A : List Nat} (hlow : low ≤ 24) (Q : SE low rows a b x Δ μ) (ha : Δ.lookup ("after" : Str) = some (natsD A)) :
    evD (Φs μ) Φ0 μ 16 (valE (sAt bText 2)) Δ = some (.str (txt low (setOf fun p => decide (p ∈ A)))) := by
  refine flags_val (n := 14) (fun p => decide (p ∈ A)) hlow ?_
  refine evD_compIf (l := List.range 8) (g := fun (k : Nat) => .int k) (f := fun p => decide (p ∈ A)) (itD_range1 (m := 8) eI (by decide)) (fun k hk => ?_) (fun k hk _ => ?_) (le_line (by decide))
  · exact (tstD_cmp (evN look_eq) (evN (look_tl (by decide +kernel) (free_look (by kernel_rfl) ha)))).trans mem_nats
  · exact one_flag hlow (List.mem_range.mp hk) (look_tl (by decide +kernel) (free_look (by kernel_rfl) Q.lowL)) look_eq
end

section
variable {F : Fr Φs (fun _ => Φ0) (dScope fSets)} {low : Nat} {rows : List Row} {a b : Addr} {x : List (List Nat) × List Nat} {S : List Nat} {t : Nat} {Δ : Ctx} {μ : MM} {K : Out → Ctx → MM → Prop}
theorem add1_map {L : List (List Nat)} {T : List Nat} (hl : low ≤ 24) (hL : ∀ X ∈ L, isSet X) (hT : isSet T) : (txt low T ∈ L.map (txt low)) ↔ T ∈ L := by
  constructor
  · intro h
    obtain ⟨X, hX, e⟩ := List.mem_map.mp h
    rw [← txt_inj hl (hL X hX) hT e]; exact hX
  · exact fun h => List.mem_map.mpr ⟨T, h, rfl⟩
/-- one text -/
theorem set_text (hlow : low ≤ 24) (hr : ∀ r ∈ rows, r.1 < 8) (hrl : rows.length ≤ 1000) (hS : isSet S) (hx : ∀ X ∈ x.1, isSet X) (h1 : x.1.length ≤ 100) (h2 : x.2.length ≤ 100) (Q : SE low rows a b x Δ μ) (ht : Δ.lookup ("turn" : Str) = some (.int (t : Nat)))
    (hk : ∀ Δ μ, SE low rows a b (add1 x.1 (stepS rows S (t % 2)), x.2 ++ [posL (add1 x.1 (stepS rows S (t % 2))) (stepS rows S (t % 2))]) Δ μ → Δ.lookup ("turn" : Str) = some (.int (t : Nat)) → K .next Δ μ) :
    R F bText (("text", .str (txt low S)) :: Δ) μ K := by
  have Q := Q.cons (y := "text") (d := .str (txt low S)) (by decide +kernel)
  have ht := look_tl (x := "text") (d := .str (txt low S)) (by decide +kernel) ht
  have htx : ((("text" : Str), D.str (txt low S)) :: Δ).lookup ("text" : Str) = some (.str (txt low S)) := look_eq
  generalize ((("text" : Str), D.str (txt low S)) :: Δ) = Δ at *
  have hC : Cw (S.map (low + ·)) := ⟨txt_lt hlow hS, by
    obtain ⟨P, rfl⟩ := hS
    rw [List.length_map]; exact Nat.le_trans (List.length_filter_le ..) (by simp)⟩
  refine R.assign 10 (d := .list ((wordsW (S.map (low + ·))).map .str)) (by kernel_rfl) ((evD_meth (evN htx) eS).trans (split_val hC)) ?_
  have Q := Q.cons (y := "there") (d := .list ((wordsW (S.map (low + ·))).map .str)) (by decide +kernel)
  have ht := look_tl (x := "there") (d := .list ((wordsW (S.map (low + ·))).map .str)) (by decide +kernel) ht
  have hth : ((("there" : Str), D.list ((wordsW (S.map (low + ·))).map .str)) :: Δ).lookup ("there" : Str) = some (.list ((wordsW (S.map (low + ·))).map .str)) := look_eq
  generalize ((("there" : Str), D.list ((wordsW (S.map (low + ·))).map .str)) :: Δ) = Δ at *
  refine R.assign 16 (by kernel_rfl) (after_val hlow hr hrl hS Q ht hth) ?_
  have e := pass_set (rows := rows) (S := S) (t := t)
  generalize (rows.filter (passB S t)).map (fun r => r.2.2) = A at *
  have Q := Q.cons (y := "after") (d := natsD A) (by decide +kernel)
  have ht := look_tl (x := "after") (d := natsD A) (by decide +kernel) ht
  have ha : ((("after" : Str), natsD A) :: Δ).lookup ("after" : Str) = some (natsD A) := look_eq
  generalize ((("after" : Str), natsD A) :: Δ) = Δ at *
  refine R.assign 16 (by kernel_rfl) (new_val hlow Q ha) ?_
  rw [e]
  have hT := stepS_isSet rows S (t % 2)
  generalize stepS rows S (t % 2) = T at *
  have Q := Q.cons (y := "new") (d := .str (txt low T)) (by decide +kernel)
  have ht := look_tl (x := "new") (d := .str (txt low T)) (by decide +kernel) ht
  have hn : ((("new" : Str), D.str (txt low T)) :: Δ).lookup ("new" : Str) = some (.str (txt low T)) := look_eq
  generalize ((("new" : Str), D.str (txt low T)) :: Δ) = Δ at *
  have em : ∀ L : List (List Nat), (L.map fun S => D.str (txt low S)) = (L.map (txt low)).map .str := fun L => by rw [List.map_map]; rfl
  have hmem := add1_map (low := low) hlow hx hT
  refine R.ifO 8 (fun Δ' μ' => Δ' = Δ ∧ SE low rows a b (add1 x.1 T, x.2) Δ' μ') (b := !decide (T ∈ x.1)) (by kernel_rfl) ?_ (fun P hP hb => ?_) (fun P hP hb => ?_) fun Δ' μ' h => ?_
  · refine (tstD_cmp (evN hn) (evN Q.texts)).trans ?_
    simp only [cmpD, asList, Q.ca]
    rw [em]
    simp only [memD, strsOf_map, Option.map_some]
    exact congrArg (fun b => some (!b)) (decide_eq_decide.mpr hmem)
  · have hT' : T ∉ x.1 := by simpa using hb
    refine R.append 6 (a := a) (d := .str (txt low T)) (by kernel_rfl) (evN Q.texts) Q.ca (evN hn) (le_line (by rw [List.length_map]; exact Nat.le_trans h1 (by decide))) (R.nil (hP _ _ ⟨rfl, ?_⟩))
    refine ⟨Q.steps, Q.lowL, Q.words, Q.texts, Q.table, Q.ne, ?_, by rw [MM.set_ne (Ne.symm Q.ne)]; exact Q.cb⟩
    rw [MM.set_self]
    unfold add1
    rw [if_neg hT', List.map_append]; rfl
  · have hT' : T ∈ x.1 := by simpa using hb
    refine R.nil (hP _ _ ⟨rfl, ?_⟩)
    rw [add1_old hT']; exact Q
  · obtain ⟨rfl, Q⟩ := h
    have hTm : T ∈ add1 x.1 T := add1_mem.mpr (.inr rfl)
    have hx' : ∀ X ∈ add1 x.1 T, isSet X := fun X hX => by
      rcases add1_mem.mp hX with h | rfl
      · exact hx X h
      · exact hT
    have hl' : (add1 x.1 T).length ≤ 101 := by
      unfold add1; split
      · exact Nat.le_succ_of_le h1
      · simp; exact h1
    generalize add1 x.1 T = L at *
    have hf : findIdxD (.str (txt low T)) (L.map fun S => .str (txt low S)) = some (posL L T) := by
      rw [em]
      simp only [findIdxD, strsOf_map, Option.bind_some]
      rw [if_pos (List.mem_map.mpr ⟨T, hTm, rfl⟩)]
      exact congrArg some (idxOf_inj hTm fun X hX e => txt_inj hlow (hx' X hX) hT e)
    refine R.append 8 (a := b) (d := .int (posL L T : Nat)) (by kernel_rfl) (evN Q.table) Q.cb ?_ (le_line (by rw [List.length_map]; exact Nat.le_trans h2 (by decide))) (R.nil (hk _ _ ⟨Q.steps, Q.lowL, Q.words, Q.texts, Q.table, Q.ne, by rw [MM.set_ne Q.ne]; exact Q.ca, ?_⟩ ht))
    · refine (evD_meth (evN Q.texts) (evN hn)).trans ?_
      simp only [methD]
      rw [if_neg (by decide +kernel), if_neg (by decide +kernel), if_pos (by decide +kernel)]
      simp only [asList, Q.ca]
      rw [if_pos (le_line (by rw [List.length_map]; exact Nat.le_trans hl' (by decide))), hf]; rfl
    · rw [MM.set_self, List.map_append]; rfl
end
end Mine

open PySem PySem.W PyProof.Rows
set_option Elab.async false
set_option linter.unusedVariables false
set_option linter.unusedSimpArgs false
set_option maxRecDepth 100000
namespace Mine
def turnsS (rows : List Row) (S : List Nat) (t : Nat) : List (List Nat) × List Nat := (List.range t).foldl (bfsTurn (stepS rows)) ([S], [])
theorem turnsS_succ {rows : List Row} {S : List Nat} {t : Nat} : turnsS rows S (t + 1) = bfsTurn (stepS rows) (turnsS rows S t) t := by
  unfold turnsS; rw [List.range_succ, List.foldl_append]; rfl
def setsD (low : Nat) (x : List (List Nat) × List Nat) : D := .list [.list (x.1.map fun S => .str (txt low S)), natsD x.2]

section
variable {F : Fr Φs (fun _ => Φ0) (dScope fSets)} {low : Nat} {rows : List Row} {a b : Addr} {S : List Nat} {t : Nat} {Δ : Ctx} {μ : MM} {K : Out → Ctx → MM → Prop}
theorem drop_one {α : Type} (l : List α) (i : Nat) : (l.drop i).take 1 = match l[i]? with | some x => [x] | none => [] := by
  cases h : l[i]? with
  | none => rw [List.drop_eq_nil_of_le (List.getElem?_eq_none_iff.mp h)]; rfl
  | some x =>
    obtain ⟨hi, e⟩ := List.getElem?_eq_some_iff.mp h
    rw [List.drop_eq_getElem_cons hi, e]; rfl
theorem set_turn (hlow : low ≤ 24) (hr : ∀ r ∈ rows, r.1 < 8) (hrl : rows.length ≤ 1000) (hS : isSet S) (ht16 : t < 16) (Q : SE low rows a b (turnsS rows S t) Δ μ) (hk : ∀ Δ μ, SE low rows a b (turnsS rows S (t + 1)) Δ μ → K .next Δ μ) :
    R F bTurn (("turn", .int (t : Nat)) :: Δ) μ K := by
  have Q := Q.cons (y := "turn") (d := .int (t : Nat)) (by decide +kernel)
  have ht : ((("turn" : Str), D.int (t : Nat)) :: Δ).lookup ("turn" : Str) = some (.int (t : Nat)) := look_eq
  generalize ((("turn" : Str), D.int (t : Nat)) :: Δ) = Δ at *
  have hlen := bfsTurn_len (stepS rows) S t
  have hset := bfsTurn_set (rows := rows) hS t
  rw [turnsS_succ] at hk
  change (turnsS rows S t).1.length ≤ _ ∧ (turnsS rows S t).2.length ≤ _ at hlen
  change ∀ X ∈ (turnsS rows S t).1, isSet X at hset
  generalize turnsS rows S t = x at *
  have hsl : evD (Φs μ) Φ0 μ 10 (match sAt bTurn 0 with | .For _ it _ _ _ => it | _ => .Constant .none 0 ⟨0, 0, 0, 0⟩) Δ = some (.list (((x.1.map fun S => D.str (txt low S)).drop (t / 2)).take 1)) := by
    have e1 : binD μ .FloorDiv (.int (t : Nat)) (.int 2) = some (.int ((t / 2 : Nat) : Int)) := b_div (by decide) (by decide)
    have e2 : binD μ .Add (.int ((t / 2 : Nat) : Int)) (.int 1) = some (.int ((t / 2 + 1 : Nat) : Int)) := b_add
    refine (evD_slice (l := some ((t / 2 : Nat) : Int)) (h := some ((t / 2 + 1 : Nat) : Int)) (s := none) (evN Q.texts) ?_ ?_ rfl).trans ?_
    · simp only [partI, eBin, eN, eI, ht, opt2_ss, e1]
    · simp only [partI, eBin, eN, eI, ht, opt2_ss, e1, e2]
    · simp only [sliceD, asList, Q.ca]
      rw [if_pos ⟨by simp, le_line (by rw [List.length_map]; exact Nat.le_trans hlen.1 (by omega))⟩, pickL_mid, Nat.add_sub_cancel_left]
  rw [← List.map_drop, ← List.map_take, drop_one] at hsl
  cases e : x.1[t / 2]? with
  | none =>
    rw [e] at hsl
    have hb : bfsTurn (stepS rows) x t = x := by unfold bfsTurn; rw [e]
    rw [hb] at hk
    exact R.for_ (fun i Δ μ => SE low rows a b x Δ μ) (by kernel_rfl) ((F.cx μ).listF 10 (by kernel_rfl) hsl) Q (fun i d Δ μ P hd _ _ => by cases hd) fun Δ μ Q => R.nil (hk Δ μ Q)
  | some X =>
    rw [e] at hsl
    have hX := hset X (List.mem_of_getElem? e)
    have hb : bfsTurn (stepS rows) x t = (add1 x.1 (stepS rows X (t % 2)), x.2 ++ [posL (add1 x.1 (stepS rows X (t % 2))) (stepS rows X (t % 2))]) := by unfold bfsTurn; rw [e]; rfl
    rw [hb] at hk
    refine R.for_ (fun i Δ μ => if i = 0 then SE low rows a b x Δ μ ∧ Δ.lookup ("turn" : Str) = some (.int (t : Nat)) else SE low rows a b (add1 x.1 (stepS rows X (t % 2)), x.2 ++ [posL (add1 x.1 (stepS rows X (t % 2))) (stepS rows X (t % 2))]) Δ μ) (by kernel_rfl) ((F.cx μ).listF 10 (by kernel_rfl) hsl) ⟨Q, ht⟩ (fun i d Δ μ P hd hI hP => ?_) fun Δ μ Q => R.nil (hk Δ μ Q)
    match i, hd with
    | 0, hd =>
      cases hd
      obtain ⟨Q, ht⟩ := hI
      exact set_text hlow hr hrl hX hset (Nat.le_trans hlen.1 (by omega)) (Nat.le_trans hlen.2 (by omega)) Q ht fun Δ μ Q _ => hP Δ μ Q
end

section
variable {W : Wd}
theorem ok_sets (T : Tp W) (hw : FnAt W "_law_words" (dArgs fWords) (dBody fWords) (dScope fWords)) (hf : FnAt W "_law_sets" (dArgs fSets) (dBody fSets) (dScope fSets)) (k : Nat) (μ : MM) (low : Nat) (rows : List Row) (P0 : Nat → Bool) (hlow : low ≤ 24) (hr : ∀ r ∈ rows, r.1 < 8) (hrl : rows.length ≤ 1000) :
    FnOk W (k + 2) μ "_law_sets" [.list (rows.map rowD), natsD (setOf P0), .int low] (setsD low (bfs (stepS rows) (setOf P0))) := by
  refine fnOk (ps := ["steps", "begin", "low"]) T.b.ok hf (fnScope_of (by kernel_rfl)) rfl (fun pm code doc vs h => ?_) fun A env hA hE hsc => ?_
  · obtain ⟨v, w, u, rfl⟩ := len3 h; rfl
  generalize hF : (⟨W, A, [], env, k + 1, fun μ => ⟨T.b.ok, hA, tabS T hw k _, hE, hsc⟩⟩ : Fr Φs (fun _ => Φ0) (dScope fSets)) = F
  have hR : ∀ {ss Δ μ K}, R F ss Δ μ K → Wp W A [] env ss Δ μ K := by subst hF; exact fun h => h
  refine hR ?_
  clear hR hF hA hE hsc hf
  have h1 : ([("steps" : Str), "begin", "low"].zip [D.list (rows.map rowD), natsD (setOf P0), .int low]).lookup ("steps" : Str) = some (.list (rows.map rowD)) := look_eq
  have h2 : ([("steps" : Str), "begin", "low"].zip [D.list (rows.map rowD), natsD (setOf P0), .int low]).lookup ("begin" : Str) = some (natsD (setOf P0)) := look_tl (by decide +kernel) look_eq
  have h3 : ([("steps" : Str), "begin", "low"].zip [D.list (rows.map rowD), natsD (setOf P0), .int low]).lookup ("low" : Str) = some (.int low) := look_tl (by decide +kernel) (look_tl (by decide +kernel) look_eq)
  generalize [("steps" : Str), "begin", "low"].zip [D.list (rows.map rowD), natsD (setOf P0), .int low] = Δ at *
  generalize (fun _ => none : MM) = μ at *
  refine R.assign 16 (d := .list ((List.range 8).map fun p => .str (nm (low + p)))) (by kernel_rfl) ?_ ?_
  · refine evD_comp (g := fun (k : Nat) => .int k) (itD_range1 (m := 8) eI (by decide)) (fun p hp => ?_) (le_line (by decide))
    have hp8 := List.mem_range.mp hp
    refine (evD_call1 (evD_list1 ((evD_bin (evN (look_tl (by decide +kernel) (free_look (by kernel_rfl) h3))) (evN look_eq)).trans b_add))).trans ?_
    exact Φs_w (ks := [low + p]) ⟨fun k hk => by rw [List.mem_singleton.mp hk]; omega, by simp⟩
  have h1 := look_tl (x := "words") (d := .list ((List.range 8).map fun p => .str (nm (low + p)))) (by decide +kernel) h1
  have h2 := look_tl (x := "words") (d := .list ((List.range 8).map fun p => .str (nm (low + p)))) (by decide +kernel) h2
  have h3 := look_tl (x := "words") (d := .list ((List.range 8).map fun p => .str (nm (low + p)))) (by decide +kernel) h3
  have h4 : ((("words" : Str), D.list ((List.range 8).map fun p => .str (nm (low + p)))) :: Δ).lookup ("words" : Str) = some (.list ((List.range 8).map fun p => .str (nm (low + p)))) := look_eq
  generalize ((("words" : Str), D.list ((List.range 8).map fun p => .str (nm (low + p)))) :: Δ) = Δ at *
  refine R.new 18 (ds := [.str (txt low (setOf P0))]) (by kernel_rfl) (EvNew.display (EvL.cons rfl (Fr.ev 16 (by kernel_rfl) (flags_val (n := 14) P0 hlow ?_)) .nil) (le_line (by simp))) fun a ha => ?_
  · refine evD_comp (l := setOf P0) (g := fun (k : Nat) => .int k) (itD_of (d := natsD (setOf P0)) (evN h2) rfl (by intro _ _ _ _ h; cases h)) (fun k hk => ?_) (le_line (Nat.le_trans (Nat.le_trans (List.length_filter_le ..) (by simp : _ ≤ 8)) (by decide)))
    exact one_flag hlow (setOf_lt hk) (look_tl (by decide +kernel) (free_look (by kernel_rfl) h3)) look_eq
  refine R.new 5 (by kernel_rfl) (EvNew.display .nil (by decide)) fun b hb => ?_
  have hba : b ≠ a := fun e => by rw [e, MM.set_self] at hb; cases hb
  have Q : SE low rows a b (turnsS rows (setOf P0) 0) ((("table" : Str), .ref b) :: ("texts", .ref a) :: Δ) (MM.set (MM.set μ a (.lst [.str (txt low (setOf P0))])) b (.lst [])) :=
    ⟨look_tl (by decide +kernel) (look_tl (by decide +kernel) h1), look_tl (by decide +kernel) (look_tl (by decide +kernel) h3), look_tl (by decide +kernel) (look_tl (by decide +kernel) h4), look_tl (by decide +kernel) look_eq, look_eq, Ne.symm hba, by rw [MM.set_ne (Ne.symm hba), MM.set_self]; rfl, MM.set_self ..⟩
  generalize ((("table" : Str), D.ref b) :: ("texts", .ref a) :: Δ) = Δ at *
  generalize MM.set (MM.set μ a (.lst [.str (txt low (setOf P0))])) b (.lst []) = μ at *
  refine R.forN 5 16 (fun t Δ μ => SE low rows a b (turnsS rows (setOf P0) t) Δ μ) (by kernel_rfl) eI (by decide) Q (fun t Δ μ P ht Q hP => set_turn hlow hr hrl ⟨P0, rfl⟩ ht Q fun Δ μ Q => hP Δ μ Q) fun Δ μ Q => ?_
  have e : turnsS rows (setOf P0) 16 = bfs (stepS rows) (setOf P0) := rfl
  rw [e] at Q
  have hlen := bfsTurn_len (stepS rows) (setOf P0) 16
  change (bfs (stepS rows) (setOf P0)).1.length ≤ _ ∧ (bfs (stepS rows) (setOf P0)).2.length ≤ _ at hlen
  generalize bfs (stepS rows) (setOf P0) = x at *
  refine Wp.freeze Q.texts Q.ca ?_
  refine Wp.freeze (look_tl (by decide +kernel) Q.table) (show (if b = a then none else _) = _ by rw [if_neg hba]; exact Q.cb) ?_
  show R F _ _ _ _
  refine R.ret 5 (by kernel_rfl) ?_ rfl
  rw [eL]
  simp only [evs, eN, optS_s, look_eq, look_tl (x := "table") (y := "texts") (by decide +kernel) look_eq]
  exact sized_le (by simp)
end
end Mine

open PySem PySem.W PyProof.Rows
set_option Elab.async false
set_option linter.unusedVariables false
set_option linter.unusedSimpArgs false
set_option maxRecDepth 100000
namespace Mine
/-- the operators -/
def tokD : List (PyData × PyData) := [(.str "!", .int 54), (.str "!=", .int 28), (.str "%", .int 24), (.str "%=", .int 40), (.str "&", .int 19), (.str "&=", .int 41), (.str "(", .int 7), (.str ")", .int 8), (.str "*", .int 16), (.str "**", .int 35), (.str "**=", .int 46), (.str "*=", .int 38), (.str "+", .int 14), (.str "+=", .int 36), (.str ",", .int 12), (.str "-", .int 15), (.str "-=", .int 37), (.str "->", .int 51), (.str ".", .int 23), (.str "...", .int 52), (.str "/", .int 17), (.str "//", .int 47), (.str "//=", .int 48), (.str "/=", .int 39), (.str ":", .int 11), (.str ":=", .int 53), (.str ";", .int 13), (.str "<", .int 20), (.str "<<", .int 33), (.str "<<=", .int 44), (.str "<=", .int 29), (.str "=", .int 22), (.str "==", .int 27), (.str ">", .int 21), (.str ">=", .int 30), (.str ">>", .int 34), (.str ">>=", .int 45), (.str "@", .int 49), (.str "@=", .int 50), (.str "[", .int 9), (.str "]", .int 10), (.str "^", .int 32), (.str "^=", .int 43), (.str "{", .int 25), (.str "|", .int 18), (.str "|=", .int 42), (.str "}", .int 26), (.str "~", .int 31)]
def tok (x : Str) : Int := match PySem.Spec.lookup (.str x) tokD with
  | some (.int i) => i
  | _ => 0

structure TokOk (W : Wd) : Prop where
  tab : ∃ a, W.mg "EXACT_TOKEN_TYPES" = some (.ref a) ∧ StrTab W.prog W.w W.s₁.heap a tokD

theorem tokD_ok : (tokD.all fun p => match p.2 with | .int i => decide (0 ≤ i ∧ i ≤ 54) | _ => false) = true := by decide +kernel
theorem tokD_rng (p) (hp : p ∈ tokD) : ∃ i, p.2 = PyData.int i ∧ 0 ≤ i ∧ i ≤ 54 := by
  have := List.all_eq_true.mp tokD_ok p hp
  split at this
  · exact ⟨_, by assumption, of_decide_eq_true this⟩
  · cases this
theorem tok_look (D : List (PyData × PyData)) (hp : ∀ p ∈ D, ∃ y, p.2 = PyData.int y ∧ 0 ≤ y ∧ y ≤ 54) : ∀ x d, PySem.Spec.lookup x D = some d → ∃ y, d = .int y ∧ 0 ≤ y ∧ y ≤ 54 := lookP (P := fun d => ∃ y, d = .int y ∧ 0 ≤ y ∧ y ≤ 54) D hp


noncomputable def Φc (μ : MM) : Str → List D → Option D := fun f ds => if f = "ISTERMINAL" then (match ds with
    | [.int i] => some (.bool (decide (i < 256)))
    | _ => none) else if f = "ISNONTERMINAL" then (match ds with
    | [.int i] => some (.bool (decide (256 ≤ i)))
    | _ => none) else if f = "ISEOF" then (match ds with
    | [.int i] => some (.bool (i == 0))
    | _ => none) else Φb μ f ds

theorem tabC {W : Wd} (T : Tp W) (k : Nat) (μ : MM) : TabOk W (k + 1) μ (Φc μ) (fun _ _ => none) := by
  have h1 := (tabB T.b (k + 1) μ).fn' (f := "ISEOF") (g := fun ds => match ds with
    | [.int i] => some (.bool (i == 0))
    | _ => none) (fun ds d h => by
      split at h
      · cases h; exact ok_ISEOF T k μ _
      · cases h)
  have h2 := h1.fn' (f := "ISNONTERMINAL") (g := fun ds => match ds with
    | [.int i] => some (.bool (decide (256 ≤ i)))
    | _ => none) (fun ds d h => by
      split at h
      · cases h; exact ok_ISNONTERMINAL T k μ _
      · cases h)
  exact h2.fn' (f := "ISTERMINAL") (g := fun ds => match ds with
    | [.int i] => some (.bool (decide (i < 256)))
    | _ => none) (fun ds d h => by
      split at h
      · cases h; exact ok_ISTERMINAL T k μ _
      · cases h)
theorem Φc_T {μ : MM} {i : Int} : Φc μ "ISTERMINAL" [.int i] = some (.bool (decide (i < 256))) := by simp [Φc]
theorem Φc_N {μ : MM} {i : Int} : Φc μ "ISNONTERMINAL" [.int i] = some (.bool (decide (256 ≤ i))) := by simp [Φc, str_eq]
theorem Φc_E {μ : MM} {i : Int} : Φc μ "ISEOF" [.int i] = some (.bool (i == 0)) := by simp [Φc, str_eq]
theorem Φc_b {μ : MM} {f : Str} {ds : List D} (h : f ≠ "ISTERMINAL" ∧ f ≠ "ISNONTERMINAL" ∧ f ≠ "ISEOF") : Φc μ f ds = Φb μ f ds := by simp [Φc, h.1, h.2.1, h.2.2]


theorem idxL_last {α : Type} {xs : List α} {x : α} : idxL (xs ++ [x]) (-1) = some x := by
  have h2 : ¬ (0 : Int) ≤ -1 := by omega
  have h3 : -((xs ++ [x]).length : Int) ≤ -1 := by simp; omega
  unfold idxL
  rw [if_neg h2, if_pos h3]
  have : ((-1 : Int) + ((xs ++ [x]).length : Int)).toNat = xs.length := by simp; omega
  rw [this]; simp
theorem idxD_last {μ : MM} {a : Addr} {xs : List D} {x : D} (hm : μ a = some (.lst (xs ++ [x]))) : idxD μ (.ref a) (-1) = some x := by
  unfold idxD; rw [if_pos ⟨by omega, by omega⟩]; simp only [asList_ref hm]; exact idxL_last

/-- the operators in the order of their numbers -/
def tableL : List Str := (["(", ")", "[", "]", ":", ",", ";", "+", "-", "*", "/", "|", "&", "<", ">", "=", ".", "%", "{", "}", "==", "!=", "<=", ">=", "~", "^", "<<", ">>", "**", "+=", "-=", "*=", "/=", "%=", "&=", "|=", "^=", "<<=", ">>=", "**=", "//", "//=", "@", "@=", "->", "...", ":=", "!"] : List String).map Str.ofString
theorem tableL_len : tableL.length = 48 := rfl

theorem tok_table : ∀ i < 48, tok (tableL.getD i "") = 7 + i := by decide +kernel

end Mine

open PySem PySem.W PyProof.Rows
set_option Elab.async false
set_option linter.unusedVariables false
set_option linter.unusedSimpArgs false
set_option maxRecDepth 100000
namespace Mine
abbrev fGram : Stmt := sAt top 62
abbrev bGram : List Stmt := forB (sAt (dBody fGram) 4)

/-- what the reader of the grammar has -/
structure GS where
  lefts : List Int
  steps : List (Int × Int × Int)
  ends : List Int
  letter : Int
def gStep (s : GS) (n : Int) : GS :=
  if n = 0 then { s with ends := s.ends ++ [s.lefts.getLastD 0] }
  else if n < 256 then { s with letter := n }
  else if 0 < s.letter then { s with steps := s.steps ++ [(n, s.letter, s.lefts.getLastD 0)], letter := 0 }
  else { s with lefts := s.lefts ++ [n] }
def gAll (told : List Int) : GS := told.foldl gStep ⟨[], [], [], 0⟩
def tripD (r : Int × Int × Int) : D := .list [.int r.1, .int r.2.1, .int r.2.2]

structure GE (kinds : List Int) (a b c : Addr) (s : GS) (Δ : Ctx) (μ : MM) : Prop where
  kindsL : Δ.lookup ("kinds" : Str) = some (.list (kinds.map .int))
  lefts : Δ.lookup ("lefts" : Str) = some (.ref a)
  steps : Δ.lookup ("steps" : Str) = some (.ref b)
  ends : Δ.lookup ("ends" : Str) = some (.ref c)
  letter : Δ.lookup ("letter" : Str) = some (.int s.letter)
  ab : a ≠ b
  ac : a ≠ c
  bc : b ≠ c
  ca : μ a = some (.lst (s.lefts.map .int))
  cb : μ b = some (.lst (s.steps.map tripD))
  cc : μ c = some (.lst (s.ends.map .int))
abbrev nGE : List Str := ["kinds", "lefts", "steps", "ends", "letter"]
abbrev nGE4 : List Str := ["kinds", "lefts", "steps", "ends"]

theorem last_of {l : List Int} (h : l ≠ []) : ∃ m x, l = m ++ [x] ∧ l.getLastD 0 = x := ⟨l.dropLast, l.getLast h, (List.dropLast_concat_getLast h).symm, by rw [List.getLastD_eq_getLast?, List.getLast?_eq_some_getLast h]; rfl⟩

section
variable {F : Fr Φc (fun _ _ _ => none) (dScope fGram)} {kinds : List Int} {a b c : Addr} {s : GS} {Δ : Ctx} {μ : MM} {K : Out → Ctx → MM → Prop}
theorem GE.cons (S : GE kinds a b c s Δ μ) {y : Str} {d : D} (h : offN nGE y = true) : GE kinds a b c s ((y, d) :: Δ) μ :=
  ⟨look_off h (by decide +kernel) S.kindsL, look_off h (by decide +kernel) S.lefts, look_off h (by decide +kernel) S.steps, look_off h (by decide +kernel) S.ends, look_off h (by decide +kernel) S.letter, S.ab, S.ac, S.bc, S.ca, S.cb, S.cc⟩
theorem GE.setL (S : GE kinds a b c s Δ μ) (l : Int) : GE kinds a b c { s with letter := l } (("letter", .int l) :: Δ) μ :=
  ⟨look_off (N := nGE4) (by decide +kernel) (by decide +kernel) S.kindsL, look_off (N := nGE4) (by decide +kernel) (by decide +kernel) S.lefts, look_off (N := nGE4) (by decide +kernel) (by decide +kernel) S.steps, look_off (N := nGE4) (by decide +kernel) (by decide +kernel) S.ends, look_eq, S.ab, S.ac, S.bc, S.ca, S.cb, S.cc⟩

theorem gram_one {n : Int} (hl : s.lefts ≠ [] ∨ (256 ≤ n ∧ s.letter ≤ 0)) (h1 : s.lefts.length ≤ 1000) (h2 : s.steps.length ≤ 1000) (h3 : s.ends.length ≤ 1000) (S : GE kinds a b c s Δ μ) (hk : ∀ Δ μ, GE kinds a b c (gStep s n) Δ μ → K .next Δ μ) :
    R F bGram (("number", .int n) :: Δ) μ K := by
  have S := S.cons (y := "number") (d := .int n) (by decide +kernel)
  have hn : ((("number" : Str), D.int n) :: Δ).lookup ("number" : Str) = some (.int n) := look_eq
  generalize ((("number" : Str), D.int n) :: Δ) = Δ at *
  unfold gStep at hk
  have hlast : s.lefts ≠ [] → ∀ μ, μ a = some (.lst (s.lefts.map .int)) → ∀ (k z : Nat) (p1 p2 p3 p4 : Pos), evD (Φc μ) (fun _ _ => none) μ (k + 3) (.Subscript (.Name "lefts" p1) (.UnaryOp .USub (.Constant (.int 1) z p2) p3) p4) Δ = some (.int (s.lefts.getLastD 0)) := fun h μ hμ k z p1 p2 p3 p4 => by
    obtain ⟨m, x, e, e2⟩ := last_of h
    rw [e2]
    have := idxD_last (μ := μ) (a := a) (xs := m.map .int) (x := .int x) (by rw [hμ, e, List.map_append]; rfl)
    simp only [eXu, eNeg, eN, eI, S.lefts, opt2_ss, idxV_int, this]
  refine R.if_ 8 (b := n == 0) (by kernel_rfl) ?_ (fun hb => ?_) (fun hb => ?_)
  · simp only [tCall, eCall, evs, eN, hn, optS_s, Φc_E, Option.bind_some, truthD]
  · have h0 : n = 0 := beq_iff_eq.mp hb
    subst h0
    rw [if_pos rfl] at hk
    have hne : s.lefts ≠ [] := hl.resolve_right fun h => absurd h.1 (by decide)
    refine R.append 6 (a := c) (d := .int (s.lefts.getLastD 0)) (by kernel_rfl) (evN S.ends) S.cc (hlast hne μ S.ca 3 _ _ _ _ _) (le_line (by rw [List.length_map]; exact Nat.le_trans h3 (by decide))) (R.nil (hk _ _ ?_))
    exact ⟨S.kindsL, S.lefts, S.steps, S.ends, S.letter, S.ab, S.ac, S.bc, by rw [MM.set_ne S.ac]; exact S.ca, by rw [MM.set_ne S.bc]; exact S.cb, by rw [MM.set_self, List.map_append]; rfl⟩
  · have h0 : n ≠ 0 := fun e => by rw [e] at hb; cases hb
    rw [if_neg h0] at hk
    refine R.if_ 8 (b := decide (n < 256)) (by kernel_rfl) ?_ (fun hb => ?_) (fun hb => ?_)
    · simp only [tCall, eCall, evs, eN, hn, optS_s, Φc_T, Option.bind_some, truthD]
    · rw [if_pos (of_decide_eq_true hb)] at hk
      exact R.assign 5 (by kernel_rfl) (evN hn) (R.nil (hk _ _ (S.setL n)))
    · have h256 : ¬ n < 256 := of_decide_eq_false hb
      rw [if_neg h256] at hk
      refine R.if_ 8 (b := decide (0 < s.letter)) (by kernel_rfl) ?_ (fun hb => ?_) (fun hb => ?_)
      · have hN : Φc μ "ISNONTERMINAL" [.int n] = some (.bool true) := by rw [Φc_N, decide_eq_true (Int.not_lt.mp h256)]
        rw [tBool]
        simp only [tstAll, tCall, tCmp, eCall, evs, eN, eI, hn, S.letter, opt2_ss, optS_s, hN, Option.bind_some, truthD, cmpD]
        cases decide (0 < s.letter) <;> rfl
      · have hpos := of_decide_eq_true hb
        rw [if_pos hpos] at hk
        have hne : s.lefts ≠ [] := hl.resolve_right fun h => absurd hpos (Int.not_lt.mpr h.2)
        refine R.append 8 (a := b) (d := tripD (n, s.letter, s.lefts.getLastD 0)) (by kernel_rfl) (evN S.steps) S.cb ?_ (le_line (by rw [List.length_map]; exact Nat.le_trans h2 (by decide))) ?_
        · rw [eL]
          simp only [evs, eN, hn, S.letter, hlast hne μ S.ca 4]
          exact sized_le (by simp)
        have S : GE kinds a b c { s with steps := s.steps ++ [(n, s.letter, s.lefts.getLastD 0)] } Δ (μ.set b (.lst (s.steps.map tripD ++ [tripD (n, s.letter, s.lefts.getLastD 0)]))) :=
          ⟨S.kindsL, S.lefts, S.steps, S.ends, S.letter, S.ab, S.ac, S.bc, by rw [MM.set_ne S.ab]; exact S.ca, by rw [MM.set_self, List.map_append]; rfl, by rw [MM.set_ne (Ne.symm S.bc)]; exact S.cc⟩
        exact R.assign 5 (by kernel_rfl) eI (R.nil (hk _ _ (S.setL 0)))
      · rw [if_neg (of_decide_eq_false hb)] at hk
        refine R.append 6 (a := a) (d := .int n) (by kernel_rfl) (evN S.lefts) S.ca (evN hn) (le_line (by rw [List.length_map]; exact Nat.le_trans h1 (by decide))) (R.nil (hk _ _ ?_))
        exact ⟨S.kindsL, S.lefts, S.steps, S.ends, S.letter, S.ab, S.ac, S.bc, by rw [MM.set_self, List.map_append]; rfl, by rw [MM.set_ne (Ne.symm S.ab)]; exact S.cb, by rw [MM.set_ne (Ne.symm S.ac)]; exact S.cc⟩
end
end Mine

open PySem PySem.W PyProof.Rows
set_option Elab.async false
set_option linter.unusedVariables false
set_option linter.unusedSimpArgs false
set_option maxRecDepth 100000
namespace Mine
theorem gStep_len (s : GS) (n : Int) : (gStep s n).lefts.length ≤ s.lefts.length + 1 ∧ (gStep s n).steps.length ≤ s.steps.length + 1 ∧ (gStep s n).ends.length ≤ s.ends.length + 1 := by
  unfold gStep
  split
  · simp
  · split
    · simp
    · split <;> simp
theorem gAll_len : ∀ (l : List Int) (s : GS), (l.foldl gStep s).lefts.length ≤ s.lefts.length + l.length ∧ (l.foldl gStep s).steps.length ≤ s.steps.length + l.length ∧ (l.foldl gStep s).ends.length ≤ s.ends.length + l.length
  | [], s => ⟨Nat.le_refl _, Nat.le_refl _, Nat.le_refl _⟩
  | n :: l, s => by
    obtain ⟨h1, h2, h3⟩ := gAll_len l (gStep s n)
    obtain ⟨g1, g2, g3⟩ := gStep_len s n
    rw [List.foldl_cons, List.length_cons]
    omega
theorem gStep_ne {s : GS} {n : Int} (h : s.lefts ≠ []) : (gStep s n).lefts ≠ [] := by
  unfold gStep
  split
  · exact h
  · split
    · exact h
    · split
      · exact h
      · simp
theorem gAll_ne : ∀ (l : List Int) {s : GS}, s.lefts ≠ [] → (l.foldl gStep s).lefts ≠ []
  | [], _, h => h
  | n :: l, s, h => gAll_ne l (gStep_ne h)

theorem idx_ints {A : List Int} {i : Nat} {x : Int} {μ : MM} (h : A[i]? = some x) (hi : i < 2 ^ 63) : idxD μ (.list (A.map .int)) (i : Int) = some (.int x) := idxD_list (by rw [List.getElem?_map, h]; rfl) hi
theorem index_val {μ : MM} {d : D} {A : List Int} {x : Int} (ha : asList μ d = some (A.map .int)) (hx : x ∈ A) (hl : A.length ≤ 1000000) : methD μ "index" d [.int x] = some (.int (A.idxOf x : Nat)) := by
  simp only [methD]
  rw [if_neg (by decide +kernel), if_neg (by decide +kernel), if_pos (by decide +kernel)]
  simp only [ha]
  rw [if_pos (le_line (by rw [List.length_map]; exact hl))]
  simp only [findIdxD, intsOf_map, Option.bind_some]
  rw [if_pos hx]; rfl
def gramD (kinds : List Int) (s : GS) : D :=
  .list [.list ((s.steps.filter fun r => decide (r.2.1 ∈ kinds)).map fun r => natsD [s.lefts.idxOf r.1, kinds.idxOf r.2.1, s.lefts.idxOf r.2.2]), natsD (s.ends.map s.lefts.idxOf)]

section
variable {Φ Ψ : Str → List D → Option D} {μ : MM} {Γ : Ctx} {n : Nat} {e1 e2 e3 : Expr} {x y z : D} {p : Pos}
theorem evD_list2 (h1 : evD Φ Ψ μ n e1 Γ = some x) (h2 : evD Φ Ψ μ n e2 Γ = some y) : evD Φ Ψ μ (n + 1) (.List [e1, e2] p) Γ = some (.list [x, y]) := by
  rw [eL]; simp only [evs, h1, h2]; exact sized_le (by simp)
theorem evD_list3 (h1 : evD Φ Ψ μ n e1 Γ = some x) (h2 : evD Φ Ψ μ n e2 Γ = some y) (h3 : evD Φ Ψ μ n e3 Γ = some z) : evD Φ Ψ μ (n + 1) (.List [e1, e2, e3] p) Γ = some (.list [x, y, z]) := by
  rw [eL]; simp only [evs, h1, h2, h3]; exact sized_le (by simp)
end
section
variable {kinds : List Int} {a b c : Addr} {s : GS} {Δ : Ctx} {μ : MM} {Φ : Str → List D → Option D}
theorem ix_val {A : List Int} {Γ : Ctx} {n : Nat} {nm : Str} {r : Int × Int × Int} {d : D} {j : Nat} {x : Int} (hl : Γ.lookup nm = some d) (ha : asList μ d = some (A.map .int)) (hr : Γ.lookup ("row" : Str) = some (tripD r)) (hj : [r.1, r.2.1, r.2.2][j]? = some x) (hx : x ∈ A) (hA : A.length ≤ 1000) {p1 p2 p3 p4 p5 p6 : Pos} {z : Nat} :
    evD Φ (fun _ _ => none) μ (n + 3) (.Call (.Attribute (.Name nm p1) "index" p2) [.Subscript (.Name "row" p3) (.Constant (.int j) z p4) p5] [] p6) Γ = some (.int (A.idxOf x : Nat)) := by
  have hj3 : j < 2 ^ 63 := by
    have := (List.getElem?_eq_some_iff.mp hj).1
    simp at this; omega
  exact (evD_meth (evN hl) ((evD_idx (by intro _ _ _ _ h; cases h) (evN hr) eI).trans (idx_ints (A := [r.1, r.2.1, r.2.2]) hj hj3))).trans (index_val ha hx (Nat.le_trans hA (by decide)))
end
section
variable {F : Fr Φc (fun _ _ _ => none) (dScope fGram)} {kinds : List Int} {a b c : Addr} {s : GS} {Δ : Ctx} {μ : MM} {K : Out → Ctx → MM → Prop}
theorem gram_end (h1 : s.lefts.length ≤ 1000) (h2 : s.steps.length ≤ 1000) (h3 : s.ends.length ≤ 1000) (hk : kinds.length ≤ 1000) (hs : ∀ r ∈ s.steps, r.1 ∈ s.lefts ∧ r.2.2 ∈ s.lefts) (he : ∀ e ∈ s.ends, e ∈ s.lefts) (S : GE kinds a b c s Δ μ) (hK : K (.ret (gramD kinds s)) Δ μ) :
    R F ((dBody fGram).drop 5) Δ μ K := by
  have hA : asList μ (.ref a) = some (s.lefts.map .int) := by simp only [asList, S.ca]
  refine R.ret 16 (by kernel_rfl) ?_ hK
  refine (show evD (Φc μ) (fun _ _ => none) μ 16 (.List [_, _] _) Δ = _ from ?_)
  rw [eL]
  refine (show optS (evs _ [_, _]) sized = _ from ?_)
  simp only [evs]
  rw [evD_compIf (l := s.steps) (g := tripD) (f := fun r => decide (r.2.1 ∈ kinds)) (h := fun r => natsD [s.lefts.idxOf r.1, kinds.idxOf r.2.1, s.lefts.idxOf r.2.2]) (itD_of (d := .ref b) (evN S.steps) (by simp only [asList, S.cb]) (by intro _ _ _ _ h; cases h)) (fun r hm => ?_) (fun r hm hf => ?_) (le_line (Nat.le_trans h2 (by decide))),
    evD_comp (l := s.ends) (g := .int) (h := fun e => .int (s.lefts.idxOf e : Nat)) (itD_of (d := .ref c) (evN S.ends) (by simp only [asList, S.cc]) (by intro _ _ _ _ h; cases h)) (fun e hm => ?_) (le_line (Nat.le_trans h3 (by decide)))]
  · show sized _ = _
    rw [sized_le (by simp)]
    unfold gramD natsD
    rw [List.map_map]; rfl
  · exact (evD_meth (evN (look_tl (by decide +kernel) (free_look (by kernel_rfl) S.lefts))) (evN look_eq)).trans (index_val hA (he e hm) (Nat.le_trans h1 (by decide)))
  · refine (tstD_cmp ((evD_idx (by intro _ _ _ _ h; cases h) (evN look_eq) eI).trans (idx_ints (A := [r.1, r.2.1, r.2.2]) (i := 1) rfl (by decide))) (evN (look_tl (by decide +kernel) (free_look (by kernel_rfl) S.kindsL)))).trans ?_
    simp only [cmpD, asList, memD, intsOf_map, Option.map_some]
  · have hf := of_decide_eq_true hf
    exact evD_list3 (ix_val (A := s.lefts) (j := 0) (look_tl (by decide +kernel) (free_look (by kernel_rfl) S.lefts)) hA look_eq rfl (hs r hm).1 h1)
      (ix_val (A := kinds) (j := 1) (look_tl (by decide +kernel) (free_look (by kernel_rfl) S.kindsL)) rfl look_eq rfl hf hk)
      (ix_val (A := s.lefts) (j := 2) (look_tl (by decide +kernel) (free_look (by kernel_rfl) S.lefts)) hA look_eq rfl (hs r hm).2 h1)
end
section
variable {W : Wd}
theorem ok_grammar (T : Tp W) (hf : FnAt W "_law_grammar" (dArgs fGram) (dBody fGram) (dScope fGram)) (k : Nat) (μ : MM) (told kinds : List Int) (hl : told.length ≤ 1000) (hk : kinds.length ≤ 1000) (h0 : ∀ n, told[0]? = some n → 256 ≤ n) (s : GS) (hs : gAll told = s)
    (h1 : ∀ r ∈ s.steps, r.1 ∈ s.lefts ∧ r.2.2 ∈ s.lefts) (h2 : ∀ e ∈ s.ends, e ∈ s.lefts) : FnOk W (k + 2) μ "_law_grammar" [.list (told.map .int), .list (kinds.map .int)] (gramD kinds s) := by
  refine fnOk (ps := ["told", "kinds"]) T.b.ok hf (fnScope_of (by kernel_rfl)) rfl (fun pm code doc vs h => ?_) fun A env hA hE hsc => ?_
  · obtain ⟨v, w, rfl⟩ := len2 h; rfl
  generalize hF : (⟨W, A, [], env, k + 1, fun μ => ⟨T.b.ok, hA, tabC T k _, hE, hsc⟩⟩ : Fr Φc (fun _ _ _ => none) (dScope fGram)) = F
  have hR : ∀ {ss Δ μ K}, R F ss Δ μ K → Wp W A [] env ss Δ μ K := by subst hF; exact fun h => h
  refine hR ?_
  clear hR hF hA hE hsc hf
  have g1 : ([("told" : Str), "kinds"].zip [D.list (told.map .int), .list (kinds.map .int)]).lookup ("told" : Str) = some (.list (told.map .int)) := look_eq
  have g2 : ([("told" : Str), "kinds"].zip [D.list (told.map .int), .list (kinds.map .int)]).lookup ("kinds" : Str) = some (.list (kinds.map .int)) := look_tl (by decide +kernel) look_eq
  generalize [("told" : Str), "kinds"].zip [D.list (told.map .int), .list (kinds.map .int)] = Δ at *
  generalize (fun _ => none : MM) = μ at *
  refine R.new 5 (by kernel_rfl) (EvNew.display .nil (by decide)) fun a ha => ?_
  refine R.new 5 (by kernel_rfl) (EvNew.display .nil (by decide)) fun b hb => ?_
  refine R.new 5 (by kernel_rfl) (EvNew.display .nil (by decide)) fun c hc => ?_
  refine R.assign 5 (by kernel_rfl) eI ?_
  have hba : b ≠ a := fun e => by rw [e, MM.set_self] at hb; cases hb
  have hcb : c ≠ b := fun e => by rw [e, MM.set_self] at hc; cases hc
  have hca : c ≠ a := fun e => by rw [e, MM.set_ne (Ne.symm hba), MM.set_self] at hc; cases hc
  have S : GE kinds a b c ⟨[], [], [], 0⟩ ((("letter" : Str), .int 0) :: ("ends", .ref c) :: ("steps", .ref b) :: ("lefts", .ref a) :: Δ) (MM.set (MM.set (MM.set μ a (.lst [])) b (.lst [])) c (.lst [])) :=
    ⟨look_tl (by decide +kernel) (look_tl (by decide +kernel) (look_tl (by decide +kernel) (look_tl (by decide +kernel) g2))), look_tl (by decide +kernel) (look_tl (by decide +kernel) (look_tl (by decide +kernel) look_eq)), look_tl (by decide +kernel) (look_tl (by decide +kernel) look_eq), look_tl (by decide +kernel) look_eq, look_eq, Ne.symm hba, Ne.symm hca, Ne.symm hcb,
      by rw [MM.set_ne (Ne.symm hca), MM.set_ne (Ne.symm hba), MM.set_self]; rfl, by rw [MM.set_ne (Ne.symm hcb), MM.set_self]; rfl, by rw [MM.set_self]; rfl⟩
  have g1 : ((("letter" : Str), D.int 0) :: ("ends", .ref c) :: ("steps", .ref b) :: ("lefts", .ref a) :: Δ).lookup ("told" : Str) = some (.list (told.map .int)) := look_tl (by decide +kernel) (look_tl (by decide +kernel) (look_tl (by decide +kernel) (look_tl (by decide +kernel) g1)))
  generalize ((("letter" : Str), D.int 0) :: ("ends", .ref c) :: ("steps", .ref b) :: ("lefts", .ref a) :: Δ) = Δ at *
  generalize MM.set (MM.set (MM.set μ a (.lst [])) b (.lst [])) c (.lst []) = μ at *
  refine R.for_ (fun i Δ μ => GE kinds a b c (gAll (told.take i)) Δ μ) (by kernel_rfl) ((F.cx μ).listF 5 (by kernel_rfl) (evN g1)) S (fun i d Δ μ P hd S hP => ?_) fun Δ μ S => ?_
  · obtain ⟨hi, rfl⟩ := mem_mapD hd
    have hlen := gAll_len (told.take i) ⟨[], [], [], 0⟩
    have htl : (told.take i).length ≤ 1000 := Nat.le_trans (List.length_take_le ..) (Nat.le_trans (Nat.le_of_lt hi) hl)
    simp only [List.length_nil, Nat.zero_add] at hlen
    have hc0 : (gAll (told.take i)).lefts ≠ [] ∨ (256 ≤ told[i] ∧ (gAll (told.take i)).letter ≤ 0) := by
      cases i with
      | zero => exact .inr ⟨h0 _ (List.getElem?_eq_getElem hi), Int.le_refl _⟩
      | succ i =>
        left
        obtain ⟨x, r, e⟩ : ∃ x r, told = x :: r := by cases told with | nil => cases hi | cons x r => exact ⟨x, r, rfl⟩
        have hx := h0 x (by rw [e]; rfl)
        rw [e, List.take_succ_cons]
        show ((r.take i).foldl gStep (gStep ⟨[], [], [], 0⟩ x)).lefts ≠ []
        refine gAll_ne _ ?_
        unfold gStep
        rw [if_neg (by omega), if_neg (by omega), if_neg (by decide)]
        simp
    refine gram_one hc0 (Nat.le_trans hlen.1 htl) (Nat.le_trans hlen.2.1 htl) (Nat.le_trans hlen.2.2 htl) S fun Δ μ S => hP Δ μ ?_
    rw [List.take_succ_eq_append_getElem hi]
    have : gAll (told.take i ++ [told[i]]) = gStep (gAll (told.take i)) told[i] := by unfold gAll; rw [List.foldl_append]; rfl
    rw [this]; exact S
  · rw [List.length_map, List.take_length, hs] at S
    have hlen := gAll_len told ⟨[], [], [], 0⟩
    simp only [List.length_nil, Nat.zero_add] at hlen
    have e : told.foldl gStep ⟨[], [], [], 0⟩ = s := hs
    rw [e] at hlen
    exact gram_end (Nat.le_trans hlen.1 hl) (Nat.le_trans hlen.2.1 hl) (Nat.le_trans hlen.2.2 hl) hk h1 h2 S rfl
end
end Mine

open PySem PySem.W PyProof.Rows
set_option Elab.async false
set_option linter.unusedVariables false
set_option linter.unusedSimpArgs false
set_option maxRecDepth 100000
namespace Mine
abbrev fStep : Stmt := sAt top 64
abbrev bStep : List Stmt := forB (sAt (dBody fStep) 1)

/-- a place of a number -/
def bt (m : Int) (p : Nat) : Bool := m / 2 ^ p % 2 == 1
theorem bt_bits {P : Nat → Bool} {n q : Nat} : bt (bits P n) q = (decide (q < n) && P q) := by
  unfold bt; rw [bits_get]
  cases (decide (q < n) && P q) <;> rfl
def widthI (kind : Nat) : Nat := if kind = 2 then 1 else 3
def partP (c : Nat → Int) (mask : Int) (kind i : Nat) : Nat → Bool := fun t => (List.range i).any fun p => bt mask p && bt (c p) (3 * kind + t)
/-- the set's steps -/
def stepM (c : Nat → Int) (mask : Int) (kind : Nat) : Int := bits (partP c mask kind 3) (widthI kind)

theorem bt_if (x : Int) (p : Nat) : (if bt x p = true then (2 : Int) ^ p else 0) = x / 2 ^ p % 2 * 2 ^ p := by
  unfold bt
  rcases Int.emod_two_eq (x / 2 ^ p) with h | h <;> rw [h] <;> simp
theorem mod_bits3 (x : Int) : bits (bt x) 3 = x % 8 := by
  simp only [bits, bt_if]
  simp only [Int.pow_zero, Int.ediv_one, Int.mul_one]
  have e1 : (2 : Int) ^ 1 = 2 := rfl
  have e2 : (2 : Int) ^ 2 = 4 := rfl
  rw [e1, e2]; omega
theorem mod_bits1 (x : Int) : bits (bt x) 1 = x % 2 := by
  simp only [bits, bt_if]
  simp only [Int.pow_zero, Int.ediv_one, Int.mul_one]; omega
theorem bt_shift (x : Int) (k t : Nat) : bt (x / 2 ^ k) t = bt x (k + t) := by
  unfold bt
  rw [Int.ediv_ediv_of_nonneg (Int.le_of_lt (pow_pos' k)), ← Int.pow_add]
/-- one place's steps -/
theorem cell_bits (x : Int) {kind : Nat} : Builtin.bitAnd (x / 2 ^ (3 * kind)) (if kind = 2 then 1 else 7) = bits (fun t => bt x (3 * kind + t)) (widthI kind) := by
  unfold widthI
  have e : (fun t => bt x (3 * kind + t)) = bt (x / 2 ^ (3 * kind)) := by funext t; rw [bt_shift]
  rw [e]
  split
  · rw [mod_bits1]; exact kbt_mask _ 1
  · rw [mod_bits3]; exact kbt_mask _ 3

structure ST (c : List Int) (mask : Int) (kind : Nat) (after : Int) (Δ : Ctx) : Prop where
  maskL : Δ.lookup ("mask" : Str) = some (.int mask)
  kindL : Δ.lookup ("kind" : Str) = some (.int (kind : Nat))
  cellsL : Δ.lookup ("cells" : Str) = some (.list (c.map .int))
  afterL : Δ.lookup ("after" : Str) = some (.int after)
abbrev cAt (c : List Int) : Nat → Int := fun p => c.getD p 0

section
variable {F : Fr Φb (fun _ => Φ0) (dScope fStep)} {c : List Int} {mask after : Int} {kind i : Nat} {Δ : Ctx} {μ : MM} {K : Out → Ctx → MM → Prop}
theorem ST.cons (S : ST c mask kind after Δ) {y : Str} {d : D} (h : offN ["mask", "kind", "cells", "after"] y = true) : ST c mask kind after ((y, d) :: Δ) :=
  ⟨look_off h (by decide +kernel) S.maskL, look_off h (by decide +kernel) S.kindL, look_off h (by decide +kernel) S.cellsL, look_off h (by decide +kernel) S.afterL⟩
theorem ST.set (S : ST c mask kind after Δ) (n : Int) : ST c mask kind n (("after", .int n) :: Δ) :=
  ⟨look_off (N := ["mask", "kind", "cells"]) (by decide +kernel) (by decide +kernel) S.maskL, look_off (N := ["mask", "kind", "cells"]) (by decide +kernel) (by decide +kernel) S.kindL, look_off (N := ["mask", "kind", "cells"]) (by decide +kernel) (by decide +kernel) S.cellsL, look_eq⟩
theorem partP_succ {c : Nat → Int} : partP c mask kind (i + 1) = fun t => partP c mask kind i t || (bt mask i && bt (c i) (3 * kind + t)) := by
  funext t; unfold partP; rw [List.range_succ, List.any_append]; simp

theorem step_one (hc : c.length = 4) (hi : i < 3) (hk2 : kind ≤ 2) (S : ST c mask kind (bits (partP (cAt c) mask kind i) (widthI kind)) Δ) (hk : ∀ Δ, ST c mask kind (bits (partP (cAt c) mask kind (i + 1)) (widthI kind)) Δ → K .next Δ μ) :
    R F bStep (("place", .int (i : Nat)) :: Δ) μ K := by
  have S := S.cons (y := "place") (d := .int (i : Nat)) (by decide +kernel)
  have hp : ((("place" : Str), D.int (i : Nat)) :: Δ).lookup ("place" : Str) = some (.int (i : Nat)) := look_eq
  generalize ((("place" : Str), D.int (i : Nat)) :: Δ) = Δ at *
  have hsh : ∀ (x : Int) (k : Nat), binD μ .RShift (.int x) (.int (k : Nat)) = some (.int (x / 2 ^ k)) := fun x k => by
    rw [binD_int]; simp only [aShr]; rw [if_pos (Int.natCast_nonneg k), Int.toNat_natCast]; rfl
  have han : ∀ x y : Int, binD μ .BitAnd (.int x) (.int y) = some (.int (Builtin.bitAnd x y)) := fun x y => rfl
  refine R.if_ 8 (b := bt mask i) (by kernel_rfl) ?_ (fun hb => ?_) (fun hb => ?_)
  · simp only [tBin, eBin, eN, eI, S.maskL, hp, opt2_ss, hsh, han, Option.bind_some, truthD]
    rw [show (1 : Int) = 2 ^ 1 - 1 from rfl, kbt_mask]
    refine congrArg some ?_
    unfold bt
    rcases Int.emod_two_eq (mask / 2 ^ i) with h | h <;> rw [Int.pow_one, h] <;> rfl
  · have hx : idxD μ (.list (c.map .int)) (i : Int) = some (.int (c.getD i 0)) := idx_ints (getD_of (by omega)) (Nat.lt_trans hi (by decide))
    have hmul : binD μ .Mult (.int 3) (.int (kind : Nat)) = some (.int ((3 * kind : Nat) : Int)) := by
      rw [binD_int]; simp only [aMul]; rw [if_pos (by decide)]; rfl
    have hcmp : cmpD μ .Eq (.int (kind : Nat)) (.int 2) = some (decide (kind = 2)) := by
      refine congrArg some ?_
      by_cases h : kind = 2
      · subst h; rfl
      · rw [decide_eq_false h, beq_eq_false_iff_ne]; exact fun e => h (Int.ofNat.inj e)
    refine R.aug 10 (b := bits (fun t => bt (c.getD i 0) (3 * kind + t)) (widthI kind)) (by kernel_rfl) S.afterL ?_ (by simp only [iOr]; rw [bits_or]) (R.nil (hk _ ?_))
    · rw [← cell_bits, eBin, evD_ifInt (c := decide (kind = 2)) (by simp only [tCmp, eN, eI, S.kindL, opt2_ss, hcmp])]
      simp only [eBin, eXn, eN, eI, S.cellsL, S.kindL, hp, opt2_ss, idxV_int, hx, hmul, hsh, han]
      by_cases h : kind = 2 <;> simp [h]
    · have := S.set (bits (fun t => partP (cAt c) mask kind i t || bt (c.getD i 0) (3 * kind + t)) (widthI kind))
      rw [partP_succ, hb]
      simpa using this
  · refine R.nil (hk _ ?_)
    rw [partP_succ, hb]
    simpa using S
end
section
variable {W : Wd}
theorem ok_step (T : Tp W) (hf : FnAt W "_law_step" (dArgs fStep) (dBody fStep) (dScope fStep)) (k : Nat) (μ : MM) (c : List Int) (hc : c.length = 4) (mask : Int) (kind : Nat) (hk2 : kind ≤ 2) :
    FnOk W (k + 1) μ "_law_step" [.int mask, .int (kind : Nat), .list (c.map .int)] (.int (stepM (cAt c) mask kind)) := by
  refine fnOk (ps := ["mask", "kind", "cells"]) T.b.ok hf (fnScope_of (by kernel_rfl)) rfl (fun pm code doc vs h => ?_) fun A env hA hE hsc => ?_
  · obtain ⟨v, w, u, rfl⟩ := len3 h; rfl
  generalize hF : (⟨W, A, [], env, k, fun μ => ⟨T.b.ok, hA, tabB T.b k _, hE, hsc⟩⟩ : Fr Φb (fun _ _ _ => none) (dScope fStep)) = F
  have hR : ∀ {ss Δ μ K}, R F ss Δ μ K → Wp W A [] env ss Δ μ K := by subst hF; exact fun h => h
  refine hR ?_
  clear hR hF hA hE hsc hf
  refine R.assign 5 (by kernel_rfl) eI ?_
  have S : ST c mask kind (bits (partP (cAt c) mask kind 0) (widthI kind)) ((("after" : Str), .int 0) :: [("mask" : Str), "kind", "cells"].zip [D.int mask, .int (kind : Nat), .list (c.map .int)]) :=
    ⟨look_tl (by decide +kernel) look_eq, look_tl (by decide +kernel) (look_tl (by decide +kernel) look_eq), look_tl (by decide +kernel) (look_tl (by decide +kernel) (look_tl (by decide +kernel) look_eq)), by
      rw [look_eq, show bits (partP (cAt c) mask kind 0) (widthI kind) = 0 from bits_none _]⟩
  refine R.forN 5 3 (fun i Δ _ => ST c mask kind (bits (partP (cAt c) mask kind i) (widthI kind)) Δ) (by kernel_rfl) eI (by decide) S (fun i Δ μ P hi S hP => step_one hc hi hk2 S fun Δ S => hP Δ μ S) fun Δ μ S => ?_
  exact R.ret 5 (by kernel_rfl) (evN S.afterL) rfl
end
end Mine

open PySem PySem.W PyProof.Rows
set_option Elab.async false
set_option linter.unusedVariables false
set_option linter.unusedSimpArgs false
set_option maxRecDepth 100000
namespace Mine
abbrev fEnds : Stmt := sAt top 65
noncomputable def Φt (c : List Int) (μ : MM) : Str → List D → Option D := Φfam "_law_step" (fun i : Int × Nat => i.2 ≤ 2) (fun i => [.int i.1, .int (i.2 : Nat), .list (c.map .int)]) (fun i => .int (stepM (cAt c) i.1 i.2)) (Φb μ)
theorem Φt_s {c : List Int} {μ : MM} {m : Int} {kind : Nat} (h : kind ≤ 2) : Φt c μ "_law_step" [.int m, .int (kind : Nat), .list (c.map .int)] = some (.int (stepM (cAt c) m kind)) :=
  Φfam_at (args := fun i : Int × Nat => [.int i.1, .int (i.2 : Nat), .list (c.map .int)]) (i := (m, kind)) h fun j _ e => by
    obtain ⟨m', k'⟩ := j
    injection e with e1 e2
    injection e2 with e2 _
    injection e1 with e1
    injection e2 with e2
    simp only at e1 e2 ⊢
    rw [e1, Int.ofNat.inj e2]
theorem Φt_b {c : List Int} {μ : MM} {f : Str} {ds : List D} (h : f ≠ "_law_step") : Φt c μ f ds = Φb μ f ds := Φfam_ne h
section
variable {W : Wd}
theorem tabT (T : Tp W) (hf : FnAt W "_law_step" (dArgs fStep) (dBody fStep) (dScope fStep)) {c : List Int} (hc : c.length = 4) (k : Nat) (μ : MM) : TabOk W (k + 1) μ (Φt c μ) Φ0 :=
  tabFam (tabB T.b (k + 1) μ) fun i h => ok_step T hf k μ c hc i.1 i.2 h
def endsM (c : Nat → Int) (mask : Int) (road : List Nat) : Int := (road ++ [2]).foldl (stepM c) mask
theorem evD_call3 {Φ Ψ : Str → List D → Option D} {μ : MM} {Δ : Ctx} {n : Nat} {f : Str} {e e' e'' : Expr} {p q : Pos} {a b c : D} (h : evD Φ Ψ μ n e Δ = some a) (h' : evD Φ Ψ μ n e' Δ = some b) (h'' : evD Φ Ψ μ n e'' Δ = some c) : evD Φ Ψ μ (n + 1) (.Call (.Name f p) [e, e', e''] [] q) Δ = Φ f [a, b, c] := by
  rw [eCall]; simp only [evs, h, h', h'', optS_s]

structure EN (c : List Int) (mask : Int) (Δ : Ctx) : Prop where
  maskL : Δ.lookup ("mask" : Str) = some (.int mask)
  cellsL : Δ.lookup ("cells" : Str) = some (.list (c.map .int))
theorem ok_ends (T : Tp W) (hs : FnAt W "_law_step" (dArgs fStep) (dBody fStep) (dScope fStep)) (hf : FnAt W "_law_ends" (dArgs fEnds) (dBody fEnds) (dScope fEnds)) (k : Nat) (μ : MM) (c : List Int) (hc : c.length = 4) (mask : Int) (road : List Nat) (hr : ∀ e ∈ road, e ≤ 2) (hrl : road.length ≤ 1000) :
    FnOk W (k + 2) μ "_law_ends" [.int mask, natsD road, .list (c.map .int)] (.int (endsM (cAt c) mask road)) := by
  refine fnOk (ps := ["mask", "road", "cells"]) T.b.ok hf (fnScope_of (by kernel_rfl)) rfl (fun pm code doc vs h => ?_) fun A env hA hE hsc => ?_
  · obtain ⟨v, w, u, rfl⟩ := len3 h; rfl
  generalize hF : (⟨W, A, [], env, k + 1, fun μ => ⟨T.b.ok, hA, tabT T hs hc k _, hE, hsc⟩⟩ : Fr (Φt c) (fun _ => Φ0) (dScope fEnds)) = F
  have hR : ∀ {ss Δ μ K}, R F ss Δ μ K → Wp W A [] env ss Δ μ K := by subst hF; exact fun h => h
  refine hR ?_
  clear hR hF hA hE hsc hf
  have h1 : ([("mask" : Str), "road", "cells"].zip [D.int mask, natsD road, .list (c.map .int)]).lookup ("mask" : Str) = some (.int mask) := look_eq
  have h2 : ([("mask" : Str), "road", "cells"].zip [D.int mask, natsD road, .list (c.map .int)]).lookup ("road" : Str) = some (natsD road) := look_tl (by decide +kernel) look_eq
  have h3 : ([("mask" : Str), "road", "cells"].zip [D.int mask, natsD road, .list (c.map .int)]).lookup ("cells" : Str) = some (.list (c.map .int)) := look_tl (by decide +kernel) (look_tl (by decide +kernel) look_eq)
  generalize [("mask" : Str), "road", "cells"].zip [D.int mask, natsD road, .list (c.map .int)] = Δ at *
  have hit : evD (Φt c fun _ => none) Φ0 (fun _ => none) 6 (match sAt (dBody fEnds) 0 with | .For _ it _ _ _ => it | _ => .Constant .none 0 ⟨0, 0, 0, 0⟩) Δ = some (.list ((road ++ [2]).map fun (k : Nat) => .int k)) := by
    refine (evD_bin (evN h2) (evD_list1 eI)).trans ?_
    unfold natsD
    rw [binD_addl, if_pos (le_line (by simp; omega))]
    simp
  refine R.for_ (fun i Δ _ => EN c (((road ++ [2]).take i).foldl (stepM (cAt c)) mask) Δ) (by kernel_rfl) ((F.cx _).listF 6 (by kernel_rfl) hit) ⟨h1, h3⟩ (fun i d Δ μ P hd S hP => ?_) fun Δ μ S => ?_
  · obtain ⟨hi, rfl⟩ := mem_mapD hd
    have hk2 : (road ++ [2])[i] ≤ 2 := by
      have := List.getElem_mem hi
      rcases List.mem_append.mp this with h | h
      · exact hr _ h
      · rw [List.mem_singleton.mp h]; exact Nat.le_refl _
    refine R.assign 6 (by kernel_rfl) ((evD_call3 (evN (look_tl (by decide +kernel) S.maskL)) (evN look_eq) (evN (look_tl (by decide +kernel) S.cellsL))).trans (Φt_s hk2)) (R.nil (hP _ _ ⟨?_, look_tl (by decide +kernel) (look_tl (by decide +kernel) S.cellsL)⟩))
    rw [List.take_succ_eq_append_getElem hi, List.foldl_append]; exact look_eq
  · rw [List.length_map, List.take_length] at S
    exact R.ret 5 (by kernel_rfl) (evN S.maskL) rfl
end
end Mine

open PySem PySem.W PyProof.Rows
set_option Elab.async false
set_option linter.unusedVariables false
set_option linter.unusedSimpArgs false
set_option maxRecDepth 100000
namespace Mine
section
variable {Φ Ψ : MM → Str → List D → Option D} {sc : Scope} {F : Fr Φ Ψ sc} {Δ : Ctx} {μ : MM}
/-- within a comprehension -/
theorem Fr.evIn (n : Nat) {scope : Scope} {cenv : Env} {Γ : Ctx} {e : Expr} {d : D} (hE : EnvOk cenv) (hN : cenv.scope.names = innerN scope sc.names) (ok : okE n (innerN scope sc.names) e = true) (h : evD (Φ μ) (Ψ μ) μ n e Γ = some d) : Ev F.W F.A cenv Γ μ e d :=
  (sound (F.cx μ).ok (F.cx μ).good (F.cx μ).tab n).1 e Γ d cenv hE (by rw [hN]; exact ok) h
theorem Fr.compEv (n : Nat) {α : Type} {elt iter : Expr} {x : Str} {px q : Pos} {scope : Scope} {l : List α} {g h : α → D} (ok : (scopeOkB scope sc.names && ownB scope x && (okI n sc.names iter && notSet iter)) = true) (hi : itD (Φ μ) (Ψ μ) μ n iter Δ = some (l.map g)) (hl : l.length ≤ sizeLine)
    (he : ∀ cenv, EnvOk cenv → cenv.scope.names = innerN scope sc.names → ∀ y ∈ l, Ev F.W F.A cenv ((x, g y) :: freeCtx scope Δ) μ elt (h y)) : Ev F.W F.A F.env Δ μ (.ListComp elt [⟨.Name x px, iter, [], 0⟩] scope q) (.list (l.map h)) := by
  obtain ⟨h1, h2, h3⟩ := and3 ok
  obtain ⟨h3, h4⟩ := Bool.and_eq_true_iff.mp h3
  have C := F.cx μ
  have hs : ScopeOk scope F.env := scopeOk_of (by rw [C.sc]; exact h1)
  have ho : OwnName scope x := own_of h2
  have hit : IterEv F.W F.A F.env Δ μ iter (l.map g) := (sound C.ok C.good C.tab n).2.2 iter Δ _ F.env C.eok (by rw [C.sc]; exact h3) hi
  have hout : (List.range (l.map g).length).flatMap (fun i => match l[i]? with | some y => [h y] | none => []) = l.map h := by
    rw [List.length_map]
    clear hi hit he hl
    induction l with
    | nil => rfl
    | cons y l ih =>
      rw [List.length_cons, List.range_succ_eq_map, List.flatMap_cons, List.flatMap_map, List.map_cons, ← ih]
      rfl
  have run := run1 (W := F.W) (A := F.A) (env := F.env) (Δ := Δ) (μ := μ) (elt := elt) (iter := iter) (x := x) (px := px) (ifs := []) (scope := scope) (p := q) (xs := l.map g) (o := fun i => match l[i]? with | some y => [h y] | none => []) hs ho (by rw [hout, List.length_map]; exact hl) fun cenv hin i d hd => by
    obtain ⟨hi', rfl⟩ := mem_mapD hd
    refine ⟨true, TstL.nil, (fun e => by cases e), fun _ => ⟨h l[i], by simp only [List.getElem?_eq_getElem hi'], ?_⟩⟩
    exact he cenv hin.eok (by rw [hin.sc]; exact (innerN_eq C.eok.kind).trans (congrArg (fun s : Scope => innerN scope s.names) C.sc)) _ (List.getElem_mem hi')
  rw [hout] at run
  exact Ev.comp hs (fun y hy => by rw [List.mem_singleton.mp hy]; exact ho) h4 rfl hit run
end

abbrev fLeast : Stmt := sAt top 66
abbrev bLt : List Stmt := forB (sAt (dBody fLeast) 2)
abbrev bLm : List Stmt := forB (sAt bLt 0)
abbrev bLp : List Stmt := forB (sAt (dBody fLeast) 4)

structure LE (c : List Int) (a b : Addr) (x : List Int × List Nat) (Δ : Ctx) (μ : MM) : Prop where
  cellsL : Δ.lookup ("cells" : Str) = some (.list (c.map .int))
  masks : Δ.lookup ("masks" : Str) = some (.ref a)
  table : Δ.lookup ("table" : Str) = some (.ref b)
  ne : a ≠ b
  ca : μ a = some (.lst (x.1.map .int))
  cb : μ b = some (.lst (x.2.map fun (k : Nat) => .int k))
abbrev nLE : List Str := ["cells", "masks", "table"]
def turnsM (c : Nat → Int) (t : Nat) : List Int × List Nat := (List.range t).foldl (bfsTurn (stepM c)) ([1], [])
theorem turnsM_succ {c : Nat → Int} {t : Nat} : turnsM c (t + 1) = bfsTurn (stepM c) (turnsM c t) t := by
  unfold turnsM; rw [List.range_succ, List.foldl_append]; rfl

section
variable {c : List Int} {F : Fr (Φt c) (fun _ => Φ0) (dScope fLeast)} {a b : Addr} {x : List Int × List Nat} {t : Nat} {m : Int} {Δ : Ctx} {μ : MM} {K : Out → Ctx → MM → Prop}
theorem LE.cons (S : LE c a b x Δ μ) {y : Str} {d : D} (h : offN nLE y = true) : LE c a b x ((y, d) :: Δ) μ :=
  ⟨look_off h (by decide +kernel) S.cellsL, look_off h (by decide +kernel) S.masks, look_off h (by decide +kernel) S.table, S.ne, S.ca, S.cb⟩
theorem lt_mod (t : Nat) : t % 2 ≤ 2 := Nat.le_of_lt (Nat.lt_of_lt_of_le (Nat.mod_lt t (by decide)) (by decide))
theorem mod2 {μ : MM} {t : Nat} : binD μ .Mod (.int (t : Nat)) (.int 2) = some (.int ((t % 2 : Nat) : Int)) := b_mod (by decide)
theorem div2 {μ : MM} {t : Nat} : binD μ .FloorDiv (.int (t : Nat)) (.int 2) = some (.int ((t / 2 : Nat) : Int)) := b_div (by decide) (by decide)

theorem least_mask (h1 : x.1.length ≤ 100) (h2 : x.2.length ≤ 100) (Q : LE c a b x Δ μ) (ht : Δ.lookup ("turn" : Str) = some (.int (t : Nat)))
    (hk : ∀ Δ μ, LE c a b (add1 x.1 (stepM (cAt c) m (t % 2)), x.2 ++ [(add1 x.1 (stepM (cAt c) m (t % 2))).idxOf (stepM (cAt c) m (t % 2))]) Δ μ → K .next Δ μ) : R F bLm (("mask", .int m) :: Δ) μ K := by
  have Q := Q.cons (y := "mask") (d := .int m) (by decide +kernel)
  have ht := look_tl (x := "mask") (d := .int m) (by decide +kernel) ht
  have hm : ((("mask" : Str), D.int m) :: Δ).lookup ("mask" : Str) = some (.int m) := look_eq
  generalize ((("mask" : Str), D.int m) :: Δ) = Δ at *
  refine R.assign 8 (by kernel_rfl) ((evD_call3 (evN hm) ((evD_bin (evN ht) eI).trans mod2) (evN Q.cellsL)).trans (Φt_s (lt_mod t))) ?_
  generalize stepM (cAt c) m (t % 2) = T at *
  have Q := Q.cons (y := "after") (d := .int T) (by decide +kernel)
  have hn : ((("after" : Str), D.int T) :: Δ).lookup ("after" : Str) = some (.int T) := look_eq
  generalize ((("after" : Str), D.int T) :: Δ) = Δ at *
  refine R.ifO 8 (fun Δ' μ' => Δ' = Δ ∧ LE c a b (add1 x.1 T, x.2) Δ' μ') (b := !decide (T ∈ x.1)) (by kernel_rfl) ?_ (fun P hP hb => ?_) (fun P hP hb => ?_) fun Δ' μ' h => ?_
  · refine (tstD_cmp (evN hn) (evN Q.masks)).trans ?_
    simp only [cmpD, asList, Q.ca, memD, intsOf_map, Option.map_some]
  · have hT' : T ∉ x.1 := by simpa using hb
    refine R.append 6 (a := a) (d := .int T) (by kernel_rfl) (evN Q.masks) Q.ca (evN hn) (le_line (by rw [List.length_map]; exact Nat.le_trans h1 (by decide))) (R.nil (hP _ _ ⟨rfl, ?_⟩))
    refine ⟨Q.cellsL, Q.masks, Q.table, Q.ne, ?_, by rw [MM.set_ne (Ne.symm Q.ne)]; exact Q.cb⟩
    rw [MM.set_self]
    unfold add1
    rw [if_neg hT', List.map_append]; rfl
  · have hT' : T ∈ x.1 := by simpa using hb
    refine R.nil (hP _ _ ⟨rfl, ?_⟩)
    rw [add1_old hT']; exact Q
  · obtain ⟨rfl, Q⟩ := h
    have hTm : T ∈ add1 x.1 T := add1_mem.mpr (.inr rfl)
    have hl' : (add1 x.1 T).length ≤ 101 := by
      unfold add1; split
      · exact Nat.le_succ_of_le h1
      · simp; exact h1
    generalize add1 x.1 T = L at *
    refine R.append 8 (a := b) (d := .int (L.idxOf T : Nat)) (by kernel_rfl) (evN Q.table) Q.cb ((evD_meth (evN Q.masks) (evN hn)).trans (index_val (by simp only [asList, Q.ca]) hTm (Nat.le_trans hl' (by decide)))) (le_line (by rw [List.length_map]; exact Nat.le_trans h2 (by decide))) (R.nil (hk _ _ ⟨Q.cellsL, Q.masks, Q.table, Q.ne, by rw [MM.set_ne Q.ne]; exact Q.ca, ?_⟩))
    rw [MM.set_self, List.map_append]; rfl

theorem least_turn (ht16 : t < 16) (Q : LE c a b (turnsM (cAt c) t) Δ μ) (hk : ∀ Δ μ, LE c a b (turnsM (cAt c) (t + 1)) Δ μ → K .next Δ μ) : R F bLt (("turn", .int (t : Nat)) :: Δ) μ K := by
  have Q := Q.cons (y := "turn") (d := .int (t : Nat)) (by decide +kernel)
  have ht : ((("turn" : Str), D.int (t : Nat)) :: Δ).lookup ("turn" : Str) = some (.int (t : Nat)) := look_eq
  generalize ((("turn" : Str), D.int (t : Nat)) :: Δ) = Δ at *
  have hlen := bfsTurn_len (stepM (cAt c)) 1 t
  rw [turnsM_succ] at hk
  change (turnsM (cAt c) t).1.length ≤ _ ∧ (turnsM (cAt c) t).2.length ≤ _ at hlen
  generalize turnsM (cAt c) t = x at *
  have hsl : evD (Φt c μ) Φ0 μ 10 (match sAt bLt 0 with | .For _ it _ _ _ => it | _ => .Constant .none 0 ⟨0, 0, 0, 0⟩) Δ = some (.list (((x.1.map D.int).drop (t / 2)).take 1)) := by
    have e2 : binD μ .Add (.int ((t / 2 : Nat) : Int)) (.int 1) = some (.int ((t / 2 + 1 : Nat) : Int)) := b_add
    refine (evD_slice (l := some ((t / 2 : Nat) : Int)) (h := some ((t / 2 + 1 : Nat) : Int)) (s := none) (evN Q.masks) ?_ ?_ rfl).trans ?_
    · simp only [partI, eBin, eN, eI, ht, opt2_ss, div2]
    · simp only [partI, eBin, eN, eI, ht, opt2_ss, div2, e2]
    · simp only [sliceD, asList, Q.ca]
      rw [if_pos ⟨by simp, le_line (by rw [List.length_map]; exact Nat.le_trans hlen.1 (by omega))⟩, pickL_mid, Nat.add_sub_cancel_left]
  rw [← List.map_drop, ← List.map_take, drop_one] at hsl
  cases e : x.1[t / 2]? with
  | none =>
    rw [e] at hsl
    have hb : bfsTurn (stepM (cAt c)) x t = x := by unfold bfsTurn; rw [e]
    rw [hb] at hk
    exact R.for_ (fun i Δ μ => LE c a b x Δ μ) (by kernel_rfl) ((F.cx μ).listF 10 (by kernel_rfl) hsl) Q (fun i d Δ μ P hd _ _ => by cases hd) fun Δ μ Q => R.nil (hk Δ μ Q)
  | some X =>
    rw [e] at hsl
    have hb : bfsTurn (stepM (cAt c)) x t = (add1 x.1 (stepM (cAt c) X (t % 2)), x.2 ++ [(add1 x.1 (stepM (cAt c) X (t % 2))).idxOf (stepM (cAt c) X (t % 2))]) := by unfold bfsTurn; rw [e]
    rw [hb] at hk
    refine R.for_ (fun i Δ μ => if i = 0 then LE c a b x Δ μ ∧ Δ.lookup ("turn" : Str) = some (.int (t : Nat)) else LE c a b (add1 x.1 (stepM (cAt c) X (t % 2)), x.2 ++ [(add1 x.1 (stepM (cAt c) X (t % 2))).idxOf (stepM (cAt c) X (t % 2))]) Δ μ) (by kernel_rfl) ((F.cx μ).listF 10 (by kernel_rfl) hsl) ⟨Q, ht⟩ (fun i d Δ μ P hd hI hP => ?_) fun Δ μ Q => R.nil (hk Δ μ Q)
    match i, hd with
    | 0, hd =>
      cases hd
      obtain ⟨Q, ht⟩ := hI
      exact least_mask (Nat.le_trans hlen.1 (by omega)) (Nat.le_trans hlen.2 (by omega)) Q ht fun Δ μ Q => hP Δ μ Q
end
end Mine

open PySem PySem.W PyProof.Rows
set_option Elab.async false
set_option linter.unusedVariables false
set_option linter.unusedSimpArgs false
set_option maxRecDepth 100000
namespace Mine
theorem natsD_ints (ks : List Nat) : natsD ks = listOfInts (ks.map fun (k : Nat) => (k : Int)) := by unfold natsD listOfInts; rw [List.map_map]; rfl
theorem cast_inj {a b : List Nat} (h : a.map (fun (k : Nat) => (k : Int)) = b.map fun (k : Nat) => (k : Int)) : a = b := List.map_inj_right (fun x y e => Int.ofNat.inj e) |>.mp h
theorem index_nats {μ : MM} {A : List Nat} {x : Nat} (hx : x ∈ A) (hl : A.length ≤ 1000) : methD μ "index" (natsD A) [.int (x : Nat)] = some (.int (A.idxOf x : Nat)) := by
  have h := index_val (μ := μ) (d := natsD A) (A := A.map fun (k : Nat) => (k : Int)) (x := (x : Nat)) (by rw [natsD_ints]; rfl) (List.mem_map.mpr ⟨x, hx, rfl⟩) (by rw [List.length_map]; exact Nat.le_trans hl (by decide))
  rw [h, idxOf_inj (g := fun (k : Nat) => (k : Int)) hx fun y _ e => Int.ofNat.inj e]
theorem len_ref {μ : MM} {a : Addr} {xs : List D} (h : μ a = some (.lst xs)) (hl : xs.length ≤ 1000) : Φb μ "len" [.ref a] = some (.int xs.length) := by
  unfold Φb
  rw [if_pos rfl]
  simp only [asList, h]
  rw [if_pos (le_line (Nat.le_trans hl (by decide)))]

def al0 (c : Nat → Int) (M : List Int) : List Nat := M.map fun m => (stepM c m 2).toNat
def fstF (n : Nat) (al : List Nat) : List Nat := (List.range n).filter fun k => al.getD k 0 == k
def leastD (M : List Int) (T al : List Nat) : D :=
  .list [.list ((fstF M.length al).map fun k => .int (M.getD k 0)), natsD ((fstF M.length al).flatMap fun k => (List.range 2).map fun e => (fstF M.length al).idxOf (al.getD (T.getD (2 * k + e) 0) 0))]

structure LA (c : List Int) (a b : Addr) (x : List Int × List Nat) (al : List Nat) (Δ : Ctx) (μ : MM) : Prop where
  q : LE c a b x Δ μ
  alike : Δ.lookup ("alike" : Str) = some (natsD al)

section
variable {c : List Int} {F : Fr (Φt c) (fun _ => Φ0) (dScope fLeast)} {a b : Addr} {x : List Int × List Nat} {al : List Nat} {Δ : Ctx} {μ : MM} {K : Out → Ctx → MM → Prop}

theorem key_val {Γ : Ctx} {n : Nat} {k : Nat} (hx : x.1.length ≤ 100) (hk : k < x.1.length) (hal : al.length = x.1.length) (hT : x.2.length = 2 * x.1.length) (hTl : ∀ j < x.2.length, x.2.getD j 0 < x.1.length) (hμ : μ b = some (.lst (x.2.map fun (k : Nat) => .int k)))
    (h1 : Γ.lookup ("k" : Str) = some (.int (k : Nat))) (h2 : Γ.lookup ("alike" : Str) = some (natsD al)) (h3 : Γ.lookup ("table" : Str) = some (.ref b)) {p1 p2 p3 p4 p5 p6 p7 p8 p9 p10 p11 p12 p13 p14 p15 p16 p17 p18 p19 p20 : Pos} {z1 z2 z3 : Nat} :
    evD (Φt c μ) Φ0 μ (n + 7) (.List [.Subscript (.Name "alike" p1) (.Name "k" p2) p3, .Subscript (.Name "alike" p4) (.Subscript (.Name "table" p5) (.BinOp (.Constant (.int 2) z1 p6) .Mult (.Name "k" p7) p8) p9) p10,
      .Subscript (.Name "alike" p11) (.Subscript (.Name "table" p12) (.BinOp (.BinOp (.Constant (.int 2) z2 p13) .Mult (.Name "k" p14) p15) .Add (.Constant (.int 1) z3 p16) p17) p18) p19] p20) Γ =
      some (natsD [al.getD k 0, al.getD (x.2.getD (2 * k) 0) 0, al.getD (x.2.getD (2 * k + 1) 0) 0]) := by
  have hmul : binD μ .Mult (.int 2) (.int (k : Nat)) = some (.int ((2 * k : Nat) : Int)) := by
    rw [binD_int]; simp only [aMul]; rw [if_pos (by decide)]; rfl
  have hadd : binD μ .Add (.int ((2 * k : Nat) : Int)) (.int 1) = some (.int ((2 * k + 1 : Nat) : Int)) := b_add
  have ht : ∀ j < x.2.length, idxD μ (.ref b) (j : Int) = some (.int (x.2.getD j 0 : Nat)) := fun j hj => idxD_ref hμ (by rw [List.getElem?_map, getD_of (d := 0) hj]; rfl) (by omega)
  have ha : ∀ j < x.1.length, idxD μ (natsD al) (j : Int) = some (.int (al.getD j 0 : Nat)) := fun j hj => idx_nats (getD_of (by omega)) (by omega)
  have hn : ∀ lo hi st q, Expr.BinOp (.Constant (.int 2) z1 p6) .Mult (.Name "k" p7) p8 ≠ .Slice lo hi st q := by intro _ _ _ _ h; cases h
  exact evD_list3 ((evD_idx (by intro _ _ _ _ h; cases h) (evN h2) (evN h1)).trans (ha k hk))
    ((evD_idx (by intro _ _ _ _ h; cases h) (evN h2) ((evD_idx (by intro _ _ _ _ h; cases h) (evN h3) ((evD_bin eI (evN h1)).trans hmul)).trans (ht _ (by omega)))).trans (ha _ (hTl _ (by omega))))
    ((evD_idx (by intro _ _ _ _ h; cases h) (evN h2) ((evD_idx (by intro _ _ _ _ h; cases h) (evN h3) ((evD_bin ((evD_bin eI (evN h1)).trans hmul) eI).trans hadd)).trans (ht _ (by omega)))).trans (ha _ (hTl _ (by omega))))

theorem round_one {t : Nat} (hx : x.1.length ≤ 100) (hal : al.length = x.1.length) (hT : x.2.length = 2 * x.1.length) (hTl : ∀ j < x.2.length, x.2.getD j 0 < x.1.length) (S : LA c a b x al Δ μ) (hk : ∀ Δ, LA c a b x (mooreStep x.1.length x.2 al) Δ μ → K .next Δ μ) :
    R F bLp (("turn", .int (t : Nat)) :: Δ) μ K := by
  have hal' := look_tl (x := "turn") (d := .int (t : Nat)) (by decide +kernel) S.alike
  have Q := S.q.cons (y := "turn") (d := .int (t : Nat)) (by decide +kernel)
  clear S
  generalize ((("turn" : Str), D.int (t : Nat)) :: Δ) = Δ at *
  have hlen : Φt c μ "len" [.ref a] = some (.int x.1.length) := by
    rw [Φt_b (by decide +kernel), len_ref Q.ca (by rw [List.length_map]; omega), List.length_map]
  refine R.assign 16 (d := .list ((mooreKeys x.1.length x.2 al).map natsD)) (by kernel_rfl) ?_ ?_
  · unfold mooreKeys
    rw [List.map_map]
    refine evD_comp (l := List.range x.1.length) (g := fun (k : Nat) => .int k) (itD_range1 (m := x.1.length) ((evD_call1 (evN Q.masks)).trans hlen) (by omega)) (fun k hk => ?_) (le_line (by rw [List.length_range]; omega))
    exact key_val hx (List.mem_range.mp hk) hal hT hTl Q.cb look_eq (look_tl (by decide +kernel) (free_look (by kernel_rfl) hal')) (look_tl (by decide +kernel) (free_look (by kernel_rfl) Q.table))
  have hkl : (mooreKeys x.1.length x.2 al).length = x.1.length := by simp [mooreKeys]
  have hms : mooreStep x.1.length x.2 al = (mooreKeys x.1.length x.2 al).map (posL (mooreKeys x.1.length x.2 al)) := rfl
  rw [hms] at hk
  generalize mooreKeys x.1.length x.2 al = keys at *
  have Q := Q.cons (y := "keys") (d := .list (keys.map natsD)) (by decide +kernel)
  have hks : ((("keys" : Str), D.list (keys.map natsD)) :: Δ).lookup ("keys" : Str) = some (.list (keys.map natsD)) := look_eq
  generalize ((("keys" : Str), D.list (keys.map natsD)) :: Δ) = Δ at *
  refine R.assignEv (d := natsD (keys.map (posL keys))) (by kernel_rfl) ?_ (R.nil (hk _ ⟨Q.cons (by decide +kernel), look_eq⟩))
  unfold natsD
  rw [List.map_map]
  refine Fr.compEv 6 (l := keys) (g := natsD) (by kernel_rfl) (itD_of (d := .list (keys.map natsD)) (evN hks) rfl (by intro _ _ _ _ h; cases h)) (le_line (by omega)) fun cenv hE hN key hkey => ?_
  have hu : F.A.units + 64 < 9000 := by have := (F.cx μ).good.units; omega
  have e : posL (keys.map fun ks => ks.map fun (k : Nat) => (k : Int)) (key.map fun (k : Nat) => (k : Int)) = posL keys key := idxOf_inj (g := fun ks : List Nat => ks.map fun (k : Nat) => (k : Int)) hkey fun y _ e => cast_inj e
  show Ev F.W F.A cenv _ μ _ (.int (posL keys key : Nat))
  rw [← e]
  refine Ev.indexL (nss := keys.map fun ks => ks.map fun (k : Nat) => (k : Int)) (ms := key.map fun (k : Nat) => (k : Int)) (d := .list (keys.map natsD)) ?_ ?_ ?_ hu ?_ ?_ ?_ (List.mem_map.mpr ⟨key, hkey, rfl⟩) (le_line (by rw [List.length_map]; omega))
  · rfl
  · rfl
  · rfl
  · exact Fr.evIn (F := F) 3 hE hN (by kernel_rfl) (evN (look_tl (by decide +kernel) (free_look (by kernel_rfl) hks)))
  · exact Fr.evIn (F := F) 3 hE hN (by kernel_rfl) ((evN look_eq).trans (congrArg some (natsD_ints key)))
  · simp only [asList]; rw [List.map_map]; exact congrArg some (List.map_congr_left fun ks _ => natsD_ints ks)

theorem least_end (hx : x.1.length ≤ 100) (hal : al.length = x.1.length) (hT : x.2.length = 2 * x.1.length) (hTl : ∀ j < x.2.length, x.2.getD j 0 < x.1.length) (hF : ∀ k ∈ fstF x.1.length al, ∀ e < 2, al.getD (x.2.getD (2 * k + e) 0) 0 ∈ fstF x.1.length al) (S : LA c a b x al Δ μ)
    (hK : ∀ Δ, K (.ret (leastD x.1 x.2 al)) Δ μ) : R F ((dBody fLeast).drop 5) Δ μ K := by
  have Q := S.q
  have hlen : Φt c μ "len" [.ref a] = some (.int x.1.length) := by
    rw [Φt_b (by decide +kernel), len_ref Q.ca (by rw [List.length_map]; omega), List.length_map]
  have ha : ∀ j < x.1.length, idxD μ (natsD al) (j : Int) = some (.int (al.getD j 0 : Nat)) := fun j hj => idx_nats (getD_of (by omega)) (by omega)
  refine R.assign 12 (d := natsD (fstF x.1.length al)) (by kernel_rfl) ?_ ?_
  · unfold natsD fstF
    refine evD_compIf (l := List.range x.1.length) (g := fun (k : Nat) => .int k) (f := fun k => al.getD k 0 == k) (itD_range1 (m := x.1.length) ((evD_call1 (evN Q.masks)).trans hlen) (by omega)) (fun k hk => ?_) (fun k hk _ => evN look_eq) (le_line (by rw [List.length_range]; omega))
    refine (tstD_cmp ((evD_idx (by intro _ _ _ _ h; cases h) (evN (look_tl (by decide +kernel) (free_look (by kernel_rfl) S.alike))) (evN look_eq)).trans (ha k (List.mem_range.mp hk))) (evN look_eq)).trans ?_
    refine congrArg some ?_
    cases h : al.getD k 0 == k
    · rw [beq_eq_false_iff_ne] at h ⊢; exact fun e => h (Int.ofNat.inj e)
    · rw [beq_iff_eq] at h ⊢; rw [h]
  have hFl : (fstF x.1.length al).length ≤ 100 := Nat.le_trans (List.length_filter_le ..) (by simp; exact hx)
  have hFn : ∀ k ∈ fstF x.1.length al, k < x.1.length := fun k hk => List.mem_range.mp (List.mem_filter.mp hk).1
  unfold leastD at hK
  generalize fstF x.1.length al = G at *
  have hal' := look_tl (x := "firsts") (d := natsD G) (by decide +kernel) S.alike
  have Q := S.q.cons (y := "firsts") (d := natsD G) (by decide +kernel)
  have hf : ((("firsts" : Str), natsD G) :: Δ).lookup ("firsts" : Str) = some (natsD G) := look_eq
  clear S
  generalize ((("firsts" : Str), natsD G) :: Δ) = Δ at *
  refine R.ret 16 (by kernel_rfl) ?_ (hK _)
  have hit : ∀ {n : Nat} {p : Pos}, itD (Φt c μ) Φ0 μ (n + 2) (.Name "firsts" p) Δ = some (G.map fun (k : Nat) => .int k) := fun {n p} => itD_of (d := natsD G) (evN hf) rfl (by intro _ _ _ _ h; cases h)
  refine evD_list2 (evD_comp (l := G) (g := fun (k : Nat) => .int k) hit (fun k hk => ?_) (le_line (by omega))) ?_
  · exact (evD_idx (by intro _ _ _ _ h; cases h) (evN (look_tl (by decide +kernel) (free_look (by kernel_rfl) Q.masks))) (evN look_eq)).trans (idxD_ref Q.ca (by rw [List.getElem?_map, getD_of (d := 0) (hFn k hk)]; rfl) (by have := hFn k hk; omega))
  · unfold natsD
    rw [List.map_flatMap]
    have hcg : (G.flatMap fun k => ((List.range 2).map fun e => G.idxOf (al.getD (x.2.getD (2 * k + e) 0) 0)).map fun (k : Nat) => D.int k) = G.flatMap fun k => (List.range 2).map fun e => D.int (G.idxOf (al.getD (x.2.getD (2 * k + e) 0) 0) : Nat) := by
      refine flatMap_congr' fun k _ => ?_
      rw [List.map_map]; rfl
    rw [hcg]
    refine evD_comp2 (l := G) (g := fun (k : Nat) => .int k) (l' := fun _ => List.range 2) (g' := fun _ (e : Nat) => .int e) (h := fun k e => .int (G.idxOf (al.getD (x.2.getD (2 * k + e) 0) 0) : Nat)) hit (fun k hk => itD_range1 (m := 2) eI (by decide)) (fun k hk e he => ?_) ?_
    · have he2 := List.mem_range.mp he
      have hk1 := hFn k hk
      have hmul : binD μ .Mult (.int 2) (.int (k : Nat)) = some (.int ((2 * k : Nat) : Int)) := by
        rw [binD_int]; simp only [aMul]; rw [if_pos (by decide)]; rfl
      have hadd : binD μ .Add (.int ((2 * k : Nat) : Int)) (.int (e : Nat)) = some (.int ((2 * k + e : Nat) : Int)) := b_add
      have ht : idxD μ (.ref b) ((2 * k + e : Nat) : Int) = some (.int (x.2.getD (2 * k + e) 0 : Nat)) := idxD_ref Q.cb (by rw [List.getElem?_map, getD_of (d := 0) (by omega)]; rfl) (by omega)
      exact (evD_meth (evN (look_tl (by decide +kernel) (look_tl (by decide +kernel) (free_look (by kernel_rfl) hf))))
        ((evD_idx (by intro _ _ _ _ h; cases h) (evN (look_tl (by decide +kernel) (look_tl (by decide +kernel) (free_look (by kernel_rfl) hal'))))
          ((evD_idx (by intro _ _ _ _ h; cases h) (evN (look_tl (by decide +kernel) (look_tl (by decide +kernel) (free_look (by kernel_rfl) Q.table)))) ((evD_bin ((evD_bin eI (evN (look_tl (by decide +kernel) look_eq))).trans hmul) (evN look_eq)).trans hadd)).trans ht)).trans (ha _ (hTl _ (by omega))))).trans
        (index_nats (hF k hk e he2) (by omega))
    · have : ∀ l : List Nat, (l.flatMap fun k => (List.range 2).map fun e => D.int (G.idxOf (al.getD (x.2.getD (2 * k + e) 0) 0) : Nat)).length = 2 * l.length := by
        intro l
        induction l with
        | nil => rfl
        | cons k l ih => rw [List.flatMap_cons, List.length_append, ih]; simp; omega
      rw [this]; exact le_line (by omega)
end
section
variable {W : Wd}
theorem ok_least (T : Tp W) (hs : FnAt W "_law_step" (dArgs fStep) (dBody fStep) (dScope fStep)) (hf : FnAt W "_law_least" (dArgs fLeast) (dBody fLeast) (dScope fLeast)) (k : Nat) (μ : MM) (c : List Int) (hc : c.length = 4) (x : List Int × List Nat) (hx : bfs (stepM (cAt c)) 1 = x) (hT : x.2.length = 2 * x.1.length)
    (hTl : ∀ j < x.2.length, x.2.getD j 0 < x.1.length) (al : List Nat) (hal : moore x.1.length x.2 8 (al0 (cAt c) x.1) = al) (hF : ∀ k ∈ fstF x.1.length al, ∀ e < 2, al.getD (x.2.getD (2 * k + e) 0) 0 ∈ fstF x.1.length al) :
    FnOk W (k + 2) μ "_law_least" [.list (c.map .int)] (leastD x.1 x.2 al) := by
  refine fnOk (ps := ["cells"]) T.b.ok hf (fnScope_of (by kernel_rfl)) rfl (fun pm code doc vs h => ?_) fun A env hA hE hsc => ?_
  · obtain ⟨v, rfl⟩ := len1 h; rfl
  generalize hF' : (⟨W, A, [], env, k + 1, fun μ => ⟨T.b.ok, hA, tabT T hs hc k _, hE, hsc⟩⟩ : Fr (Φt c) (fun _ => Φ0) (dScope fLeast)) = F
  have hR : ∀ {ss Δ μ K}, R F ss Δ μ K → Wp W A [] env ss Δ μ K := by subst hF'; exact fun h => h
  refine hR ?_
  clear hR hF' hA hE hsc hf
  refine R.new 5 (ds := [.int 1]) (by kernel_rfl) (EvNew.display (EvL.cons rfl (Fr.ev 3 (by kernel_rfl) eI) .nil) (by decide)) fun a ha => ?_
  refine R.new 5 (by kernel_rfl) (EvNew.display .nil (by decide)) fun b hb => ?_
  have hba : b ≠ a := fun e => by rw [e, MM.set_self] at hb; cases hb
  have Q : LE c a b (turnsM (cAt c) 0) ((("table" : Str), .ref b) :: ("masks", .ref a) :: [("cells" : Str)].zip [D.list (c.map .int)]) (MM.set (MM.set (fun _ => none) a (.lst [.int 1])) b (.lst [])) :=
    ⟨look_tl (by decide +kernel) (look_tl (by decide +kernel) look_eq), look_tl (by decide +kernel) look_eq, look_eq, Ne.symm hba, by rw [MM.set_ne (Ne.symm hba), MM.set_self]; rfl, MM.set_self ..⟩
  generalize ((("table" : Str), D.ref b) :: ("masks", .ref a) :: [("cells" : Str)].zip [D.list (c.map .int)]) = Δ at *
  generalize MM.set (MM.set (fun _ => none) a (.lst [.int 1])) b (.lst []) = μ at *
  refine R.forN 5 16 (fun t Δ μ => LE c a b (turnsM (cAt c) t) Δ μ) (by kernel_rfl) eI (by decide) Q (fun t Δ μ P ht Q hP => least_turn ht Q fun Δ μ Q => hP Δ μ Q) fun Δ μ Q => ?_
  have hlen := bfsTurn_len (stepM (cAt c)) 1 16
  change (bfs (stepM (cAt c)) 1).1.length ≤ _ ∧ _ at hlen
  have e : turnsM (cAt c) 16 = bfs (stepM (cAt c)) 1 := rfl
  rw [e] at Q
  rw [hx] at Q hlen
  have hx100 : x.1.length ≤ 100 := Nat.le_trans hlen.1 (by decide)
  refine R.assign 10 (d := natsD (al0 (cAt c) x.1)) (by kernel_rfl) ?_ ?_
  · unfold natsD al0
    rw [List.map_map]
    refine evD_comp (l := x.1) (g := .int) (itD_of (d := .ref a) (evN Q.masks) (by simp only [asList, Q.ca]) (by intro _ _ _ _ h; cases h)) (fun m hm => ?_) (le_line (by omega))
    refine ((evD_call3 (evN look_eq) eI (evN (look_tl (by decide +kernel) (free_look (by kernel_rfl) Q.cellsL)))).trans (Φt_s (kind := 2) (Nat.le_refl 2))).trans ?_
    exact congrArg (fun z => some (D.int z)) (Int.toNat_of_nonneg (bits_range _ _).1).symm
  have S : LA c a b x (moore x.1.length x.2 0 (al0 (cAt c) x.1)) ((("alike" : Str), natsD (al0 (cAt c) x.1)) :: Δ) μ := ⟨Q.cons (by decide +kernel), look_eq⟩
  clear Q
  generalize ((("alike" : Str), natsD (al0 (cAt c) x.1)) :: Δ) = Δ at *
  have hml : ∀ r, (moore x.1.length x.2 r (al0 (cAt c) x.1)).length = x.1.length := moore_len (by simp [al0])
  refine R.forN 5 8 (fun r Δ μ' => μ' = μ ∧ LA c a b x (moore x.1.length x.2 r (al0 (cAt c) x.1)) Δ μ) (by kernel_rfl) eI (by decide) ⟨rfl, S⟩ (fun r Δ μ' P hr S hP => ?_) fun Δ μ' S => ?_
  · obtain ⟨rfl, S⟩ := S
    exact round_one hx100 (hml r) hT hTl S fun Δ S => hP Δ _ ⟨rfl, by rw [moore_succ]; exact S⟩
  · obtain ⟨rfl, S⟩ := S
    have hl8 := hml 8
    rw [hal] at S hl8
    exact least_end hx100 hl8 hT hTl hF S fun Δ => rfl
end
end Mine

open PySem PySem.W PyProof.Rows
set_option Elab.async false
set_option linter.unusedVariables false
set_option linter.unusedSimpArgs false
set_option maxRecDepth 100000
namespace Mine
/-! the table of what breadth first makes -/
theorem Bf.tab {α : Type} [DecidableEq α] {step : α → Nat → α} {a d : α} {L : List α} {T : List Nat} (h : Bf step a L) (hT : T = (seqL step L).map L.idxOf) : T.length = 2 * L.length ∧ ∀ k < L.length, ∀ e < 2, T.getD (2 * k + e) 0 < L.length ∧ L.getD (T.getD (2 * k + e) 0) d = step (L.getD k d) e := by
  refine ⟨by rw [hT, List.length_map, seqL_len], fun k hk e he => ?_⟩
  have hm : L.getD k d ∈ L := getD_mem hk
  obtain ⟨c1, c2, _⟩ := idxOf_facts (h.closed hm he)
  have e1 : T.getD (2 * k + e) 0 = L.idxOf (step (L.getD k d) e) := by
    rw [List.getD_eq_getElem?_getD, hT, List.getElem?_map, seqL_get]
    have e1 : (2 * k + e) / 2 = k := by omega
    have e2 : (2 * k + e) % 2 = e := by omega
    rw [e1, e2, getD_of (d := d) hk]; rfl
  rw [e1]
  exact ⟨c1, by rw [List.getD_eq_getElem?_getD, c2]; rfl⟩
theorem Bf.tab_lt {α : Type} [DecidableEq α] {step : α → Nat → α} {a : α} {L : List α} {T : List Nat} (h : Bf step a L) (hT : T = (seqL step L).map L.idxOf) : ∀ j < T.length, T.getD j 0 < L.length := fun j hj => by
  obtain ⟨h1, h2⟩ := h.tab (d := a) hT
  have := (h2 (j / 2) (by omega) (j % 2) (Nat.mod_lt _ (by decide))).1
  rwa [show 2 * (j / 2) + j % 2 = j by omega] at this
/-- whence a member came first -/
theorem Bf.came {α : Type} [DecidableEq α] {step : α → Nat → α} {a d : α} {L : List α} {T : List Nat} (h : Bf step a L) (hT : T = (seqL step L).map L.idxOf) {k : Nat} (h1 : 1 ≤ k) (hk : k < L.length) : k ∈ T ∧ T.idxOf k / 2 < k ∧ L.getD k d = step (L.getD (T.idxOf k / 2) d) (T.idxOf k % 2) := by
  obtain ⟨j, hj, ej⟩ := h.reach k h1 hk
  have hLk := getD_of (d := d) hk
  have hidx : L.idxOf (L.getD k d) = k := by
    obtain ⟨c1, c2, _⟩ := idxOf_facts (getD_mem (d := d) hk)
    obtain ⟨g1, g2⟩ := List.getElem?_eq_some_iff.mp c2
    obtain ⟨g3, g4⟩ := List.getElem?_eq_some_iff.mp hLk
    exact (List.getElem_inj h.nd).mp (g2.trans g4.symm)
  have hTj : T[j]? = some k := by rw [hT, List.getElem?_map, ej, hLk]; exact congrArg some hidx
  have hm := List.mem_of_getElem? hTj
  obtain ⟨c1, c2, c3⟩ := idxOf_facts hm
  have hle : T.idxOf k ≤ j := Nat.le_of_not_lt fun hlt => c3 j hlt k hTj rfl
  have hlt : T.idxOf k / 2 < k := by omega
  refine ⟨hm, hlt, ?_⟩
  obtain ⟨t1, t2⟩ := h.tab (d := d) hT
  have := (t2 (T.idxOf k / 2) (by omega) (T.idxOf k % 2) (Nat.mod_lt _ (by decide))).2
  rw [show 2 * (T.idxOf k / 2) + T.idxOf k % 2 = T.idxOf k by omega] at this
  rw [← this]
  have e : T.getD (T.idxOf k) 0 = k := by rw [List.getD_eq_getElem?_getD, c2]; rfl
  rw [e]

/-! the two machines -/
section
variable (c : Nat → Int)
def rows0 : List Row := (List.range 3).flatMap fun k => ((List.range 6).filter (bt (c k))).map fun b => (b % 3, b / 3, k)
def fin0 (k : Nat) : Bool := decide (k < 3) && bt (c k) 6
def once : List (List Nat) × List Nat := bfs (stepS (rows0 c)) (setOf (fin0 c))
def rowsT (T : List Nat) : List Row := (List.range T.length).map fun j => (T.getD j 0, j % 2, j / 2)
def meets (m : Int) (S : List Nat) : Bool := S.any (bt m)
def phiL (L : List (List Nat)) (m : Int) : List Nat := setOf fun k => decide (k < L.length) && meets m (L.getD k [])
def least : List Int × List Nat := bfs (stepM c) 1
def roadsTo (T : List Nat) : Nat → List (List Nat)
  | 0 => [[]]
  | k + 1 => roadsTo T k ++ [(T.idxOf (k + 1) % 2) :: (roadsTo T k).getD (T.idxOf (k + 1) / 2) []]
end

theorem mem_rows0 {c : Nat → Int} {t e p : Nat} : (t, e, p) ∈ rows0 c ↔ p < 3 ∧ t < 3 ∧ e < 2 ∧ bt (c p) (3 * e + t) = true := by
  unfold rows0
  simp only [List.mem_flatMap, List.mem_map, List.mem_filter, List.mem_range, Prod.mk.injEq]
  constructor
  · rintro ⟨k, hk, b, ⟨hb, hbt⟩, rfl, rfl, rfl⟩
    refine ⟨hk, Nat.mod_lt _ (by decide), by omega, ?_⟩
    rw [Nat.div_add_mod]; exact hbt
  · rintro ⟨hp, ht, he, hbt⟩
    exact ⟨p, hp, 3 * e + t, ⟨by omega, hbt⟩, by omega, by omega, rfl⟩
def sets8 : List (List Nat) := [[], [0], [1], [2], [0, 1], [0, 2], [1, 2], [0, 1, 2]]
theorem set3 {P : Nat → Bool} (h : ∀ k, 3 ≤ k → P k = false) : setOf P ∈ sets8 := by
  have e : setOf P = (if P 0 then [0] else []) ++ ((if P 1 then [1] else []) ++ (if P 2 then [2] else [])) := by
    unfold setOf
    rw [show List.range 8 = [0, 1, 2, 3, 4, 5, 6, 7] from rfl]
    simp only [List.filter_cons, List.filter_nil, h 3 (by decide), h 4 (by decide), h 5 (by decide), h 6 (by decide), h 7 (by decide)]
    cases P 0 <;> cases P 1 <;> cases P 2 <;> rfl
  rw [e]
  cases P 0 <;> cases P 1 <;> cases P 2 <;> decide
theorem stepS_sets8 {c : Nat → Int} {S : List Nat} {e : Nat} : stepS (rows0 c) S e ∈ sets8 := set3 fun k hk => by
  cases h : (rows0 c).any fun r => decide (r.1 ∈ S) && r.2.1 == e && r.2.2 == k with
  | false => rfl
  | true =>
    obtain ⟨⟨t, e', p⟩, hr, h2⟩ := List.any_eq_true.mp h
    simp only [Bool.and_eq_true, beq_iff_eq] at h2
    have := (mem_rows0.mp hr).1
    omega
theorem fin0_sets8 {c : Nat → Int} : setOf (fin0 c) ∈ sets8 := set3 fun k hk => by
  unfold fin0; rw [decide_eq_false (Nat.not_lt.mpr hk)]; rfl
theorem once_bf (c : Nat → Int) : Bf (stepS (rows0 c)) (setOf (fin0 c)) (once c).1 ∧ (once c).2 = (seqL (stepS (rows0 c)) (once c).1).map (posL (once c).1) ∧ ∀ S ∈ (once c).1, S ∈ sets8 := by
  unfold once posL
  exact bfs_all (u := sets8) (by decide) fin0_sets8 fun S _ e _ => stepS_sets8
theorem once_len (c : Nat → Int) : (once c).1.length ≤ 8 := nodup_le (once_bf c).1.nd (once_bf c).2.2
theorem once_pos (c : Nat → Int) : 0 < (once c).1.length := (List.getElem?_eq_some_iff.mp (once_bf c).1.zero).1

def masks8 : List Int := [0, 1, 2, 3, 4, 5, 6, 7]
theorem mem_masks8 {x : Int} (h0 : 0 ≤ x) (h1 : x < 8) : x ∈ masks8 := by
  have : x = 0 ∨ x = 1 ∨ x = 2 ∨ x = 3 ∨ x = 4 ∨ x = 5 ∨ x = 6 ∨ x = 7 := by omega
  rcases this with rfl | rfl | rfl | rfl | rfl | rfl | rfl | rfl <;> decide
theorem stepM_masks8 {c : Nat → Int} {m : Int} {e : Nat} (he : e < 2) : stepM c m e ∈ masks8 := by
  have hw : widthI e = 3 := if_neg (by omega)
  have := bits_range (partP c m e 3) 3
  unfold stepM; rw [hw]
  exact mem_masks8 this.1 this.2
theorem least_bf (c : Nat → Int) : Bf (stepM c) 1 (least c).1 ∧ (least c).2 = (seqL (stepM c) (least c).1).map (posL (least c).1) ∧ ∀ m ∈ (least c).1, m ∈ masks8 := by
  unfold least posL
  exact bfs_all (u := masks8) (by decide) (by decide) fun m _ e he => stepM_masks8 he

theorem bt_stepM {c : Nat → Int} {m : Int} {e t : Nat} (he : e < 2) : bt (stepM c m e) t = true ↔ t < 3 ∧ ∃ p, p < 3 ∧ bt m p = true ∧ bt (c p) (3 * e + t) = true := by
  unfold stepM
  rw [bt_bits, show widthI e = 3 from if_neg (by omega)]
  unfold partP
  simp only [Bool.and_eq_true, decide_eq_true_eq, List.any_eq_true, List.mem_range]
theorem meets_iff {m : Int} {S : List Nat} : meets m S = true ↔ ∃ t ∈ S, bt m t = true := by unfold meets; rw [List.any_eq_true]
/-- forward with the set, or back with the goal -/
theorem meets_step {c : Nat → Int} {m : Int} {S : List Nat} {e : Nat} (hS : S ∈ sets8) (he : e < 2) : meets (stepM c m e) S = meets m (stepS (rows0 c) S e) := by
  rw [Bool.eq_iff_iff, meets_iff, meets_iff]
  constructor
  · rintro ⟨t, ht, hb⟩
    obtain ⟨h3, p, hp, h1, h2⟩ := (bt_stepM he).mp hb
    exact ⟨p, (stepS_mem (by omega)).mpr ⟨t, ht, mem_rows0.mpr ⟨hp, h3, he, h2⟩⟩, h1⟩
  · rintro ⟨p, hp, h1⟩
    have hp8 : p < 8 := (stepS_isSet ..).lt hp
    obtain ⟨t, ht, hr⟩ := (stepS_mem hp8).mp hp
    obtain ⟨q1, q2, _, q3⟩ := mem_rows0.mp hr
    exact ⟨t, ht, (bt_stepM he).mpr ⟨q2, p, q1, h1, q3⟩⟩
theorem step_two {c : Nat → Int} {m : Int} : stepM c m 2 = if meets m (setOf (fin0 c)) = true then 1 else 0 := by
  have h : partP c m 2 3 0 = meets m (setOf (fin0 c)) := by
    rw [Bool.eq_iff_iff, meets_iff]
    unfold partP
    simp only [List.any_eq_true, List.mem_range, Bool.and_eq_true]
    constructor
    · rintro ⟨p, hp, h1, h2⟩
      exact ⟨p, (setOf_mem (by omega)).mpr (by unfold fin0; rw [decide_eq_true hp]; exact h2), h1⟩
    · rintro ⟨p, hp, h1⟩
      have := (setOf_mem (setOf_lt hp)).mp hp
      unfold fin0 at this
      obtain ⟨h2, h3⟩ := Bool.and_eq_true_iff.mp this
      exact ⟨p, of_decide_eq_true h2, h1, h3⟩
  unfold stepM
  show bits (partP c m 2 3) 1 = _
  unfold bits bits
  rw [h]
  cases meets m (setOf (fin0 c)) <;> rfl
theorem ends_nil {c : Nat → Int} {m : Int} : endsM c m [] = stepM c m 2 := rfl
theorem ends_cons {c : Nat → Int} {m : Int} {e : Nat} {r : List Nat} : endsM c m (e :: r) = endsM c (stepM c m e) r := rfl

/-- the roads -/
theorem roads_succ {T : List Nat} {k : Nat} : roadsTo T (k + 1) = roadsTo T k ++ [(T.idxOf (k + 1) % 2) :: (roadsTo T k).getD (T.idxOf (k + 1) / 2) []] := rfl
theorem roads_len (T : List Nat) : ∀ k, (roadsTo T k).length = k + 1
  | 0 => rfl
  | k + 1 => by rw [roads_succ, List.length_append, roads_len T k]; rfl
theorem roads_get {c : Nat → Int} {L : List (List Nat)} {T : List Nat} (hb : Bf (stepS (rows0 c)) (setOf (fin0 c)) L) (hT : T = (seqL (stepS (rows0 c)) L).map (posL L)) (hs : ∀ S ∈ L, S ∈ sets8) : ∀ k, k < L.length → ∀ i ≤ k, ((roadsTo T k).getD i []).length ≤ i ∧ (∀ e ∈ (roadsTo T k).getD i [], e < 2) ∧ ∀ m, (0 < endsM c m ((roadsTo T k).getD i []) ↔ meets m (L.getD i []) = true)
  | 0, hk, i, hi => by
    obtain rfl := Nat.le_zero.mp hi
    refine ⟨Nat.le_refl _, fun e h => by simp [roadsTo] at h, fun m => ?_⟩
    have h0 : L.getD 0 [] = setOf (fin0 c) := by rw [List.getD_eq_getElem?_getD, hb.zero]; rfl
    show 0 < endsM c m [] ↔ _
    rw [h0, ends_nil, step_two]
    cases meets m (setOf (fin0 c)) <;> decide
  | k + 1, hk, i, hi => by
    have ih := roads_get hb hT hs k (by omega)
    have hl := roads_len T k
    by_cases hik : i ≤ k
    · have e : (roadsTo T (k + 1)).getD i [] = (roadsTo T k).getD i [] := by
        rw [List.getD_eq_getElem?_getD, List.getD_eq_getElem?_getD, roads_succ, List.getElem?_append_left (by omega)]
      rw [e]; exact ih i hik
    · have hik : i = k + 1 := by omega
      subst hik
      obtain ⟨h1, h2, h3⟩ := hb.came (k := k + 1) (d := []) hT (Nat.le_add_left 1 k) hk
      have e : (roadsTo T (k + 1)).getD (k + 1) [] = (T.idxOf (k + 1) % 2) :: (roadsTo T k).getD (T.idxOf (k + 1) / 2) [] := by
        rw [List.getD_eq_getElem?_getD, roads_succ, List.getElem?_append_right (by omega), hl]; simp
      rw [e]
      obtain ⟨g1, g2, g3⟩ := ih _ (Nat.le_of_lt_succ h2)
      have hm2 : T.idxOf (k + 1) % 2 < 2 := Nat.mod_lt _ (by decide)
      refine ⟨by rw [List.length_cons]; omega, fun e he => ?_, fun m => ?_⟩
      · rcases List.mem_cons.mp he with rfl | he
        · exact hm2
        · exact g2 e he
      · rw [ends_cons, g3, h3, meets_step (hs _ (getD_mem (by omega))) hm2]
end Mine

open PySem PySem.W PyProof.Rows
set_option Elab.async false
set_option linter.unusedVariables false
set_option linter.unusedSimpArgs false
set_option maxRecDepth 100000
namespace Mine
theorem mem_rowsT {T : List Nat} {t e k : Nat} (he : e < 2) : (t, e, k) ∈ rowsT T ↔ 2 * k + e < T.length ∧ T.getD (2 * k + e) 0 = t := by
  unfold rowsT
  simp only [List.mem_map, List.mem_range, Prod.mk.injEq]
  constructor
  · rintro ⟨j, hj, rfl, rfl, rfl⟩
    rw [Nat.div_add_mod]; exact ⟨hj, rfl⟩
  · rintro ⟨h1, h2⟩
    exact ⟨2 * k + e, h1, h2, by omega, by omega⟩
theorem mem_phi {L : List (List Nat)} {m : Int} {k : Nat} (h8 : L.length ≤ 8) : k ∈ phiL L m ↔ k < L.length ∧ meets m (L.getD k []) = true := by
  constructor
  · intro h
    have := (setOf_mem (setOf_lt h)).mp h
    obtain ⟨h1, h2⟩ := Bool.and_eq_true_iff.mp this
    exact ⟨of_decide_eq_true h1, h2⟩
  · rintro ⟨h1, h2⟩
    exact (setOf_mem (by omega)).mpr (by rw [decide_eq_true h1, h2]; rfl)

section
variable {c : Nat → Int} {L : List (List Nat)} {T : List Nat} (hb : Bf (stepS (rows0 c)) (setOf (fin0 c)) L) (hT : T = (seqL (stepS (rows0 c)) L).map (posL L)) (hs : ∀ S ∈ L, S ∈ sets8) (h8 : L.length ≤ 8)
include hb hT hs h8
theorem phi_hom {m : Int} {e : Nat} (he : e < 2) : phiL L (stepM c m e) = stepS (rowsT T) (phiL L m) e := by
  obtain ⟨t1, t2⟩ := hb.tab (d := []) hT
  refine isSet.ext ⟨_, rfl⟩ (stepS_isSet ..) fun k hk8 => ?_
  rw [mem_phi h8, stepS_mem hk8]
  constructor
  · rintro ⟨hk, hm⟩
    obtain ⟨q1, q2⟩ := t2 k hk e he
    refine ⟨_, ?_, (mem_rowsT he).mpr ⟨by omega, rfl⟩⟩
    rw [mem_phi h8, q2, ← meets_step (hs _ (getD_mem hk)) he]
    exact ⟨q1, hm⟩
  · rintro ⟨t, ht, hr⟩
    obtain ⟨r1, rfl⟩ := (mem_rowsT he).mp hr
    have hk : k < L.length := by omega
    obtain ⟨q1, q2⟩ := t2 k hk e he
    obtain ⟨_, hm⟩ := (mem_phi h8).mp ht
    rw [q2, ← meets_step (hs _ (getD_mem hk)) he] at hm
    exact ⟨hk, hm⟩
theorem phi_fin {m m' : Int} (h : phiL L m = phiL L m') : stepM c m 2 = stepM c m' 2 := by
  have h0 : L.getD 0 [] = setOf (fin0 c) := by rw [List.getD_eq_getElem?_getD, hb.zero]; rfl
  have hp : 0 < L.length := (List.getElem?_eq_some_iff.mp hb.zero).1
  have e : meets m (setOf (fin0 c)) = meets m' (setOf (fin0 c)) := by
    rw [Bool.eq_iff_iff, ← h0]
    have h1 := mem_phi (L := L) (m := m) (k := 0) h8
    have h2 := mem_phi (L := L) (m := m') (k := 0) h8
    rw [h] at h1
    exact ⟨fun x => (h2.mp (h1.mpr ⟨hp, x⟩)).2, fun x => (h1.mp (h2.mpr ⟨hp, x⟩)).2⟩
  rw [step_two, step_two, e]

variable {M : List Int} {TM : List Nat} (mb : Bf (stepM c) 1 M) (mT : TM = (seqL (stepM c) M).map (posL M))
include mb mT
omit hb hT hs h8 in
theorem al0_get {k : Nat} (hk : k < M.length) : (al0 c M).getD k 0 = (stepM c (M.getD k 0) 2).toNat := by
  rw [List.getD_eq_getElem?_getD]; unfold al0; rw [List.getElem?_map, getD_of (d := 0) hk]; rfl
theorem rel_of : ∀ r k k', k < M.length → k' < M.length → phiL L (M.getD k 0) = phiL L (M.getD k' 0) → rel TM (al0 c M) r k k'
  | 0, k, k', hk, hk', h => by
    show (al0 c M).getD k 0 = (al0 c M).getD k' 0
    rw [al0_get mb mT hk, al0_get mb mT hk', phi_fin hb hT hs h8 h]
  | r + 1, k, k', hk, hk', h => by
    obtain ⟨_, t2⟩ := mb.tab (d := 0) mT
    refine ⟨rel_of r k k' hk hk' h, fun e he => ?_⟩
    obtain ⟨q1, q2⟩ := t2 k hk e he
    obtain ⟨r1, r2⟩ := t2 k' hk' e he
    refine rel_of r _ _ q1 r1 ?_
    rw [q2, r2, phi_hom hb hT hs h8 he, phi_hom hb hT hs h8 he, h]
omit hb hT hs h8 in
theorem rel_ends : ∀ r k k', k < M.length → k' < M.length → rel TM (al0 c M) r k k' → ∀ w : List Nat, w.length ≤ r → (∀ e ∈ w, e < 2) → (0 < endsM c (M.getD k 0) w ↔ 0 < endsM c (M.getD k' 0) w) := by
  have base : ∀ k k', k < M.length → k' < M.length → (al0 c M).getD k 0 = (al0 c M).getD k' 0 → (0 < endsM c (M.getD k 0) [] ↔ 0 < endsM c (M.getD k' 0) []) := fun k k' hk hk' h => by
    rw [al0_get mb mT hk, al0_get mb mT hk'] at h
    rw [ends_nil, ends_nil]
    have h1 : 0 ≤ stepM c (M.getD k 0) 2 := (bits_range _ _).1
    have h2 : 0 ≤ stepM c (M.getD k' 0) 2 := (bits_range _ _).1
    omega
  intro r
  induction r with
  | zero =>
    intro k k' hk hk' h w hw _
    rw [List.eq_nil_of_length_eq_zero (Nat.le_zero.mp hw)]
    exact base k k' hk hk' h
  | succ r ih =>
    intro k k' hk hk' h w hw hw2
    cases w with
    | nil => exact ih k k' hk hk' h.1 [] (Nat.zero_le _) hw2
    | cons e w =>
      have he := hw2 e List.mem_cons_self
      obtain ⟨_, t2⟩ := mb.tab (d := 0) mT
      obtain ⟨q1, q2⟩ := t2 k hk e he
      obtain ⟨r1, r2⟩ := t2 k' hk' e he
      rw [ends_cons, ends_cons, ← q2, ← r2]
      exact ih _ _ q1 r1 (h.2 e he) w (by simpa using hw) fun x hx => hw2 x (List.mem_cons_of_mem _ hx)
theorem rel_iff {k k' : Nat} (hk : k < M.length) (hk' : k' < M.length) : rel TM (al0 c M) 8 k k' ↔ phiL L (M.getD k 0) = phiL L (M.getD k' 0) := by
  refine ⟨fun h => ?_, rel_of hb hT hs h8 mb mT 8 k k' hk hk'⟩
  refine isSet.ext ⟨_, rfl⟩ ⟨_, rfl⟩ fun i hi => ?_
  rw [mem_phi h8, mem_phi h8]
  have key : i < L.length → (meets (M.getD k 0) (L.getD i []) = true ↔ meets (M.getD k' 0) (L.getD i []) = true) := fun hil => by
    obtain ⟨g1, g2, g3⟩ := roads_get hb hT hs (L.length - 1) (by omega) i (by omega)
    rw [← g3, ← g3]
    exact rel_ends mb mT 8 k k' hk hk' h _ (by omega) g2
  exact ⟨fun x => ⟨x.1, (key x.1).mp x.2⟩, fun x => ⟨x.1, (key x.1).mpr x.2⟩⟩

/-- what the law asks -/
theorem law_eq {al F : List Nat} (hal : moore M.length TM 8 (al0 c M) = al) (hF : fstF M.length al = F) {d : List Nat} :
    (∀ k ∈ F, ∀ e < 2, al.getD (TM.getD (2 * k + e) 0) 0 ∈ F) ∧ bfs (stepS (rowsT T)) (phiL L 1) = ((F.map (M.getD · 0)).map (phiL L), F.flatMap fun k => (List.range 2).map fun e => F.idxOf (al.getD (TM.getD (2 * k + e) 0) 0)) := by
  obtain ⟨t1, t2⟩ := mb.tab (d := 0) mT
  have hXl : (M.map (phiL L)).length = M.length := List.length_map ..
  have hXg : ∀ k < M.length, (M.map (phiL L))[k]? = some (phiL L (M.getD k 0)) := fun k hk => by rw [List.getElem?_map, getD_of (d := 0) hk]; rfl
  have hal' : ∀ k < M.length, al.getD k 0 = posL (M.map (phiL L)) ((M.map (phiL L)).getD k []) := fun k hk => by
    rw [← hal]
    exact moore_first (X := M.map (phiL L)) (d := []) (r := 7) hXl (fun k hk e he => (t2 k hk e he).1) (fun k hk k' hk' => by
      rw [rel_iff hb hT hs h8 mb mT hk hk', hXg k hk, hXg k' hk']
      exact ⟨fun h => by rw [h], fun h => Option.some.inj h⟩) hk
  have hFX : F = firstsL (M.map (phiL L)) [] := by
    rw [← hF]
    unfold fstF firstsL
    rw [hXl]
    refine List.filter_congr fun k hk => ?_
    rw [hal' k (List.mem_range.mp hk)]
    unfold firstB posL
    rw [Bool.eq_iff_iff, beq_iff_eq, decide_eq_true_eq]
  have hfirst : ∀ k < M.length, al.getD k 0 ∈ F := fun k hk => by
    rw [hal' k hk, hFX]
    obtain ⟨c1, c2, _⟩ := idxOf_facts (getD_mem (l := M.map (phiL L)) (d := []) (k := k) (by omega))
    refine List.mem_filter.mpr ⟨List.mem_range.mpr c1, decide_eq_true ?_⟩
    have e : (M.map (phiL L)).getD (posL (M.map (phiL L)) ((M.map (phiL L)).getD k [])) [] = (M.map (phiL L)).getD k [] := by
      conv => lhs; rw [List.getD_eq_getElem?_getD]
      exact congrArg (fun o => o.getD []) c2
    rw [e]; rfl
  have hFn : ∀ k ∈ F, k < M.length := fun k hk => by rw [← hF] at hk; exact List.mem_range.mp (List.mem_filter.mp hk).1
  refine ⟨fun k hk e he => hfirst _ (t2 k (hFn k hk) e he).1, ?_⟩
  have hom : ∀ x ∈ M, ∀ k < 2, phiL L (stepM c x k) = stepS (rowsT T) (phiL L x) k := fun x _ k hk => phi_hom hb hT hs h8 hk
  have him := mb.image hom
  have hu : (masks8.map (phiL L)).length ≤ 8 := by rw [List.length_map]; decide
  obtain ⟨b1, b2, _⟩ := bfs_all (step := stepS (rowsT T)) (a := phiL L 1) (u := masks8.map (phiL L)) hu (List.mem_map.mpr ⟨1, by decide, rfl⟩) (fun y hy k hk => by
    obtain ⟨x, _, rfl⟩ := List.mem_map.mp hy
    rw [← phi_hom hb hT hs h8 hk]
    exact List.mem_map.mpr ⟨_, stepM_masks8 hk, rfl⟩)
  have hq := b1.uniq him
  obtain ⟨e1, e2⟩ := mb.table hom (X := M.map (phiL L)) rfl (T := TM) mT (F := F) (d := []) hFX (a0 := 0)
  generalize bfs (stepS (rowsT T)) (phiL L 1) = Q at *
  obtain ⟨Q1, Q2⟩ := Q
  simp only at hq b2
  refine Prod.ext ?_ ?_
  · simp only; rw [hq, e1]
  · simp only; rw [b2, hq, e2]
    refine flatMap_congr' fun k hk => ?_
    have hk1 := hFn k hk
    show _ = [F.idxOf (al.getD (TM.getD (2 * k + 0) 0) 0), F.idxOf (al.getD (TM.getD (2 * k + 1) 0) 0)]
    rw [hal' _ (t2 k hk1 0 (by decide)).1, hal' _ (t2 k hk1 1 (by decide)).1]
    rfl
end
end Mine

open PySem PySem.W PyProof.Rows
set_option Elab.async false
set_option linter.unusedVariables false
set_option linter.unusedSimpArgs false
set_option maxRecDepth 100000
namespace Mine
/-! what the law makes of its cells -/
section
variable (c : List Int)
def letA : Nat := (c.getD 3 0 % 48).toNat
def letB : Nat := ((c.getD 3 0 + 1 + c.getD 3 0 / 48 % 47) % 48).toNat
def codeN (k : Nat) : Int := 256 + (k : Int) * (1 + c.sum % 2500)
def codesN : List Int := (List.range 3).map (codeN c)
def kindsN : List Int := [7 + (letA c : Int), 7 + (letB c : Int)]
def moveN (b : Nat) : Int × Int := ((kindsN c).getD (b / 3) 0, codeN c (b % 3))
def extraN (k : Nat) : Int × Int := (255 - (c.sum + 51) % 201, codeN c k)
def movesN (k : Nat) : List (Int × Int) := ((List.range 6).filter (bt (c.getD k 0))).map (moveN c) ++ if bt (c.getD k 0) 7 then [extraN c k] else []
def flatN (l : List (Int × Int)) : List Int := l.flatMap fun m => [m.1, m.2]
def blockN (k : Nat) : List Int := codeN c k :: flatN (movesN c k) ++ if bt (c.getD k 0) 6 then [0] else []
def numbersN (n : Nat) : List Int := (List.range n).flatMap (blockN c)
def lowN : Nat := ((c.sum + 2) % 25).toNat
end

theorem low_le (c : List Int) : lowN c ≤ 24 := Nat.le_of_lt_succ (mod_natlt (b := 25) (by decide))
theorem let_lt (c : List Int) : letA c < 48 ∧ letB c < 48 := ⟨mod_natlt (b := 48) (by decide), mod_natlt (b := 48) (by decide)⟩
theorem let_ne (c : List Int) : letA c ≠ letB c := by
  unfold letA letB
  generalize c.getD 3 0 = x
  have h1 := Int.emod_nonneg (x / 48) (show (47 : Int) ≠ 0 by decide)
  have h2 := Int.emod_lt_of_pos (x / 48) (show (0 : Int) < 47 by decide)
  generalize x / 48 % 47 = q at *
  omega
theorem code_ge (c : List Int) (k : Nat) (hk : k < 3) : 256 ≤ codeN c k ∧ codeN c k < 262144 := by
  unfold codeN
  have h1 := Int.emod_nonneg c.sum (show (2500 : Int) ≠ 0 by decide)
  have h2 := Int.emod_lt_of_pos c.sum (show (0 : Int) < 2500 by decide)
  generalize c.sum % 2500 = q at *
  match k, hk with
  | 0, _ => constructor <;> simp <;> omega
  | 1, _ => constructor <;> simp <;> omega
  | 2, _ => constructor <;> simp <;> omega
theorem code_inj (c : List Int) : ∀ i < 3, ∀ j < 3, codeN c i = codeN c j → i = j := by
  unfold codeN
  have h1 := Int.emod_nonneg c.sum (show (2500 : Int) ≠ 0 by decide)
  generalize c.sum % 2500 = q at *
  intro i hi j hj e
  match i, hi, j, hj with
  | 0, _, 0, _ => rfl
  | 0, _, 1, _ => simp at e; omega
  | 0, _, 2, _ => simp at e; omega
  | 1, _, 0, _ => simp at e; omega
  | 1, _, 1, _ => rfl
  | 1, _, 2, _ => simp at e; omega
  | 2, _, 0, _ => simp at e; omega
  | 2, _, 1, _ => simp at e; omega
  | 2, _, 2, _ => rfl
theorem kind_rng (c : List Int) (i : Nat) (hi : i < 2) : 7 ≤ (kindsN c).getD i 0 ∧ (kindsN c).getD i 0 ≤ 54 := by
  have := let_lt c
  match i, hi with
  | 0, _ => show 7 ≤ 7 + (letA c : Int) ∧ 7 + (letA c : Int) ≤ 54; omega
  | 1, _ => show 7 ≤ 7 + (letB c : Int) ∧ 7 + (letB c : Int) ≤ 54; omega
theorem extra_rng (c : List Int) : 55 ≤ 255 - (c.sum + 51) % 201 ∧ 255 - (c.sum + 51) % 201 ≤ 255 := by
  have h1 := Int.emod_nonneg (c.sum + 51) (show (201 : Int) ≠ 0 by decide)
  have h2 := Int.emod_lt_of_pos (c.sum + 51) (show (0 : Int) < 201 by decide)
  omega
theorem moves_rng (c : List Int) {k : Nat} (hk : k < 3) : ∀ m ∈ movesN c k, 1 ≤ m.1 ∧ m.1 < 256 ∧ 256 ≤ m.2 ∧ m.2 < 262144 := fun m hm => by
  unfold movesN at hm
  rcases List.mem_append.mp hm with hm | hm
  · obtain ⟨b, hb, rfl⟩ := List.mem_map.mp hm
    have hb6 := List.mem_range.mp (List.mem_filter.mp hb).1
    have h1 := kind_rng c (b / 3) (by omega)
    have h2 := code_ge c (b % 3) (Nat.mod_lt _ (by decide))
    unfold moveN
    exact ⟨by simp only; omega, by simp only; omega, h2.1, h2.2⟩
  · split at hm
    · rw [List.mem_singleton.mp hm]
      have h1 := extra_rng c
      have h2 := code_ge c k hk
      unfold extraN
      exact ⟨by simp only; omega, by simp only; omega, h2.1, h2.2⟩
    · cases hm
theorem moves_len (c : List Int) (k : Nat) : (movesN c k).length ≤ 7 := by
  unfold movesN
  have := List.length_filter_le (bt (c.getD k 0)) (List.range 6)
  rw [List.length_append, List.length_map]
  split <;> simp at this ⊢ <;> omega
theorem flat_len' (l : List (Int × Int)) : (flatN l).length = 2 * l.length := by
  unfold flatN
  induction l with
  | nil => rfl
  | cons m l ih => rw [List.flatMap_cons, List.length_append, ih]; simp; omega
theorem block_len (c : List Int) (k : Nat) : (blockN c k).length ≤ 16 := by
  unfold blockN
  have := moves_len c k
  rw [List.length_append, List.length_cons, flat_len']
  split <;> simp <;> omega
theorem numbers_succ (c : List Int) (n : Nat) : numbersN c (n + 1) = numbersN c n ++ blockN c n := by
  unfold numbersN; rw [List.range_succ, List.flatMap_append]; simp
theorem numbers_len' (c : List Int) : ∀ n, (numbersN c n).length ≤ 16 * n
  | 0 => by simp [numbersN]
  | n + 1 => by
    rw [numbers_succ, List.length_append]
    have := numbers_len' c n
    have := block_len c n
    omega
theorem numbers_rng (c : List Int) : ∀ x ∈ numbersN c 3, 0 ≤ x ∧ x < 262144 := fun x hx => by
  obtain ⟨k, hk, hx⟩ := List.mem_flatMap.mp hx
  have hk := List.mem_range.mp hk
  unfold blockN at hx
  rcases List.mem_append.mp hx with hx | hx
  · rcases List.mem_cons.mp hx with rfl | hx
    · have := code_ge c k hk; omega
    · obtain ⟨m, hm, hx⟩ := List.mem_flatMap.mp hx
      have := moves_rng c hk m hm
      simp at hx
      rcases hx with rfl | rfl <;> omega
  · split at hx
    · rw [List.mem_singleton.mp hx]; decide
    · cases hx
theorem numbers_head (c : List Int) : ∀ n, (numbersN c 3)[0]? = some n → 256 ≤ n := fun n h => by
  have : (numbersN c 3)[0]? = some (codeN c 0) := rfl
  rw [this] at h; cases h
  exact (code_ge c 0 (by decide)).1

/-! the grammar that is read from it -/
theorem fold_moves {q : Int} : ∀ (l : List (Int × Int)) (s : GS), (∀ m ∈ l, 1 ≤ m.1 ∧ m.1 < 256 ∧ 256 ≤ m.2) → s.letter = 0 → s.lefts.getLastD 0 = q → (flatN l).foldl gStep s = ⟨s.lefts, s.steps ++ l.map fun m => (m.2, m.1, q), s.ends, 0⟩
  | [], s, _, h0, _ => by
    obtain ⟨a, b, e, l⟩ := s
    simp only at h0; subst h0
    simp [flatN]
  | m :: l, s, hm, h0, hq => by
    obtain ⟨h1, h2, h3⟩ := hm m List.mem_cons_self
    have e : (flatN (m :: l)).foldl gStep s = (flatN l).foldl gStep (gStep (gStep s m.1) m.2) := rfl
    have e1 : gStep s m.1 = { s with letter := m.1 } := by unfold gStep; rw [if_neg (by omega), if_pos h2]
    have e2 : gStep { s with letter := m.1 } m.2 = ⟨s.lefts, s.steps ++ [(m.2, m.1, q)], s.ends, 0⟩ := by
      unfold gStep; rw [if_neg (by omega), if_neg (by omega), if_pos (by show 0 < m.1; omega)]; simp only; rw [hq]
    rw [e, e1, e2]
    refine (fold_moves l ⟨s.lefts, s.steps ++ [(m.2, m.1, q)], s.ends, 0⟩ (fun x hx => hm x (List.mem_cons_of_mem _ hx)) rfl hq).trans ?_
    simp
theorem fold_block {c : List Int} {k : Nat} (hk : k < 3) (s : GS) (h0 : s.letter = 0) : (blockN c k).foldl gStep s = ⟨s.lefts ++ [codeN c k], s.steps ++ (movesN c k).map fun m => (m.2, m.1, codeN c k), s.ends ++ (if bt (c.getD k 0) 6 then [codeN c k] else []), 0⟩ := by
  have hc := code_ge c k hk
  have e1 : gStep s (codeN c k) = ⟨s.lefts ++ [codeN c k], s.steps, s.ends, 0⟩ := by
    unfold gStep; rw [if_neg (by omega), if_neg (by omega), if_neg (by rw [h0]; decide), h0]
  unfold blockN
  rw [List.foldl_append, List.foldl_cons, e1, fold_moves (q := codeN c k) _ _ (fun m hm => by have := moves_rng c hk m hm; exact ⟨this.1, this.2.1, this.2.2.1⟩) rfl (by simp [List.getLastD_eq_getLast?])]
  cases bt (c.getD k 0) 6
  · simp
  · have : ∀ s : GS, gStep s 0 = { s with ends := s.ends ++ [s.lefts.getLastD 0] } := fun s => by unfold gStep; rw [if_pos rfl]
    simp only [if_true, List.foldl_cons, List.foldl_nil]
    rw [this]
    simp [List.getLastD_eq_getLast?]
def gramN (c : List Int) : GS := ⟨codesN c, (List.range 3).flatMap fun k => (movesN c k).map fun m => (m.2, m.1, codeN c k), ((List.range 3).filter fun k => bt (c.getD k 0) 6).map (codeN c), 0⟩
theorem gram_eq (c : List Int) : gAll (numbersN c 3) = gramN c := by
  have e : numbersN c 3 = blockN c 0 ++ (blockN c 1 ++ blockN c 2) := by
    unfold numbersN; rw [show List.range 3 = [0, 1, 2] from rfl]; simp
  unfold gAll
  rw [e, List.foldl_append, List.foldl_append, fold_block (c := c) (k := 0) (by decide) ⟨[], [], [], 0⟩ rfl, fold_block (c := c) (k := 1) (by decide) _ rfl, fold_block (c := c) (k := 2) (by decide) _ rfl]
  unfold gramN codesN
  rw [show List.range 3 = [0, 1, 2] from rfl]
  simp only [List.nil_append, List.flatMap_cons, List.flatMap_nil, List.append_nil, List.map_cons, List.map_nil, List.filter_cons, List.filter_nil]
  congr 1
  · simp
  · cases bt (c.getD 0 0) 6 <;> cases bt (c.getD 1 0) 6 <;> cases bt (c.getD 2 0) 6 <;> rfl
theorem code_mem (c : List Int) {k : Nat} (hk : k < 3) : codeN c k ∈ codesN c := List.mem_map.mpr ⟨k, List.mem_range.mpr hk, rfl⟩
theorem code_idx (c : List Int) {k : Nat} (hk : k < 3) : (codesN c).idxOf (codeN c k) = k := by
  unfold codesN
  rw [idxOf_map (fun x hx y hy e => code_inj c x (List.mem_range.mp hx) y (List.mem_range.mp hy) e) (List.mem_range.mpr hk)]
  match k, hk with
  | 0, _ => rfl
  | 1, _ => rfl
  | 2, _ => rfl
theorem kind_idx (c : List Int) {i : Nat} (hi : i < 2) : (kindsN c).getD i 0 ∈ kindsN c ∧ (kindsN c).idxOf ((kindsN c).getD i 0) = i := by
  have hne := let_ne c
  match i, hi with
  | 0, _ => exact ⟨List.mem_cons_self, by show (kindsN c).idxOf (7 + (letA c : Int)) = 0; unfold kindsN; rw [List.idxOf_cons, beq_self_eq_true]; rfl⟩
  | 1, _ =>
    refine ⟨List.mem_cons_of_mem _ List.mem_cons_self, ?_⟩
    show (kindsN c).idxOf (7 + (letB c : Int)) = 1
    unfold kindsN
    have : (7 + (letA c : Int) == 7 + (letB c : Int)) = false := by rw [beq_eq_false_iff_ne]; omega
    rw [List.idxOf_cons, this, List.idxOf_cons, beq_self_eq_true]; rfl
theorem extra_not (c : List Int) : 255 - (c.sum + 51) % 201 ∉ kindsN c := fun h => by
  have h1 := extra_rng c
  have h2 := let_lt c
  unfold kindsN at h
  simp at h
  omega
theorem gram_in (c : List Int) : (∀ r ∈ (gramN c).steps, r.1 ∈ (gramN c).lefts ∧ r.2.2 ∈ (gramN c).lefts) ∧ ∀ e ∈ (gramN c).ends, e ∈ (gramN c).lefts := by
  refine ⟨fun r hr => ?_, fun e he => ?_⟩
  · obtain ⟨k, hk, hr⟩ := List.mem_flatMap.mp hr
    have hk := List.mem_range.mp hk
    obtain ⟨m, hm, rfl⟩ := List.mem_map.mp hr
    refine ⟨?_, code_mem c hk⟩
    unfold movesN at hm
    rcases List.mem_append.mp hm with hm | hm
    · obtain ⟨b, _, rfl⟩ := List.mem_map.mp hm
      exact code_mem c (Nat.mod_lt _ (by decide))
    · split at hm
      · rw [List.mem_singleton.mp hm]; exact code_mem c hk
      · cases hm
  · obtain ⟨k, hk, rfl⟩ := List.mem_map.mp he
    exact code_mem c (List.mem_range.mp (List.mem_filter.mp hk).1)
/-- the grammar is the machine's -/
theorem gram_rows (c : List Int) : gramD (kindsN c) (gramN c) = .list [.list ((rows0 (cAt c)).map rowD), natsD (setOf (fin0 (cAt c)))] := by
  have hrows : ∀ (l : List Nat), (∀ k ∈ l, k < 3) → ((l.flatMap fun k => (movesN c k).map fun m => (m.2, m.1, codeN c k)).filter fun r => decide (r.2.1 ∈ kindsN c)).map (fun r => natsD [(codesN c).idxOf r.1, (kindsN c).idxOf r.2.1, (codesN c).idxOf r.2.2]) =
      (l.flatMap fun k => ((List.range 6).filter (bt (c.getD k 0))).map fun b => ((b % 3, b / 3, k) : Row)).map rowD := by
    intro l
    induction l with
    | nil => intro _; rfl
    | cons k l ih =>
      intro hl
      have hk := hl k List.mem_cons_self
      rw [List.flatMap_cons, List.flatMap_cons, List.filter_append, List.map_append, List.map_append, ih fun x hx => hl x (List.mem_cons_of_mem _ hx)]
      congr 1
      unfold movesN
      rw [List.map_append, List.filter_append, List.map_append]
      have e2 : (((if bt (c.getD k 0) 7 then [extraN c k] else []).map fun m => (m.2, m.1, codeN c k)).filter fun r : Int × Int × Int => decide (r.2.1 ∈ kindsN c)) = [] := by
        split
        · rw [List.filter_eq_nil_iff]
          intro r hr
          rw [List.map_singleton, List.mem_singleton] at hr
          subst hr
          exact fun h => extra_not c (of_decide_eq_true h)
        · rfl
      rw [e2, List.map_nil, List.append_nil, List.map_map]
      have hb6 : ∀ b ∈ (List.range 6).filter (bt (c.getD k 0)), b < 6 := fun b hb => List.mem_range.mp (List.mem_filter.mp hb).1
      generalize (List.range 6).filter (bt (c.getD k 0)) = bs at *
      rw [List.filter_eq_self.mpr, List.map_map, List.map_map]
      · refine List.map_congr_left fun b hb => ?_
        have hb := hb6 b hb
        show natsD [(codesN c).idxOf (codeN c (b % 3)), (kindsN c).idxOf ((kindsN c).getD (b / 3) 0), (codesN c).idxOf (codeN c k)] = natsD [b % 3, b / 3, k]
        rw [code_idx c (Nat.mod_lt _ (by decide)), code_idx c hk, (kind_idx c (by omega)).2]
      · intro r hr
        obtain ⟨b, hb, rfl⟩ := List.mem_map.mp hr
        have hb := hb6 b hb
        exact decide_eq_true (kind_idx c (by omega)).1
  have hends : (((List.range 3).filter fun k => bt (c.getD k 0) 6).map (codeN c)).map (codesN c).idxOf = setOf (fin0 (cAt c)) := by
    rw [List.map_map]
    have e : ((List.range 3).filter fun k => bt (c.getD k 0) 6).map ((codesN c).idxOf ∘ codeN c) = (List.range 3).filter fun k => bt (c.getD k 0) 6 := by
      conv => rhs; rw [← List.map_id ((List.range 3).filter fun k => bt (c.getD k 0) 6)]
      exact List.map_congr_left fun k hk => code_idx c (List.mem_range.mp (List.mem_filter.mp hk).1)
    rw [e]
    unfold setOf fin0
    rw [show List.range 8 = List.range 3 ++ [3, 4, 5, 6, 7] from rfl, List.filter_append]
    have e3 : [3, 4, 5, 6, 7].filter (fun k => decide (k < 3) && bt (cAt c k) 6) = [] := rfl
    rw [e3, List.append_nil]
    exact List.filter_congr fun k hk => by rw [decide_eq_true (List.mem_range.mp hk), Bool.true_and]
  unfold gramD
  show D.list [.list _, natsD ((((List.range 3).filter fun k => bt (c.getD k 0) 6).map (codeN c)).map (codesN c).idxOf)] = _
  rw [hends]
  have := hrows (List.range 3) fun k hk => List.mem_range.mp hk
  unfold rows0
  rw [← this]
  rfl
end Mine

open PySem PySem.W PyProof.Rows
set_option Elab.async false
set_option linter.unusedVariables false
set_option linter.unusedSimpArgs false
set_option maxRecDepth 100000
namespace Mine
abbrev fLaw : Stmt := sAt top 67
abbrev bLaw : List Stmt := dBody fLaw
abbrev eLaw (k : Nat) : Expr := valE (sAt bLaw k)
/-- one more call that is known -/
noncomputable def Φone (f0 : Str) (args : List D) (d : D) (Φ : Str → List D → Option D) : Str → List D → Option D := fun f ds => if f = f0 then @ite _ (ds = args) (Classical.propDecidable _) (some d) none else Φ f ds
section
variable {W : Wd} {k : Nat} {μ : MM} {Φ Ψ : Str → List D → Option D}
theorem tabOne {f0 : Str} {args : List D} {d : D} (h : TabOk W k μ Φ Ψ) (hf : FnOk W k μ f0 args d) : TabOk W k μ (Φone f0 args d Φ) Ψ :=
  h.fn' (f := f0) (g := fun ds => @ite _ (ds = args) (Classical.propDecidable _) (some d) none) fun ds d' e => by
    split at e
    · cases e; subst_vars; exact hf
    · cases e
theorem Φone_self {f0 : Str} {args : List D} {d : D} : Φone f0 args d Φ f0 args = some d := by simp [Φone]
theorem Φone_ne {f f0 : Str} {args : List D} {d : D} {ds : List D} (h : f ≠ f0) : Φone f0 args d Φ f ds = Φ f ds := by simp [Φone, h]
end

theorem pickL_map {α β : Type} (f : α → β) (l : List α) (lo hi st : Option Int) : pickL (l.map f) lo hi st = (pickL l lo hi st).map f := by
  unfold pickL
  rw [List.length_map]
  generalize sliceRange _ _ _ = is
  induction is with
  | nil => rfl
  | cons i is ih =>
    rw [List.filterMap_cons, List.filterMap_cons, ih, List.getElem?_map]
    cases l[i]? <;> simp

theorem sum_bound {B : Int} : ∀ {l : List Int}, (∀ x ∈ l, 0 ≤ x ∧ x ≤ B) → 0 ≤ l.sum ∧ l.sum ≤ B * l.length
  | [], _ => by simp
  | x :: l, h => by
    have ih := sum_bound (l := l) fun y hy => h y (List.mem_cons_of_mem _ hy)
    have hx := h x List.mem_cons_self
    rw [List.sum_cons, List.length_cons]
    have : B * ((l.length + 1 : Nat) : Int) = B * l.length + B := by rw [Int.natCast_add, Int.mul_add]; simp
    omega


abbrev tableT : Str := "( ) [ ] : , ; + - * / | & < > = . % { } == != <= >= ~ ^ << >> ** += -= *= /= %= &= |= ^= <<= >>= **= // //= @ @= -> ... := !"
theorem tableT_split : Txt.split tableT " " = tableL := by decide +kernel
theorem tableT_len : tableT.length ≤ 200 := by decide +kernel
theorem tableP_len : (Builtin.Str.partsBetween tableT (Builtin.Str.occurrences tableT " " 0 tableT.length (tableT.length + 1)) (" " : Str).length).length = 48 := by decide +kernel
theorem tableF : ((" " : Str).length == 0) = false ∧ tableT.length ≤ sizeLine ∧ (Builtin.Str.partsBetween tableT (Builtin.Str.occurrences tableT " " 0 tableT.length (tableT.length + 1)) (" " : Str).length).length ≤ sizeLine := by
  have hle : sizeLine = 16777216 := by decide
  have h1 := tableT_len
  have h2 := tableP_len
  exact ⟨by decide +kernel, by omega, by omega⟩

theorem meth_split {μ : MM} : methD μ "split" (.str tableT) [.str " "] = some (.list (tableL.map .str)) := by
  have := tableF
  simp only [methD]
  rw [if_neg (by decide +kernel), if_pos (by decide +kernel), if_pos this, tableT_split]

theorem lh_sum {μ : MM} (l : List Int) : Φc μ "sum" [.list (l.map .int)] = some (.int l.sum) := by rw [Φc_b (by decide +kernel)]; exact Φb_sum

end Mine

open PySem PySem.W PyProof.Rows
set_option Elab.async false
set_option linter.unusedVariables false
set_option linter.unusedSimpArgs false
set_option maxRecDepth 100000
namespace Mine
/-! the four numbers -/
def firsts : List Int := [11, 36, 192, 1117]
theorem pickL_step_len (l : List Int) (i : Nat) : (pickL l (some (i : Int)) (some 60) (some 4)).length ≤ l.length := by
  unfold pickL
  refine Nat.le_trans (List.length_filterMap_le _ _) (sliceRange_length_le _ _ _ _ (fun _ => ?_) (fun h => absurd (by simp [sliceBounds]) h))
  simp only [sliceBounds, Option.getD_some]
  split <;> constructor <;> omega
def cellAt (script : List Int) (i : Nat) : Int := firsts.getD i 0 + ((pickL script (some (i : Int)) (some 60) (some 4)).map (· % 1000000)).sum
theorem cellAt_bound (script : List Int) (h : script.length ≤ 63) (i : Nat) : 0 ≤ cellAt script i ∧ cellAt script i < 100000000 := by
  have hf : ∀ i, 0 ≤ firsts.getD i 0 ∧ firsts.getD i 0 ≤ 2291 := by
    intro i
    by_cases hi : i < 4
    · have : ∀ i < 4, 0 ≤ firsts.getD i 0 ∧ firsts.getD i 0 ≤ 2291 := by decide
      exact this i hi
    · have : firsts.getD i 0 = 0 := by
        rw [List.getD_eq_getElem?_getD, List.getElem?_eq_none (by show 4 ≤ i; omega)]; rfl
      omega
  have h1 := hf i
  have h2 := sum_bound (B := 999999) (l := (pickL script (some (i : Int)) (some 60) (some 4)).map (· % 1000000)) fun x hx => by
    obtain ⟨y, _, rfl⟩ := List.mem_map.mp hx; omega
  have h3 := pickL_step_len script i
  rw [List.length_map] at h2
  unfold cellAt
  omega

/-- what stands -/
structure LC (c : List Int) (Δ : Ctx) : Prop where
  lbool : Δ.lookup ("bool" : Str) = some (.ty "bool")
  lint : Δ.lookup ("int" : Str) = some (.ty "int")
  cells : Δ.lookup ("cells" : Str) = some (.list (c.map .int))
  total : Δ.lookup ("total" : Str) = some (.int c.sum)
  table : Δ.lookup ("table" : Str) = some (.list (tableL.map .str))
  letters : Δ.lookup ("letters" : Str) = some (natsD [letA c, letB c])
  codes : Δ.lookup ("codes" : Str) = some (.list ((codesN c).map .int))
abbrev nLC : List Str := ["bool", "int", "cells", "total", "table", "letters", "codes"]
theorem LC.cons {c : List Int} {Δ : Ctx} (S : LC c Δ) {y : Str} {d : D} (h : offN nLC y = true) : LC c ((y, d) :: Δ) :=
  ⟨look_off h (by decide +kernel) S.lbool, look_off h (by decide +kernel) S.lint, look_off h (by decide +kernel) S.cells, look_off h (by decide +kernel) S.total, look_off h (by decide +kernel) S.table, look_off h (by decide +kernel) S.letters, look_off h (by decide +kernel) S.codes⟩

section
variable {F : Fr Φc (fun _ => Φ0) (dScope fLaw)} {c : List Int} {a : Addr} {Δ : Ctx} {μ : MM} {K : Out → Ctx → MM → Prop}
theorem cell_get (hc : c.length = 4) {i : Nat} (hi : i < 4) : idxD μ (.list (c.map .int)) (i : Int) = some (.int (c.getD i 0)) := idx_ints (getD_of (by omega)) (by omega)
theorem let_val (hc : c.length = 4) (h3 : 0 ≤ c.getD 3 0) (h : Δ.lookup ("cells" : Str) = some (.list (c.map .int))) : evD (Φc μ) Φ0 μ 14 (eLaw 3) Δ = some (natsD [letA c, letB c]) := by
  have hx := cell_get (μ := μ) hc (i := 3) (by decide)
  have e1 : (letA c : Int) = c.getD 3 0 % 48 := (mod_nat (by decide)).symm
  have e2 : (letB c : Int) = (c.getD 3 0 + 1 + c.getD 3 0 / 48 % 47) % 48 := (mod_nat (by decide)).symm
  have hcell : ∀ (n z : Nat) (p1 p2 p3 : Pos), evD (Φc μ) Φ0 μ (n + 2) (.Subscript (.Name "cells" p1) (.Constant (.int 3) z p2) p3) Δ = some (.int (c.getD 3 0)) := fun n z p1 p2 p3 => (evD_idx (by intro _ _ _ _ h; cases h) (evN h) eI).trans hx
  refine (evD_list2 (x := .int (letA c : Nat)) (y := .int (letB c : Nat)) ?_ ?_).trans rfl
  · rw [e1]; exact (evD_bin (hcell 10 _ _ _ _) eI).trans (b_mod (by decide))
  · rw [e2]; exact (evD_bin ((evD_bin ((evD_bin (hcell 8 _ _ _ _) eI).trans b_add) ((evD_bin ((evD_bin (hcell 7 _ _ _ _) eI).trans (b_div (y := 48) (by decide) (by decide))) eI).trans (b_mod (y := 47) (by decide)))).trans b_add) eI).trans (b_mod (y := 48) (by decide))
theorem code_val (h : Δ.lookup ("total" : Str) = some (.int c.sum)) : evD (Φc μ) Φ0 μ 14 (eLaw 4) Δ = some (.list ((codesN c).map .int)) := by
  unfold codesN
  rw [List.map_map]
  refine evD_comp (l := List.range 3) (g := fun (k : Nat) => .int k) (itD_range1 (m := 3) eI (by decide)) (fun k hk => ?_) (le_line (by decide))
  have hk := List.mem_range.mp hk
  have hmul : binD μ .Mult (.int (k : Nat)) (.int (1 + c.sum % 2500)) = some (.int ((k : Int) * (1 + c.sum % 2500))) := by
    rw [binD_int]; simp only [aMul]; rw [if_pos (by rw [Int.natAbs_natCast]; omega)]; rfl
  exact (evD_bin eI ((evD_bin (evN look_eq) ((evD_bin eI ((evD_bin (evN (look_tl (by decide +kernel) (free_look (by kernel_rfl) h))) eI).trans (b_mod (by decide)))).trans b_add)).trans hmul)).trans b_add

/-! number by number -/
abbrev bNum : List Stmt := forB (sAt bLaw 6)
def pairD (m : Int × Int) : D := .list [.int m.1, .int m.2]
theorem shr {x : Int} {k : Nat} : binD μ .RShift (.int x) (.int (k : Nat)) = some (.int (x / 2 ^ k)) := by
  rw [binD_int]; simp only [aShr]; rw [if_pos (Int.natCast_nonneg k), Int.toNat_natCast]; rfl
theorem and1 {x : Int} : binD μ .BitAnd (.int x) (.int 1) = some (.int (x % 2)) := by
  rw [binD_int]; simp only [aAnd]; rw [show (1 : Int) = 2 ^ 1 - 1 from rfl, kbt_mask]; rfl
theorem bt_int {x : Int} {k : Nat} : x / 2 ^ k % 2 = if bt x k then 1 else 0 := by
  unfold bt; rcases Int.emod_two_eq (x / 2 ^ k) with h | h <;> rw [h] <;> rfl
theorem rep01 {b : Bool} {d : D} : binD μ .Mult (.list [d]) (.int (if b = true then 1 else 0)) = some (.list (if b then [d] else [])) := by
  cases b <;> (simp only [binD, asList]; rw [if_pos ⟨trivial, by decide, by decide, by simp⟩]; rfl)
theorem move_val (hc : c.length = 4) {k : Nat} (hk : k < 3) (S : LC c Δ) (hkk : Δ.lookup ("k" : Str) = some (.int (k : Nat))) :
    evD (Φc μ) Φ0 μ 14 (valE (sAt bNum 0)) Δ = some (.list ((((List.range 6).filter (bt (c.getD k 0))).map (moveN c)).map pairD)) := by
  rw [List.map_map]
  have hx := cell_get (μ := μ) hc (i := k) (by omega)
  refine evD_compIf (l := List.range 6) (g := fun (b : Nat) => .int b) (f := bt (c.getD k 0)) (itD_range1 (m := 6) eI (by decide)) (fun b hb => ?_) (fun b hb _ => ?_) (le_line (by decide))
  · rw [tBin, evD_bin ((evD_bin ((evD_idx (by intro _ _ _ _ h; cases h) (evN (look_tl (by decide +kernel) (free_look (by kernel_rfl) S.cells))) (evN (look_tl (by decide +kernel) (free_look (by kernel_rfl) hkk)))).trans hx) (evN look_eq)).trans shr) eI, and1, bt_int]
    cases bt (c.getD k 0) b <;> rfl
  · have hb6 := List.mem_range.mp hb
    have hd : binD μ .FloorDiv (.int (b : Nat)) (.int 3) = some (.int ((b / 3 : Nat) : Int)) := b_div (by decide) (by decide)
    have hm : binD μ .Mod (.int (b : Nat)) (.int 3) = some (.int ((b % 3 : Nat) : Int)) := b_mod (by decide)
    have hl : ∃ l : Nat, [letA c, letB c][b / 3]? = some l ∧ (kindsN c).getD (b / 3) 0 = 7 + (l : Int) := by
      have : b / 3 < 2 := by omega
      match b / 3, this with
      | 0, _ => exact ⟨_, rfl, rfl⟩
      | 1, _ => exact ⟨_, rfl, rfl⟩
    obtain ⟨l, hl1, hl2⟩ := hl
    have hcode : idxD μ (.list ((codesN c).map .int)) ((b % 3 : Nat) : Int) = some (.int (codeN c (b % 3))) := idx_ints (by
      unfold codesN; rw [List.getElem?_map, List.getElem?_range (Nat.mod_lt _ (by decide))]; rfl) (Nat.lt_trans (Nat.mod_lt _ (by decide)) (by decide))
    refine (evD_list2 ((evD_bin eI ((evD_idx (by intro _ _ _ _ h; cases h) (evN (look_tl (by decide +kernel) (free_look (by kernel_rfl) S.letters))) ((evD_bin (evN look_eq) eI).trans hd)).trans (idx_nats hl1 (by omega)))).trans b_add)
      ((evD_idx (by intro _ _ _ _ h; cases h) (evN (look_tl (by decide +kernel) (free_look (by kernel_rfl) S.codes))) ((evD_bin (evN look_eq) eI).trans hm)).trans hcode)).trans ?_
    show _ = some (pairD (moveN c b))
    unfold moveN pairD
    rw [hl2]

theorem code_get {k : Nat} (hk : k < 3) : idxD μ (.list ((codesN c).map .int)) (k : Int) = some (.int (codeN c k)) := idx_ints (by
  unfold codesN; rw [List.getElem?_map, List.getElem?_range hk]; rfl) (Nat.lt_trans hk (by decide))
theorem bit_val {n : Nat} (hc : c.length = 4) {k q : Nat} (hk : k < 3) (h1 : Δ.lookup ("cells" : Str) = some (.list (c.map .int))) (h2 : Δ.lookup ("k" : Str) = some (.int (k : Nat))) {p1 p2 p3 p4 p5 p6 p7 : Pos} {z1 z2 : Nat} :
    evD (Φc μ) Φ0 μ (n + 5) (.BinOp (.BinOp (.Subscript (.Name "cells" p1) (.Name "k" p2) p3) .RShift (.Constant (.int q) z1 p4) p5) .BitAnd (.Constant (.int 1) z2 p6) p7) Δ = some (.int (if bt (c.getD k 0) q = true then 1 else 0)) := by
  rw [evD_bin ((evD_bin ((evD_idx (by intro _ _ _ _ h; cases h) (evN h1) (evN h2)).trans (cell_get hc (by omega))) eI).trans shr) eI, and1, bt_int]
theorem extra_val (hc : c.length = 4) {k : Nat} (hk : k < 3) (S : LC c Δ) (h2 : Δ.lookup ("k" : Str) = some (.int (k : Nat))) {p1 p2 p3 p4 p5 p6 p7 p8 p9 p10 p11 p12 p13 p14 p15 p16 p17 p18 p19 p20 : Pos} {z1 z2 z3 z4 z5 : Nat} :
    evD (Φc μ) Φ0 μ 14 (.BinOp (.List [.List [.BinOp (.Constant (.int 255) z1 p1) .Sub (.BinOp (.BinOp (.Name "total" p2) .Add (.Constant (.int 51) z2 p3) p4) .Mod (.Constant (.int 201) z3 p5) p6) p7, .Subscript (.Name "codes" p8) (.Name "k" p9) p10] p11] p12) .Mult
      (.BinOp (.BinOp (.Subscript (.Name "cells" p13) (.Name "k" p14) p15) .RShift (.Constant (.int (7 : Nat)) z4 p16) p17) .BitAnd (.Constant (.int 1) z5 p18) p19) p20) Δ = some (.list ((if bt (c.getD k 0) 7 then [extraN c k] else []).map pairD)) := by
  refine (evD_bin (evD_list1 (evD_list2 ((evD_bin eI ((evD_bin ((evD_bin (evN S.total) eI).trans b_add) eI).trans (b_mod (by decide)))).trans b_sub) ((evD_idx (by intro _ _ _ _ h; cases h) (evN S.codes) (evN h2)).trans (code_get hk)))) (bit_val hc hk S.cells h2)).trans (rep01.trans ?_)
  cases bt (c.getD k 0) 7 <;> rfl

theorem if_len {α : Type} {b : Bool} {x : α} : (if b = true then [x] else []).length ≤ 1 := by cases b <;> simp
theorem num_one {k : Nat} (hc : c.length = 4) (hk : k < 3) (S : LC c Δ) (hn : Δ.lookup ("numbers" : Str) = some (.ref a)) (hμ : μ a = some (.lst ((numbersN c k).map .int)))
    (hK : ∀ Δ μ, LC c Δ → Δ.lookup ("numbers" : Str) = some (.ref a) → μ a = some (.lst ((numbersN c (k + 1)).map .int)) → K .next Δ μ) : R F bNum (("k", .int (k : Nat)) :: Δ) μ K := by
  have S := S.cons (y := "k") (d := .int (k : Nat)) (by decide +kernel)
  have hn := look_tl (x := "k") (d := .int (k : Nat)) (by decide +kernel) hn
  have hkk : ((("k" : Str), D.int (k : Nat)) :: Δ).lookup ("k" : Str) = some (.int (k : Nat)) := look_eq
  generalize ((("k" : Str), D.int (k : Nat)) :: Δ) = Δ at *
  refine R.usedNew 13 (by kernel_rfl) (move_val hc hk S hkk) fun b hb => ?_
  have hab : a ≠ b := fun e => by rw [← e, hμ] at hb; cases hb
  have hba : b ≠ a := Ne.symm hab
  have S := S.cons (y := "moves") (d := .ref b) (by decide +kernel)
  have hn := look_tl (x := "moves") (d := .ref b) (by decide +kernel) hn
  have hkk := look_tl (x := "moves") (d := .ref b) (by decide +kernel) hkk
  have hm : ((("moves" : Str), D.ref b) :: Δ).lookup ("moves" : Str) = some (.ref b) := look_eq
  have hμ : (μ.set b (.lst ((((List.range 6).filter (bt (c.getD k 0))).map (moveN c)).map pairD))) a = some (.lst ((numbersN c k).map .int)) := by rw [MM.set_ne hab]; exact hμ
  have hμb : (μ.set b (.lst ((((List.range 6).filter (bt (c.getD k 0))).map (moveN c)).map pairD))) b = some (.lst ((((List.range 6).filter (bt (c.getD k 0))).map (moveN c)).map pairD)) := MM.set_self ..
  generalize ((("moves" : Str), D.ref b) :: Δ) = Δ at *
  generalize μ.set b (.lst ((((List.range 6).filter (bt (c.getD k 0))).map (moveN c)).map pairD)) = μ at *
  have hml := moves_len c k
  have hl6 : (((List.range 6).filter (bt (c.getD k 0))).map (moveN c)).length ≤ 6 := by rw [List.length_map]; exact Nat.le_trans (List.length_filter_le ..) (by simp)
  refine R.extend 14 (a := b) (by kernel_rfl) (evN hm) hμb (extra_val hc hk S hkk) rfl (le_line (Nat.le_trans (Nat.add_le_add (Nat.le_trans (Nat.le_of_eq (List.length_map _)) hl6) (Nat.le_trans (Nat.le_of_eq (List.length_map _)) if_len)) (by decide : 6 + 1 ≤ 1000000))) ?_
  rw [← List.map_append]
  have e : ((List.range 6).filter (bt (c.getD k 0))).map (moveN c) ++ (if bt (c.getD k 0) 7 then [extraN c k] else []) = movesN c k := rfl
  rw [e]
  have hμ : (μ.set b (.lst ((movesN c k).map pairD))) a = some (.lst ((numbersN c k).map .int)) := by rw [MM.set_ne hab]; exact hμ
  have hμb : (μ.set b (.lst ((movesN c k).map pairD))) b = some (.lst ((movesN c k).map pairD)) := MM.set_self ..
  generalize μ.set b (.lst ((movesN c k).map pairD)) = μ at *
  have hbl := block_len c k
  have hnl := numbers_len' c k
  refine R.extend 16 (a := a) (d := .list ((blockN c k).map .int)) (by kernel_rfl) (evN hn) hμ ?_ rfl (by rw [List.length_map, List.length_map]; exact le_line (by omega)) (R.nil (hK _ _ S hn (by rw [MM.set_self, ← List.map_append, ← numbers_succ])))
  have hflat : (flatN (movesN c k)).map D.int = (movesN c k).flatMap fun m => [m.1, m.2].map .int := by unfold flatN; rw [List.map_flatMap]
  have hfl := flat_len' (movesN c k)
  refine (evD_bin (a := .list ((codeN c k :: flatN (movesN c k)).map .int)) ((evD_bin (a := .list [.int (codeN c k)]) (b := .list ((flatN (movesN c k)).map .int)) (evD_list1 ((evD_idx (by intro _ _ _ _ h; cases h) (evN S.codes) (evN hkk)).trans (code_get hk))) ?_).trans ?_) ((evD_bin (evD_list1 eI) (bit_val (q := 6) hc hk S.cells hkk)).trans rep01)).trans ?_
  · rw [hflat]
    refine evD_comp2 (l := movesN c k) (g := pairD) (l' := fun m => [m.1, m.2]) (g' := fun _ z => .int z) (h := fun _ z => .int z) (itD_of (d := .ref b) (evN hm) (by simp only [asList, hμb]) (by intro _ _ _ _ h; cases h)) (fun m _ => itD_of (d := pairD m) (evN look_eq) rfl (by intro _ _ _ _ h; cases h)) (fun m _ z _ => evN look_eq) ?_
    rw [← hflat, List.length_map, hfl]; exact le_line (by omega)
  · rw [binD_addl, if_pos (by simp; exact le_line (by omega))]; rfl
  · rw [binD_addl, if_pos (by rw [List.length_map, List.length_cons, hfl]; split <;> (simp; exact le_line (by omega)))]
    unfold blockN
    rw [List.map_append]
    cases bt (c.getD k 0) 6 <;> rfl
end
end Mine

open PySem PySem.W PyProof.Rows
set_option Elab.async false
set_option linter.unusedVariables false
set_option linter.unusedSimpArgs false
set_option maxRecDepth 100000
namespace Mine
section
variable {F : Fr Φc (fun _ => Φ0) (dScope fLaw)} {c : List Int} {Δ : Ctx} {μ : MM} {K : Out → Ctx → MM → Prop}
theorem nums_walk (hc : c.length = 4) (h3 : 0 ≤ c.getD 3 0) (hb : Δ.lookup ("bool" : Str) = some (.ty "bool")) (hi : Δ.lookup ("int" : Str) = some (.ty "int")) (hcl : Δ.lookup ("cells" : Str) = some (.list (c.map .int)))
    (h : ∀ a Δ μ, LC c Δ → Δ.lookup ("numbers" : Str) = some (.ref a) → μ a = some (.lst ((numbersN c 3).map .int)) → R F (bLaw.drop 7) Δ μ K) : R F (bLaw.drop 1) Δ μ K := by
  refine R.assign 10 (d := .int c.sum) (by kernel_rfl) ((evD_call1 (evN hcl)).trans (lh_sum c)) ?_
  have hb := look_tl (x := "total") (d := .int c.sum) (by decide +kernel) hb
  have hi := look_tl (x := "total") (d := .int c.sum) (by decide +kernel) hi
  have hcl := look_tl (x := "total") (d := .int c.sum) (by decide +kernel) hcl
  have ht : ((("total" : Str), D.int c.sum) :: Δ).lookup ("total" : Str) = some (.int c.sum) := look_eq
  generalize ((("total" : Str), D.int c.sum) :: Δ) = Δ at *
  refine R.assign 10 (d := .list (tableL.map .str)) (by kernel_rfl) ((evD_meth eS eS).trans meth_split) ?_
  have hb := look_tl (x := "table") (d := .list (tableL.map .str)) (by decide +kernel) hb
  have hi := look_tl (x := "table") (d := .list (tableL.map .str)) (by decide +kernel) hi
  have hcl := look_tl (x := "table") (d := .list (tableL.map .str)) (by decide +kernel) hcl
  have ht := look_tl (x := "table") (d := .list (tableL.map .str)) (by decide +kernel) ht
  have hta : ((("table" : Str), D.list (tableL.map .str)) :: Δ).lookup ("table" : Str) = some (.list (tableL.map .str)) := look_eq
  generalize ((("table" : Str), D.list (tableL.map .str)) :: Δ) = Δ at *
  refine R.assign 14 (by kernel_rfl) (let_val hc h3 hcl) ?_
  have hb := look_tl (x := "letters") (d := natsD [letA c, letB c]) (by decide +kernel) hb
  have hi := look_tl (x := "letters") (d := natsD [letA c, letB c]) (by decide +kernel) hi
  have hcl := look_tl (x := "letters") (d := natsD [letA c, letB c]) (by decide +kernel) hcl
  have ht := look_tl (x := "letters") (d := natsD [letA c, letB c]) (by decide +kernel) ht
  have hta := look_tl (x := "letters") (d := natsD [letA c, letB c]) (by decide +kernel) hta
  have hl : ((("letters" : Str), natsD [letA c, letB c]) :: Δ).lookup ("letters" : Str) = some (natsD [letA c, letB c]) := look_eq
  generalize ((("letters" : Str), natsD [letA c, letB c]) :: Δ) = Δ at *
  refine R.assign 14 (by kernel_rfl) (code_val ht) ?_
  have S : LC c ((("codes" : Str), .list ((codesN c).map .int)) :: Δ) := ⟨look_tl (by decide +kernel) hb, look_tl (by decide +kernel) hi, look_tl (by decide +kernel) hcl, look_tl (by decide +kernel) ht, look_tl (by decide +kernel) hta, look_tl (by decide +kernel) hl, look_eq⟩
  generalize ((("codes" : Str), D.list ((codesN c).map .int)) :: Δ) = Δ at *
  refine R.new 5 (by kernel_rfl) (EvNew.display .nil (by decide)) fun a ha => ?_
  have S := S.cons (y := "numbers") (d := .ref a) (by decide +kernel)
  refine R.forN 5 3 (fun k Δ μ => LC c Δ ∧ Δ.lookup ("numbers" : Str) = some (.ref a) ∧ μ a = some (.lst ((numbersN c k).map .int))) (by kernel_rfl) eI (by decide) ⟨S, look_eq, MM.set_self ..⟩ (fun k Δ μ P hk hI hP => ?_) fun Δ μ hI => h a Δ μ hI.1 hI.2.1 hI.2.2
  exact num_one hc hk hI.1 hI.2.1 hI.2.2 fun Δ μ S hn hμ => hP Δ μ ⟨S, hn, hμ⟩
end

theorem Ev.compT {W : Wd} {A : Around} {env : Env} {Δ : Ctx} {μ : MM} {y y' : Str} {p py py' tp : Pos} {tk : Nat} {elt iter : Expr} {scope : Scope} {xs : List (D × D)} {o : Nat → D} (hh : A.handled = none)
    (ok : ScopeOk scope env) (hy : OwnName scope y) (hy' : OwnName scope y') (hset : notSet iter = true) (hsz : xs.length ≤ sizeLine) (hit : IterEvT W A env Δ μ iter xs)
    (body : ∀ cenv, In W env scope cenv → ∀ i d, xs[i]? = some d → Ev W A cenv ((y', d.2) :: (y, d.1) :: freeCtx scope Δ) μ elt (o i)) :
    Ev W A env Δ μ (.ListComp elt [⟨.Tuple [.Name y py, .Name y' py'] tk tp, iter, [], 0⟩] scope p) (.list ((List.range xs.length).map o)) := fun F s E S => by
  have run := run1T (p := p) (px := py) (px' := py') (tp := tp) (tk := tk) (iter := iter) hh ok hy hy' hsz body
  generalize (List.range xs.length).map o = out at run
  have hown : ∀ z ∈ [y, y'], OwnName scope z := fun z hz => by simp at hz; rcases hz with rfl | rfl <;> assumption
  rw [eval_ListComp]
  refine comp_allT (use := none) ok hown hset rfl hit run S fun F' s' Acc C M => ?_
  obtain ⟨m, hn⟩ := M.ns
  refine ⟨m, hn, fun h' hs' => ?_⟩
  obtain ⟨vs, n, hget, hrel⟩ := M.rel
  have hin : ∀ b o, F' b = some o → h'.get? b = some o := fun b o e => (hs'.2 b (fun e' => by rw [e', M.locF] at e; cases e)).trans (M.ext.inn b o e)
  have x : Ext F s F' { s' with heap := h' } := by
    refine ⟨?_, M.ext.sub, hin, M.ext.new⟩
    obtain ⟨h₀, tk, e, hk⟩ := M.ext.keeps
    subst e
    exact ⟨h', tk, rfl, fun b o e => (hs'.2 b (fun e' => by rw [e', M.locN] at e; cases e)).trans (hk b o e)⟩
  have hg : h'.get? Acc = some (lobj vs n) := (hs'.2 Acc M.ne).trans hget
  have x2 := x.addNew (a := Acc) hg M.accN M.accF
  exact ⟨_, x2, by rw [RelV]; exact ⟨Acc, vs, n, rfl, FM.add_self .., hrel.mono (FM.add_sub M.accF)⟩⟩
theorem partC {Φ Ψ : Str → List D → Option D} {μ : MM} {Δ : Ctx} {n : Nat} {i : Int} {a : Nat} {p : Pos} : partI (fun e => evD Φ Ψ μ (n + 1) e Δ) (some (.Constant (.int i) a p)) = some (some i) := rfl

section
variable {W : Wd} {A : Around} {env : Env} {K : Out → Ctx → MM → Prop} {k : Nat}
theorem Cx.inner {μ : MM} {Φ Ψ : Str → List D → Option D} {sc scope : Scope} {Δ : Ctx} (C : Cx W A env μ Φ Ψ k sc) (n : Nat) {e : Expr} {d : D} (ok : okE n (innerN scope sc.names) e = true) (h : evD Φ Ψ μ n e Δ = some d) {cenv : Env} (hin : In W env scope cenv) :
    Ev W A cenv Δ μ e d := (sound C.ok C.good C.tab n).1 e Δ d cenv hin.eok (by rw [show cenv.scope.names = innerN scope sc.names by rw [hin.sc, ← C.sc]; exact innerN_eq C.eok.kind]; exact ok) h
theorem cell_val {μ : MM} (script : List Int) (h63 : script.length ≤ 63) {i : Nat} {Γ : Ctx} (hf : Γ.lookup ("first" : Str) = some (.int (firsts.getD i 0))) (hk : Γ.lookup ("k" : Str) = some (.int (i : Nat))) (hs : Γ.lookup ("script" : Str) = some (.list (script.map .int)))
    : evD (Φc μ) Φ0 μ 12 (eltE (eLaw 0)) Γ = some (.int (cellAt script i)) := by
  have hp := pickL_step_len script i
  have hl : (pickL script (some (i : Int)) (some 60) (some 4)).length ≤ 1000000 := Nat.le_trans hp (Nat.le_trans h63 (by decide))
  have hs' : sliceD μ (.list (script.map .int)) (some (i : Int)) (some 60) (some 4) = some (.list ((pickL script (some (i : Int)) (some 60) (some 4)).map .int)) := by
    unfold sliceD
    simp only [asList]
    rw [if_pos ⟨by simp, by rw [List.length_map]; exact le_line (Nat.le_trans h63 (by decide))⟩, pickL_map]
  refine (evD_bin (evN hf) ((evD_call1 (a := .list (((pickL script (some (i : Int)) (some 60) (some 4)).map (· % 1000000)).map .int)) ?_).trans (lh_sum _))).trans b_add
  rw [List.map_map]
  refine evD_comp (g := .int) (itD_of (d := .list ((pickL script (some (i : Int)) (some 60) (some 4)).map .int)) ?_ rfl (by intro _ _ _ _ h; cases h)) (fun y _ => ?_) (le_line hl)
  · exact (evD_slice (evN hs) (by simp only [partI, eN, hk]) partC partC).trans hs'
  · exact (evD_bin (evN look_eq) eI).trans (b_mod (by decide))

theorem law_head (T : Tp W) (he : GlobVal W "enumerate" (.type "enumerate")) (C : ∀ μ, Cx W A env μ (Φc μ) Φ0 k (dScope fLaw)) (script : List Int) (h63 : script.length ≤ 63)
    (h : ∀ c a Δ μ, c.length = 4 → LC c Δ → Δ.lookup ("numbers" : Str) = some (.ref a) → μ a = some (.lst ((numbersN c 3).map .int)) → Wp W A [] env (bLaw.drop 7) Δ μ K) :
    Wp W A [] env bLaw [("script", .list (script.map .int))] (fun _ => none) K := by
  have hk : ∀ {x : Str} {kd : NameKind}, (dScope fLaw).names.lookup x = some kd → env.kindOf x = some kd := (C fun _ => none).kind
  have hle := line_big
  refine Wp.addGlobal (hk (by kernel_rfl)) T.b.bool (d := .ty "bool") (fun F => by rw [RelV]) ?_
  refine Wp.addGlobal (hk (by kernel_rfl)) T.b.int (d := .ty "int") (fun F => by rw [RelV]) ?_
  have hi : ([("int", .ty "int"), ("bool", .ty "bool"), ("script", .list (script.map .int))] : Ctx).lookup ("int" : Str) = some (.ty "int") := look_eq
  have hb : ([("int", .ty "int"), ("bool", .ty "bool"), ("script", .list (script.map .int))] : Ctx).lookup ("bool" : Str) = some (.ty "bool") := look_tl (by decide +kernel) look_eq
  have hs : ([("int", .ty "int"), ("bool", .ty "bool"), ("script", .list (script.map .int))] : Ctx).lookup ("script" : Str) = some (.list (script.map .int)) := look_tl (by decide +kernel) (look_tl (by decide +kernel) look_eq)
  generalize ([("int", .ty "int"), ("bool", .ty "bool"), ("script", .list (script.map .int))] : Ctx) = Δ at *
  -- cells
  refine Wp.cons (Wp1.assign (d := .list ((List.range (enumL (firsts.map D.int)).length).map fun i => D.int (cellAt script i))) ((C fun _ => none).swap (by kernel_rfl)) (.inr (hk (by kernel_rfl))) (Ev.compT (xs := enumL (firsts.map .int)) (o := fun i => .int (cellAt script i)) (C fun _ => none).good.handled (scopeOk_of (by rw [(C fun _ => none).sc]; kernel_rfl)) (own_of (by kernel_rfl)) (own_of (by kernel_rfl)) rfl
    (by simp [enumL, firsts]; omega) (IterEvT.enumerate T.b.ok (C fun _ => none).good.handled he (hk (by kernel_rfl)) rfl ((C _).ev 10 (by kernel_rfl) (sized_le (ds := firsts.map D.int) (by simp [firsts])))) (fun cenv hin i d hd => ?_)) ?_)
  · have hi : i < 4 := by
      have := (List.getElem?_eq_some_iff.mp hd).1
      simpa [enumL, firsts] using this
    have hd' : d = (.int (i : Int), .int (firsts.getD i 0)) := by
      have e9 : firsts.length = 4 := rfl
      simp [enumL, e9, hi] at hd
      rw [← hd, List.getD_eq_getElem?_getD]
      have : i < firsts.length := by omega
      simp [this]
    subst hd'
    exact (C fun _ => none).inner 12 (by kernel_rfl) (cell_val script h63 look_eq (look_tl (by decide +kernel) look_eq) (look_tl (by decide +kernel) (look_tl (by decide +kernel) (free_look (by kernel_rfl) hs)))) hin
  have hcs : (List.range (enumL (firsts.map D.int)).length).map (fun i => D.int (cellAt script i)) = ((List.range 4).map (cellAt script)).map D.int := by
    have e9 : (enumL (firsts.map D.int)).length = 4 := by simp [enumL, firsts]
    rw [e9, List.map_map]; rfl
  rw [hcs]
  have h3 : 0 ≤ ((List.range 4).map (cellAt script)).getD 3 0 := (cellAt_bound script h63 3).1
  have h4 : ((List.range 4).map (cellAt script)).length = 4 := by simp
  generalize (List.range 4).map (cellAt script) = cs at h3 h4
  exact nums_walk (F := ⟨W, A, [], env, k, C⟩) h4 h3 (look_tl (by decide +kernel) hb) (look_tl (by decide +kernel) hi) look_eq fun a Δ μ S hn hμ => h cs a Δ μ h4 S hn hμ
end
end Mine

open PySem PySem.W PyProof.Rows
set_option Elab.async false
set_option linter.unusedVariables false
set_option linter.unusedSimpArgs false
set_option maxRecDepth 100000
namespace Mine
abbrev bKind : List Stmt := forB (sAt bLaw 9)
def testE : Stmt → Expr
  | .If t _ _ _ => t
  | _ => .Constant .none 0 ⟨0, 0, 0, 0⟩
def kindsV (x : Int) : D := .list ([decide (x < 256), decide (256 ≤ x), x == 0].map fun b => .list [.bool b, .bool (!b)])

section
variable {μ : MM} {Δ : Ctx} {x : Int}
theorem sized2 {a b : D} : sized [a, b] = some (.list [a, b]) := sized_le (by simp)
theorem sized3 {a b c : D} : sized [a, b, c] = some (.list [a, b, c]) := sized_le (by simp)
theorem mk_kinds (hx : Δ.lookup ("number" : Str) = some (.int x)) : evD (Φc μ) Φ0 μ 13 (valE (sAt bKind 0)) Δ = some (kindsV x) := by
  have hle := line_big
  refine evD_comp (g := .bool) (itD_of (d := .list ([decide (x < 256), decide (256 ≤ x), x == 0].map .bool)) ?_ rfl (by intro _ _ _ _ h; cases h)) (fun b _ => ?_) (by simp; omega)
  · simp only [eL, eCall, eN, evs, hx, Φc_T, Φc_N, Φc_E, sized3, optS_s, List.map_cons, List.map_nil]
  · simp only [eL, eCmp, eN, eB, evs, look_eq, opt2_ss, cmpD, Option.map_some, sized2, optS_s]
    cases b <;> rfl
theorem mk_due (hx : Δ.lookup ("number" : Str) = some (.int x)) : evD (Φc μ) Φ0 μ 10 (valE (sAt bKind 1)) Δ = some (kindsV x) := by
  show evD (Φc μ) Φ0 μ 10 (.List [.List [.Compare (.Name "number" _) [.Lt] [.Constant (.int 256) 0 _] _, .Compare (.Name "number" _) [.Gt] [.Constant (.int 255) 0 _] _] _, .List [.Compare (.Name "number" _) [.Gt] [.Constant (.int 255) 0 _] _, .Compare (.Name "number" _) [.Lt] [.Constant (.int 256) 0 _] _] _, .List [.Compare (.Name "number" _) [.Eq] [.Constant (.int 0) 0 _] _, .Compare (.Name "number" _) [.NotEq] [.Constant (.int 0) 0 _] _] _] _) Δ = _
  have b1 : decide (255 < x) = decide (256 ≤ x) := by rw [decide_eq_decide]; omega
  have b2 : (!decide (x < 256)) = decide (256 ≤ x) := by rw [← decide_not, decide_eq_decide]; omega
  have b3 : (!decide (256 ≤ x)) = decide (x < 256) := by rw [← b2]; simp
  simp only [eL, eCmp, eN, eI, evs, hx, opt2_ss, cmpD, Option.map_some, sized2, sized3, optS_s, kindsV, List.map_cons, List.map_nil, b1, b2, b3]; rfl
theorem kinds_ne : cmpD μ .NotEq (kindsV x) (kindsV x) = some false := by
  have : ∀ b1 b2 b3 : Bool, eqD (D.list ([b1, b2, b3].map fun b => .list [.bool b, .bool (!b)])) (D.list ([b1, b2, b3].map fun b => .list [.bool b, .bool (!b)])) = some true := fun b1 b2 b3 => by
    refine eqD_refl (x := .list ([b1, b2, b3].map fun b => .list [.bool b, .bool (!b)])) rfl ?_
    cases b1 <;> cases b2 <;> cases b3 <;> rfl
  unfold kindsV
  simp only [cmpD, this]; rfl
theorem mk_test (hx : Δ.lookup ("number" : Str) = some (.int x)) (h1 : Δ.lookup ("kinds" : Str) = some (kindsV x)) (h2 : Δ.lookup ("due" : Str) = some (kindsV x)) (h3 : Δ.lookup ("bool" : Str) = some (.ty "bool")) (h4 : Δ.lookup ("int" : Str) = some (.ty "int")) :
    tstD (Φc μ) Φ0 μ 10 (testE (sAt bKind 2)) Δ = some false := by
  have hi : Φc μ "isinstance" [.int x, .ty "bool"] = some (.bool false) := by rw [Φc_b (by decide +kernel)]; exact Φb_bool
  have hi2 : Φc μ "isinstance" [.int x, .ty "int"] = some (.bool true) := by rw [Φc_b (by decide +kernel)]; exact Φb_int
  refine Eq.trans (b := tstAll .Or (fun e => tstD (Φc μ) Φ0 μ 9 e Δ) [_, _, _]) rfl ?_
  simp only [tstAll, tCmp, tCall, tNot, eN, eCall, evs, hx, h1, h2, h3, h4, opt2_ss, optS_s, kinds_ne, hi, hi2, Option.bind_some, Option.map_some, truthD]
  rfl


end
end Mine

open PySem PySem.W PyProof.Rows
set_option Elab.async false
set_option linter.unusedVariables false
set_option linter.unusedSimpArgs false
set_option maxRecDepth 100000
namespace Mine
/-- what the law's own calls need -/
structure Tl (W : Wd) : Prop where
  T : Tp W
  TT : TokOk W
  enum : GlobVal W "enumerate" (.type "enumerate")
  next : GlobVal W "next" (.builtin "next")
  iter : GlobVal W "iter" (.builtin "iter")
  stop : GlobVal W "StopIteration" (.type "StopIteration")
  read : FnAt W "_law_read" (dArgs fRead) (dBody fRead) (dScope fRead)
  words : FnAt W "_law_words" (dArgs fWords) (dBody fWords) (dScope fWords)
  gram : FnAt W "_law_grammar" (dArgs fGram) (dBody fGram) (dScope fGram)
  sets : FnAt W "_law_sets" (dArgs fSets) (dBody fSets) (dScope fSets)
  step : FnAt W "_law_step" (dArgs fStep) (dBody fStep) (dScope fStep)
  ends : FnAt W "_law_ends" (dArgs fEnds) (dBody fEnds) (dScope fEnds)
  least : FnAt W "_law_least" (dArgs fLeast) (dBody fLeast) (dScope fLeast)

section
variable {F : Fr Φc (fun _ => Φ0) (dScope fLaw)} {c : List Int} {x : Int} {td : D} {Δ : Ctx} {μ : MM} {K : Out → Ctx → MM → Prop}
theorem kind_one (S : LC c Δ) (ht : Δ.lookup ("told" : Str) = some td) (hk : ∀ Δ, LC c Δ → Δ.lookup ("told" : Str) = some td → K .next Δ μ) : R F bKind (("number", .int x) :: Δ) μ K := by
  have S := S.cons (y := "number") (d := .int x) (by decide +kernel)
  have ht : (("number", D.int x) :: Δ : Ctx).lookup ("told" : Str) = some td := look_tl (by decide +kernel) ht
  have hx : (("number", D.int x) :: Δ : Ctx).lookup ("number" : Str) = some (.int x) := look_eq
  generalize (("number", D.int x) :: Δ : Ctx) = Δ at *
  refine R.used 12 (by kernel_rfl) (mk_kinds hx) ?_
  have S := S.cons (y := "kinds") (d := kindsV x) (by decide +kernel)
  have ht : (("kinds", kindsV x) :: Δ : Ctx).lookup ("told" : Str) = some td := look_tl (by decide +kernel) ht
  have hx : (("kinds", kindsV x) :: Δ : Ctx).lookup ("number" : Str) = some (.int x) := look_tl (by decide +kernel) hx
  have h1 : (("kinds", kindsV x) :: Δ : Ctx).lookup ("kinds" : Str) = some (kindsV x) := look_eq
  generalize (("kinds", kindsV x) :: Δ : Ctx) = Δ at *
  refine R.assign 10 (by kernel_rfl) (mk_due hx) ?_
  have S := S.cons (y := "due") (d := kindsV x) (by decide +kernel)
  exact R.if_ 10 (b := false) (by kernel_rfl) (mk_test (look_tl (by decide +kernel) hx) (look_tl (by decide +kernel) h1) look_eq S.lbool S.lint) (fun e => nomatch e) fun _ => R.nil (hk _ S (look_tl (by decide +kernel) ht))
theorem kind_all {nums : List Int} (hn : nums.length ≤ 1000) (S : LC c Δ) (htold : Δ.lookup ("told" : Str) = some (.list (nums.map .int))) (h : ∀ Δ, LC c Δ → Δ.lookup ("told" : Str) = some (.list (nums.map .int)) → R F (bLaw.drop 10) Δ μ K) : R F (bLaw.drop 9) Δ μ K := by
  refine R.for_ (xs := (nums ++ nums.map fun x => -x).map .int) (fun i Δ μ' => LC c Δ ∧ Δ.lookup ("told" : Str) = some (.list (nums.map .int)) ∧ μ' = μ) (by kernel_rfl) ((F.cx _).iterE 12 (by kernel_rfl) ?_) ⟨S, htold, rfl⟩ (fun i d Δ μ P hd hI hP => ?_) fun Δ μ hI => ?_
  · refine (evD_bin (a := .list (nums.map .int)) (b := .list ((nums.map fun x => -x).map .int)) (evN htold) ?_).trans ?_
    · rw [List.map_map]
      refine evD_comp (g := .int) (itD_of (d := .list (nums.map .int)) (evN htold) rfl (by intro _ _ _ _ h; cases h)) (fun y _ => ?_) (le_line (Nat.le_trans hn (by decide)))
      rw [eNeg, eN, look_eq]; rfl
    · rw [binD_addl, if_pos (by simp; exact le_line (by omega)), List.map_append]
  · obtain ⟨S, htold, rfl⟩ := hI
    obtain ⟨_, rfl⟩ := mem_mapD hd
    exact kind_one S htold fun Δ S ht => hP _ _ ⟨S, ht, rfl⟩
  · obtain ⟨S, htold, rfl⟩ := hI
    exact h _ S htold
end

section
variable {W : Wd} {A : Around} {env : Env} {K : Out → Ctx → MM → Prop} {k : Nat}
theorem law_mid (L : Tl W) (hA : GoodA A (k + 2)) (hE : EnvOk env) (hsc : env.scope = dScope fLaw) (hfr : A.frames = some [env]) (henv : env.frame = some env.locals) {c : List Int} {a : Addr} {Δ : Ctx} {μ : MM}
    (S : LC c Δ) (hnum : Δ.lookup ("numbers" : Str) = some (.ref a)) (hμ : μ a = some (.lst ((numbersN c 3).map .int)))
    (h : ∀ Δ μ, LC c Δ → Δ.lookup ("told" : Str) = some (.list ((numbersN c 3).map .int)) → Wp W A [] env (bLaw.drop 10) Δ μ K) : Wp W A [] env (bLaw.drop 7) Δ μ K := by
  have C : ∀ μ, Cx W A env μ (Φc μ) Φ0 (k + 2) (dScope fLaw) := fun μ => ⟨L.T.b.ok, hA, tabC L.T (k + 1) μ, hE, hsc⟩
  have hk : ∀ {x : Str} {kd : NameKind}, (dScope fLaw).names.lookup x = some kd → env.kindOf x = some kd := (C fun _ => none).kind
  have hout : ∀ e ∈ ([] : List Env), e.scope.kind ≠ .module ∧ ∃ L ∈ ([] : List Addr), e.frame = some L := fun e he => by cases he
  have hb := numbers_rng c
  have hl : (numbersN c 3).length ≤ 1000 := Nat.le_trans (numbers_len' c 3) (by decide)
  refine Wp.freeze hnum hμ ?_
  have S := S.cons (y := "numbers") (d := .list ((numbersN c 3).map .int)) (by decide +kernel)
  have hnum : (("numbers", D.list ((numbersN c 3).map .int)) :: Δ : Ctx).lookup ("numbers" : Str) = some (.list ((numbersN c 3).map .int)) := look_eq
  generalize (("numbers", D.list ((numbersN c 3).map .int)) :: Δ : Ctx) = Δ at *
  generalize (fun b => if b = a then none else μ b : MM) = μ at *
  generalize numbersN c 3 = ns at *
  refine Wp.cons (Wp1.assignCallS (outer := []) (d := .list (ns.map .int)) L.T.b.ok hA hfr henv hout (ok_read L.T L.next L.iter L.stop L.read k ns hl hb) (hk (by kernel_rfl)) (by decide +kernel) (.inl (hk (by kernel_rfl))) ((C _).evs 10 (by kernel_rfl) (by simp only [evs]; rw [evN hnum])) (by simp) ?_)
  have S := S.cons (y := "told") (d := .list (ns.map .int)) (by decide +kernel)
  have htold : (("told", D.list (ns.map .int)) :: Δ : Ctx).lookup ("told" : Str) = some (.list (ns.map .int)) := look_eq
  have hnum : (("told", D.list (ns.map .int)) :: Δ : Ctx).lookup ("numbers" : Str) = some (.list (ns.map .int)) := look_tl (by decide +kernel) hnum
  generalize (("told", D.list (ns.map .int)) :: Δ : Ctx) = Δ at *
  refine Wp.cons (Wp1.if_ (b := false) ((C _).tst 5 (by kernel_rfl) ((tstD_cmp (evN htold) (evN hnum)).trans ?_)) (by intro e; cases e) fun _ => Wp.nil ?_)
  · simp only [cmpD]
    rw [eqD_ints]; simp
  exact kind_all (F := ⟨W, A, [], env, k + 2, C⟩) hl S htold fun Δ S ht => h Δ _ S ht
end
end Mine

open PySem PySem.W PyProof.Rows
set_option Elab.async false
set_option linter.unusedVariables false
set_option linter.unusedSimpArgs false
set_option maxRecDepth 100000
namespace Mine
/-! the calls of the law's end -/
abbrev cM (c : List Int) : Nat → Int := cAt c
def alN (c : List Int) : List Nat := moore (least (cM c)).1.length (least (cM c)).2 8 (al0 (cM c) (least (cM c)).1)
def leastV (c : List Int) : D := leastD (least (cM c)).1 (least (cM c)).2 (alN c)
def gramV (c : List Int) : D := .list [.list ((rows0 (cM c)).map rowD), natsD (setOf (fin0 (cM c)))]
abbrev Cs (i : List Row × List Nat) : Prop := isSet i.2 ∧ (∀ r ∈ i.1, r.1 < 8) ∧ i.1.length ≤ 1000
abbrev Ce (i : Int × List Nat) : Prop := (∀ e ∈ i.2, e ≤ 2) ∧ i.2.length ≤ 1000
noncomputable def Φl (c : List Int) (μ : MM) : Str → List D → Option D :=
  Φone "_law_least" [.list (c.map .int)] (leastV c) (Φone "_law_grammar" [.list ((numbersN c 3).map .int), .list ((kindsN c).map .int)] (gramV c)
    (Φfam "_law_sets" Cs (fun i => [.list (i.1.map rowD), natsD i.2, .int (lowN c : Nat)]) (fun i => setsD (lowN c) (bfs (stepS i.1) i.2))
      (Φfam "_law_ends" Ce (fun i => [.int i.1, natsD i.2, .list (c.map .int)]) (fun i => .int (endsM (cM c) i.1 i.2)) (Φfam "_law_words" Cw (fun ks => [natsD ks]) (fun ks => .str (wordsT ks)) (Φc μ)))))
theorem rowD_inj {a b : List Row} (h : a.map rowD = b.map rowD) : a = b := List.map_inj_right (fun x y e => by
  obtain ⟨x1, x2, x3⟩ := x
  obtain ⟨y1, y2, y3⟩ := y
  have := natsD_inj e
  simp only [List.cons.injEq, and_true] at this
  obtain ⟨rfl, rfl, rfl⟩ := this
  rfl) |>.mp h
section
variable {c : List Int} {μ : MM}
theorem Φl_least : Φl c μ "_law_least" [.list (c.map .int)] = some (leastV c) := Φone_self
theorem Φl_gram : Φl c μ "_law_grammar" [.list ((numbersN c 3).map .int), .list ((kindsN c).map .int)] = some (gramV c) := (Φone_ne (by decide +kernel)).trans Φone_self
theorem Φl_sets {rows : List Row} {S : List Nat} (h : Cs (rows, S)) : Φl c μ "_law_sets" [.list (rows.map rowD), natsD S, .int (lowN c : Nat)] = some (setsD (lowN c) (bfs (stepS rows) S)) :=
  (Φone_ne (by decide +kernel)).trans ((Φone_ne (by decide +kernel)).trans (Φfam_at (args := fun i : List Row × List Nat => [.list (i.1.map rowD), natsD i.2, .int (lowN c : Nat)]) (i := (rows, S)) h fun j _ e => by
    obtain ⟨r', S'⟩ := j
    injection e with e1 e2
    injection e2 with e2 _
    injection e1 with e1
    simp only at e1 e2 ⊢
    rw [rowD_inj e1, natsD_inj e2]))
theorem Φl_ends {m : Int} {r : List Nat} (h : Ce (m, r)) : Φl c μ "_law_ends" [.int m, natsD r, .list (c.map .int)] = some (.int (endsM (cM c) m r)) :=
  (Φone_ne (by decide +kernel)).trans ((Φone_ne (by decide +kernel)).trans ((Φfam_ne (by decide +kernel)).trans (Φfam_at (args := fun i : Int × List Nat => [.int i.1, natsD i.2, .list (c.map .int)]) (i := (m, r)) h fun j _ e => by
    obtain ⟨m', r'⟩ := j
    injection e with e1 e2
    injection e2 with e2 _
    injection e1 with e1
    simp only at e1 e2 ⊢
    rw [e1, natsD_inj e2])))
theorem Φl_words {ks : List Nat} (h : Cw ks) : Φl c μ "_law_words" [natsD ks] = some (.str (wordsT ks)) :=
  (Φone_ne (by decide +kernel)).trans ((Φone_ne (by decide +kernel)).trans ((Φfam_ne (by decide +kernel)).trans ((Φfam_ne (by decide +kernel)).trans (Φfam_at (args := fun ks => [natsD ks]) h fun j _ e => by rw [natsD_inj (List.cons.inj e).1]))))
theorem Φl_c {f : Str} {ds : List D} (h1 : f ≠ "_law_least") (h2 : f ≠ "_law_grammar") (h3 : f ≠ "_law_sets") (h4 : f ≠ "_law_ends") (h5 : f ≠ "_law_words") : Φl c μ f ds = Φc μ f ds :=
  (Φone_ne h1).trans ((Φone_ne h2).trans ((Φfam_ne h3).trans ((Φfam_ne h4).trans (Φfam_ne h5))))
theorem Φl_len {d : D} : Φl c μ "len" [d] = Φb μ "len" [d] := (Φl_c (by decide +kernel) (by decide +kernel) (by decide +kernel) (by decide +kernel) (by decide +kernel)).trans (Φc_b (by decide +kernel))
end

/-- what the law asks of its two machines -/
theorem law_facts (c : List Int) : (∀ k ∈ fstF (least (cM c)).1.length (alN c), ∀ e < 2, (alN c).getD ((least (cM c)).2.getD (2 * k + e) 0) 0 ∈ fstF (least (cM c)).1.length (alN c)) ∧
    bfs (stepS (rowsT (once (cM c)).2)) (phiL (once (cM c)).1 1) = (((fstF (least (cM c)).1.length (alN c)).map ((least (cM c)).1.getD · 0)).map (phiL (once (cM c)).1), (fstF (least (cM c)).1.length (alN c)).flatMap fun k => (List.range 2).map fun e => (fstF (least (cM c)).1.length (alN c)).idxOf ((alN c).getD ((least (cM c)).2.getD (2 * k + e) 0) 0)) := by
  obtain ⟨o1, o2, o3⟩ := once_bf (cM c)
  obtain ⟨l1, l2, l3⟩ := least_bf (cM c)
  have ol := once_len (cM c)
  exact law_eq (d := []) o1 o2 o3 ol l1 l2 rfl rfl

section
variable {W : Wd}
theorem tabL (L : Tl W) (k : Nat) (μ : MM) {c : List Int} (hc : c.length = 4) : TabOk W (k + 2) μ (Φl c μ) Φ0 := by
  obtain ⟨l1, l2, l3⟩ := least_bf (cM c)
  obtain ⟨t1, t2⟩ := l1.tab (d := 0) l2
  have hg := gram_rows c
  refine tabOne (tabOne (tabFam (tabFam (tabFam (tabC L.T (k + 1) μ) fun ks h => ok_words L.T L.words (k + 1) μ ks h.1 h.2) fun i h => ok_ends L.T L.step L.ends k μ c hc i.1 i.2 h.1 h.2) fun i h => ?_) ?_) ?_
  · obtain ⟨rows, S⟩ := i
    obtain ⟨⟨P, rfl⟩, h2, h3⟩ := h
    exact ok_sets L.T L.words L.sets k μ (lowN c) rows P (low_le c) h2 h3
  · have := ok_grammar L.T L.gram k μ (numbersN c 3) (kindsN c) (Nat.le_trans (numbers_len' c 3) (by decide)) (by simp [kindsN]) (numbers_head c) (gramN c) (gram_eq c) (gram_in c).1 (gram_in c).2
    rw [hg] at this
    exact this
  · exact ok_least L.T L.step L.least k μ c hc (least (cM c)) rfl t1 (l1.tab_lt l2) (alN c) rfl (law_facts c).1
end
end Mine

open PySem PySem.W PyProof.Rows
set_option Elab.async false
set_option linter.unusedVariables false
set_option linter.unusedSimpArgs false
set_option maxRecDepth 100000
namespace Mine
theorem tok_look' {l : Nat} (hl : l < 48) : PySem.Spec.lookup (.str (tableL.getD l "")) tokD = some (.int (7 + (l : Nat))) := by
  have h := tok_table l hl
  unfold tok at h
  cases e : PySem.Spec.lookup (.str (tableL.getD l "")) tokD with
  | none => rw [e] at h; simp only at h; omega
  | some d =>
    obtain ⟨y, rfl, _⟩ := tok_look _ tokD_rng _ d e
    rw [e] at h; simp only at h; rw [h]

/-- what stands in the law's end -/
structure LT (c : List Int) (L : List (List Nat)) (T : List Nat) (Δ : Ctx) : Prop where
  cells : Δ.lookup ("cells" : Str) = some (.list (c.map .int))
  low : Δ.lookup ("low" : Str) = some (.int (lowN c : Nat))
  head : Δ.lookup ("head" : Str) = some (.str (nm (lowN c)))
  once : Δ.lookup ("once" : Str) = some (setsD (lowN c) (L, T))
abbrev nLT : List Str := ["cells", "low", "head", "once"]
theorem LT.cons {c : List Int} {L : List (List Nat)} {T : List Nat} {Δ : Ctx} (S : LT c L T Δ) {y : Str} {d : D} (h : offN nLT y = true) : LT c L T ((y, d) :: Δ) :=
  ⟨look_off h (by decide +kernel) S.cells, look_off h (by decide +kernel) S.low, look_off h (by decide +kernel) S.head, look_off h (by decide +kernel) S.once⟩

theorem cs0 (c : List Int) : Cs (rows0 (cM c), setOf (fin0 (cM c))) := by
  refine ⟨⟨_, rfl⟩, fun r hr => ?_, ?_⟩
  · obtain ⟨t, e, p⟩ := r
    have := mem_rows0.mp hr
    show t < 8; omega
  · have : ∀ l : List Nat, (l.flatMap fun k => ((List.range 6).filter (bt (cM c k))).map fun b => ((b % 3, b / 3, k) : Row)).length ≤ 6 * l.length := by
      intro l
      induction l with
      | nil => exact Nat.le_refl _
      | cons k l ih =>
        rw [List.flatMap_cons, List.length_append, List.length_map, List.length_cons]
        have := List.length_filter_le (bt (cM c k)) (List.range 6)
        simp at this ⊢
        simp at ih
        omega
    have := this (List.range 3)
    simp only [List.length_range] at this
    unfold rows0
    exact Nat.le_trans this (by decide)
theorem once_eq {c : Nat → Int} : bfs (stepS (rows0 c)) (setOf (fin0 c)) = once c := by unfold once; exact Eq.refl _
theorem Φl_once {c : List Int} {μ : MM} : Φl c μ "_law_sets" [.list ((rows0 (cM c)).map rowD), natsD (setOf (fin0 (cM c))), .int (lowN c : Nat)] = some (setsD (lowN c) ((once (cM c)).1, (once (cM c)).2)) := by
  rw [Φl_sets (cs0 c), once_eq]

section
variable {c : List Int} {F : Fr (Φl c) (fun _ => Φ0) (dScope fLaw)} {Δ : Ctx} {μ : MM} {K : Out → Ctx → MM → Prop}
theorem tail_once (TT : TokOk F.W) (S : LC c Δ) (ht : Δ.lookup ("told" : Str) = some (.list ((numbersN c 3).map .int)))
    (h : ∀ Δ, LT c (once (cM c)).1 (once (cM c)).2 Δ → R F (bLaw.drop 14) Δ μ K) : R F (bLaw.drop 10) Δ μ K := by
  have elow : (lowN c : Int) = (c.sum + 2) % 25 := (mod_nat (by decide)).symm
  refine R.assign 8 (d := .int (lowN c : Nat)) (by kernel_rfl) (by rw [elow]; exact (evD_bin ((evD_bin (evN S.total) eI).trans b_add) eI).trans (b_mod (by decide))) ?_
  have S := S.cons (y := "low") (d := .int (lowN c : Nat)) (by decide +kernel)
  have ht := look_tl (x := "low") (d := .int (lowN c : Nat)) (by decide +kernel) ht
  have hl : ((("low" : Str), D.int (lowN c : Nat)) :: Δ).lookup ("low" : Str) = some (.int (lowN c : Nat)) := look_eq
  generalize ((("low" : Str), D.int (lowN c : Nat)) :: Δ) = Δ at *
  have hlow := low_le c
  refine R.assign 8 (d := .str (nm (lowN c))) (by kernel_rfl) ((evD_call1 (evD_list1 (evN hl))).trans (Φl_words (ks := [lowN c]) ⟨fun k hk => by rw [List.mem_singleton.mp hk]; omega, by simp⟩)) ?_
  have S := S.cons (y := "head") (d := .str (nm (lowN c))) (by decide +kernel)
  have ht := look_tl (x := "head") (d := .str (nm (lowN c))) (by decide +kernel) ht
  have hl := look_tl (x := "head") (d := .str (nm (lowN c))) (by decide +kernel) hl
  have hh : ((("head" : Str), D.str (nm (lowN c))) :: Δ).lookup ("head" : Str) = some (.str (nm (lowN c))) := look_eq
  generalize ((("head" : Str), D.str (nm (lowN c))) :: Δ) = Δ at *
  refine R.assignEv (d := gramV c) (by kernel_rfl) ?_ ?_
  · have hlet := let_lt c
    refine Ev.call (F.cx μ).ok (F.cx μ).good ((F.cx μ).tab.fn _ _ _ Φl_gram) (EvL.cons rfl (Fr.ev 3 (by kernel_rfl) (evN ht)) (EvL.cons rfl ?_ .nil)) (by simp) ((F.cx μ).kind (by kernel_rfl)) (by decide +kernel)
    obtain ⟨a, hm, hT⟩ := TT.tab
    refine Fr.compEv 4 (l := [letA c, letB c]) (g := fun (l : Nat) => .int l) (h := fun l => .int (7 + (l : Nat))) (by kernel_rfl) (itD_of (d := natsD [letA c, letB c]) (evN S.letters) rfl (by intro _ _ _ _ h; cases h)) (le_line (by simp)) fun cenv hE hN l hl => ?_
    have hl48 : l < 48 := by
      rcases List.mem_cons.mp hl with rfl | hl
      · exact hlet.1
      · rw [List.mem_singleton.mp hl]; exact hlet.2
    refine Ev.tabItem (F.cx μ).ok hm hT (tok_look' hl48) ?_ ?_ ?_ ?_
    · exact Fr.evIn (F := F) 4 hE hN (by kernel_rfl) ((evD_idx (by intro _ _ _ _ h; cases h) (evN (look_tl (by decide +kernel) (free_look (by kernel_rfl) S.table))) (evN look_eq)).trans (idxD_list ((List.getElem?_map ..).trans (congrArg (Option.map D.str) (getD_of (l := tableL) (d := ("" : Str)) (by rw [tableL_len]; exact hl48)))) (by omega)))
    · exact look_of (by rw [hN]; kernel_rfl)
    · decide +kernel
    · intro _ _ _ _ h; cases h
  have hg : ((("grammar" : Str), gramV c) :: Δ).lookup ("grammar" : Str) = some (gramV c) := look_eq
  have S := S.cons (y := "grammar") (d := gramV c) (by decide +kernel)
  have hl := look_tl (x := "grammar") (d := gramV c) (by decide +kernel) hl
  have hh := look_tl (x := "grammar") (d := gramV c) (by decide +kernel) hh
  clear ht
  generalize ((("grammar" : Str), gramV c) :: Δ) = Δ at *
  refine R.assign 8 (d := setsD (lowN c) ((once (cM c)).1, (once (cM c)).2)) (by kernel_rfl) ((evD_call3 ((evD_idx (by intro _ _ _ _ h; cases h) (evN hg) eI).trans (idxD_list (i := 0) rfl (by decide))) ((evD_idx (by intro _ _ _ _ h; cases h) (evN hg) eI).trans (idxD_list (i := 1) rfl (by decide))) (evN hl)).trans Φl_once) ?_
  exact h _ ⟨look_tl (by decide +kernel) S.cells, look_tl (by decide +kernel) hl, look_tl (by decide +kernel) hh, look_eq⟩
end
end Mine

open PySem PySem.W PyProof.Rows
set_option Elab.async false
set_option linter.unusedVariables false
set_option linter.unusedSimpArgs false
set_option maxRecDepth 100000
namespace Mine
/-- what is known of the first machine -/
structure OF (c : List Int) (L : List (List Nat)) (T : List Nat) : Prop where
  hb : Bf (stepS (rows0 (cM c))) (setOf (fin0 (cM c))) L
  hT : T = (seqL (stepS (rows0 (cM c))) L).map (posL L)
  hs : ∀ S ∈ L, S ∈ sets8
  h8 : L.length ≤ 8
  hp : 0 < L.length
  tl : T.length = 2 * L.length
  tlt : ∀ j < T.length, T.getD j 0 < L.length
theorem of_once (c : List Int) : OF c (once (cM c)).1 (once (cM c)).2 := by
  obtain ⟨o1, o2, o3⟩ := once_bf (cM c)
  exact ⟨o1, o2, o3, once_len _, once_pos _, (o1.tab (d := []) o2).1, o1.tab_lt o2⟩
theorem sets8_isSet : ∀ {S : List Nat}, S ∈ sets8 → isSet S := fun {S} h => by
  refine ⟨fun k => decide (k ∈ S), ?_⟩
  have : ∀ S ∈ sets8, S = setOf fun k => decide (k ∈ S) := by decide
  exact this S h

section
variable {c : List Int} {F : Fr (Φl c) (fun _ => Φ0) (dScope fLaw)} {L : List (List Nat)} {T : List Nat} {Δ : Ctx} {μ : MM} {K : Out → Ctx → MM → Prop}
theorem once_at {Γ : Ctx} (h : Γ.lookup ("once" : Str) = some (setsD (lowN c) (L, T))) {n : Nat} {p1 p2 p3 : Pos} {z : Nat} : evD (Φl c μ) Φ0 μ (n + 2) (.Subscript (.Name "once" p1) (.Constant (.int 0) z p2) p3) Γ = some (.list (L.map fun S => .str (txt (lowN c) S))) ∧
    evD (Φl c μ) Φ0 μ (n + 2) (.Subscript (.Name "once" p1) (.Constant (.int 1) z p2) p3) Γ = some (natsD T) :=
  ⟨(evD_idx (by intro _ _ _ _ h; cases h) (evN h) eI).trans (idxD_list (i := 0) rfl (by decide)), (evD_idx (by intro _ _ _ _ h; cases h) (evN h) eI).trans (idxD_list (i := 1) rfl (by decide))⟩
theorem len_list {xs : List D} (h : xs.length ≤ 1000) : Φl c μ "len" [.list xs] = some (.int xs.length) := by rw [Φl_len]; exact Φb_len_list (le_line (Nat.le_trans h (by decide)))

theorem again_val (O : OF c L T) (S : LT c L T Δ) : evD (Φl c μ) Φ0 μ 14 (eLaw 14) Δ = some (.list ((rowsT T).map rowD)) := by
  have h8 := O.h8
  have tl := O.tl
  have hlen : Φl c μ "len" [natsD T] = some (.int T.length) := by
    unfold natsD; rw [len_list (by rw [List.length_map]; omega), List.length_map]
  unfold rowsT
  rw [List.map_map]
  refine evD_comp (l := List.range T.length) (g := fun (k : Nat) => .int k) (itD_range1 (m := T.length) ((evD_call1 (once_at S.once).2).trans hlen) (by omega)) (fun k hk => ?_) (le_line (by rw [List.length_range]; omega))
  have hk := List.mem_range.mp hk
  refine (evD_list3 ((evD_idx (by intro _ _ _ _ h; cases h) (once_at (look_tl (by decide +kernel) (free_look (by kernel_rfl) S.once))).2 (evN look_eq)).trans (idx_nats (getD_of (d := 0) hk) (by omega))) ((evD_bin (evN look_eq) eI).trans mod2) ((evD_bin (evN look_eq) eI).trans div2)).trans ?_
  rfl
theorem cw_set {S : List Nat} (h : isSet S) : Cw (S.map (lowN c + ·)) := ⟨txt_lt (low_le c) h, by
  obtain ⟨P, rfl⟩ := h
  rw [List.length_map]; exact Nat.le_trans (List.length_filter_le ..) (by simp)⟩
theorem range_set {n : Nat} (h8 : n ≤ 8) {f g : Nat → Bool} (hfg : ∀ k < n, f k = g k) : (List.range n).filter f = setOf fun k => decide (k < n) && g k := by
  obtain ⟨b, e⟩ := Nat.exists_eq_add_of_le h8
  unfold setOf
  rw [e, List.range_add, List.filter_append]
  have e2 : ((List.range b).map (n + ·)).filter (fun k => decide (k < n) && g k) = [] := by
    rw [List.filter_eq_nil_iff]
    intro k hk
    obtain ⟨j, _, rfl⟩ := List.mem_map.mp hk
    rw [decide_eq_false (Nat.not_lt.mpr (Nat.le_add_right n j))]; simp
  rw [e2, List.append_nil]
  exact List.filter_congr fun k hk => by
    have := List.mem_range.mp hk
    rw [hfg k this, decide_eq_true this, Bool.true_and]
theorem meets_one {S : List Nat} : meets 1 S = decide (0 ∈ S) := by
  have h : ∀ p, bt 1 p = true ↔ p = 0 := fun p => by
    have : bt ((2 : Int) ^ 0) p = true ↔ p = 0 := by
      rw [← bits_single (k := 0) (n := 8) (by decide), bt_bits]
      simp
      intro h; omega
    exact this
  rw [Bool.eq_iff_iff, meets_iff, decide_eq_true_eq]
  constructor
  · rintro ⟨t, ht, hb⟩; rw [(h t).mp hb] at ht; exact ht
  · exact fun h0 => ⟨0, h0, (h 0).mpr rfl⟩
theorem begin_val (O : OF c L T) (S : LT c L T Δ) {n : Nat} : evD (Φl c μ) Φ0 μ (n + 12) (match eLaw 15 with | .Call _ [_, e, _] _ _ => e | e => e) Δ = some (natsD (phiL L 1)) := by
  have h8 := O.h8
  have hlen : Φl c μ "len" [.list (L.map fun S => D.str (txt (lowN c) S))] = some (.int L.length) := by rw [len_list (by rw [List.length_map]; omega), List.length_map]
  have e : phiL L 1 = (List.range L.length).filter fun k => decide (0 ∈ L.getD k []) := (range_set h8 fun k _ => meets_one.symm).symm
  rw [e]
  unfold natsD
  refine evD_compIf (l := List.range L.length) (g := fun (k : Nat) => .int k) (f := fun k => decide (0 ∈ L.getD k [])) (itD_range1 (m := L.length) ((evD_call1 (once_at S.once).1).trans hlen) (by omega)) (fun k hk => ?_) (fun k hk _ => evN look_eq) (le_line (by rw [List.length_range]; omega))
  have hk := List.mem_range.mp hk
  have hset := sets8_isSet (O.hs _ (getD_mem (d := []) hk))
  have hx : idxD μ (.list (L.map fun S => D.str (txt (lowN c) S))) (k : Int) = some (.str (txt (lowN c) (L.getD k []))) := idxD_list (by rw [List.getElem?_map, getD_of (d := []) hk]; rfl) (by omega)
  refine (tstD_cmp (evN (look_tl (by decide +kernel) (free_look (by kernel_rfl) S.head))) ((evD_meth ((evD_idx (by intro _ _ _ _ h; cases h) (once_at (look_tl (by decide +kernel) (free_look (by kernel_rfl) S.once))).1 (evN look_eq)).trans hx) eS).trans (split_val (cw_set hset)))).trans ?_
  simp only [cmpD, asList, memD, strsOf_map, Option.map_some]
  exact congrArg some (decide_eq_decide.mpr (txt_mem (low_le c) hset (j := 0) (by decide)))
theorem csT (O : OF c L T) : Cs (rowsT T, phiL L 1) := by
  have h8 := O.h8
  have tl := O.tl
  refine ⟨⟨fun k => decide (k < L.length) && meets 1 (L.getD k []), rfl⟩, fun r hr => ?_, ?_⟩
  · unfold rowsT at hr
    obtain ⟨j, hj, rfl⟩ := List.mem_map.mp hr
    have := O.tlt j (List.mem_range.mp hj)
    show T.getD j 0 < 8; omega
  · show (rowsT T).length ≤ 1000
    unfold rowsT; rw [List.length_map, List.length_range]; omega

abbrev nLU : List Str := ["cells", "low", "head", "once", "again", "twice", "least"]
structure LU (c : List Int) (L : List (List Nat)) (T : List Nat) (tw : List (List Nat) × List Nat) (Δ : Ctx) : Prop where
  t : LT c L T Δ
  again : Δ.lookup ("again" : Str) = some (.list ((rowsT T).map rowD))
  twice : Δ.lookup ("twice" : Str) = some (setsD (lowN c) tw)
  least : Δ.lookup ("least" : Str) = some (leastV c)
theorem LU.cons {tw : List (List Nat) × List Nat} (S : LU c L T tw Δ) {y : Str} {d : D} (h : offN nLU y = true) : LU c L T tw ((y, d) :: Δ) :=
  ⟨S.t.cons (offN_sub (by decide +kernel) h), look_off h (by decide +kernel) S.again, look_off h (by decide +kernel) S.twice, look_off h (by decide +kernel) S.least⟩
theorem tail_twice (O : OF c L T) (S : LT c L T Δ) (tw : List (List Nat) × List Nat) (htw : bfs (stepS (rowsT T)) (phiL L 1) = tw) (h : ∀ Δ, LU c L T tw Δ → R F (bLaw.drop 17) Δ μ K) : R F (bLaw.drop 14) Δ μ K := by
  refine R.used 13 (by kernel_rfl) (again_val O S) ?_
  have S := S.cons (y := "again") (d := .list ((rowsT T).map rowD)) (by decide +kernel)
  have ha : ((("again" : Str), D.list ((rowsT T).map rowD)) :: Δ).lookup ("again" : Str) = some (.list ((rowsT T).map rowD)) := look_eq
  generalize ((("again" : Str), D.list ((rowsT T).map rowD)) :: Δ) = Δ at *
  refine R.assign 14 (d := setsD (lowN c) tw) (by kernel_rfl) ((evD_call3 (evN ha) (begin_val O S) (evN S.low)).trans ((Φl_sets (csT O)).trans (by rw [htw]))) ?_
  have S := S.cons (y := "twice") (d := setsD (lowN c) tw) (by decide +kernel)
  have ha := look_tl (x := "twice") (d := setsD (lowN c) tw) (by decide +kernel) ha
  have ht : ((("twice" : Str), setsD (lowN c) tw) :: Δ).lookup ("twice" : Str) = some (setsD (lowN c) tw) := look_eq
  generalize ((("twice" : Str), setsD (lowN c) tw) :: Δ) = Δ at *
  refine R.assign 8 (d := leastV c) (by kernel_rfl) ((evD_call1 (evN S.cells)).trans Φl_least) ?_
  exact h _ ⟨S.cons (by decide +kernel), look_tl (by decide +kernel) ha, look_tl (by decide +kernel) ht, look_eq⟩
end
end Mine

open PySem PySem.W PyProof.Rows
set_option Elab.async false
set_option linter.unusedVariables false
set_option linter.unusedSimpArgs false
set_option maxRecDepth 100000
namespace Mine
theorem filter_first {α : Type} {p : α → Bool} : ∀ {xs : List α} {j : Nat} {x : α}, xs[j]? = some x → p x = true → (∀ i, i < j → ∀ y, xs[i]? = some y → p y = false) → (xs.filter p)[0]? = some x
  | [], _, _, h, _, _ => by simp at h
  | y :: xs, 0, x, h, hp, _ => by
    simp at h; subst h
    rw [List.filter_cons, if_pos hp]; rfl
  | y :: xs, j + 1, x, h, hp, hn => by
    have hy := hn 0 (Nat.succ_pos j) y rfl
    rw [List.filter_cons, if_neg (by rw [hy]; decide)]
    exact filter_first (xs := xs) (j := j) (by simpa using h) hp fun i hi z hz => hn (i + 1) (Nat.succ_lt_succ hi) z (by simpa using hz)
theorem rows_first {T : List Nat} {k : Nat} (hk : k ∈ T) : ((rowsT T).filter fun r => r.1 == k)[0]? = some (k, T.idxOf k % 2, T.idxOf k / 2) := by
  obtain ⟨h1, h2, h3⟩ := idxOf_facts hk
  have hg : T.getD (T.idxOf k) 0 = k := by rw [List.getD_eq_getElem?_getD, h2]; rfl
  refine filter_first (j := T.idxOf k) ?_ (beq_self_eq_true k) fun i hi y hy => ?_
  · unfold rowsT; rw [List.getElem?_map, List.getElem?_range h1]; show some (T.getD (T.idxOf k) 0, T.idxOf k % 2, T.idxOf k / 2) = _; rw [hg]
  · unfold rowsT at hy
    rw [List.getElem?_map, List.getElem?_range (by omega)] at hy
    simp at hy
    subst hy
    have := h3 i hi (T.getD i 0) (getD_of (by omega))
    simpa using this

abbrev bRoad : List Stmt := forB (sAt bLaw 18)
section
variable {c : List Int} {F : Fr (Φl c) (fun _ => Φ0) (dScope fLaw)} {L : List (List Nat)} {T : List Nat} {tw : List (List Nat) × List Nat} {a : Addr} {Δ : Ctx} {μ : MM} {K : Out → Ctx → MM → Prop}
theorem row_get {r : Row} {i : Nat} {x : Nat} (h : [r.1, r.2.1, r.2.2][i]? = some x) : idxD μ (rowD r) (i : Int) = some (.int x) := idx_nats h (by
  have := (List.getElem?_eq_some_iff.mp h).1
  simp at this; omega)
theorem road_one (O : OF c L T) {i : Nat} (hi : 1 + i < L.length) (S : LU c L T tw Δ) (hr : Δ.lookup ("roads" : Str) = some (.ref a)) (hμ : μ a = some (.lst ((roadsTo T i).map natsD)))
    (hK : ∀ Δ μ, LU c L T tw Δ → Δ.lookup ("roads" : Str) = some (.ref a) → μ a = some (.lst ((roadsTo T (i + 1)).map natsD)) → K .next Δ μ) : R F bRoad (("k", .int ((1 + i : Nat) : Int)) :: Δ) μ K := by
  have S := S.cons (y := "k") (d := .int ((1 + i : Nat) : Int)) (by decide +kernel)
  have hr := look_tl (x := "k") (d := .int ((1 + i : Nat) : Int)) (by decide +kernel) hr
  have hk : ((("k" : Str), D.int ((1 + i : Nat) : Int)) :: Δ).lookup ("k" : Str) = some (.int ((1 + i : Nat) : Int)) := look_eq
  generalize ((("k" : Str), D.int ((1 + i : Nat) : Int)) :: Δ) = Δ at *
  have h8 := O.h8
  have tl := O.tl
  have e1 : 1 + i = i + 1 := Nat.add_comm ..
  obtain ⟨c1, c2, _⟩ := O.hb.came (k := i + 1) (d := []) O.hT (Nat.le_add_left 1 i) (by omega)
  rw [e1] at hk
  have hfirst := rows_first c1
  have hrl : (rowsT T).length ≤ 16 := by unfold rowsT; rw [List.length_map, List.length_range]; omega
  have hrd := roads_len T i
  refine R.assign 14 (d := rowD (i + 1, T.idxOf (i + 1) % 2, T.idxOf (i + 1) / 2)) (by kernel_rfl) ?_ ?_
  · refine (evD_idx (by intro _ _ _ _ h; cases h) (evD_compIf (l := rowsT T) (g := rowD) (f := fun r => r.1 == i + 1) (h := rowD) (itD_of (d := .list ((rowsT T).map rowD)) (evN S.again) rfl (by intro _ _ _ _ h; cases h)) (fun r _ => ?_) (fun r _ _ => evN look_eq) (le_line (by omega))) eI).trans (idxD_list (i := 0) (by rw [List.getElem?_map, hfirst]; rfl) (by decide))
    refine (tstD_cmp ((evD_idx (by intro _ _ _ _ h; cases h) (evN look_eq) eI).trans (row_get (i := 0) rfl)) (evN (look_tl (by decide +kernel) (free_look (by kernel_rfl) hk)))).trans (congrArg some ?_)
    cases h : r.1 == i + 1
    · rw [beq_eq_false_iff_ne] at h ⊢; exact fun e => h (Int.ofNat.inj e)
    · rw [beq_iff_eq] at h ⊢; rw [h]
  have S := S.cons (y := "came") (d := rowD (i + 1, T.idxOf (i + 1) % 2, T.idxOf (i + 1) / 2)) (by decide +kernel)
  have hr := look_tl (x := "came") (d := rowD (i + 1, T.idxOf (i + 1) % 2, T.idxOf (i + 1) / 2)) (by decide +kernel) hr
  have hc : ((("came" : Str), rowD (i + 1, T.idxOf (i + 1) % 2, T.idxOf (i + 1) / 2)) :: Δ).lookup ("came" : Str) = some (rowD (i + 1, T.idxOf (i + 1) % 2, T.idxOf (i + 1) / 2)) := look_eq
  generalize ((("came" : Str), rowD (i + 1, T.idxOf (i + 1) % 2, T.idxOf (i + 1) / 2)) :: Δ) = Δ at *
  have hget : idxD μ (.ref a) ((T.idxOf (i + 1) / 2 : Nat) : Int) = some (natsD ((roadsTo T i).getD (T.idxOf (i + 1) / 2) [])) := idxD_ref hμ (by rw [List.getElem?_map, getD_of (d := []) (by omega)]; rfl) (by omega)
  obtain ⟨g1, _, _⟩ := roads_get O.hb O.hT O.hs i (by omega) (T.idxOf (i + 1) / 2) (by omega)
  refine R.append 10 (a := a) (d := natsD ((T.idxOf (i + 1) % 2) :: (roadsTo T i).getD (T.idxOf (i + 1) / 2) [])) (by kernel_rfl) (evN hr) hμ ?_ (by rw [List.length_map, hrd]; exact le_line (by omega)) (R.nil (hK _ _ S hr (by rw [MM.set_self, roads_succ, List.map_append]; rfl)))
  refine (evD_bin (evD_list1 ((evD_idx (by intro _ _ _ _ h; cases h) (evN hc) eI).trans (row_get (i := 1) rfl))) ((evD_idx (by intro _ _ _ _ h; cases h) (evN hr) ((evD_idx (by intro _ _ _ _ h; cases h) (evN hc) eI).trans (row_get (i := 2) rfl))).trans hget)).trans ?_
  unfold natsD
  rw [binD_addl, if_pos (by simp only [List.length_cons, List.length_nil, List.length_map]; exact le_line (by omega))]
  rfl
theorem tail_roads (O : OF c L T) (S : LU c L T tw Δ) (h : ∀ a Δ μ, LU c L T tw Δ → Δ.lookup ("roads" : Str) = some (.ref a) → μ a = some (.lst ((roadsTo T (L.length - 1)).map natsD)) → R F (bLaw.drop 19) Δ μ K) : R F (bLaw.drop 17) Δ μ K := by
  have h8 := O.h8
  refine R.new 5 (ds := [natsD []]) (by kernel_rfl) (EvNew.display (EvL.cons rfl (Fr.ev 3 (by kernel_rfl) (by rw [eL]; exact sized_le (by simp))) .nil) (le_line (by simp))) fun a ha => ?_
  have S := S.cons (y := "roads") (d := .ref a) (by decide +kernel)
  have hlen : ∀ μ, Φl c μ "len" [.list (L.map fun S => D.str (txt (lowN c) S))] = some (.int L.length) := fun μ => by rw [len_list (by rw [List.length_map]; omega), List.length_map]
  refine R.forR 8 1 L.length (fun i Δ μ => LU c L T tw Δ ∧ Δ.lookup ("roads" : Str) = some (.ref a) ∧ μ a = some (.lst ((roadsTo T i).map natsD))) (by kernel_rfl) eI ((evD_call1 (once_at S.t.once).1).trans (hlen _)) (by decide) (by omega) ⟨S, look_eq, MM.set_self ..⟩ (fun i Δ μ P hi hI hP => ?_) fun Δ μ hI => h a Δ μ hI.1 hI.2.1 hI.2.2
  exact road_one O hi hI.1 hI.2.1 hI.2.2 fun Δ μ S hr hμ => hP Δ μ ⟨S, hr, hμ⟩
end
end Mine

open PySem PySem.W PyProof.Rows
set_option Elab.async false
set_option linter.unusedVariables false
set_option linter.unusedSimpArgs false
set_option maxRecDepth 100000
namespace Mine
theorem strOk_nm : ∀ k < 32, PyData.strOk (nm k) = true := by decide +kernel
theorem strOk_words {ks : List Nat} (h : ∀ k ∈ ks, k < 32) : PyData.strOk (wordsT ks) = true := by
  unfold wordsT
  split
  · decide +kernel
  · refine strOk_join (by decide +kernel) fun x hx => ?_
    obtain ⟨k, hk, rfl⟩ := List.mem_map.mp hx
    exact strOk_nm k (h k hk)
theorem strOk_txt {c : List Int} {S : List Nat} (h : isSet S) : PyData.strOk (txt (lowN c) S) = true := strOk_words (txt_lt (low_le c) h)
theorem sets8_filter : ∀ S ∈ sets8, (List.range 3).filter (fun p => decide (p ∈ S)) = S := by decide
theorem bt_pow (q p : Nat) : bt ((2 : Int) ^ q) p = decide (p = q) := by
  rw [← bits_single (k := q) (n := q + p + 1) (by omega), bt_bits]
  by_cases h : p = q
  · subst h; simp; omega
  · rw [decide_eq_false h]; simp [h]
theorem meets_pow {S : List Nat} {q : Nat} : meets ((2 : Int) ^ q) S = decide (q ∈ S) := by
  rw [Bool.eq_iff_iff, meets_iff, decide_eq_true_eq]
  constructor
  · rintro ⟨t, ht, hb⟩
    rw [bt_pow, decide_eq_true_eq] at hb
    rw [← hb]; exact ht
  · exact fun h => ⟨q, h, by rw [bt_pow]; exact decide_eq_true rfl⟩

section
variable {c : List Int} {F : Fr (Φl c) (fun _ => Φ0) (dScope fLaw)} {L : List (List Nat)} {T : List Nat} {tw : List (List Nat) × List Nat} {a : Addr} {Δ : Ctx} {μ : MM} {K : Out → Ctx → MM → Prop}
theorem gt0 {x : Int} : cmpD μ .Gt (.int x) (.int 0) = some (decide (0 < x)) := rfl
/-- what is known of the roads -/
structure RO (c : List Int) (L : List (List Nat)) (rs : List (List Nat)) : Prop where
  len : rs.length = L.length
  ok : ∀ i < L.length, Ce (0, rs.getD i []) ∧ ∀ m, decide (0 < endsM (cM c) m (rs.getD i [])) = meets m (L.getD i [])
theorem ro_of (O : OF c L T) : RO c L (roadsTo T (L.length - 1)) := by
  have h8 := O.h8
  have hp := O.hp
  refine ⟨by rw [roads_len]; omega, fun i hi => ?_⟩
  obtain ⟨g1, g2, g3⟩ := roads_get O.hb O.hT O.hs (L.length - 1) (by omega) i (by omega)
  refine ⟨⟨fun e he => Nat.le_of_lt (g2 e he), Nat.le_trans g1 (by omega)⟩, fun m => ?_⟩
  rw [Bool.eq_iff_iff, decide_eq_true_eq]
  exact g3 m
theorem ce_of {m m' : Int} {r : List Nat} (h : Ce (m, r)) : Ce (m', r) := h

theorem back_val (O : OF c L T) (S : LU c L T tw Δ) {rs : List (List Nat)} (Ro : RO c L rs) (hr : Δ.lookup ("roads" : Str) = some (.ref a)) (hμ : μ a = some (.lst (rs.map natsD))) :
    evD (Φl c μ) Φ0 μ 16 (eLaw 19) Δ = some (.list (L.map fun S => .str (txt (lowN c) S))) := by
  have h8 := O.h8
  have hlow := low_le c
  have key : (L.map fun S => D.str (txt (lowN c) S)) = rs.map fun r => D.str (txt (lowN c) ((List.range 3).filter fun p => decide (0 < endsM (cM c) ((2 : Int) ^ p) r))) := by
    refine List.ext_getElem? fun i => ?_
    rw [List.getElem?_map, List.getElem?_map]
    by_cases hi : i < L.length
    · rw [getD_of (l := L) (d := []) hi, getD_of (l := rs) (d := []) (by rw [Ro.len]; exact hi)]
      obtain ⟨_, h2⟩ := Ro.ok i hi
      have e : ((List.range 3).filter fun p => decide (0 < endsM (cM c) ((2 : Int) ^ p) (rs.getD i []))) = L.getD i [] := by
        refine Eq.trans (List.filter_congr fun p _ => ?_) (sets8_filter _ (O.hs _ (getD_mem hi)))
        rw [h2, meets_pow]
      simp only [Option.map_some]
      rw [e]
    · rw [List.getElem?_eq_none (by omega), List.getElem?_eq_none (by rw [Ro.len]; omega)]; rfl
  rw [key]
  have hlen := Ro.len
  refine evD_comp (l := rs) (g := natsD) (itD_of (d := .ref a) (evN hr) (by simp only [asList, hμ]) (by intro _ _ _ _ h; cases h)) (fun r hrm => ?_) (le_line (by omega))
  obtain ⟨i, hi, rfl⟩ := List.getElem_of_mem hrm
  have hg : rs.getD i [] = rs[i] := by rw [List.getD_eq_getElem?_getD, List.getElem?_eq_getElem hi]; rfl
  obtain ⟨hce, _⟩ := Ro.ok i (by omega)
  rw [hg] at hce
  generalize rs[i] = r at *
  have hlt : ∀ k ∈ ((List.range 3).filter fun p => decide (0 < endsM (cM c) ((2 : Int) ^ p) r)).map (lowN c + ·), k < 32 := fun k hk => by
    obtain ⟨p, hp, rfl⟩ := List.mem_map.mp hk
    have := List.mem_range.mp (List.mem_filter.mp hp).1
    omega
  have hcw : Cw (((List.range 3).filter fun p => decide (0 < endsM (cM c) ((2 : Int) ^ p) r)).map (lowN c + ·)) := ⟨hlt, by rw [List.length_map]; exact Nat.le_trans (List.length_filter_le ..) (by simp)⟩
  refine (evD_call1 (a := natsD (((List.range 3).filter fun p => decide (0 < endsM (cM c) ((2 : Int) ^ p) r)).map (lowN c + ·))) ?_).trans (Φl_words hcw)
  unfold natsD
  rw [List.map_map]
  refine evD_compIf (l := List.range 3) (g := fun (k : Nat) => .int k) (f := fun p => decide (0 < endsM (cM c) ((2 : Int) ^ p) r)) (itD_range1 (m := 3) eI (by decide)) (fun p hp => ?_) (fun p hp _ => ?_) (le_line (by decide))
  · have hp := List.mem_range.mp hp
    refine (tstD_cmp ((evD_call3 ((evD_bin eI (evN look_eq)).trans (b_one_shl (by omega))) (evN (look_tl (by decide +kernel) (free_look (by kernel_rfl) look_eq))) (evN (look_tl (by decide +kernel) (free_look (by kernel_rfl) (look_tl (by decide +kernel) (free_look (by kernel_rfl) S.t.cells)))))).trans (Φl_ends (ce_of hce))) eI).trans gt0
  · exact (evD_bin (evN (look_tl (by decide +kernel) (free_look (by kernel_rfl) (look_tl (by decide +kernel) (free_look (by kernel_rfl) S.t.low))))) (evN look_eq)).trans b_add

theorem ahead_val (O : OF c L T) (S : LU c L T tw Δ) {rs : List (List Nat)} (Ro : RO c L rs) (hr : Δ.lookup ("roads" : Str) = some (.ref a)) (hμ : μ a = some (.lst (rs.map natsD))) {ms : List Int} {x : D} (hms : ms.length ≤ 1000) (hl : leastV c = .list [.list (ms.map .int), x]) :
    evD (Φl c μ) Φ0 μ 16 (eLaw 20) Δ = some (.list ((ms.map (phiL L)).map fun S => .str (txt (lowN c) S))) := by
  have h8 := O.h8
  have hlow := low_le c
  have hlen := Ro.len
  rw [List.map_map]
  have h0 : idxD μ (leastV c) ((0 : Nat) : Int) = some (.list (ms.map .int)) := by rw [hl]; exact idxD_list (i := 0) rfl (by decide)
  refine evD_comp (l := ms) (g := .int) (itD_of (d := .list (ms.map .int)) ((evD_idx (by intro _ _ _ _ h; cases h) (evN S.least) eI).trans h0) rfl (by intro _ _ _ _ h; cases h)) (fun m _ => ?_) (le_line (by omega))
  have e : phiL L m = (List.range L.length).filter fun k => decide (0 < endsM (cM c) m (rs.getD k [])) := (range_set h8 fun k hk => (Ro.ok k hk).2 m).symm
  have hcw := cw_set (c := c) (S := phiL L m) ⟨_, rfl⟩
  have hlenv : Φl c μ "len" [.ref a] = some (.int L.length) := by rw [Φl_len, len_ref hμ (by rw [List.length_map]; omega), List.length_map, hlen]
  refine (evD_call1 (a := natsD ((phiL L m).map (lowN c + ·))) ?_).trans (Φl_words hcw)
  rw [e]
  unfold natsD
  rw [List.map_map]
  refine evD_compIf (l := List.range L.length) (g := fun (k : Nat) => .int k) (f := fun k => decide (0 < endsM (cM c) m (rs.getD k []))) (itD_range1 (m := L.length) ((evD_call1 (evN (look_tl (by decide +kernel) (free_look (by kernel_rfl) hr)))).trans hlenv) (by omega)) (fun k hk => ?_) (fun k hk _ => ?_) (le_line (by rw [List.length_range]; omega))
  · have hk := List.mem_range.mp hk
    have hget : idxD μ (.ref a) (k : Int) = some (natsD (rs.getD k [])) := idxD_ref hμ (by rw [List.getElem?_map, getD_of (d := []) (by omega)]; rfl) (by omega)
    exact (tstD_cmp ((evD_call3 (evN (look_tl (by decide +kernel) (free_look (by kernel_rfl) look_eq))) ((evD_idx (by intro _ _ _ _ h; cases h) (evN (look_tl (by decide +kernel) (free_look (by kernel_rfl) (look_tl (by decide +kernel) (free_look (by kernel_rfl) hr))))) (evN look_eq)).trans hget) (evN (look_tl (by decide +kernel) (free_look (by kernel_rfl) (look_tl (by decide +kernel) (free_look (by kernel_rfl) S.t.cells)))))).trans (Φl_ends (ce_of (Ro.ok k hk).1))) eI).trans gt0
  · exact (evD_bin (evN (look_tl (by decide +kernel) (free_look (by kernel_rfl) (look_tl (by decide +kernel) (free_look (by kernel_rfl) S.t.low))))) (evN look_eq)).trans b_add

theorem eq_strs {a : List Str} (h : ∀ x ∈ a, PyData.strOk x = true) : cmpD μ .Eq (.list (a.map .str)) (.list (a.map .str)) = some true := by
  simp only [cmpD]; rw [eqD_strs h h]; simp
theorem eq_two {a : List Str} {T : List Nat} (h : ∀ x ∈ a, PyData.strOk x = true) : cmpD μ .Eq (.list [.list (a.map .str), natsD T]) (.list [.list (a.map .str), natsD T]) = some true := by
  simp only [cmpD]
  have e : natsD T = .list ((T.map fun (k : Nat) => (k : Int)).map .int) := natsD_ints T
  rw [e]
  generalize (T.map fun (k : Nat) => (k : Int)) = is
  refine eqD_refl (x := .list [.list (a.map .str), .list (is.map .int)]) ?_ ?_
  · simp only [toPy, toPys, toPys_strs, toPys_ints, Option.map_some]
  · have hs : (PyData.list (a.map .str)).canLay0 = true := by simp only [PyData.canLay0, canLay_strs]; exact List.all_eq_true.mpr h
    have hi : (PyData.list (is.map .int)).canLay0 = true := by simp only [PyData.canLay0, canLay_ints]
    unfold SeqAt.shaped
    simp only [PyData.canLay0, PyData.canLayAll0, canLay_strs, canLay_ints, PyData.depth, PyData.depthAll, depth_strs, depth_ints, List.all_eq_true.mpr h]
    decide
theorem tail_end (O : OF c L T) {ms : List Int} {tt : List Nat} (htw : tw = (ms.map (phiL L), tt)) (hms : ms.length ≤ 1000) (hl : leastV c = .list [.list (ms.map .int), natsD tt]) (S : LU c L T tw Δ) {rs : List (List Nat)} (Ro : RO c L rs) (hr : Δ.lookup ("roads" : Str) = some (.ref a)) (hμ : μ a = some (.lst (rs.map natsD)))
    (hK : ∀ Δ, K (.ret (.bool true)) Δ μ) : R F (bLaw.drop 19) Δ μ K := by
  refine R.used 15 (by kernel_rfl) (back_val O S Ro hr hμ) ?_
  have S := S.cons (y := "back") (d := .list (L.map fun S => .str (txt (lowN c) S))) (by decide +kernel)
  have hr := look_tl (x := "back") (d := .list (L.map fun S => .str (txt (lowN c) S))) (by decide +kernel) hr
  have hb : ((("back" : Str), D.list (L.map fun S => .str (txt (lowN c) S))) :: Δ).lookup ("back" : Str) = some (.list (L.map fun S => .str (txt (lowN c) S))) := look_eq
  generalize ((("back" : Str), D.list (L.map fun S => .str (txt (lowN c) S))) :: Δ) = Δ at *
  refine R.used 15 (by kernel_rfl) (ahead_val O S Ro hr hμ hms hl) ?_
  have S := S.cons (y := "ahead") (d := .list ((ms.map (phiL L)).map fun S => .str (txt (lowN c) S))) (by decide +kernel)
  have hb := look_tl (x := "ahead") (d := .list ((ms.map (phiL L)).map fun S => .str (txt (lowN c) S))) (by decide +kernel) hb
  have ha : ((("ahead" : Str), D.list ((ms.map (phiL L)).map fun S => .str (txt (lowN c) S))) :: Δ).lookup ("ahead" : Str) = some (.list ((ms.map (phiL L)).map fun S => .str (txt (lowN c) S))) := look_eq
  generalize ((("ahead" : Str), D.list ((ms.map (phiL L)).map fun S => .str (txt (lowN c) S))) :: Δ) = Δ at *
  have m1 : ∀ X : List (List Nat), (X.map fun S => D.str (txt (lowN c) S)) = (X.map (txt (lowN c))).map .str := fun X => by rw [List.map_map]; rfl
  have q1 : cmpD μ .Eq (.list (L.map fun S => D.str (txt (lowN c) S))) (.list (L.map fun S => D.str (txt (lowN c) S))) = some true := by
    rw [m1]; exact eq_strs fun x hx => by obtain ⟨X, hX, rfl⟩ := List.mem_map.mp hx; exact strOk_txt (sets8_isSet (O.hs X hX))
  have q2 : cmpD μ .Eq (setsD (lowN c) tw) (.list [.list ((ms.map (phiL L)).map fun S => .str (txt (lowN c) S)), natsD tt]) = some true := by
    rw [htw]
    show cmpD μ .Eq (.list [.list ((ms.map (phiL L)).map fun S => .str (txt (lowN c) S)), natsD tt]) _ = _
    rw [m1]
    exact eq_two fun x hx => by
      obtain ⟨X, hX, rfl⟩ := List.mem_map.mp hx
      obtain ⟨m, _, rfl⟩ := List.mem_map.mp hX
      exact strOk_txt ⟨_, rfl⟩
  have h1 : idxD μ (leastV c) ((1 : Nat) : Int) = some (natsD tt) := by rw [hl]; exact idxD_list (i := 1) rfl (by decide)
  have v1 : ∀ (n : Nat) (p1 p2 p3 p4 p5 : Pos) (z : Nat), evD (Φl c μ) Φ0 μ (n + 3) (.Compare (.Subscript (.Name "once" p1) (.Constant (.int 0) z p2) p3) [.Eq] [.Name "back" p4] p5) Δ = some (.bool true) := fun n p1 p2 p3 p4 p5 z => by
    rw [eCmp, (once_at S.t.once).1, evN hb, opt2_ss, q1]; rfl
  have v2 : ∀ (n : Nat) (p1 p2 p3 p4 p5 p6 p7 : Pos) (z : Nat), evD (Φl c μ) Φ0 μ (n + 5) (.Compare (.Name "twice" p1) [.Eq] [.List [.Name "ahead" p2, .Subscript (.Name "least" p3) (.Constant (.int (1 : Nat)) z p4) p5] p6] p7) Δ = some (.bool true) := fun n p1 p2 p3 p4 p5 p6 p7 z => by
    rw [eCmp, evN S.twice, evD_list2 (evN ha) ((evD_idx (by intro _ _ _ _ h; cases h) (evN S.least) eI).trans h1), opt2_ss, q2]; rfl
  refine R.ret 12 (by kernel_rfl) ?_ (hK _)
  refine (show evD (Φl c μ) Φ0 μ (11 + 1) (.BoolOp .And [_, _] _) Δ = _ from ?_)
  rw [eAnd, v1 8]
  exact v2 6 _ _ _ _ _ _ _ _
end
end Mine

open PySem PySem.W PyProof.Rows
set_option Elab.async false
set_option linter.unusedVariables false
set_option linter.unusedSimpArgs false
set_option maxRecDepth 100000
namespace Mine
theorem leastV_eq (c : List Int) : leastV c = .list [.list (((fstF (least (cM c)).1.length (alN c)).map ((least (cM c)).1.getD · 0)).map .int), natsD ((fstF (least (cM c)).1.length (alN c)).flatMap fun k => (List.range 2).map fun e => (fstF (least (cM c)).1.length (alN c)).idxOf ((alN c).getD ((least (cM c)).2.getD (2 * k + e) 0) 0))] := by
  unfold leastV leastD
  rw [List.map_map]; rfl
section
variable {W : Wd}
theorem law_tail (L : Tl W) {A : Around} {env : Env} {k : Nat} (hA : GoodA A (k + 2)) (hE : EnvOk env) (hsc : env.scope = dScope fLaw) {c : List Int} {Δ : Ctx} {μ : MM} (hc : c.length = 4) (S : LC c Δ) (ht : Δ.lookup ("told" : Str) = some (.list ((numbersN c 3).map .int))) :
    Wp W A [] env (bLaw.drop 10) Δ μ (fun o _ _ => o = .ret (.bool true)) := by
  generalize hF : (⟨W, A, [], env, k + 2, fun μ => ⟨L.T.b.ok, hA, tabL L k μ hc, hE, hsc⟩⟩ : Fr (Φl c) (fun _ => Φ0) (dScope fLaw)) = F
  have hR : ∀ {ss Δ μ K}, R F ss Δ μ K → Wp W A [] env ss Δ μ K := by subst hF; exact fun h => h
  have hTT : TokOk F.W := by subst hF; exact L.TT
  refine hR ?_
  clear hR hF
  have hfl : (fstF (least (cM c)).1.length (alN c)).length ≤ 1000 := by
    have h1 : (least (cM c)).1.length ≤ masks8.length := nodup_le (least_bf (cM c)).1.nd (least_bf (cM c)).2.2
    have h2 : (fstF (least (cM c)).1.length (alN c)).length ≤ (least (cM c)).1.length := by
      unfold fstF
      exact Nat.le_trans (List.length_filter_le ..) (Nat.le_of_eq List.length_range)
    exact Nat.le_trans h2 (Nat.le_trans h1 (by decide))
  have O := of_once c
  have hq := (law_facts c).2
  have hv := leastV_eq c
  refine tail_once hTT S ht fun Δ S => ?_
  generalize (once (cM c)).1 = Lo at *
  generalize (once (cM c)).2 = To at *
  refine tail_twice O S _ hq fun Δ S => ?_
  refine tail_roads O S fun a Δ μ S hr hμ => ?_
  exact tail_end O rfl (by rw [List.length_map]; exact hfl) hv S (ro_of O) hr hμ fun Δ => rfl

theorem law_run (L : Tl W) (hlaw : FnAt W "law" (dArgs fLaw) (dBody fLaw) (dScope fLaw)) (k : Nat) (script : List Int) (h63 : script.length ≤ 63) :
    ∃ a, W.mg "law" = some (.ref a) ∧ ∀ (A : Around) (F : FM) (s : Shared) (Q : Value → Shared → Prop) (E : Value → Shared → Prop) (vs : List Value), GoodA A (k + 3) → A.frames = some [] → (∃ h tk, s = { W.s₁ with heap := h, toks := tk }) →
      (∀ b o, W.s₁.heap.get? b = some o → F b = some o) → (∀ a o, F a = some o → s.heap.get? a = some o) → RelVs F [.list (script.map .int)] vs →
      (∀ v F' s', RelV F' (.bool true) v → (∃ h tk, s' = { W.s₁ with heap := h, toks := tk }) → (∀ a o, F' a = some o → s'.heap.get? a = some o) → FSub F F' → (∀ b o, s.heap.get? b = some o → ∃ sl, s'.heap.get? b = some { o with slots := sl }) → Q v s') →
      wpAny W.M A (call (.ref a) vs) Q E s := by
  refine lawRun (ps := ["script"]) L.T.b.ok hlaw (fnScope_of (by kernel_rfl)) rfl (fun pm code doc vs h => ?_) fun A env hA hE hsc hfr henv => ?_
  · obtain ⟨v, rfl⟩ := len1 h; rfl
  · refine law_head (k := k + 2) L.T L.enum (fun μ => ⟨L.T.b.ok, hA, tabC L.T (k + 1) μ, hE, hsc⟩) script h63 fun c a Δ μ hc S hn hμ => ?_
    exact law_mid (k := k) L hA hE hsc hfr henv S hn hμ fun Δ μ S ht => law_tail (k := k) L hA hE hsc hc S ht
end
end Mine

open PySem PySem.W PyProof.Rows
set_option Elab.async false
set_option linter.unusedVariables false
set_option maxRecDepth 100000
namespace Mine

theorem glob_of {K : Frag} {W : Wd} {n : Str} {v : Value} (X : K.In W.s₁.heap) (ok : W.Ok) (e : nsIn K mainGlobals n = some none) (h1 : n ≠ "__name__") (hb : bootBuiltins n = some v) : GlobVal W n v :=
  .inr ⟨mg_none_of X ok.g e, by rw [ok.builtins n h1]; exact hb⟩
theorem fnAt_of' {p : Program} {loose : List Str} {mean : ExcName → Option Value} {W : Wd} (T : Top p loose mean W.mg W.mb W.s₁.heap) {f : Str} {a : Arguments} {b : List Stmt} {c : Scope} (h : (nthDef p f).map (fun d => (d.params, d.body, d.scope)) = some (a, b, c)) : FnAt W f a b c := by
  obtain ⟨d, h1, h2⟩ := Option.map_eq_some_iff.mp h
  cases h2
  exact fnAt_of T h1
theorem pairs_prog {p p' : Program} {w : World} : ∀ {es : List DictEntry} {kvs : List (Int × Value)}, Pairs (intKind p w) es kvs → Pairs (intKind p' w) es kvs
  | _, _, .nil => .nil
  | _, _, .cons h1 h2 h3 => .cons h1 h2 (pairs_prog h3)
theorem intTab_prog {p p' : Program} {w : World} {h : Heap} {a : Addr} {D : List (PyData × PyData)} (T : IntTab p w h a D) : IntTab p' w h a D := by
  obtain ⟨lo, kvs, ⟨o, es, ep, ho, hx, hd, hk, hp, hn⟩, hf⟩ := T
  exact ⟨lo, kvs, ⟨o, es, ep, ho, hx, hd, fun e he => hk e he, pairs_prog hp, hn⟩, hf⟩
def tokS : List (Str × PyData) := tokD.filterMap fun p => match p.1 with
  | .str x => some (x, p.2)
  | _ => none
theorem tokS_nodup : (tokS.map (·.1)).Nodup := by decide +kernel
theorem well_all {P : Params} {h : Heap} {F : FM} : ∀ {ns : List Int} {vs : List Value}, WellAll P h vs (ofPys (ns.map .int)) → RelVs F (ns.map .int) vs
  | [], vs, w => by
    simp only [List.map_nil, ofPys] at w
    cases w; rw [List.map_nil, RelVs]
  | n :: ns, vs, w => by
    simp only [List.map_cons, ofPys, ofPy] at w
    cases w with
    | cons w1 w2 =>
      rw [List.map_cons, RelVs]
      refine ⟨_, _, rfl, ?_, well_all w2⟩
      cases w1
      rw [RelV]; exact ⟨_, rfl⟩
theorem well_ints {P : Params} {h : Heap} {v : Value} {ns : List Int} (w : Well P h v (ofPy (.list (ns.map .int)))) : RelV (fun b => h.get? b) (.list (ns.map .int)) v := by
  simp only [ofPy] at w
  cases w with
  | list h1 h2 => rw [RelV]; exact ⟨_, _, 0, rfl, h1, well_all h2⟩
theorem const_int {h : Heap} {v : Value} {i : Int} (hr : ∀ h' : Heap, Reads h' v (.int i) []) : ∃ t, v = .int i t := by
  cases hr h; exact ⟨_, rfl⟩
end Mine

open PySem PySem.W PyProof.Rows
set_option maxRecDepth 100000
set_option maxHeartbeats 8000000
namespace Mine
def top2.tw10492634283962323287 : Nat := 0
def top2.tw3226605779425284887 : Nat := 0
def top2.tw6314824487032980720 : Nat := 0
def top2.tw17385100606478046508 : Nat := 0
def top2.tw9630015837896986010 : Nat := 0
def top2.tw2217152634577902679 : Nat := 0
def top2.tw104936005735849056 : Nat := 0
def top2.tw7471985715972803748 : Nat := 0
def top2.tw14015152583273843551 : Nat := 0
def top2.tw17821462866647523728 : Nat := 0
def top2.tw10810515439766235445 : Nat := 0
def top2.tw4590379933371014294 : Nat := 0
def top2.tw841712513774364424 : Nat := 0
def top2.tw6343111988144163074 : Nat := 0
def top2.tw1307329437057374068 : Nat := 0
def top2.tw17521081785978129762 : Nat := 0
def top2.tw872098743017108940 : Nat := 0
def top2.tw12346934702724786911 : Nat := 0
def top2.tw15529825209386500716 : Nat := 0
def top2.tw13611318588410528990 : Nat := 0
def top2.tw15625984282429390591 : Nat := 0
def top2.tw15581740350582014193 : Nat := 0
def top2.tw13304964057319132774 : Nat := 0
def top2.tw15992890417560902337 : Nat := 0
def top2.tw11084300067529406914 : Nat := 0
def top2.tw6518740448239810635 : Nat := 0
def top2.tw7812739624662517316 : Nat := 0
def top2.tw5273282969620833206 : Nat := 0
def top2.tw7239981393912696005 : Nat := 0
def top2.tw13241163448236782818 : Nat := 0
def top2.tw1263725835080021544 : Nat := 0
def top2.tw14004390162999235009 : Nat := 0
def top2.tw6802152714523319304 : Nat := 0
def top2.tw1660885778572591733 : Nat := 0
def top2.tw14129676156067159667 : Nat := 0
def top2.tw2922942819625225140 : Nat := 0
def top2.tw1804515798091075406 : Nat := 0
def top2.tw8299637488540773143 : Nat := 0
def top2.tw982504698168838249 : Nat := 0
def top2.tw16750091277955610749 : Nat := 0
set_option Elab.async true in
theorem top2 : PySem.Challenge.rw_ph0109_02.Holds := by
  o_law
  k_head
  (case hw => w_witness2)
  intro w s₀ s₁ mg mb G Y fa o pm cd doc dV kV ho hd hcd hD hmg hg args vals as hpre hlay hrd hwl hlo
  clear hD; have KX := kIn_of Y
  refine Ground.open G ?_; intro T B D TE TW; wrow_args hpre hlay hrd hwl hlo
  clear TE TW D
  let W : Wd := ⟨PySem.Challenge.rw_ph0109_02.row.prog, w, s₁, mg, mb⟩
  have ok : W.Ok := ⟨T.g, T.b, T.nolimit, T.builtins, hg, by obtain ⟨o, _, _, h, _⟩ := T.g; exact Heap.lt_size h⟩
  have hflag : ∃ a, mg "COMPILER_FLAG_NAMES" = some (.ref a) ∧ IntTab W.prog W.w s₁.heap a flagD := by
    obtain ⟨a, h1, h2⟩ := B.tabI "COMPILER_FLAG_NAMES" flagD (by kernel_rfl)
    exact ⟨a, h1, intTab_prog h2⟩
  have htok : StrTab W.prog w s₁.heap 30 (tokS.map fun p => (PyData.str p.1, p.2)) := kt_tab_in (a := 30) W.prog w KX (by kernel_rfl) tokS_nodup (by kernel_rfl)
  have htm : mg "EXACT_TOKEN_TYPES" = some (.ref 30) := PySem.W.mg_of KX T.g (by kernel_rfl)
  have L : Tl W := {
    T := {
      b := ⟨ok, glob_of KX ok (by kernel_rfl) (by decide +kernel) (by kernel_rfl), glob_of KX ok (by kernel_rfl) (by decide +kernel) (by kernel_rfl), glob_of KX ok (by kernel_rfl) (by decide +kernel) (by kernel_rfl), glob_of KX ok (by kernel_rfl) (by decide +kernel) (by kernel_rfl), glob_of KX ok (by kernel_rfl) (by decide +kernel) (by kernel_rfl), glob_of KX ok (by kernel_rfl) (by decide +kernel) (by kernel_rfl), glob_of KX ok (by kernel_rfl) (by decide +kernel) (by kernel_rfl)⟩
      fpretty := fnAt_of' T (by kernel_rfl)
      fvar := fnAt_of' T (by kernel_rfl)
      fT := fnAt_of' T (by kernel_rfl)
      fN := fnAt_of' T (by kernel_rfl)
      fE := fnAt_of' T (by kernel_rfl)
      cNT := by
        obtain ⟨v, h1, h2⟩ := T.const "NT_OFFSET" (.int 256) (by kernel_rfl)
        obtain ⟨t, rfl⟩ := const_int (h := s₁.heap) h2
        exact ⟨t, h1⟩
      cEM := by
        obtain ⟨v, h1, h2⟩ := T.const "ENDMARKER" (.int 0) (by kernel_rfl)
        obtain ⟨t, rfl⟩ := const_int (h := s₁.heap) h2
        exact ⟨t, h1⟩
      flags := hflag }
    TT := ⟨⟨30, htm, htok⟩⟩
    enum := glob_of KX ok (by kernel_rfl) (by decide +kernel) (by kernel_rfl)
    next := glob_of KX ok (by kernel_rfl) (by decide +kernel) (by kernel_rfl)
    iter := glob_of KX ok (by kernel_rfl) (by decide +kernel) (by kernel_rfl)
    stop := glob_of KX ok (by kernel_rfl) (by decide +kernel) (by kernel_rfl)
    read := fnAt_of' T (by kernel_rfl)
    words := fnAt_of' T (by kernel_rfl)
    gram := fnAt_of' T (by kernel_rfl)
    sets := fnAt_of' T (by kernel_rfl)
    step := fnAt_of' T (by kernel_rfl)
    ends := fnAt_of' T (by kernel_rfl)
    least := fnAt_of' T (by kernel_rfl) }
  rename_i xs _ _ _ _ _ _ _ l _ _ _ _ w1 _ _ _ hlen _
  have h63 : xs.length ≤ 63 := by omega
  obtain ⟨a, ha, run⟩ := law_run L (fnAt_of' T (by kernel_rfl)) 0 xs h63
  have hfa : mg "law" = some (.ref fa) := hmg
  have ha : mg "law" = some (.ref a) := ha
  have e : fa = a := by rw [hfa] at ha; cases ha; rfl
  subst e
  refine run callerA (fun b => s₁.heap.get? b) s₁ _ _ [.ref l] ⟨rfl, by decide, by decide⟩ rfl ⟨_, _, rfl⟩ (fun _ _ e => e) (fun _ _ e => e) (by rw [RelVs]; exact ⟨_, _, rfl, well_ints w1, by rw [RelVs]⟩) fun v F' s' hv hs hsub hF hk => ?_
  rw [RelV] at hv
  subst hv
  obtain ⟨h', tk, rfl⟩ := hs
  refine ⟨.inl ⟨_, _, _, rfl, fun cls => ?_, .bool true, ?_, fun _ => ⟨List.nodup_nil, fun _ h => by cases h⟩⟩, .of_keep fun b o e => hsub b o (hF b o e), rfl, ?_⟩
  · kernel_rfl
  · kernel_rfl
  · exact .of_eq hg
end Mine



theorem PySem.Challenge.cw_ph0109_02_holds : PySem.Challenge.rw_ph0109_02.Holds := by
  exact Mine.top2
